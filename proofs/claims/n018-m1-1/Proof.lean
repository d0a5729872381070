import JvmDerived
import JvmDerived.Pilot.@@N@@Statement
import JvmDerived.Pilot.@@N@@Code
set_option linter.unusedVariables false
set_option linter.unusedSimpArgs false
namespace Jvm.Pilot.@@N@@
open Jvm Jvm.ClassFile Sem Op Lib Jvm.Free Jvm.Stand Jvm.LawKit Jvm.RoadKit Bundle Jvm.Pilot.@@N@@.Jvm.D
/-- what a walk must still come to -/
def OwnG (p : Program) (e : Env) (below : List Frame) (s : State) (C S : Nat) (Q : Option Value → Heap → List Loc → Prop) (A : State) : Prop :=
  ∃ s₂ o, Steps p.tables e below A s₂ ∧ s₂.status = .running ∧ Ended s₂ below o ∧ ∃ v L, o = .returned v ∧ Q v s₂.heap L ∧ FrameEnd s o s₂ L C S
theorem OwnG.go {p : Program} {e : Env} {below : List Frame} {s : State} {C S : Nat} {Q : Option Value → Heap → List Loc → Prop} {A B : State} (h : ∀ t, Steps p.tables e below A t → Steps p.tables e below B t) (k : OwnG p e below s C S Q A) : OwnG p e below s C S Q B := by
  obtain ⟨s₂, o, k1, k2⟩ := k
  exact ⟨s₂, o, h _ k1, k2⟩
theorem own_fin {p : Program} {l : Launch} {e : Env} {R : Room} {s : State} {m : MethodId} {args : Array Value} {below : List Frame} {meth : Method} {c : Code} {T : State} {locs : List Loc} {cells slots : Nat}
    (X : Stand p l e R s m args below meth c T locs cells slots) {C S : Nat} {Q : Option Value → Heap → List Loc → Prop} (hlocks : meth.locks = false) {v : Option Value} (hv : meth.sig.returnType = none → v = none) {A : State}
    (hst : ∀ fs, (∀ (f : JFrame) (acts : List Action), f.method = m → f.locked = none → f.entered = [] → (doReturn e (T.setTop f) acts v).1 = T.setFrames fs) → Steps p.tables e below A (T.setFrames fs))
    (hQ : Q v T.heap locs) (hc : cells ≤ C) (hs : slots ≤ S) : OwnG p e below s C S Q A := by
  obtain ⟨fs, hr, hrun, hended, hW, hsame⟩ := X.leave (v := v) hv hlocks
  exact ⟨_, _, hst fs hr, hrun, hended, v, locs, rfl, hQ, ⟨_, rfl⟩, hW, hsame.mono hc hs⟩
def OwnGW (p : Program) (e : Env) (below : List Frame) (s : State) (C S : Nat) (Q : Option Value → Heap → List Loc → Prop) (A : State) : Prop :=
  ∃ s₂ o, Steps p.tables e below A s₂ ∧ s₂.status = .running ∧ Ended s₂ below o ∧ ∃ v L, o = .returned v ∧ Q v s₂.heap L ∧ ReturnedEndW s o s₂ L C S
theorem OwnGW.go {p : Program} {e : Env} {below : List Frame} {s : State} {C S : Nat} {Q : Option Value → Heap → List Loc → Prop} {A B : State} (h : ∀ t, Steps p.tables e below A t → Steps p.tables e below B t) (k : OwnGW p e below s C S Q A) : OwnGW p e below s C S Q B := by
  obtain ⟨s₂, o, k1, k2⟩ := k
  exact ⟨s₂, o, h _ k1, k2⟩
theorem own_finW {p : Program} {l : Launch} {e : Env} {R : Room} {s : State} {vm₁ : Vm} {m : MethodId} {args : Array Value} {below : List Frame} {meth : Method} {c : Code} {T : State} {locs : List Loc} {cells slots n : Nat}
    (X : Stand p l e R (s.setVm vm₁) m args below meth c T locs cells slots) (hS : s.Since vm₁ n) (hn : n ≤ T.heap.size) {C S : Nat} {Q : Option Value → Heap → List Loc → Prop} (hlocks : meth.locks = false) {v : Option Value} (hv : meth.sig.returnType = none → v = none) {A : State}
    (hst : ∀ fs, (∀ (f : JFrame) (acts : List Action), f.method = m → f.locked = none → f.entered = [] → (doReturn e (T.setTop f) acts v).1 = T.setFrames fs) → Steps p.tables e below A (T.setFrames fs))
    (hQ : Q v T.heap locs) (hc : cells ≤ C) (hs : slots ≤ S) : OwnGW p e below s C S Q A := by
  obtain ⟨fs, hr, hrun, hended, hW⟩ := X.leaveW hS hn (v := v) hv hlocks
  exact ⟨_, _, hst fs hr, hrun, hended, v, locs, rfl, hQ, hW.1, hW.2.1, hW.2.2.1, hW.2.2.2.mono hc hs⟩
theorem own_lrem {p : Program} {l : Launch} {e : Env} {R : Room} {s : State} {m : MethodId} {args : Array Value} {below : List Frame} {meth : Method} {c : Code} {T : State} {locs : List Loc} {cells slots : Nat} {g : JFrame} {target : State}
    (X : Stand p l e R s m args below meth c T locs cells slots) (hx : p.tables.exec = Jvm.exec) (hg : g.method = m) {x y : Int64} {rest : List Value} (hd : decode c.code g.pc = .ok (.lrem, 1)) (hs : g.stack = .long y :: .long x :: rest) (hy : y ≠ 0)
    (hr : Steps p.tables e below (T.setTop { g with pc := g.pc + 1, stack := .long (x % y) :: rest }) target) : Steps p.tables e below (T.setTop g) target := by
  have q : x - x / y * y = x % y := lrem_mod x y
  exact XS.lrem X.here hx hg hd hs hy (by rw [q]; exact hr)
theorem own_selpriv {Z s : State} {args a0 : Array Value} {y z : MethodName} (hZ : Z.Warmed39 s.vm) (wsel : (Jvm.Cond.selects z.cls z z).before a0 Z = true) (hz : z.cls = y.cls) (wpriv : (Jvm.Cond.privateMethod y).before a0 Z = true) (winst : (Jvm.Cond.instanceMethod y).before a0 Z = true)
    (hy : y.cls ≠ "java/lang/invoke/MethodHandle" ∧ y.cls ≠ "java/lang/invoke/VarHandle") : (Jvm.Cond.selects y.cls y y).before args s = true := by
  have ws : (Jvm.Cond.selects z.cls z z).before args s = true := mvT hZ wsel
  obtain ⟨c2, r2, m2, q1, q2, q3, q4, kP, hkP, hkPi⟩ := Cond.selects_spec ws
  exact selects_self_of_private (c := m2.cls) (k := kP) (hz ▸ findClass_of_methodNamed q3) hkP hkPi (Cond.privateMethod_at (mvP hZ wpriv (args := #[]))) (mvT hZ winst) hy
theorem own_exa_cell {Z : State} {h : Heap} {a : Addr} {C : String} (E : Exa Z h a C) : ∃ c : Cell, h[a]? = some c ∧ c.vm.isStatics = false := by
  obtain ⟨cell, k, h1, h2, h3, h4, -⟩ := E
  exact ⟨cell, h1, h4⟩
theorem own_sta_keep {Z : State} {h h' : Heap} {C n d : String} {v : Value} {ws : List Addr} (S : Sta Z h C n d v) (K : Keep h h' ws) (hq : ∀ x ∈ ws, ∃ c : Cell, h[x]? = some c ∧ c.vm.isStatics = false) : Sta Z h' C n d v := by
  obtain ⟨cf, i, k, f, st, cell, h1, h2, h3, h4, h5, h6, h7⟩ := S
  refine ⟨cf, i, k, f, st, cell, h1, h2, h3, h4, K.2.1 st cell h5 (fun q => ?_), h6, h7⟩
  obtain ⟨c, c1, c2⟩ := hq st q
  cases h5.symm.trans c1
  rw [h6] at c2; cases c2
theorem own_lclt {a b : Int64} : lcmpW a b < 0 ↔ a < b := by
  unfold lcmpW
  by_cases h1 : a > b
  · simp only [h1, if_true]
    refine ⟨fun h => absurd h (by decide), fun h => ?_⟩
    rw [Int64.lt_iff_toInt_lt] at h; rw [gt_iff_lt, Int64.lt_iff_toInt_lt] at h1; omega
  · by_cases h2 : a = b
    · subst h2; simp [h1]
    · simp only [h1, h2, if_false]
      refine ⟨fun _ => ?_, fun _ => by decide⟩
      rw [gt_iff_lt, Int64.lt_iff_toInt_lt] at h1; rw [Int64.lt_iff_toInt_lt]
      have : a.toInt ≠ b.toInt := fun q => h2 (Int64.toInt_inj.mp q)
      omega
theorem own_lceq {a b : Int64} : lcmpW a b = 0 ↔ a = b := by
  unfold lcmpW
  by_cases h1 : a > b
  · simp only [h1, if_true]
    refine ⟨fun h => absurd h (by decide), fun h => ?_⟩
    subst h; rw [gt_iff_lt, Int64.lt_iff_toInt_lt] at h1; omega
  · by_cases h2 : a = b
    · subst h2; simp [h1]
    · simp only [h1, h2, if_false]
      exact ⟨fun h => absurd h (by decide), fun h => h.elim⟩
theorem own_lcgt {a b : Int64} : 0 < lcmpW a b ↔ b < a := by
  unfold lcmpW
  by_cases h1 : a > b
  · rw [if_pos h1]
    exact ⟨fun _ => h1, fun _ => by decide⟩
  · rw [if_neg h1]
    refine ⟨fun h => ?_, fun h => absurd h h1⟩
    by_cases h2 : a = b
    · rw [if_pos h2] at h; exact absurd h (by decide)
    · rw [if_neg h2] at h; exact absurd h (by decide)

theorem own_mask32 (x m : Int32) (h : 0 ≤ m.toInt) : 0 ≤ (x &&& m).toInt ∧ (x &&& m).toInt ≤ m.toInt := by
  have e : (x &&& m).toInt = (x.toBitVec &&& m.toBitVec).toInt := rfl
  have em : m.toInt = m.toBitVec.toInt := rfl
  have h1 : (x.toBitVec &&& m.toBitVec).toNat ≤ m.toBitVec.toNat := by rw [BitVec.toNat_and]; exact Nat.and_le_right
  have h2 := m.toBitVec.isLt
  rw [BitVec.toInt_eq_toNat_cond] at e em
  rw [em] at h
  rw [e, em]
  generalize (x.toBitVec &&& m.toBitVec).toNat = u at *
  generalize m.toBitVec.toNat = w at *
  split at h <;> split <;> omega
theorem own_mask64 (x m : Int64) (h : 0 ≤ m.toInt) : 0 ≤ (x &&& m).toInt ∧ (x &&& m).toInt ≤ m.toInt := by
  have e : (x &&& m).toInt = (x.toBitVec &&& m.toBitVec).toInt := rfl
  have em : m.toInt = m.toBitVec.toInt := rfl
  have h1 : (x.toBitVec &&& m.toBitVec).toNat ≤ m.toBitVec.toNat := by rw [BitVec.toNat_and]; exact Nat.and_le_right
  have h2 := m.toBitVec.isLt
  rw [BitVec.toInt_eq_toNat_cond] at e em
  rw [em] at h
  rw [e, em]
  generalize (x.toBitVec &&& m.toBitVec).toNat = u at *
  generalize m.toBitVec.toNat = w at *
  split at h <;> split <;> omega
theorem own_add32 {a b : Int32} (h1 : -2147483648 ≤ a.toInt + b.toInt) (h2 : a.toInt + b.toInt < 2147483648) : (a + b).toInt = a.toInt + b.toInt := by
  rw [Int32.toInt_add, Int.bmod_def]; omega
theorem own_sub32 {a b : Int32} (h1 : -2147483648 ≤ a.toInt - b.toInt) (h2 : a.toInt - b.toInt < 2147483648) : (a - b).toInt = a.toInt - b.toInt := by
  rw [Int32.toInt_sub, Int.bmod_def]; omega
theorem own_add64 {a b : Int64} (h1 : -9223372036854775808 ≤ a.toInt + b.toInt) (h2 : a.toInt + b.toInt < 9223372036854775808) : (a + b).toInt = a.toInt + b.toInt := by
  rw [Int64.toInt_add, Int.bmod_def]; omega
theorem own_sub64 {a b : Int64} (h1 : -9223372036854775808 ≤ a.toInt - b.toInt) (h2 : a.toInt - b.toInt < 9223372036854775808) : (a - b).toInt = a.toInt - b.toInt := by
  rw [Int64.toInt_sub, Int.bmod_def]; omega
theorem own_mul64 {a b : Int64} (h1 : -9223372036854775808 ≤ a.toInt * b.toInt) (h2 : a.toInt * b.toInt < 9223372036854775808) : (a * b).toInt = a.toInt * b.toInt := by
  rw [Int64.toInt_mul, Int.bmod_def]
  generalize a.toInt * b.toInt = z at *
  omega
theorem own_rem32 {a b : Int32} (h1 : 0 ≤ a.toInt) (h2 : 0 < b.toInt) : (a % b).toInt = a.toInt % b.toInt := by
  rw [Int32.toInt_mod, Int.tmod_eq_emod_of_nonneg h1]
theorem own_rem64 {a b : Int64} (h1 : 0 ≤ a.toInt) (h2 : 0 < b.toInt) : (a % b).toInt = a.toInt % b.toInt := by
  rw [Int64.toInt_mod, Int.tmod_eq_emod_of_nonneg h1]


section OwnDV
open Jvm.FP Jvm.FP.Core Jvm.Free.Fl
/-- a is finite, and worth z of the least doubles -/
def OwnDV (a : UInt64) (z : Int) : Prop := (∃ s c q, val64 a = .fin s c q) ∧ zval b64 (val64 a) = z
theorem OwnDV.nn {a : UInt64} {z : Int} (h : OwnDV a z) : NoNaN64 a := by
  obtain ⟨⟨s, c, q, e⟩, -⟩ := h
  exact val64_no.mpr (by rw [e]; intro k; cases k)
theorem OwnDV.of_int {a : UInt64} {i : Int} (h : DInt i a) : OwnDV a (i * (one64 : Int)) := by
  refine ⟨?_, DInt_zval h⟩
  unfold DInt at h
  cases e : val64 a with
  | nan => rw [e] at h; exact h.elim
  | inf s => rw [e] at h; exact h.elim
  | fin s c q => exact ⟨s, c, q, rfl⟩
theorem own_zabs (f : Fmt) (d : Datum) : (zval f d).natAbs = zmag f d := by unfold zval; exact natAbs_signed _ _
/-- the quotient of two finite doubles, the divisor above nought -/
theorem own_ddiv {a b : UInt64} {A B : Int} (ha : OwnDV a A) (hb : OwnDV b B) (hB : 0 < B) :
    NoNaN64 (FP.ddiv a b) ∧ (A ≤ 0 → zval b64 (val64 (FP.ddiv a b)) ≤ 0) ∧ (0 ≤ A → 0 ≤ zval b64 (val64 (FP.ddiv a b))) ∧
    (∀ V : Datum, Core.fits b64 V → V ≠ .nan → 0 ≤ A → 0 ≤ zval b64 V → A * (one64 : Int) ≤ zval b64 V * B → zval b64 (val64 (FP.ddiv a b)) ≤ zval b64 V) ∧
    (∀ V : Datum, Core.fits b64 V → 0 ≤ A → 0 ≤ zval b64 V → zval b64 V * B ≤ A * (one64 : Int) → zval b64 V ≤ zval b64 (val64 (FP.ddiv a b))) := by
  have fa := val64_fits a; have fb := val64_fits b
  obtain ⟨⟨s, c, q, ea⟩, za⟩ := ha
  obtain ⟨⟨t, d, r, eb⟩, zb⟩ := hb
  have ev : val64 (FP.ddiv a b) = quotient b64 (val64 a) (val64 b) := val64_ddiv a b
  rw [ea] at za fa ev; rw [eb] at zb fb ev
  have zb' : d * 2 ^ (r - b64.qmin).toNat = B.toNat := by
    have := own_zabs b64 (.fin t d r); rw [zb] at this; show zmag b64 (.fin t d r) = _; omega
  have za' : c * 2 ^ (q - b64.qmin).toNat = A.natAbs := by
    have := own_zabs b64 (.fin s c q); rw [za] at this; exact this.symm
  have hd : d ≠ 0 := by rintro rfl; rw [Nat.zero_mul] at zb'; omega
  have ht : t = false := by
    cases t
    · rfl
    · have : zval b64 (.fin true d r) = -((d * 2 ^ (r - b64.qmin).toNat : Nat) : Int) := rfl
      rw [zb, zb'] at this; omega
  subst ht
  have ev : val64 (FP.ddiv a b) = roundRatio b64 (s != false) c d (q - r) := by rw [ev]; show (if d = 0 then _ else _) = _; rw [if_neg hd]
  have hd0 : 0 < d := Nat.pos_of_ne_zero hd
  have hsg : ∀ x : Datum, x = roundRatio b64 (s != false) c d (q - r) → x ≠ .nan ∧ sgn x = s := by
    intro x hx
    rcases roundRatio_cases b64 (s != false) c d (q - r) with ⟨c', q', h⟩ | h
    · rw [hx, h]; exact ⟨(fun k => by cases k), by cases s <;> rfl⟩
    · rw [hx, h]; exact ⟨(fun k => by cases k), by cases s <;> rfl⟩
  obtain ⟨h1, h2⟩ := hsg _ ev
  have zz : zval b64 (val64 (FP.ddiv a b)) = signed s (zmag b64 (val64 (FP.ddiv a b))) := by unfold zval; rw [h2]
  have hsA : 0 < A → s = false := fun hA => by
    cases s
    · rfl
    · have : zval b64 (.fin true c q) = -((c * 2 ^ (q - b64.qmin).toNat : Nat) : Int) := rfl
      rw [za, za'] at this; omega
  have hsN : A < 0 → s = true := fun hA => by
    cases s
    · have : zval b64 (.fin false c q) = ((c * 2 ^ (q - b64.qmin).toNat : Nat) : Int) := rfl
      rw [za, za'] at this; omega
    · rfl
  have hz0 : A = 0 → zmag b64 (val64 (FP.ddiv a b)) = 0 := fun hA => by
    subst hA
    have hc : c = 0 := by
      have := Nat.mul_eq_zero.mp (za'.trans rfl); have p := Nat.two_pow_pos (q - b64.qmin).toNat; omega
    rw [ev, hc]; unfold roundRatio; rw [if_pos rfl]; unfold zmag inUnits; exact Nat.zero_mul _
  have e1 : b64.qmin = -1074 := by decide +kernel
  have key1 : (q - r - (2 * b64.qmin - r)).toNat = (q - b64.qmin).toNat + 1074 := by have := fa.2.1; omega
  have key2 : (b64.qmin - (2 * b64.qmin - r)).toNat = (r - b64.qmin).toNat := by have := fb.2.1; omega
  have i0 : (2 * b64.qmin - r) ≤ b64.qmin := by have := fb.2.1; omega
  have i1 : (2 * b64.qmin - r) ≤ q - r := by have := fa.2.1; omega
  have u1 : inUnits c (q - r) (2 * b64.qmin - r) = A.natAbs * one64 := by
    unfold inUnits one64; rw [key1, Nat.pow_add, ← Nat.mul_assoc, za']
  have u2 : ∀ v : Nat, v * 2 ^ (b64.qmin - (2 * b64.qmin - r)).toNat * d = v * B.toNat := fun v => by
    rw [key2, Nat.mul_assoc, Nat.mul_comm (2 ^ _) d, zb']
  refine ⟨val64_no.mpr h1, fun hA => ?_, fun hA => ?_, fun V fV nV hA hV hle => ?_, fun V fV hA hV hle => ?_⟩
  · rw [zz]
    by_cases k : A = 0
    · rw [hz0 k]; cases s <;> decide
    · rw [hsN (by omega)]; show -_ ≤ (0 : Int); omega
  · rw [zz]
    by_cases k : A = 0
    · rw [hz0 k]; cases s <;> decide
    · rw [hsA (by omega)]; show (0 : Int) ≤ ((_ : Nat) : Int); omega
  · have hm : zmag b64 (val64 (FP.ddiv a b)) ≤ zmag b64 V := by
      rw [ev]
      refine zmag_roundRatio_le good_b64 hd0 fV nV i0 i1 ?_
      rw [u1, u2]
      have := own_zabs b64 V
      have hV' : zval b64 V = (zmag b64 V : Int) := by omega
      rw [hV'] at hle
      have hA' : A = (A.natAbs : Int) := by omega
      have hB' : B = (B.toNat : Int) := by omega
      rw [hA', hB'] at hle
      exact_mod_cast hle
    have := own_zabs b64 V
    rw [zz]
    by_cases k : A = 0
    · rw [hz0 k]; cases s
      · show ((0 : Nat) : Int) ≤ _; omega
      · show -((0 : Nat) : Int) ≤ _; omega
    · rw [hsA (by omega)]; show ((_ : Nat) : Int) ≤ _; omega
  · have hm : zmag b64 V ≤ zmag b64 (val64 (FP.ddiv a b)) := by
      rw [ev]
      refine zmag_roundRatio_ge good_b64 hd0 fV i0 i1 ?_
      rw [u1, u2]
      have := own_zabs b64 V
      have hV' : zval b64 V = (zmag b64 V : Int) := by omega
      rw [hV'] at hle
      have hA' : A = (A.natAbs : Int) := by omega
      have hB' : B = (B.toNat : Int) := by omega
      rw [hA', hB'] at hle
      exact_mod_cast hle
    have := own_zabs b64 V
    rw [zz]
    by_cases k : A = 0
    · rw [hz0 k] at hm ⊢; cases s
      · show _ ≤ ((0 : Nat) : Int); omega
      · show _ ≤ -((0 : Nat) : Int); omega
    · rw [hsA (by omega)]; show _ ≤ ((_ : Nat) : Int); omega
end OwnDV


section OwnRate
open Jvm.FP Jvm.FP.Core Jvm.Free.Fl
def szd (u : UInt64) : Int32 := if 0 < cmpValue (FP.dcmp u FP.dconst0) .l then (if cmpValue (FP.dcmp u FP.dconst1) .g < 0 then 1 else 0) else 0
theorem own_sz1 {u : UInt64} (h1 : NoNaN64 u) (h2 : 0 < zval b64 (val64 u)) (h3 : zval b64 (val64 u) < (one64 : Int)) : szd u = 1 := by
  have e0 : FP.dcmp u FP.dconst0 = some .gt := dcmp_gt.mpr ⟨val64_no.mp h1, (by decide +kernel), (by rw [show zval b64 (val64 FP.dconst0) = 0 from zval64_zero]; exact h2)⟩
  have e1 : FP.dcmp u FP.dconst1 = some .lt := dcmp_lt.mpr ⟨val64_no.mp h1, (by decide +kernel), (by rw [show zval b64 (val64 FP.dconst1) = 1 * (one64 : Int) from DInt_zval dint_one, Int.one_mul]; exact h3)⟩
  unfold szd; rw [e0, e1]; decide
theorem own_sz0 {u : UInt64} (h1 : NoNaN64 u) (h2 : zval b64 (val64 u) ≤ 0) : szd u = 0 := by
  have e0 : FP.dcmp u FP.dconst0 = some .lt ∨ FP.dcmp u FP.dconst0 = some .eq := dcmp_le.mpr ⟨val64_no.mp h1, (by decide +kernel), (by rw [show zval b64 (val64 FP.dconst0) = 0 from zval64_zero]; exact h2)⟩
  unfold szd; rcases e0 with e | e <;> rw [e] <;> rfl
theorem own_sz2 {u : UInt64} (h1 : NoNaN64 u) (h3 : (one64 : Int) ≤ zval b64 (val64 u)) : szd u = 0 := by
  have e1 : FP.dcmp u FP.dconst1 = some .gt ∨ FP.dcmp u FP.dconst1 = some .eq := dcmp_ge.mpr ⟨val64_no.mp h1, (by decide +kernel), (by rw [show zval b64 (val64 FP.dconst1) = 1 * (one64 : Int) from DInt_zval dint_one, Int.one_mul]; exact h3)⟩
  unfold szd
  rcases e1 with e | e <;> rw [e] <;> (split <;> rfl)
theorem own_i2d (n : Int32) : DInt n.toInt (FP.i2d n) := i2d_int n
theorem own_rnn (n d : Int32) (hd : 1 ≤ d.toInt) : NoNaN64 (FP.ddiv (FP.i2d n) (FP.i2d d)) := by
  have hp : (0 : Int) < (one64 : Int) := by have := one64_pos; omega
  exact (own_ddiv (OwnDV.of_int (own_i2d n)) (OwnDV.of_int (own_i2d d)) (Int.mul_pos (by omega) hp)).1
theorem own_rate (n d : Int32) (hd : 1 ≤ d.toInt) : szd (FP.ddiv (FP.i2d n) (FP.i2d d)) = if 0 < n ∧ n < d then 1 else 0 := by
  have hp : (0 : Int) < (one64 : Int) := by have := one64_pos; omega
  have z0 : (0 : Int32).toInt = 0 := rfl
  have hD : d.toInt < 2147483648 := Int32.toInt_lt d
  obtain ⟨k1, k2, k3, k4, k5⟩ := own_ddiv (OwnDV.of_int (own_i2d n)) (OwnDV.of_int (own_i2d d)) (Int.mul_pos (by omega) hp)
  by_cases h1 : 0 < n
  · have h1' := Int32.lt_iff_toInt_lt.mp h1; rw [z0] at h1'
    have hA : (0 : Int) ≤ n.toInt * (one64 : Int) := Int.mul_nonneg (by omega) (by omega)
    by_cases h2 : n < d
    · have h2' := Int32.lt_iff_toInt_lt.mp h2
      rw [if_pos ⟨h1, h2⟩]
      have v1 : zval b64 (.fin false 1 b64.qmin) = 1 := by decide +kernel
      have b1 := k5 (.fin false 1 b64.qmin) (by unfold Core.fits; decide +kernel) hA (by rw [v1]; decide) (by
        rw [v1, Int.one_mul]
        have hb : d.toInt ≤ (one64 : Int) := by have : (4294967296 : Nat) ≤ one64 := (by decide +kernel); omega
        refine Int.mul_le_mul_of_nonneg_right ?_ (by omega)
        refine Int.le_trans hb ?_
        have := Int.mul_le_mul_of_nonneg_right (show (1 : Int) ≤ n.toInt by omega) (show (0 : Int) ≤ (one64 : Int) by omega)
        omega)
      have w0 : (one64 : Int) = 9007199254740992 * ((2 ^ 1021 : Nat) : Int) := by decide +kernel
      have v2 : zval b64 (.fin false 9007199254740991 (-53)) = 9007199254740991 * ((2 ^ 1021 : Nat) : Int) := by decide +kernel
      have hp2 : (0 : Int) < ((2 ^ 1021 : Nat) : Int) := by have := Nat.two_pow_pos 1021; omega
      have b2 := k4 (.fin false 9007199254740991 (-53)) (by unfold Core.fits; decide +kernel) (fun k => by cases k) hA (by rw [v2]; omega) (by
        rw [v2]
        generalize hK : ((2 ^ 1021 : Nat) : Int) = K at *
        rw [w0]
        have e1 : n.toInt * (9007199254740992 * K) * (9007199254740992 * K) = (n.toInt * 9007199254740992) * (K * (9007199254740992 * K)) := by ac_rfl
        have e2 : 9007199254740991 * K * (d.toInt * (9007199254740992 * K)) = (d.toInt * 9007199254740991) * (K * (9007199254740992 * K)) := by ac_rfl
        rw [e1, e2]
        exact Int.mul_le_mul_of_nonneg_right (by omega) (Int.mul_nonneg (by omega) (by omega)))
      refine own_sz1 k1 (by rw [v1] at b1; omega) (Int.lt_of_le_of_lt b2 ?_)
      rw [v2, w0]; omega
    · rw [if_neg (fun q => h2 q.2)]
      have h2' : ¬ n.toInt < d.toInt := fun q => h2 (Int32.lt_iff_toInt_lt.mpr q)
      have v1 : zval b64 (val64 FP.dconst1) = 1 * (one64 : Int) := DInt_zval dint_one
      have b1 := k5 (val64 FP.dconst1) (val64_fits _) hA (by rw [v1]; omega) (by
        rw [v1, Int.one_mul, Int.mul_comm]
        exact Int.mul_le_mul_of_nonneg_right (Int.mul_le_mul_of_nonneg_right (by omega) (by omega)) (by omega))
      exact own_sz2 k1 (by rw [v1] at b1; omega)
  · rw [if_neg (fun q => h1 q.1)]
    have h1' : ¬ 0 < n.toInt := fun q => h1 (Int32.lt_iff_toInt_lt.mpr q)
    refine own_sz0 k1 (k2 ?_)
    have := Int.mul_nonneg (show (0 : Int) ≤ -n.toInt by omega) (show (0 : Int) ≤ (one64 : Int) by omega)
    rw [Int.neg_mul] at this; omega
theorem own_rt {n d : Int32} (hd : 1 ≤ d.toInt) (h1 : 0 < n) (h2 : n < d) : szd (FP.ddiv (FP.i2d n) (FP.i2d d)) = 1 := by rw [own_rate n d hd, if_pos ⟨h1, h2⟩]
theorem own_rf2 {n d : Int32} (hd : 1 ≤ d.toInt) (h2 : ¬ n < d) : szd (FP.ddiv (FP.i2d n) (FP.i2d d)) = 0 := by rw [own_rate n d hd, if_neg (fun q => h2 q.2)]
theorem own_rf1 {n d : Int32} (hd : 1 ≤ d.toInt) (h1 : ¬ 0 < n) : szd (FP.ddiv (FP.i2d n) (FP.i2d d)) = 0 := by rw [own_rate n d hd, if_neg (fun q => h1 q.1)]
theorem own_d (x : Int32) : 1 ≤ ((x &&& (1073741823 : Int32)) + (1 : Int32)).toInt := by
  have h := own_mask32 x 1073741823 (by decide)
  have e1 : (1 : Int32).toInt = 1 := rfl
  have e2 : (1073741823 : Int32).toInt = 1073741823 := rfl
  rw [own_add32 (by omega) (by omega)]; omega
end OwnRate

theorem d1_0 : decode prog_18_method_5_code 0 = .ok (.dload_n 0, 1) := by decide +kernel
theorem d1_1 : decode prog_18_method_5_code 1 = .ok (.dconst 0, 1) := by decide +kernel
theorem d1_2 : decode prog_18_method_5_code 2 = .ok (.dcmp .l, 1) := by decide +kernel
theorem d1_3 : decode prog_18_method_5_code 3 = .ok (.ifCond .le 13, 3) := by decide +kernel
theorem d1_6 : decode prog_18_method_5_code 6 = .ok (.dload_n 0, 1) := by decide +kernel
theorem d1_7 : decode prog_18_method_5_code 7 = .ok (.dconst 1, 1) := by decide +kernel
theorem d1_8 : decode prog_18_method_5_code 8 = .ok (.dcmp .g, 1) := by decide +kernel
theorem d1_9 : decode prog_18_method_5_code 9 = .ok (.ifCond .ge 7, 3) := by decide +kernel
theorem d1_12 : decode prog_18_method_5_code 12 = .ok (.iconst 1, 1) := by decide +kernel
theorem d1_13 : decode prog_18_method_5_code 13 = .ok (.goto 4, 3) := by decide +kernel
theorem d1_16 : decode prog_18_method_5_code 16 = .ok (.iconst 0, 1) := by decide +kernel
theorem d1_17 : decode prog_18_method_5_code 17 = .ok (.ireturn, 1) := by decide +kernel
theorem pn_1 : plainName "com/example/proset/proset/Sizing" = true := by first | (simp [plainName, overriddenIn]; done) | decide +kernel
theorem ef_rm1 (m : MethodId) (u1 : UInt64) : entryFrame m #[(.double u1)] 2 = mkF m 0 #[.val (.double u1), .second] [] := by first | (simp [entryFrame, mkF, argsToLocals, Value.category]; done) | rfl
def Q1 (Z : State) (u1 : UInt64) (h0 : Heap) (n0 : Nat) (v : Option Value) (h : Heap) (L : List Loc) : Prop := v = some (.int (szd u1)) ∧ Fr n0 L ∧ h = h0
set_option maxRecDepth 65536 in
set_option maxHeartbeats 40000000 in
theorem rm1 (l : Launch) (Z : State) (a0 : Array Value) (hw : ∀ d ∈ tables_1, d.before a0 Z = true) (ws : List Jvm.Cond) (u1 : UInt64) (h0 : Heap) (n0 : Nat) (Z0 : n0 ≤ h0.size) :
    MetFree l (⟨"com/example/proset/proset/Sizing", "isSizableRate", "(D)Z"⟩ : MethodName) (head1 (Jvm.Cond.code (⟨"com/example/proset/proset/Sizing", "isSizableRate", "(D)Z"⟩ : MethodName) prog_18_method_5_code 2 (some .boolean) :: ws) ({ frames := 0, cells := 0, slots := 0, locals := 0 } : Room)) (fun a U => a = #[(.double u1)] ∧ Z.Warmed39 U.vm ∧ U.heap = h0) (fun _ _ _ _ _ => True) (fun _ U o U' => ∃ v L, o = .returned v ∧ Q1 Z u1 h0 n0 v U'.heap L ∧ FrameEnd U o U' L ({ frames := 0, cells := 0, slots := 0, locals := 0 } : Room).cells ({ frames := 0, cells := 0, slots := 0, locals := 0 } : Room).slots) := by
  refine MetFree.of_bodySF (plainFor_of_name pn_1) hisR ?_
  intro p e s m args below meth c s₁ Bd hml0 hP hK
  obtain ⟨rfl, hZ, hh⟩ := hP
  have hx := Bd.exec
  have hby := Bd.bytes
  have hml : c.maxLocals = 2 := hml0
  have hown : s.vm.findClass "com/example/proset/proset/Sizing" = some m.cls := findClass_of_methodNamed Bd.named
  have hnm := (name_of_methodNamed Bd.named Bd.method).1
  have X0 : Stand p l e ({ frames := 0, cells := 0, slots := 0, locals := 0 } : Room) s m #[(.double u1)] below meth c s₁ [] 0 0 := Stand.of_body Bd
  have e0 : s₁.heap = h0 := by rw [← hh, Bd.state]; rfl
  have N0 := Fr.nil n0
  obtain ⟨G, hG⟩ : ∃ G : State → Prop, G = OwnG p e below s ({ frames := 0, cells := 0, slots := 0, locals := 0 } : Room).cells ({ frames := 0, cells := 0, slots := 0, locals := 0 } : Room).slots (Q1 Z u1 h0 n0) := ⟨_, rfl⟩
  have go : ∀ {A B : State}, (∀ t, Steps p.tables e below A t → Steps p.tables e below B t) → G A → G B := fun h k => by rw [hG] at k ⊢; exact OwnG.go h k
  suffices k0 : G (s₁.setTop (mkF m 0 #[.val (.double u1), .second] [])) by
    rw [hG] at k0; exact OwnG.go (fun t k => castTop (ef_rm1 m u1) k) k0
  refine go (fun _ k => XS.dloadN X0.here hx rfl (hb hby d1_0) rfl k) ?_
  show G (s₁.setTop (mkF m 1 #[.val (.double u1), .second] [(.double u1)]))
  refine go (fun _ k => XS.dconst0 X0.here hx rfl (hb hby d1_1) rfl k) ?_
  show G (s₁.setTop (mkF m 2 #[.val (.double u1), .second] [(.double FP.dconst0), (.double u1)]))
  refine go (fun _ k => XS.dcmpS X0.here hx rfl (hb hby d1_2) rfl (v := (cmpValue (FP.dcmp u1 FP.dconst0) .l)) rfl k) ?_
  show G (s₁.setTop (mkF m 3 #[.val (.double u1), .second] [(.int (cmpValue (FP.dcmp u1 FP.dconst0) .l))]))
  by_cases hc3_1 : (0 : Int32) < (cmpValue (FP.dcmp u1 FP.dconst0) .l)
  · refine go (fun _ k => XS.ifNo X0.here hx rfl (hb hby d1_3) rfl ((if0 _ _).trans (tlt hc3_1).2.2.2) k) ?_
    show G (s₁.setTop (mkF m 6 #[.val (.double u1), .second] []))
    refine go (fun _ k => XS.dloadN X0.here hx rfl (hb hby d1_6) rfl k) ?_
    show G (s₁.setTop (mkF m 7 #[.val (.double u1), .second] [(.double u1)]))
    refine go (fun _ k => XS.dconst1 X0.here hx rfl (hb hby d1_7) rfl k) ?_
    show G (s₁.setTop (mkF m 8 #[.val (.double u1), .second] [(.double FP.dconst1), (.double u1)]))
    refine go (fun _ k => XS.dcmpS X0.here hx rfl (hb hby d1_8) rfl (v := (cmpValue (FP.dcmp u1 FP.dconst1) .g)) rfl k) ?_
    show G (s₁.setTop (mkF m 9 #[.val (.double u1), .second] [(.int (cmpValue (FP.dcmp u1 FP.dconst1) .g))]))
    by_cases hc9_2 : (cmpValue (FP.dcmp u1 FP.dconst1) .g) < (0 : Int32)
    · refine go (fun _ k => XS.ifNo X0.here hx rfl (hb hby d1_9) rfl ((if0 _ _).trans (tlt hc9_2).2.1) k) ?_
      show G (s₁.setTop (mkF m 12 #[.val (.double u1), .second] []))
      refine go (fun _ k => XS.iconst X0.here hx rfl (hb hby d1_12) k) ?_
      show G (s₁.setTop (mkF m 13 #[.val (.double u1), .second] [(.int (1 : Int32))]))
      refine go (fun _ k => XS.goto X0.here hx rfl (pc0 := 13) (pc' := 17) rfl (hb hby d1_13) (by decide) (by decide) k) ?_
      show G (s₁.setTop (mkF m 17 #[.val (.double u1), .second] [(.int (1 : Int32))]))
      rw [hG]
      refine own_fin X0 Bd.notSynchronized (v := some (.int (1 : Int32))) (fun h => by rw [Bd.returns] at h; cases h) (fun fs hr => retOut X0 hx Bd.returns rfl (by simp [FieldType.isReference, Value.isRef]) (hb hby d1_17) hr) ?_ (by decide) (by decide)
      show Q1 Z u1 h0 n0 (some (.int (1 : Int32))) s₁.heap _
      rw [e0]
      exact ⟨by simp only [szd, if_pos hc3_1, if_pos hc9_2, if_true, if_false], N0, rfl⟩
    · refine go (fun _ k => XS.ifYes X0.here hx rfl (pc0 := 9) (pc' := 16) rfl (hb hby d1_9) rfl ((if0 _ _).trans (flt hc9_2).2.1) (by decide) (by decide) k) ?_
      show G (s₁.setTop (mkF m 16 #[.val (.double u1), .second] []))
      refine go (fun _ k => XS.iconst X0.here hx rfl (hb hby d1_16) k) ?_
      show G (s₁.setTop (mkF m 17 #[.val (.double u1), .second] [(.int (0 : Int32))]))
      rw [hG]
      refine own_fin X0 Bd.notSynchronized (v := some (.int (0 : Int32))) (fun h => by rw [Bd.returns] at h; cases h) (fun fs hr => retOut X0 hx Bd.returns rfl (by simp [FieldType.isReference, Value.isRef]) (hb hby d1_17) hr) ?_ (by decide) (by decide)
      show Q1 Z u1 h0 n0 (some (.int (0 : Int32))) s₁.heap _
      rw [e0]
      exact ⟨by simp only [szd, if_pos hc3_1, if_neg hc9_2, if_true, if_false], N0, rfl⟩
  · refine go (fun _ k => XS.ifYes X0.here hx rfl (pc0 := 3) (pc' := 16) rfl (hb hby d1_3) rfl ((if0 _ _).trans (flt hc3_1).2.2.2) (by decide) (by decide) k) ?_
    show G (s₁.setTop (mkF m 16 #[.val (.double u1), .second] []))
    refine go (fun _ k => XS.iconst X0.here hx rfl (hb hby d1_16) k) ?_
    show G (s₁.setTop (mkF m 17 #[.val (.double u1), .second] [(.int (0 : Int32))]))
    rw [hG]
    refine own_fin X0 Bd.notSynchronized (v := some (.int (0 : Int32))) (fun h => by rw [Bd.returns] at h; cases h) (fun fs hr => retOut X0 hx Bd.returns rfl (by simp [FieldType.isReference, Value.isRef]) (hb hby d1_17) hr) ?_ (by decide) (by decide)
    show Q1 Z u1 h0 n0 (some (.int (0 : Int32))) s₁.heap _
    rw [e0]
    exact ⟨by simp only [szd, if_neg hc3_1, if_true, if_false], N0, rfl⟩

theorem pn_0 : plainName "com/example/proset/proset/SizingIsSizableRatePinLaw" = true := by first | (simp [plainName, overriddenIn]; done) | decide +kernel
theorem pd_0_0 : parseMethodDescriptor "(D)Z" = some ⟨[.double], some .boolean⟩ := by decide +kernel
theorem ef_rm0 (m : MethodId) (p1 : Int32) (p2 : Int32) (p3 : Int32) : entryFrame m #[(.int p1), (.int p2), (.int p3)] maxLocals = mkF m 0 #[.val (.int p1), .val (.int p2), .val (.int p3), .unset, .unset, .unset, .unset, .unset, .unset] [] := by first | (simp [entryFrame, mkF, argsToLocals, Value.category, maxLocals]; done) | rfl
def Q0 (Z : State) (p1 : Int32) (p2 : Int32) (p3 : Int32) (h0 : Heap) (n0 : Nat) (v : Option Value) (h : Heap) (L : List Loc) : Prop := v = some (.int (1 : Int32)) ∧ Fr n0 L
set_option maxRecDepth 65536 in
set_option maxHeartbeats 40000000 in
theorem rm0 (l : Launch) (Z : State) (a0 : Array Value) (hw : ∀ d ∈ tables_1, d.before a0 Z = true) (ws : List Jvm.Cond) (p1 : Int32) (p2 : Int32) (p3 : Int32) (h0 : Heap) (n0 : Nat) (Z0 : n0 ≤ h0.size) :
    MetFree l x (head1 (Jvm.Cond.code x code maxLocals ret :: ws) room_1) (fun a U => a = #[(.int p1), (.int p2), (.int p3)] ∧ Z.Warmed39 U.vm ∧ U.heap = h0) (fun _ _ _ _ _ => True) (fun _ U o U' => ∃ v L, o = .returned v ∧ Q0 Z p1 p2 p3 h0 n0 v U'.heap L ∧ FrameEnd U o U' L room_1.cells room_1.slots) := by
  refine MetFree.of_bodySF (plainFor_of_name pn_0) hisR ?_
  intro p e s m args below meth c s₁ Bd hml0 hP hK
  obtain ⟨rfl, hZ, hh⟩ := hP
  have hx := Bd.exec
  have hby := Bd.bytes
  have hml : c.maxLocals = 9 := hml0
  have hown : s.vm.findClass "com/example/proset/proset/SizingIsSizableRatePinLaw" = some m.cls := findClass_of_methodNamed Bd.named
  have hnm := (name_of_methodNamed Bd.named Bd.method).1
  have X0 : Stand p l e room_1 s m #[(.int p1), (.int p2), (.int p3)] below meth c s₁ [] 0 0 := Stand.of_body Bd
  have e0 : s₁.heap = h0 := by rw [← hh, Bd.state]; rfl
  have N0 := Fr.nil n0
  obtain ⟨G, hG⟩ : ∃ G : State → Prop, G = OwnG p e below s room_1.cells room_1.slots (Q0 Z p1 p2 p3 h0 n0) := ⟨_, rfl⟩
  have go : ∀ {A B : State}, (∀ t, Steps p.tables e below A t → Steps p.tables e below B t) → G A → G B := fun h k => by rw [hG] at k ⊢; exact OwnG.go h k
  suffices k0 : G (s₁.setTop (mkF m 0 #[.val (.int p1), .val (.int p2), .val (.int p3), .unset, .unset, .unset, .unset, .unset, .unset] [])) by
    rw [hG] at k0; exact OwnG.go (fun t k => castTop (ef_rm0 m p1 p2 p3) k) k0
  refine go (fun _ k => XS.iloadN X0.here hx rfl (hb hby at_0) rfl k) ?_
  show G (s₁.setTop (mkF m 1 #[.val (.int p1), .val (.int p2), .val (.int p3), .unset, .unset, .unset, .unset, .unset, .unset] [(.int p1)]))
  refine go (X0.ldcInt hx hown (mvT hZ (hw _ (List.mem_of_getElem? (i := 0) rfl))) (g := (mkF m 1 #[.val (.int p1), .val (.int p2), .val (.int p3), .unset, .unset, .unset, .unset, .unset, .unset] [(.int p1)])) rfl (hb hby at_1)) ?_
  show G (s₁.setTop (mkF m 3 #[.val (.int p1), .val (.int p2), .val (.int p3), .unset, .unset, .unset, .unset, .unset, .unset] [(.int (1073741823 : Int32)), (.int p1)]))
  refine go (fun _ k => XS.iand X0.here hx rfl (hb hby at_3) rfl k) ?_
  show G (s₁.setTop (mkF m 4 #[.val (.int p1), .val (.int p2), .val (.int p3), .unset, .unset, .unset, .unset, .unset, .unset] [(.int (p1 &&& (1073741823 : Int32)))]))
  refine go (fun _ k => XS.iconst X0.here hx rfl (hb hby at_4) k) ?_
  show G (s₁.setTop (mkF m 5 #[.val (.int p1), .val (.int p2), .val (.int p3), .unset, .unset, .unset, .unset, .unset, .unset] [(.int (1 : Int32)), (.int (p1 &&& (1073741823 : Int32)))]))
  refine go (fun _ k => XS.iadd X0.here hx rfl (hb hby at_5) rfl k) ?_
  show G (s₁.setTop (mkF m 6 #[.val (.int p1), .val (.int p2), .val (.int p3), .unset, .unset, .unset, .unset, .unset, .unset] [(.int ((p1 &&& (1073741823 : Int32)) + (1 : Int32)))]))
  refine go (fun _ k => XS.istoreN X0.here hx rfl (hb hby at_6) rfl (l' := #[.val (.int p1), .val (.int p2), .val (.int p3), .val (.int ((p1 &&& (1073741823 : Int32)) + (1 : Int32))), .unset, .unset, .unset, .unset, .unset]) rfl k) ?_
  show G (s₁.setTop (mkF m 7 #[.val (.int p1), .val (.int p2), .val (.int p3), .val (.int ((p1 &&& (1073741823 : Int32)) + (1 : Int32))), .unset, .unset, .unset, .unset, .unset] []))
  refine go (fun _ k => XS.iloadN X0.here hx rfl (hb hby at_7) rfl k) ?_
  show G (s₁.setTop (mkF m 8 #[.val (.int p1), .val (.int p2), .val (.int p3), .val (.int ((p1 &&& (1073741823 : Int32)) + (1 : Int32))), .unset, .unset, .unset, .unset, .unset] [(.int p3)]))
  refine go (fun _ k => XS.iconst X0.here hx rfl (hb hby at_8) k) ?_
  show G (s₁.setTop (mkF m 9 #[.val (.int p1), .val (.int p2), .val (.int p3), .val (.int ((p1 &&& (1073741823 : Int32)) + (1 : Int32))), .unset, .unset, .unset, .unset, .unset] [(.int (3 : Int32)), (.int p3)]))
  refine go (fun _ k => XS.iand X0.here hx rfl (hb hby at_9) rfl k) ?_
  show G (s₁.setTop (mkF m 10 #[.val (.int p1), .val (.int p2), .val (.int p3), .val (.int ((p1 &&& (1073741823 : Int32)) + (1 : Int32))), .unset, .unset, .unset, .unset, .unset] [(.int (p3 &&& (3 : Int32)))]))
  refine go (fun _ k => XS.istore X0.here hx rfl (hb hby at_10) rfl (l' := #[.val (.int p1), .val (.int p2), .val (.int p3), .val (.int ((p1 &&& (1073741823 : Int32)) + (1 : Int32))), .val (.int (p3 &&& (3 : Int32))), .unset, .unset, .unset, .unset]) rfl k) ?_
  show G (s₁.setTop (mkF m 12 #[.val (.int p1), .val (.int p2), .val (.int p3), .val (.int ((p1 &&& (1073741823 : Int32)) + (1 : Int32))), .val (.int (p3 &&& (3 : Int32))), .unset, .unset, .unset, .unset] []))
  refine go (fun _ k => XS.iload X0.here hx rfl (hb hby at_12) rfl k) ?_
  show G (s₁.setTop (mkF m 14 #[.val (.int p1), .val (.int p2), .val (.int p3), .val (.int ((p1 &&& (1073741823 : Int32)) + (1 : Int32))), .val (.int (p3 &&& (3 : Int32))), .unset, .unset, .unset, .unset] [(.int (p3 &&& (3 : Int32)))]))
  refine go (fun _ k => XS.iconst X0.here hx rfl (hb hby at_14) k) ?_
  show G (s₁.setTop (mkF m 15 #[.val (.int p1), .val (.int p2), .val (.int p3), .val (.int ((p1 &&& (1073741823 : Int32)) + (1 : Int32))), .val (.int (p3 &&& (3 : Int32))), .unset, .unset, .unset, .unset] [(.int (1 : Int32)), (.int (p3 &&& (3 : Int32)))]))
  by_cases hc15_1 : (p3 &&& (3 : Int32)) = (1 : Int32)
  · refine go (fun _ k => XS.icmpNo X0.here hx rfl (hb hby at_15) rfl (teq hc15_1).2 k) ?_
    show G (s₁.setTop (mkF m 18 #[.val (.int p1), .val (.int p2), .val (.int p3), .val (.int ((p1 &&& (1073741823 : Int32)) + (1 : Int32))), .val (.int (p3 &&& (3 : Int32))), .unset, .unset, .unset, .unset] []))
    refine go (fun _ k => XS.iloadN X0.here hx rfl (hb hby at_18) rfl k) ?_
    show G (s₁.setTop (mkF m 19 #[.val (.int p1), .val (.int p2), .val (.int p3), .val (.int ((p1 &&& (1073741823 : Int32)) + (1 : Int32))), .val (.int (p3 &&& (3 : Int32))), .unset, .unset, .unset, .unset] [(.int ((p1 &&& (1073741823 : Int32)) + (1 : Int32)))]))
    refine go (fun _ k => XS.iloadN X0.here hx rfl (hb hby at_19) rfl k) ?_
    show G (s₁.setTop (mkF m 20 #[.val (.int p1), .val (.int p2), .val (.int p3), .val (.int ((p1 &&& (1073741823 : Int32)) + (1 : Int32))), .val (.int (p3 &&& (3 : Int32))), .unset, .unset, .unset, .unset] [(.int p2), (.int ((p1 &&& (1073741823 : Int32)) + (1 : Int32)))]))
    refine go (fun _ k => XS.iconst X0.here hx rfl (hb hby at_20) k) ?_
    show G (s₁.setTop (mkF m 21 #[.val (.int p1), .val (.int p2), .val (.int p3), .val (.int ((p1 &&& (1073741823 : Int32)) + (1 : Int32))), .val (.int (p3 &&& (3 : Int32))), .unset, .unset, .unset, .unset] [(.int (3 : Int32)), (.int p2), (.int ((p1 &&& (1073741823 : Int32)) + (1 : Int32)))]))
    refine go (fun _ k => XS.iand X0.here hx rfl (hb hby at_21) rfl k) ?_
    show G (s₁.setTop (mkF m 22 #[.val (.int p1), .val (.int p2), .val (.int p3), .val (.int ((p1 &&& (1073741823 : Int32)) + (1 : Int32))), .val (.int (p3 &&& (3 : Int32))), .unset, .unset, .unset, .unset] [(.int (p2 &&& (3 : Int32))), (.int ((p1 &&& (1073741823 : Int32)) + (1 : Int32)))]))
    refine go (fun _ k => XS.iconst X0.here hx rfl (hb hby at_22) k) ?_
    show G (s₁.setTop (mkF m 23 #[.val (.int p1), .val (.int p2), .val (.int p3), .val (.int ((p1 &&& (1073741823 : Int32)) + (1 : Int32))), .val (.int (p3 &&& (3 : Int32))), .unset, .unset, .unset, .unset] [(.int (2 : Int32)), (.int (p2 &&& (3 : Int32))), (.int ((p1 &&& (1073741823 : Int32)) + (1 : Int32)))]))
    refine go (fun _ k => XS.isub X0.here hx rfl (hb hby at_23) rfl k) ?_
    show G (s₁.setTop (mkF m 24 #[.val (.int p1), .val (.int p2), .val (.int p3), .val (.int ((p1 &&& (1073741823 : Int32)) + (1 : Int32))), .val (.int (p3 &&& (3 : Int32))), .unset, .unset, .unset, .unset] [(.int ((p2 &&& (3 : Int32)) - (2 : Int32))), (.int ((p1 &&& (1073741823 : Int32)) + (1 : Int32)))]))
    refine go (fun _ k => XS.iadd X0.here hx rfl (hb hby at_24) rfl k) ?_
    show G (s₁.setTop (mkF m 25 #[.val (.int p1), .val (.int p2), .val (.int p3), .val (.int ((p1 &&& (1073741823 : Int32)) + (1 : Int32))), .val (.int (p3 &&& (3 : Int32))), .unset, .unset, .unset, .unset] [(.int (((p1 &&& (1073741823 : Int32)) + (1 : Int32)) + ((p2 &&& (3 : Int32)) - (2 : Int32))))]))
    refine go (fun _ k => XS.istore X0.here hx rfl (hb hby at_25) rfl (l' := #[.val (.int p1), .val (.int p2), .val (.int p3), .val (.int ((p1 &&& (1073741823 : Int32)) + (1 : Int32))), .val (.int (p3 &&& (3 : Int32))), .val (.int (((p1 &&& (1073741823 : Int32)) + (1 : Int32)) + ((p2 &&& (3 : Int32)) - (2 : Int32)))), .unset, .unset, .unset]) rfl k) ?_
    show G (s₁.setTop (mkF m 27 #[.val (.int p1), .val (.int p2), .val (.int p3), .val (.int ((p1 &&& (1073741823 : Int32)) + (1 : Int32))), .val (.int (p3 &&& (3 : Int32))), .val (.int (((p1 &&& (1073741823 : Int32)) + (1 : Int32)) + ((p2 &&& (3 : Int32)) - (2 : Int32)))), .unset, .unset, .unset] []))
    refine go (fun _ k => XS.goto X0.here hx rfl (pc0 := 27) (pc' := 49) rfl (hb hby at_27) (by decide) (by decide) k) ?_
    show G (s₁.setTop (mkF m 49 #[.val (.int p1), .val (.int p2), .val (.int p3), .val (.int ((p1 &&& (1073741823 : Int32)) + (1 : Int32))), .val (.int (p3 &&& (3 : Int32))), .val (.int (((p1 &&& (1073741823 : Int32)) + (1 : Int32)) + ((p2 &&& (3 : Int32)) - (2 : Int32)))), .unset, .unset, .unset] []))
    refine go (fun _ k => XS.iload X0.here hx rfl (hb hby at_49) rfl k) ?_
    show G (s₁.setTop (mkF m 51 #[.val (.int p1), .val (.int p2), .val (.int p3), .val (.int ((p1 &&& (1073741823 : Int32)) + (1 : Int32))), .val (.int (p3 &&& (3 : Int32))), .val (.int (((p1 &&& (1073741823 : Int32)) + (1 : Int32)) + ((p2 &&& (3 : Int32)) - (2 : Int32)))), .unset, .unset, .unset] [(.int (((p1 &&& (1073741823 : Int32)) + (1 : Int32)) + ((p2 &&& (3 : Int32)) - (2 : Int32))))]))
    refine go (fun _ k => XS.i2dS X0.here hx rfl (hb hby at_51) rfl (v := (FP.i2d (((p1 &&& (1073741823 : Int32)) + (1 : Int32)) + ((p2 &&& (3 : Int32)) - (2 : Int32))))) rfl k) ?_
    show G (s₁.setTop (mkF m 52 #[.val (.int p1), .val (.int p2), .val (.int p3), .val (.int ((p1 &&& (1073741823 : Int32)) + (1 : Int32))), .val (.int (p3 &&& (3 : Int32))), .val (.int (((p1 &&& (1073741823 : Int32)) + (1 : Int32)) + ((p2 &&& (3 : Int32)) - (2 : Int32)))), .unset, .unset, .unset] [(.double (FP.i2d (((p1 &&& (1073741823 : Int32)) + (1 : Int32)) + ((p2 &&& (3 : Int32)) - (2 : Int32)))))]))
    refine go (fun _ k => XS.iloadN X0.here hx rfl (hb hby at_52) rfl k) ?_
    show G (s₁.setTop (mkF m 53 #[.val (.int p1), .val (.int p2), .val (.int p3), .val (.int ((p1 &&& (1073741823 : Int32)) + (1 : Int32))), .val (.int (p3 &&& (3 : Int32))), .val (.int (((p1 &&& (1073741823 : Int32)) + (1 : Int32)) + ((p2 &&& (3 : Int32)) - (2 : Int32)))), .unset, .unset, .unset] [(.int ((p1 &&& (1073741823 : Int32)) + (1 : Int32))), (.double (FP.i2d (((p1 &&& (1073741823 : Int32)) + (1 : Int32)) + ((p2 &&& (3 : Int32)) - (2 : Int32)))))]))
    refine go (fun _ k => XS.i2dS X0.here hx rfl (hb hby at_53) rfl (v := (FP.i2d ((p1 &&& (1073741823 : Int32)) + (1 : Int32)))) rfl k) ?_
    show G (s₁.setTop (mkF m 54 #[.val (.int p1), .val (.int p2), .val (.int p3), .val (.int ((p1 &&& (1073741823 : Int32)) + (1 : Int32))), .val (.int (p3 &&& (3 : Int32))), .val (.int (((p1 &&& (1073741823 : Int32)) + (1 : Int32)) + ((p2 &&& (3 : Int32)) - (2 : Int32)))), .unset, .unset, .unset] [(.double (FP.i2d ((p1 &&& (1073741823 : Int32)) + (1 : Int32)))), (.double (FP.i2d (((p1 &&& (1073741823 : Int32)) + (1 : Int32)) + ((p2 &&& (3 : Int32)) - (2 : Int32)))))]))
    refine go (fun _ k => XS.ddivS X0.here hx rfl (hb hby at_54) rfl (v := (FP.ddiv (FP.i2d (((p1 &&& (1073741823 : Int32)) + (1 : Int32)) + ((p2 &&& (3 : Int32)) - (2 : Int32)))) (FP.i2d ((p1 &&& (1073741823 : Int32)) + (1 : Int32))))) (own_rnn _ _ (own_d _)) rfl k) ?_
    show G (s₁.setTop (mkF m 55 #[.val (.int p1), .val (.int p2), .val (.int p3), .val (.int ((p1 &&& (1073741823 : Int32)) + (1 : Int32))), .val (.int (p3 &&& (3 : Int32))), .val (.int (((p1 &&& (1073741823 : Int32)) + (1 : Int32)) + ((p2 &&& (3 : Int32)) - (2 : Int32)))), .unset, .unset, .unset] [(.double (FP.ddiv (FP.i2d (((p1 &&& (1073741823 : Int32)) + (1 : Int32)) + ((p2 &&& (3 : Int32)) - (2 : Int32)))) (FP.i2d ((p1 &&& (1073741823 : Int32)) + (1 : Int32)))))]))
    refine go (fun _ k => XS.dstore X0.here hx rfl (hb hby at_55) rfl (l' := #[.val (.int p1), .val (.int p2), .val (.int p3), .val (.int ((p1 &&& (1073741823 : Int32)) + (1 : Int32))), .val (.int (p3 &&& (3 : Int32))), .val (.int (((p1 &&& (1073741823 : Int32)) + (1 : Int32)) + ((p2 &&& (3 : Int32)) - (2 : Int32)))), .val (.double (FP.ddiv (FP.i2d (((p1 &&& (1073741823 : Int32)) + (1 : Int32)) + ((p2 &&& (3 : Int32)) - (2 : Int32)))) (FP.i2d ((p1 &&& (1073741823 : Int32)) + (1 : Int32))))), .second, .unset]) rfl k) ?_
    show G (s₁.setTop (mkF m 57 #[.val (.int p1), .val (.int p2), .val (.int p3), .val (.int ((p1 &&& (1073741823 : Int32)) + (1 : Int32))), .val (.int (p3 &&& (3 : Int32))), .val (.int (((p1 &&& (1073741823 : Int32)) + (1 : Int32)) + ((p2 &&& (3 : Int32)) - (2 : Int32)))), .val (.double (FP.ddiv (FP.i2d (((p1 &&& (1073741823 : Int32)) + (1 : Int32)) + ((p2 &&& (3 : Int32)) - (2 : Int32)))) (FP.i2d ((p1 &&& (1073741823 : Int32)) + (1 : Int32))))), .second, .unset] []))
    refine go (fun _ k => XS.iload X0.here hx rfl (hb hby at_57) rfl k) ?_
    show G (s₁.setTop (mkF m 59 #[.val (.int p1), .val (.int p2), .val (.int p3), .val (.int ((p1 &&& (1073741823 : Int32)) + (1 : Int32))), .val (.int (p3 &&& (3 : Int32))), .val (.int (((p1 &&& (1073741823 : Int32)) + (1 : Int32)) + ((p2 &&& (3 : Int32)) - (2 : Int32)))), .val (.double (FP.ddiv (FP.i2d (((p1 &&& (1073741823 : Int32)) + (1 : Int32)) + ((p2 &&& (3 : Int32)) - (2 : Int32)))) (FP.i2d ((p1 &&& (1073741823 : Int32)) + (1 : Int32))))), .second, .unset] [(.int (((p1 &&& (1073741823 : Int32)) + (1 : Int32)) + ((p2 &&& (3 : Int32)) - (2 : Int32))))]))
    by_cases hc59_2 : (0 : Int32) < (((p1 &&& (1073741823 : Int32)) + (1 : Int32)) + ((p2 &&& (3 : Int32)) - (2 : Int32)))
    · refine go (fun _ k => XS.ifNo X0.here hx rfl (hb hby at_59) rfl ((if0 _ _).trans (tlt hc59_2).2.2.2) k) ?_
      show G (s₁.setTop (mkF m 62 #[.val (.int p1), .val (.int p2), .val (.int p3), .val (.int ((p1 &&& (1073741823 : Int32)) + (1 : Int32))), .val (.int (p3 &&& (3 : Int32))), .val (.int (((p1 &&& (1073741823 : Int32)) + (1 : Int32)) + ((p2 &&& (3 : Int32)) - (2 : Int32)))), .val (.double (FP.ddiv (FP.i2d (((p1 &&& (1073741823 : Int32)) + (1 : Int32)) + ((p2 &&& (3 : Int32)) - (2 : Int32)))) (FP.i2d ((p1 &&& (1073741823 : Int32)) + (1 : Int32))))), .second, .unset] []))
      refine go (fun _ k => XS.iload X0.here hx rfl (hb hby at_62) rfl k) ?_
      show G (s₁.setTop (mkF m 64 #[.val (.int p1), .val (.int p2), .val (.int p3), .val (.int ((p1 &&& (1073741823 : Int32)) + (1 : Int32))), .val (.int (p3 &&& (3 : Int32))), .val (.int (((p1 &&& (1073741823 : Int32)) + (1 : Int32)) + ((p2 &&& (3 : Int32)) - (2 : Int32)))), .val (.double (FP.ddiv (FP.i2d (((p1 &&& (1073741823 : Int32)) + (1 : Int32)) + ((p2 &&& (3 : Int32)) - (2 : Int32)))) (FP.i2d ((p1 &&& (1073741823 : Int32)) + (1 : Int32))))), .second, .unset] [(.int (((p1 &&& (1073741823 : Int32)) + (1 : Int32)) + ((p2 &&& (3 : Int32)) - (2 : Int32))))]))
      refine go (fun _ k => XS.iloadN X0.here hx rfl (hb hby at_64) rfl k) ?_
      show G (s₁.setTop (mkF m 65 #[.val (.int p1), .val (.int p2), .val (.int p3), .val (.int ((p1 &&& (1073741823 : Int32)) + (1 : Int32))), .val (.int (p3 &&& (3 : Int32))), .val (.int (((p1 &&& (1073741823 : Int32)) + (1 : Int32)) + ((p2 &&& (3 : Int32)) - (2 : Int32)))), .val (.double (FP.ddiv (FP.i2d (((p1 &&& (1073741823 : Int32)) + (1 : Int32)) + ((p2 &&& (3 : Int32)) - (2 : Int32)))) (FP.i2d ((p1 &&& (1073741823 : Int32)) + (1 : Int32))))), .second, .unset] [(.int ((p1 &&& (1073741823 : Int32)) + (1 : Int32))), (.int (((p1 &&& (1073741823 : Int32)) + (1 : Int32)) + ((p2 &&& (3 : Int32)) - (2 : Int32))))]))
      by_cases hc65_3 : (((p1 &&& (1073741823 : Int32)) + (1 : Int32)) + ((p2 &&& (3 : Int32)) - (2 : Int32))) < ((p1 &&& (1073741823 : Int32)) + (1 : Int32))
      · refine go (fun _ k => XS.icmpNo X0.here hx rfl (hb hby at_65) rfl (tlt hc65_3).2.1 k) ?_
        show G (s₁.setTop (mkF m 68 #[.val (.int p1), .val (.int p2), .val (.int p3), .val (.int ((p1 &&& (1073741823 : Int32)) + (1 : Int32))), .val (.int (p3 &&& (3 : Int32))), .val (.int (((p1 &&& (1073741823 : Int32)) + (1 : Int32)) + ((p2 &&& (3 : Int32)) - (2 : Int32)))), .val (.double (FP.ddiv (FP.i2d (((p1 &&& (1073741823 : Int32)) + (1 : Int32)) + ((p2 &&& (3 : Int32)) - (2 : Int32)))) (FP.i2d ((p1 &&& (1073741823 : Int32)) + (1 : Int32))))), .second, .unset] []))
        refine go (fun _ k => XS.iconst X0.here hx rfl (hb hby at_68) k) ?_
        show G (s₁.setTop (mkF m 69 #[.val (.int p1), .val (.int p2), .val (.int p3), .val (.int ((p1 &&& (1073741823 : Int32)) + (1 : Int32))), .val (.int (p3 &&& (3 : Int32))), .val (.int (((p1 &&& (1073741823 : Int32)) + (1 : Int32)) + ((p2 &&& (3 : Int32)) - (2 : Int32)))), .val (.double (FP.ddiv (FP.i2d (((p1 &&& (1073741823 : Int32)) + (1 : Int32)) + ((p2 &&& (3 : Int32)) - (2 : Int32)))) (FP.i2d ((p1 &&& (1073741823 : Int32)) + (1 : Int32))))), .second, .unset] [(.int (1 : Int32))]))
        refine go (fun _ k => XS.goto X0.here hx rfl (pc0 := 69) (pc' := 73) rfl (hb hby at_69) (by decide) (by decide) k) ?_
        show G (s₁.setTop (mkF m 73 #[.val (.int p1), .val (.int p2), .val (.int p3), .val (.int ((p1 &&& (1073741823 : Int32)) + (1 : Int32))), .val (.int (p3 &&& (3 : Int32))), .val (.int (((p1 &&& (1073741823 : Int32)) + (1 : Int32)) + ((p2 &&& (3 : Int32)) - (2 : Int32)))), .val (.double (FP.ddiv (FP.i2d (((p1 &&& (1073741823 : Int32)) + (1 : Int32)) + ((p2 &&& (3 : Int32)) - (2 : Int32)))) (FP.i2d ((p1 &&& (1073741823 : Int32)) + (1 : Int32))))), .second, .unset] [(.int (1 : Int32))]))
        refine go (fun _ k => XS.istore X0.here hx rfl (hb hby at_73) rfl (l' := #[.val (.int p1), .val (.int p2), .val (.int p3), .val (.int ((p1 &&& (1073741823 : Int32)) + (1 : Int32))), .val (.int (p3 &&& (3 : Int32))), .val (.int (((p1 &&& (1073741823 : Int32)) + (1 : Int32)) + ((p2 &&& (3 : Int32)) - (2 : Int32)))), .val (.double (FP.ddiv (FP.i2d (((p1 &&& (1073741823 : Int32)) + (1 : Int32)) + ((p2 &&& (3 : Int32)) - (2 : Int32)))) (FP.i2d ((p1 &&& (1073741823 : Int32)) + (1 : Int32))))), .second, .val (.int (1 : Int32))]) rfl k) ?_
        show G (s₁.setTop (mkF m 75 #[.val (.int p1), .val (.int p2), .val (.int p3), .val (.int ((p1 &&& (1073741823 : Int32)) + (1 : Int32))), .val (.int (p3 &&& (3 : Int32))), .val (.int (((p1 &&& (1073741823 : Int32)) + (1 : Int32)) + ((p2 &&& (3 : Int32)) - (2 : Int32)))), .val (.double (FP.ddiv (FP.i2d (((p1 &&& (1073741823 : Int32)) + (1 : Int32)) + ((p2 &&& (3 : Int32)) - (2 : Int32)))) (FP.i2d ((p1 &&& (1073741823 : Int32)) + (1 : Int32))))), .second, .val (.int (1 : Int32))] []))
        refine go (fun _ k => XS.dload X0.here hx rfl (hb hby at_75) rfl k) ?_
        show G (s₁.setTop (mkF m 77 #[.val (.int p1), .val (.int p2), .val (.int p3), .val (.int ((p1 &&& (1073741823 : Int32)) + (1 : Int32))), .val (.int (p3 &&& (3 : Int32))), .val (.int (((p1 &&& (1073741823 : Int32)) + (1 : Int32)) + ((p2 &&& (3 : Int32)) - (2 : Int32)))), .val (.double (FP.ddiv (FP.i2d (((p1 &&& (1073741823 : Int32)) + (1 : Int32)) + ((p2 &&& (3 : Int32)) - (2 : Int32)))) (FP.i2d ((p1 &&& (1073741823 : Int32)) + (1 : Int32))))), .second, .val (.int (1 : Int32))] [(.double (FP.ddiv (FP.i2d (((p1 &&& (1073741823 : Int32)) + (1 : Int32)) + ((p2 &&& (3 : Int32)) - (2 : Int32)))) (FP.i2d ((p1 &&& (1073741823 : Int32)) + (1 : Int32)))))]))
        obtain ⟨_, _, ⟨T4, L4, k4, n4⟩, -, X4, ⟨Lc4, hQ4, l4, y4, z4⟩, st4⟩ := Jvm.LawKit.callS X0 hx (y := (⟨"com/example/proset/proset/Sizing", "isSizableRate", "(D)Z"⟩ : MethodName)) hown (mvT hZ (hw _ (List.mem_of_getElem? (i := 1) rfl))) (mvT hZ (hw _ (List.mem_of_getElem? (i := 2) rfl))) (mvT hZ (hw _ (List.mem_of_getElem? (i := 3) rfl))) (mvT hZ (hw _ (List.mem_of_getElem? (i := 4) rfl))) (by decide) (backOf (W := 0) (rm1 l Z a0 hw [] (FP.ddiv (FP.i2d (((p1 &&& (1073741823 : Int32)) + (1 : Int32)) + ((p2 &&& (3 : Int32)) - (2 : Int32)))) (FP.i2d ((p1 &&& (1073741823 : Int32)) + (1 : Int32)))) h0 n0 Z0) hZ (hw _ (List.mem_of_getElem? (i := 4) rfl)) (hw _ (List.mem_of_getElem? (i := 3) rfl)) (by decide) (by decide)) (g := (mkF m 77 #[.val (.int p1), .val (.int p2), .val (.int p3), .val (.int ((p1 &&& (1073741823 : Int32)) + (1 : Int32))), .val (.int (p3 &&& (3 : Int32))), .val (.int (((p1 &&& (1073741823 : Int32)) + (1 : Int32)) + ((p2 &&& (3 : Int32)) - (2 : Int32)))), .val (.double (FP.ddiv (FP.i2d (((p1 &&& (1073741823 : Int32)) + (1 : Int32)) + ((p2 &&& (3 : Int32)) - (2 : Int32)))) (FP.i2d ((p1 &&& (1073741823 : Int32)) + (1 : Int32))))), .second, .val (.int (1 : Int32))] [(.double (FP.ddiv (FP.i2d (((p1 &&& (1073741823 : Int32)) + (1 : Int32)) + ((p2 &&& (3 : Int32)) - (2 : Int32)))) (FP.i2d ((p1 &&& (1073741823 : Int32)) + (1 : Int32)))))])) rfl (by rw [hml]; rfl) (argsL := [(.double (FP.ddiv (FP.i2d (((p1 &&& (1073741823 : Int32)) + (1 : Int32)) + ((p2 &&& (3 : Int32)) - (2 : Int32)))) (FP.i2d ((p1 &&& (1073741823 : Int32)) + (1 : Int32)))))]) (rest := []) (lenOf pd_0_0 rfl) rfl (by show 2 * 0 + _ ≤ _; exact Nat.le_of_eq rfl) (hb hby at_77) (fun _ _ => ⟨rfl, e0, (by decide : 0 + 0 ≤ _), (by decide : 0 + 0 ≤ _)⟩)
        dsimp only [Pt.U, Pt.locs, Pt.cells, Pt.slots] at X4 l4 y4 z4 st4 hQ4
        subst l4 y4 z4
        obtain ⟨rfl, N4q, e4⟩ := hQ4
        have N4 := Fr.app N0 N4q
        refine go st4 ?_
        show G (T4.setTop (mkF m 80 #[.val (.int p1), .val (.int p2), .val (.int p3), .val (.int ((p1 &&& (1073741823 : Int32)) + (1 : Int32))), .val (.int (p3 &&& (3 : Int32))), .val (.int (((p1 &&& (1073741823 : Int32)) + (1 : Int32)) + ((p2 &&& (3 : Int32)) - (2 : Int32)))), .val (.double (FP.ddiv (FP.i2d (((p1 &&& (1073741823 : Int32)) + (1 : Int32)) + ((p2 &&& (3 : Int32)) - (2 : Int32)))) (FP.i2d ((p1 &&& (1073741823 : Int32)) + (1 : Int32))))), .second, .val (.int (1 : Int32))] [(.int (szd (FP.ddiv (FP.i2d (((p1 &&& (1073741823 : Int32)) + (1 : Int32)) + ((p2 &&& (3 : Int32)) - (2 : Int32)))) (FP.i2d ((p1 &&& (1073741823 : Int32)) + (1 : Int32))))))]))
        refine go (fun _ k => XS.iload X4.here hx rfl (hb hby at_80) rfl k) ?_
        show G (T4.setTop (mkF m 82 #[.val (.int p1), .val (.int p2), .val (.int p3), .val (.int ((p1 &&& (1073741823 : Int32)) + (1 : Int32))), .val (.int (p3 &&& (3 : Int32))), .val (.int (((p1 &&& (1073741823 : Int32)) + (1 : Int32)) + ((p2 &&& (3 : Int32)) - (2 : Int32)))), .val (.double (FP.ddiv (FP.i2d (((p1 &&& (1073741823 : Int32)) + (1 : Int32)) + ((p2 &&& (3 : Int32)) - (2 : Int32)))) (FP.i2d ((p1 &&& (1073741823 : Int32)) + (1 : Int32))))), .second, .val (.int (1 : Int32))] [(.int (1 : Int32)), (.int (szd (FP.ddiv (FP.i2d (((p1 &&& (1073741823 : Int32)) + (1 : Int32)) + ((p2 &&& (3 : Int32)) - (2 : Int32)))) (FP.i2d ((p1 &&& (1073741823 : Int32)) + (1 : Int32))))))]))
        have hc5 : (szd (FP.ddiv (FP.i2d (((p1 &&& (1073741823 : Int32)) + (1 : Int32)) + ((p2 &&& (3 : Int32)) - (2 : Int32)))) (FP.i2d ((p1 &&& (1073741823 : Int32)) + (1 : Int32))))) = (1 : Int32) := own_rt (own_d _) hc59_2 hc65_3
        refine go (fun _ k => XS.icmpNo X4.here hx rfl (hb hby at_82) rfl (teq hc5).2 k) ?_
        show G (T4.setTop (mkF m 85 #[.val (.int p1), .val (.int p2), .val (.int p3), .val (.int ((p1 &&& (1073741823 : Int32)) + (1 : Int32))), .val (.int (p3 &&& (3 : Int32))), .val (.int (((p1 &&& (1073741823 : Int32)) + (1 : Int32)) + ((p2 &&& (3 : Int32)) - (2 : Int32)))), .val (.double (FP.ddiv (FP.i2d (((p1 &&& (1073741823 : Int32)) + (1 : Int32)) + ((p2 &&& (3 : Int32)) - (2 : Int32)))) (FP.i2d ((p1 &&& (1073741823 : Int32)) + (1 : Int32))))), .second, .val (.int (1 : Int32))] []))
        refine go (fun _ k => XS.iconst X4.here hx rfl (hb hby at_85) k) ?_
        show G (T4.setTop (mkF m 86 #[.val (.int p1), .val (.int p2), .val (.int p3), .val (.int ((p1 &&& (1073741823 : Int32)) + (1 : Int32))), .val (.int (p3 &&& (3 : Int32))), .val (.int (((p1 &&& (1073741823 : Int32)) + (1 : Int32)) + ((p2 &&& (3 : Int32)) - (2 : Int32)))), .val (.double (FP.ddiv (FP.i2d (((p1 &&& (1073741823 : Int32)) + (1 : Int32)) + ((p2 &&& (3 : Int32)) - (2 : Int32)))) (FP.i2d ((p1 &&& (1073741823 : Int32)) + (1 : Int32))))), .second, .val (.int (1 : Int32))] [(.int (1 : Int32))]))
        refine go (fun _ k => XS.goto X4.here hx rfl (pc0 := 86) (pc' := 90) rfl (hb hby at_86) (by decide) (by decide) k) ?_
        show G (T4.setTop (mkF m 90 #[.val (.int p1), .val (.int p2), .val (.int p3), .val (.int ((p1 &&& (1073741823 : Int32)) + (1 : Int32))), .val (.int (p3 &&& (3 : Int32))), .val (.int (((p1 &&& (1073741823 : Int32)) + (1 : Int32)) + ((p2 &&& (3 : Int32)) - (2 : Int32)))), .val (.double (FP.ddiv (FP.i2d (((p1 &&& (1073741823 : Int32)) + (1 : Int32)) + ((p2 &&& (3 : Int32)) - (2 : Int32)))) (FP.i2d ((p1 &&& (1073741823 : Int32)) + (1 : Int32))))), .second, .val (.int (1 : Int32))] [(.int (1 : Int32))]))
        rw [hG]
        refine own_fin X4 Bd.notSynchronized (v := some (.int (1 : Int32))) (fun h => by rw [Bd.returns] at h; cases h) (fun fs hr => retOut X4 hx Bd.returns rfl (by simp [FieldType.isReference, Value.isRef]) (hb hby at_90) hr) ?_ (by decide) (by decide)
        show Q0 Z p1 p2 p3 h0 n0 (some (.int (1 : Int32))) T4.heap _
        rw [e4]
        exact ⟨rfl, N4⟩
      · refine go (fun _ k => XS.icmpYes X0.here hx rfl (pc0 := 65) (pc' := 72) rfl (hb hby at_65) rfl (flt hc65_3).2.1 (by decide) (by decide) k) ?_
        show G (s₁.setTop (mkF m 72 #[.val (.int p1), .val (.int p2), .val (.int p3), .val (.int ((p1 &&& (1073741823 : Int32)) + (1 : Int32))), .val (.int (p3 &&& (3 : Int32))), .val (.int (((p1 &&& (1073741823 : Int32)) + (1 : Int32)) + ((p2 &&& (3 : Int32)) - (2 : Int32)))), .val (.double (FP.ddiv (FP.i2d (((p1 &&& (1073741823 : Int32)) + (1 : Int32)) + ((p2 &&& (3 : Int32)) - (2 : Int32)))) (FP.i2d ((p1 &&& (1073741823 : Int32)) + (1 : Int32))))), .second, .unset] []))
        refine go (fun _ k => XS.iconst X0.here hx rfl (hb hby at_72) k) ?_
        show G (s₁.setTop (mkF m 73 #[.val (.int p1), .val (.int p2), .val (.int p3), .val (.int ((p1 &&& (1073741823 : Int32)) + (1 : Int32))), .val (.int (p3 &&& (3 : Int32))), .val (.int (((p1 &&& (1073741823 : Int32)) + (1 : Int32)) + ((p2 &&& (3 : Int32)) - (2 : Int32)))), .val (.double (FP.ddiv (FP.i2d (((p1 &&& (1073741823 : Int32)) + (1 : Int32)) + ((p2 &&& (3 : Int32)) - (2 : Int32)))) (FP.i2d ((p1 &&& (1073741823 : Int32)) + (1 : Int32))))), .second, .unset] [(.int (0 : Int32))]))
        refine go (fun _ k => XS.istore X0.here hx rfl (hb hby at_73) rfl (l' := #[.val (.int p1), .val (.int p2), .val (.int p3), .val (.int ((p1 &&& (1073741823 : Int32)) + (1 : Int32))), .val (.int (p3 &&& (3 : Int32))), .val (.int (((p1 &&& (1073741823 : Int32)) + (1 : Int32)) + ((p2 &&& (3 : Int32)) - (2 : Int32)))), .val (.double (FP.ddiv (FP.i2d (((p1 &&& (1073741823 : Int32)) + (1 : Int32)) + ((p2 &&& (3 : Int32)) - (2 : Int32)))) (FP.i2d ((p1 &&& (1073741823 : Int32)) + (1 : Int32))))), .second, .val (.int (0 : Int32))]) rfl k) ?_
        show G (s₁.setTop (mkF m 75 #[.val (.int p1), .val (.int p2), .val (.int p3), .val (.int ((p1 &&& (1073741823 : Int32)) + (1 : Int32))), .val (.int (p3 &&& (3 : Int32))), .val (.int (((p1 &&& (1073741823 : Int32)) + (1 : Int32)) + ((p2 &&& (3 : Int32)) - (2 : Int32)))), .val (.double (FP.ddiv (FP.i2d (((p1 &&& (1073741823 : Int32)) + (1 : Int32)) + ((p2 &&& (3 : Int32)) - (2 : Int32)))) (FP.i2d ((p1 &&& (1073741823 : Int32)) + (1 : Int32))))), .second, .val (.int (0 : Int32))] []))
        refine go (fun _ k => XS.dload X0.here hx rfl (hb hby at_75) rfl k) ?_
        show G (s₁.setTop (mkF m 77 #[.val (.int p1), .val (.int p2), .val (.int p3), .val (.int ((p1 &&& (1073741823 : Int32)) + (1 : Int32))), .val (.int (p3 &&& (3 : Int32))), .val (.int (((p1 &&& (1073741823 : Int32)) + (1 : Int32)) + ((p2 &&& (3 : Int32)) - (2 : Int32)))), .val (.double (FP.ddiv (FP.i2d (((p1 &&& (1073741823 : Int32)) + (1 : Int32)) + ((p2 &&& (3 : Int32)) - (2 : Int32)))) (FP.i2d ((p1 &&& (1073741823 : Int32)) + (1 : Int32))))), .second, .val (.int (0 : Int32))] [(.double (FP.ddiv (FP.i2d (((p1 &&& (1073741823 : Int32)) + (1 : Int32)) + ((p2 &&& (3 : Int32)) - (2 : Int32)))) (FP.i2d ((p1 &&& (1073741823 : Int32)) + (1 : Int32)))))]))
        obtain ⟨_, _, ⟨T6, L6, k6, n6⟩, -, X6, ⟨Lc6, hQ6, l6, y6, z6⟩, st6⟩ := Jvm.LawKit.callS X0 hx (y := (⟨"com/example/proset/proset/Sizing", "isSizableRate", "(D)Z"⟩ : MethodName)) hown (mvT hZ (hw _ (List.mem_of_getElem? (i := 1) rfl))) (mvT hZ (hw _ (List.mem_of_getElem? (i := 2) rfl))) (mvT hZ (hw _ (List.mem_of_getElem? (i := 3) rfl))) (mvT hZ (hw _ (List.mem_of_getElem? (i := 4) rfl))) (by decide) (backOf (W := 0) (rm1 l Z a0 hw [] (FP.ddiv (FP.i2d (((p1 &&& (1073741823 : Int32)) + (1 : Int32)) + ((p2 &&& (3 : Int32)) - (2 : Int32)))) (FP.i2d ((p1 &&& (1073741823 : Int32)) + (1 : Int32)))) h0 n0 Z0) hZ (hw _ (List.mem_of_getElem? (i := 4) rfl)) (hw _ (List.mem_of_getElem? (i := 3) rfl)) (by decide) (by decide)) (g := (mkF m 77 #[.val (.int p1), .val (.int p2), .val (.int p3), .val (.int ((p1 &&& (1073741823 : Int32)) + (1 : Int32))), .val (.int (p3 &&& (3 : Int32))), .val (.int (((p1 &&& (1073741823 : Int32)) + (1 : Int32)) + ((p2 &&& (3 : Int32)) - (2 : Int32)))), .val (.double (FP.ddiv (FP.i2d (((p1 &&& (1073741823 : Int32)) + (1 : Int32)) + ((p2 &&& (3 : Int32)) - (2 : Int32)))) (FP.i2d ((p1 &&& (1073741823 : Int32)) + (1 : Int32))))), .second, .val (.int (0 : Int32))] [(.double (FP.ddiv (FP.i2d (((p1 &&& (1073741823 : Int32)) + (1 : Int32)) + ((p2 &&& (3 : Int32)) - (2 : Int32)))) (FP.i2d ((p1 &&& (1073741823 : Int32)) + (1 : Int32)))))])) rfl (by rw [hml]; rfl) (argsL := [(.double (FP.ddiv (FP.i2d (((p1 &&& (1073741823 : Int32)) + (1 : Int32)) + ((p2 &&& (3 : Int32)) - (2 : Int32)))) (FP.i2d ((p1 &&& (1073741823 : Int32)) + (1 : Int32)))))]) (rest := []) (lenOf pd_0_0 rfl) rfl (by show 2 * 0 + _ ≤ _; exact Nat.le_of_eq rfl) (hb hby at_77) (fun _ _ => ⟨rfl, e0, (by decide : 0 + 0 ≤ _), (by decide : 0 + 0 ≤ _)⟩)
        dsimp only [Pt.U, Pt.locs, Pt.cells, Pt.slots] at X6 l6 y6 z6 st6 hQ6
        subst l6 y6 z6
        obtain ⟨rfl, N6q, e6⟩ := hQ6
        have N6 := Fr.app N0 N6q
        refine go st6 ?_
        show G (T6.setTop (mkF m 80 #[.val (.int p1), .val (.int p2), .val (.int p3), .val (.int ((p1 &&& (1073741823 : Int32)) + (1 : Int32))), .val (.int (p3 &&& (3 : Int32))), .val (.int (((p1 &&& (1073741823 : Int32)) + (1 : Int32)) + ((p2 &&& (3 : Int32)) - (2 : Int32)))), .val (.double (FP.ddiv (FP.i2d (((p1 &&& (1073741823 : Int32)) + (1 : Int32)) + ((p2 &&& (3 : Int32)) - (2 : Int32)))) (FP.i2d ((p1 &&& (1073741823 : Int32)) + (1 : Int32))))), .second, .val (.int (0 : Int32))] [(.int (szd (FP.ddiv (FP.i2d (((p1 &&& (1073741823 : Int32)) + (1 : Int32)) + ((p2 &&& (3 : Int32)) - (2 : Int32)))) (FP.i2d ((p1 &&& (1073741823 : Int32)) + (1 : Int32))))))]))
        refine go (fun _ k => XS.iload X6.here hx rfl (hb hby at_80) rfl k) ?_
        show G (T6.setTop (mkF m 82 #[.val (.int p1), .val (.int p2), .val (.int p3), .val (.int ((p1 &&& (1073741823 : Int32)) + (1 : Int32))), .val (.int (p3 &&& (3 : Int32))), .val (.int (((p1 &&& (1073741823 : Int32)) + (1 : Int32)) + ((p2 &&& (3 : Int32)) - (2 : Int32)))), .val (.double (FP.ddiv (FP.i2d (((p1 &&& (1073741823 : Int32)) + (1 : Int32)) + ((p2 &&& (3 : Int32)) - (2 : Int32)))) (FP.i2d ((p1 &&& (1073741823 : Int32)) + (1 : Int32))))), .second, .val (.int (0 : Int32))] [(.int (0 : Int32)), (.int (szd (FP.ddiv (FP.i2d (((p1 &&& (1073741823 : Int32)) + (1 : Int32)) + ((p2 &&& (3 : Int32)) - (2 : Int32)))) (FP.i2d ((p1 &&& (1073741823 : Int32)) + (1 : Int32))))))]))
        have hc7 : (szd (FP.ddiv (FP.i2d (((p1 &&& (1073741823 : Int32)) + (1 : Int32)) + ((p2 &&& (3 : Int32)) - (2 : Int32)))) (FP.i2d ((p1 &&& (1073741823 : Int32)) + (1 : Int32))))) = (0 : Int32) := own_rf2 (own_d _) hc65_3
        refine go (fun _ k => XS.icmpNo X6.here hx rfl (hb hby at_82) rfl (teq hc7).2 k) ?_
        show G (T6.setTop (mkF m 85 #[.val (.int p1), .val (.int p2), .val (.int p3), .val (.int ((p1 &&& (1073741823 : Int32)) + (1 : Int32))), .val (.int (p3 &&& (3 : Int32))), .val (.int (((p1 &&& (1073741823 : Int32)) + (1 : Int32)) + ((p2 &&& (3 : Int32)) - (2 : Int32)))), .val (.double (FP.ddiv (FP.i2d (((p1 &&& (1073741823 : Int32)) + (1 : Int32)) + ((p2 &&& (3 : Int32)) - (2 : Int32)))) (FP.i2d ((p1 &&& (1073741823 : Int32)) + (1 : Int32))))), .second, .val (.int (0 : Int32))] []))
        refine go (fun _ k => XS.iconst X6.here hx rfl (hb hby at_85) k) ?_
        show G (T6.setTop (mkF m 86 #[.val (.int p1), .val (.int p2), .val (.int p3), .val (.int ((p1 &&& (1073741823 : Int32)) + (1 : Int32))), .val (.int (p3 &&& (3 : Int32))), .val (.int (((p1 &&& (1073741823 : Int32)) + (1 : Int32)) + ((p2 &&& (3 : Int32)) - (2 : Int32)))), .val (.double (FP.ddiv (FP.i2d (((p1 &&& (1073741823 : Int32)) + (1 : Int32)) + ((p2 &&& (3 : Int32)) - (2 : Int32)))) (FP.i2d ((p1 &&& (1073741823 : Int32)) + (1 : Int32))))), .second, .val (.int (0 : Int32))] [(.int (1 : Int32))]))
        refine go (fun _ k => XS.goto X6.here hx rfl (pc0 := 86) (pc' := 90) rfl (hb hby at_86) (by decide) (by decide) k) ?_
        show G (T6.setTop (mkF m 90 #[.val (.int p1), .val (.int p2), .val (.int p3), .val (.int ((p1 &&& (1073741823 : Int32)) + (1 : Int32))), .val (.int (p3 &&& (3 : Int32))), .val (.int (((p1 &&& (1073741823 : Int32)) + (1 : Int32)) + ((p2 &&& (3 : Int32)) - (2 : Int32)))), .val (.double (FP.ddiv (FP.i2d (((p1 &&& (1073741823 : Int32)) + (1 : Int32)) + ((p2 &&& (3 : Int32)) - (2 : Int32)))) (FP.i2d ((p1 &&& (1073741823 : Int32)) + (1 : Int32))))), .second, .val (.int (0 : Int32))] [(.int (1 : Int32))]))
        rw [hG]
        refine own_fin X6 Bd.notSynchronized (v := some (.int (1 : Int32))) (fun h => by rw [Bd.returns] at h; cases h) (fun fs hr => retOut X6 hx Bd.returns rfl (by simp [FieldType.isReference, Value.isRef]) (hb hby at_90) hr) ?_ (by decide) (by decide)
        show Q0 Z p1 p2 p3 h0 n0 (some (.int (1 : Int32))) T6.heap _
        rw [e6]
        exact ⟨rfl, N6⟩
    · refine go (fun _ k => XS.ifYes X0.here hx rfl (pc0 := 59) (pc' := 72) rfl (hb hby at_59) rfl ((if0 _ _).trans (flt hc59_2).2.2.2) (by decide) (by decide) k) ?_
      show G (s₁.setTop (mkF m 72 #[.val (.int p1), .val (.int p2), .val (.int p3), .val (.int ((p1 &&& (1073741823 : Int32)) + (1 : Int32))), .val (.int (p3 &&& (3 : Int32))), .val (.int (((p1 &&& (1073741823 : Int32)) + (1 : Int32)) + ((p2 &&& (3 : Int32)) - (2 : Int32)))), .val (.double (FP.ddiv (FP.i2d (((p1 &&& (1073741823 : Int32)) + (1 : Int32)) + ((p2 &&& (3 : Int32)) - (2 : Int32)))) (FP.i2d ((p1 &&& (1073741823 : Int32)) + (1 : Int32))))), .second, .unset] []))
      refine go (fun _ k => XS.iconst X0.here hx rfl (hb hby at_72) k) ?_
      show G (s₁.setTop (mkF m 73 #[.val (.int p1), .val (.int p2), .val (.int p3), .val (.int ((p1 &&& (1073741823 : Int32)) + (1 : Int32))), .val (.int (p3 &&& (3 : Int32))), .val (.int (((p1 &&& (1073741823 : Int32)) + (1 : Int32)) + ((p2 &&& (3 : Int32)) - (2 : Int32)))), .val (.double (FP.ddiv (FP.i2d (((p1 &&& (1073741823 : Int32)) + (1 : Int32)) + ((p2 &&& (3 : Int32)) - (2 : Int32)))) (FP.i2d ((p1 &&& (1073741823 : Int32)) + (1 : Int32))))), .second, .unset] [(.int (0 : Int32))]))
      refine go (fun _ k => XS.istore X0.here hx rfl (hb hby at_73) rfl (l' := #[.val (.int p1), .val (.int p2), .val (.int p3), .val (.int ((p1 &&& (1073741823 : Int32)) + (1 : Int32))), .val (.int (p3 &&& (3 : Int32))), .val (.int (((p1 &&& (1073741823 : Int32)) + (1 : Int32)) + ((p2 &&& (3 : Int32)) - (2 : Int32)))), .val (.double (FP.ddiv (FP.i2d (((p1 &&& (1073741823 : Int32)) + (1 : Int32)) + ((p2 &&& (3 : Int32)) - (2 : Int32)))) (FP.i2d ((p1 &&& (1073741823 : Int32)) + (1 : Int32))))), .second, .val (.int (0 : Int32))]) rfl k) ?_
      show G (s₁.setTop (mkF m 75 #[.val (.int p1), .val (.int p2), .val (.int p3), .val (.int ((p1 &&& (1073741823 : Int32)) + (1 : Int32))), .val (.int (p3 &&& (3 : Int32))), .val (.int (((p1 &&& (1073741823 : Int32)) + (1 : Int32)) + ((p2 &&& (3 : Int32)) - (2 : Int32)))), .val (.double (FP.ddiv (FP.i2d (((p1 &&& (1073741823 : Int32)) + (1 : Int32)) + ((p2 &&& (3 : Int32)) - (2 : Int32)))) (FP.i2d ((p1 &&& (1073741823 : Int32)) + (1 : Int32))))), .second, .val (.int (0 : Int32))] []))
      refine go (fun _ k => XS.dload X0.here hx rfl (hb hby at_75) rfl k) ?_
      show G (s₁.setTop (mkF m 77 #[.val (.int p1), .val (.int p2), .val (.int p3), .val (.int ((p1 &&& (1073741823 : Int32)) + (1 : Int32))), .val (.int (p3 &&& (3 : Int32))), .val (.int (((p1 &&& (1073741823 : Int32)) + (1 : Int32)) + ((p2 &&& (3 : Int32)) - (2 : Int32)))), .val (.double (FP.ddiv (FP.i2d (((p1 &&& (1073741823 : Int32)) + (1 : Int32)) + ((p2 &&& (3 : Int32)) - (2 : Int32)))) (FP.i2d ((p1 &&& (1073741823 : Int32)) + (1 : Int32))))), .second, .val (.int (0 : Int32))] [(.double (FP.ddiv (FP.i2d (((p1 &&& (1073741823 : Int32)) + (1 : Int32)) + ((p2 &&& (3 : Int32)) - (2 : Int32)))) (FP.i2d ((p1 &&& (1073741823 : Int32)) + (1 : Int32)))))]))
      obtain ⟨_, _, ⟨T8, L8, k8, n8⟩, -, X8, ⟨Lc8, hQ8, l8, y8, z8⟩, st8⟩ := Jvm.LawKit.callS X0 hx (y := (⟨"com/example/proset/proset/Sizing", "isSizableRate", "(D)Z"⟩ : MethodName)) hown (mvT hZ (hw _ (List.mem_of_getElem? (i := 1) rfl))) (mvT hZ (hw _ (List.mem_of_getElem? (i := 2) rfl))) (mvT hZ (hw _ (List.mem_of_getElem? (i := 3) rfl))) (mvT hZ (hw _ (List.mem_of_getElem? (i := 4) rfl))) (by decide) (backOf (W := 0) (rm1 l Z a0 hw [] (FP.ddiv (FP.i2d (((p1 &&& (1073741823 : Int32)) + (1 : Int32)) + ((p2 &&& (3 : Int32)) - (2 : Int32)))) (FP.i2d ((p1 &&& (1073741823 : Int32)) + (1 : Int32)))) h0 n0 Z0) hZ (hw _ (List.mem_of_getElem? (i := 4) rfl)) (hw _ (List.mem_of_getElem? (i := 3) rfl)) (by decide) (by decide)) (g := (mkF m 77 #[.val (.int p1), .val (.int p2), .val (.int p3), .val (.int ((p1 &&& (1073741823 : Int32)) + (1 : Int32))), .val (.int (p3 &&& (3 : Int32))), .val (.int (((p1 &&& (1073741823 : Int32)) + (1 : Int32)) + ((p2 &&& (3 : Int32)) - (2 : Int32)))), .val (.double (FP.ddiv (FP.i2d (((p1 &&& (1073741823 : Int32)) + (1 : Int32)) + ((p2 &&& (3 : Int32)) - (2 : Int32)))) (FP.i2d ((p1 &&& (1073741823 : Int32)) + (1 : Int32))))), .second, .val (.int (0 : Int32))] [(.double (FP.ddiv (FP.i2d (((p1 &&& (1073741823 : Int32)) + (1 : Int32)) + ((p2 &&& (3 : Int32)) - (2 : Int32)))) (FP.i2d ((p1 &&& (1073741823 : Int32)) + (1 : Int32)))))])) rfl (by rw [hml]; rfl) (argsL := [(.double (FP.ddiv (FP.i2d (((p1 &&& (1073741823 : Int32)) + (1 : Int32)) + ((p2 &&& (3 : Int32)) - (2 : Int32)))) (FP.i2d ((p1 &&& (1073741823 : Int32)) + (1 : Int32)))))]) (rest := []) (lenOf pd_0_0 rfl) rfl (by show 2 * 0 + _ ≤ _; exact Nat.le_of_eq rfl) (hb hby at_77) (fun _ _ => ⟨rfl, e0, (by decide : 0 + 0 ≤ _), (by decide : 0 + 0 ≤ _)⟩)
      dsimp only [Pt.U, Pt.locs, Pt.cells, Pt.slots] at X8 l8 y8 z8 st8 hQ8
      subst l8 y8 z8
      obtain ⟨rfl, N8q, e8⟩ := hQ8
      have N8 := Fr.app N0 N8q
      refine go st8 ?_
      show G (T8.setTop (mkF m 80 #[.val (.int p1), .val (.int p2), .val (.int p3), .val (.int ((p1 &&& (1073741823 : Int32)) + (1 : Int32))), .val (.int (p3 &&& (3 : Int32))), .val (.int (((p1 &&& (1073741823 : Int32)) + (1 : Int32)) + ((p2 &&& (3 : Int32)) - (2 : Int32)))), .val (.double (FP.ddiv (FP.i2d (((p1 &&& (1073741823 : Int32)) + (1 : Int32)) + ((p2 &&& (3 : Int32)) - (2 : Int32)))) (FP.i2d ((p1 &&& (1073741823 : Int32)) + (1 : Int32))))), .second, .val (.int (0 : Int32))] [(.int (szd (FP.ddiv (FP.i2d (((p1 &&& (1073741823 : Int32)) + (1 : Int32)) + ((p2 &&& (3 : Int32)) - (2 : Int32)))) (FP.i2d ((p1 &&& (1073741823 : Int32)) + (1 : Int32))))))]))
      refine go (fun _ k => XS.iload X8.here hx rfl (hb hby at_80) rfl k) ?_
      show G (T8.setTop (mkF m 82 #[.val (.int p1), .val (.int p2), .val (.int p3), .val (.int ((p1 &&& (1073741823 : Int32)) + (1 : Int32))), .val (.int (p3 &&& (3 : Int32))), .val (.int (((p1 &&& (1073741823 : Int32)) + (1 : Int32)) + ((p2 &&& (3 : Int32)) - (2 : Int32)))), .val (.double (FP.ddiv (FP.i2d (((p1 &&& (1073741823 : Int32)) + (1 : Int32)) + ((p2 &&& (3 : Int32)) - (2 : Int32)))) (FP.i2d ((p1 &&& (1073741823 : Int32)) + (1 : Int32))))), .second, .val (.int (0 : Int32))] [(.int (0 : Int32)), (.int (szd (FP.ddiv (FP.i2d (((p1 &&& (1073741823 : Int32)) + (1 : Int32)) + ((p2 &&& (3 : Int32)) - (2 : Int32)))) (FP.i2d ((p1 &&& (1073741823 : Int32)) + (1 : Int32))))))]))
      have hc9 : (szd (FP.ddiv (FP.i2d (((p1 &&& (1073741823 : Int32)) + (1 : Int32)) + ((p2 &&& (3 : Int32)) - (2 : Int32)))) (FP.i2d ((p1 &&& (1073741823 : Int32)) + (1 : Int32))))) = (0 : Int32) := own_rf1 (own_d _) hc59_2
      refine go (fun _ k => XS.icmpNo X8.here hx rfl (hb hby at_82) rfl (teq hc9).2 k) ?_
      show G (T8.setTop (mkF m 85 #[.val (.int p1), .val (.int p2), .val (.int p3), .val (.int ((p1 &&& (1073741823 : Int32)) + (1 : Int32))), .val (.int (p3 &&& (3 : Int32))), .val (.int (((p1 &&& (1073741823 : Int32)) + (1 : Int32)) + ((p2 &&& (3 : Int32)) - (2 : Int32)))), .val (.double (FP.ddiv (FP.i2d (((p1 &&& (1073741823 : Int32)) + (1 : Int32)) + ((p2 &&& (3 : Int32)) - (2 : Int32)))) (FP.i2d ((p1 &&& (1073741823 : Int32)) + (1 : Int32))))), .second, .val (.int (0 : Int32))] []))
      refine go (fun _ k => XS.iconst X8.here hx rfl (hb hby at_85) k) ?_
      show G (T8.setTop (mkF m 86 #[.val (.int p1), .val (.int p2), .val (.int p3), .val (.int ((p1 &&& (1073741823 : Int32)) + (1 : Int32))), .val (.int (p3 &&& (3 : Int32))), .val (.int (((p1 &&& (1073741823 : Int32)) + (1 : Int32)) + ((p2 &&& (3 : Int32)) - (2 : Int32)))), .val (.double (FP.ddiv (FP.i2d (((p1 &&& (1073741823 : Int32)) + (1 : Int32)) + ((p2 &&& (3 : Int32)) - (2 : Int32)))) (FP.i2d ((p1 &&& (1073741823 : Int32)) + (1 : Int32))))), .second, .val (.int (0 : Int32))] [(.int (1 : Int32))]))
      refine go (fun _ k => XS.goto X8.here hx rfl (pc0 := 86) (pc' := 90) rfl (hb hby at_86) (by decide) (by decide) k) ?_
      show G (T8.setTop (mkF m 90 #[.val (.int p1), .val (.int p2), .val (.int p3), .val (.int ((p1 &&& (1073741823 : Int32)) + (1 : Int32))), .val (.int (p3 &&& (3 : Int32))), .val (.int (((p1 &&& (1073741823 : Int32)) + (1 : Int32)) + ((p2 &&& (3 : Int32)) - (2 : Int32)))), .val (.double (FP.ddiv (FP.i2d (((p1 &&& (1073741823 : Int32)) + (1 : Int32)) + ((p2 &&& (3 : Int32)) - (2 : Int32)))) (FP.i2d ((p1 &&& (1073741823 : Int32)) + (1 : Int32))))), .second, .val (.int (0 : Int32))] [(.int (1 : Int32))]))
      rw [hG]
      refine own_fin X8 Bd.notSynchronized (v := some (.int (1 : Int32))) (fun h => by rw [Bd.returns] at h; cases h) (fun fs hr => retOut X8 hx Bd.returns rfl (by simp [FieldType.isReference, Value.isRef]) (hb hby at_90) hr) ?_ (by decide) (by decide)
      show Q0 Z p1 p2 p3 h0 n0 (some (.int (1 : Int32))) T8.heap _
      rw [e8]
      exact ⟨rfl, N8⟩
  · refine go (fun _ k => XS.icmpYes X0.here hx rfl (pc0 := 15) (pc' := 30) rfl (hb hby at_15) rfl (feq hc15_1).2 (by decide) (by decide) k) ?_
    show G (s₁.setTop (mkF m 30 #[.val (.int p1), .val (.int p2), .val (.int p3), .val (.int ((p1 &&& (1073741823 : Int32)) + (1 : Int32))), .val (.int (p3 &&& (3 : Int32))), .unset, .unset, .unset, .unset] []))
    refine go (fun _ k => XS.iload X0.here hx rfl (hb hby at_30) rfl k) ?_
    show G (s₁.setTop (mkF m 32 #[.val (.int p1), .val (.int p2), .val (.int p3), .val (.int ((p1 &&& (1073741823 : Int32)) + (1 : Int32))), .val (.int (p3 &&& (3 : Int32))), .unset, .unset, .unset, .unset] [(.int (p3 &&& (3 : Int32)))]))
    refine go (fun _ k => XS.iconst X0.here hx rfl (hb hby at_32) k) ?_
    show G (s₁.setTop (mkF m 33 #[.val (.int p1), .val (.int p2), .val (.int p3), .val (.int ((p1 &&& (1073741823 : Int32)) + (1 : Int32))), .val (.int (p3 &&& (3 : Int32))), .unset, .unset, .unset, .unset] [(.int (2 : Int32)), (.int (p3 &&& (3 : Int32)))]))
    by_cases hc33_10 : (p3 &&& (3 : Int32)) = (2 : Int32)
    · refine go (fun _ k => XS.icmpNo X0.here hx rfl (hb hby at_33) rfl (teq hc33_10).2 k) ?_
      show G (s₁.setTop (mkF m 36 #[.val (.int p1), .val (.int p2), .val (.int p3), .val (.int ((p1 &&& (1073741823 : Int32)) + (1 : Int32))), .val (.int (p3 &&& (3 : Int32))), .unset, .unset, .unset, .unset] []))
      refine go (fun _ k => XS.iloadN X0.here hx rfl (hb hby at_36) rfl k) ?_
      show G (s₁.setTop (mkF m 37 #[.val (.int p1), .val (.int p2), .val (.int p3), .val (.int ((p1 &&& (1073741823 : Int32)) + (1 : Int32))), .val (.int (p3 &&& (3 : Int32))), .unset, .unset, .unset, .unset] [(.int p2)]))
      refine go (fun _ k => XS.iconst X0.here hx rfl (hb hby at_37) k) ?_
      show G (s₁.setTop (mkF m 38 #[.val (.int p1), .val (.int p2), .val (.int p3), .val (.int ((p1 &&& (1073741823 : Int32)) + (1 : Int32))), .val (.int (p3 &&& (3 : Int32))), .unset, .unset, .unset, .unset] [(.int (3 : Int32)), (.int p2)]))
      refine go (fun _ k => XS.iand X0.here hx rfl (hb hby at_38) rfl k) ?_
      show G (s₁.setTop (mkF m 39 #[.val (.int p1), .val (.int p2), .val (.int p3), .val (.int ((p1 &&& (1073741823 : Int32)) + (1 : Int32))), .val (.int (p3 &&& (3 : Int32))), .unset, .unset, .unset, .unset] [(.int (p2 &&& (3 : Int32)))]))
      refine go (fun _ k => XS.iconst X0.here hx rfl (hb hby at_39) k) ?_
      show G (s₁.setTop (mkF m 40 #[.val (.int p1), .val (.int p2), .val (.int p3), .val (.int ((p1 &&& (1073741823 : Int32)) + (1 : Int32))), .val (.int (p3 &&& (3 : Int32))), .unset, .unset, .unset, .unset] [(.int (1 : Int32)), (.int (p2 &&& (3 : Int32)))]))
      refine go (fun _ k => XS.isub X0.here hx rfl (hb hby at_40) rfl k) ?_
      show G (s₁.setTop (mkF m 41 #[.val (.int p1), .val (.int p2), .val (.int p3), .val (.int ((p1 &&& (1073741823 : Int32)) + (1 : Int32))), .val (.int (p3 &&& (3 : Int32))), .unset, .unset, .unset, .unset] [(.int ((p2 &&& (3 : Int32)) - (1 : Int32)))]))
      refine go (fun _ k => XS.istore X0.here hx rfl (hb hby at_41) rfl (l' := #[.val (.int p1), .val (.int p2), .val (.int p3), .val (.int ((p1 &&& (1073741823 : Int32)) + (1 : Int32))), .val (.int (p3 &&& (3 : Int32))), .val (.int ((p2 &&& (3 : Int32)) - (1 : Int32))), .unset, .unset, .unset]) rfl k) ?_
      show G (s₁.setTop (mkF m 43 #[.val (.int p1), .val (.int p2), .val (.int p3), .val (.int ((p1 &&& (1073741823 : Int32)) + (1 : Int32))), .val (.int (p3 &&& (3 : Int32))), .val (.int ((p2 &&& (3 : Int32)) - (1 : Int32))), .unset, .unset, .unset] []))
      refine go (fun _ k => XS.goto X0.here hx rfl (pc0 := 43) (pc' := 49) rfl (hb hby at_43) (by decide) (by decide) k) ?_
      show G (s₁.setTop (mkF m 49 #[.val (.int p1), .val (.int p2), .val (.int p3), .val (.int ((p1 &&& (1073741823 : Int32)) + (1 : Int32))), .val (.int (p3 &&& (3 : Int32))), .val (.int ((p2 &&& (3 : Int32)) - (1 : Int32))), .unset, .unset, .unset] []))
      refine go (fun _ k => XS.iload X0.here hx rfl (hb hby at_49) rfl k) ?_
      show G (s₁.setTop (mkF m 51 #[.val (.int p1), .val (.int p2), .val (.int p3), .val (.int ((p1 &&& (1073741823 : Int32)) + (1 : Int32))), .val (.int (p3 &&& (3 : Int32))), .val (.int ((p2 &&& (3 : Int32)) - (1 : Int32))), .unset, .unset, .unset] [(.int ((p2 &&& (3 : Int32)) - (1 : Int32)))]))
      refine go (fun _ k => XS.i2dS X0.here hx rfl (hb hby at_51) rfl (v := (FP.i2d ((p2 &&& (3 : Int32)) - (1 : Int32)))) rfl k) ?_
      show G (s₁.setTop (mkF m 52 #[.val (.int p1), .val (.int p2), .val (.int p3), .val (.int ((p1 &&& (1073741823 : Int32)) + (1 : Int32))), .val (.int (p3 &&& (3 : Int32))), .val (.int ((p2 &&& (3 : Int32)) - (1 : Int32))), .unset, .unset, .unset] [(.double (FP.i2d ((p2 &&& (3 : Int32)) - (1 : Int32))))]))
      refine go (fun _ k => XS.iloadN X0.here hx rfl (hb hby at_52) rfl k) ?_
      show G (s₁.setTop (mkF m 53 #[.val (.int p1), .val (.int p2), .val (.int p3), .val (.int ((p1 &&& (1073741823 : Int32)) + (1 : Int32))), .val (.int (p3 &&& (3 : Int32))), .val (.int ((p2 &&& (3 : Int32)) - (1 : Int32))), .unset, .unset, .unset] [(.int ((p1 &&& (1073741823 : Int32)) + (1 : Int32))), (.double (FP.i2d ((p2 &&& (3 : Int32)) - (1 : Int32))))]))
      refine go (fun _ k => XS.i2dS X0.here hx rfl (hb hby at_53) rfl (v := (FP.i2d ((p1 &&& (1073741823 : Int32)) + (1 : Int32)))) rfl k) ?_
      show G (s₁.setTop (mkF m 54 #[.val (.int p1), .val (.int p2), .val (.int p3), .val (.int ((p1 &&& (1073741823 : Int32)) + (1 : Int32))), .val (.int (p3 &&& (3 : Int32))), .val (.int ((p2 &&& (3 : Int32)) - (1 : Int32))), .unset, .unset, .unset] [(.double (FP.i2d ((p1 &&& (1073741823 : Int32)) + (1 : Int32)))), (.double (FP.i2d ((p2 &&& (3 : Int32)) - (1 : Int32))))]))
      refine go (fun _ k => XS.ddivS X0.here hx rfl (hb hby at_54) rfl (v := (FP.ddiv (FP.i2d ((p2 &&& (3 : Int32)) - (1 : Int32))) (FP.i2d ((p1 &&& (1073741823 : Int32)) + (1 : Int32))))) (own_rnn _ _ (own_d _)) rfl k) ?_
      show G (s₁.setTop (mkF m 55 #[.val (.int p1), .val (.int p2), .val (.int p3), .val (.int ((p1 &&& (1073741823 : Int32)) + (1 : Int32))), .val (.int (p3 &&& (3 : Int32))), .val (.int ((p2 &&& (3 : Int32)) - (1 : Int32))), .unset, .unset, .unset] [(.double (FP.ddiv (FP.i2d ((p2 &&& (3 : Int32)) - (1 : Int32))) (FP.i2d ((p1 &&& (1073741823 : Int32)) + (1 : Int32)))))]))
      refine go (fun _ k => XS.dstore X0.here hx rfl (hb hby at_55) rfl (l' := #[.val (.int p1), .val (.int p2), .val (.int p3), .val (.int ((p1 &&& (1073741823 : Int32)) + (1 : Int32))), .val (.int (p3 &&& (3 : Int32))), .val (.int ((p2 &&& (3 : Int32)) - (1 : Int32))), .val (.double (FP.ddiv (FP.i2d ((p2 &&& (3 : Int32)) - (1 : Int32))) (FP.i2d ((p1 &&& (1073741823 : Int32)) + (1 : Int32))))), .second, .unset]) rfl k) ?_
      show G (s₁.setTop (mkF m 57 #[.val (.int p1), .val (.int p2), .val (.int p3), .val (.int ((p1 &&& (1073741823 : Int32)) + (1 : Int32))), .val (.int (p3 &&& (3 : Int32))), .val (.int ((p2 &&& (3 : Int32)) - (1 : Int32))), .val (.double (FP.ddiv (FP.i2d ((p2 &&& (3 : Int32)) - (1 : Int32))) (FP.i2d ((p1 &&& (1073741823 : Int32)) + (1 : Int32))))), .second, .unset] []))
      refine go (fun _ k => XS.iload X0.here hx rfl (hb hby at_57) rfl k) ?_
      show G (s₁.setTop (mkF m 59 #[.val (.int p1), .val (.int p2), .val (.int p3), .val (.int ((p1 &&& (1073741823 : Int32)) + (1 : Int32))), .val (.int (p3 &&& (3 : Int32))), .val (.int ((p2 &&& (3 : Int32)) - (1 : Int32))), .val (.double (FP.ddiv (FP.i2d ((p2 &&& (3 : Int32)) - (1 : Int32))) (FP.i2d ((p1 &&& (1073741823 : Int32)) + (1 : Int32))))), .second, .unset] [(.int ((p2 &&& (3 : Int32)) - (1 : Int32)))]))
      by_cases hc59_11 : (0 : Int32) < ((p2 &&& (3 : Int32)) - (1 : Int32))
      · refine go (fun _ k => XS.ifNo X0.here hx rfl (hb hby at_59) rfl ((if0 _ _).trans (tlt hc59_11).2.2.2) k) ?_
        show G (s₁.setTop (mkF m 62 #[.val (.int p1), .val (.int p2), .val (.int p3), .val (.int ((p1 &&& (1073741823 : Int32)) + (1 : Int32))), .val (.int (p3 &&& (3 : Int32))), .val (.int ((p2 &&& (3 : Int32)) - (1 : Int32))), .val (.double (FP.ddiv (FP.i2d ((p2 &&& (3 : Int32)) - (1 : Int32))) (FP.i2d ((p1 &&& (1073741823 : Int32)) + (1 : Int32))))), .second, .unset] []))
        refine go (fun _ k => XS.iload X0.here hx rfl (hb hby at_62) rfl k) ?_
        show G (s₁.setTop (mkF m 64 #[.val (.int p1), .val (.int p2), .val (.int p3), .val (.int ((p1 &&& (1073741823 : Int32)) + (1 : Int32))), .val (.int (p3 &&& (3 : Int32))), .val (.int ((p2 &&& (3 : Int32)) - (1 : Int32))), .val (.double (FP.ddiv (FP.i2d ((p2 &&& (3 : Int32)) - (1 : Int32))) (FP.i2d ((p1 &&& (1073741823 : Int32)) + (1 : Int32))))), .second, .unset] [(.int ((p2 &&& (3 : Int32)) - (1 : Int32)))]))
        refine go (fun _ k => XS.iloadN X0.here hx rfl (hb hby at_64) rfl k) ?_
        show G (s₁.setTop (mkF m 65 #[.val (.int p1), .val (.int p2), .val (.int p3), .val (.int ((p1 &&& (1073741823 : Int32)) + (1 : Int32))), .val (.int (p3 &&& (3 : Int32))), .val (.int ((p2 &&& (3 : Int32)) - (1 : Int32))), .val (.double (FP.ddiv (FP.i2d ((p2 &&& (3 : Int32)) - (1 : Int32))) (FP.i2d ((p1 &&& (1073741823 : Int32)) + (1 : Int32))))), .second, .unset] [(.int ((p1 &&& (1073741823 : Int32)) + (1 : Int32))), (.int ((p2 &&& (3 : Int32)) - (1 : Int32)))]))
        by_cases hc65_12 : ((p2 &&& (3 : Int32)) - (1 : Int32)) < ((p1 &&& (1073741823 : Int32)) + (1 : Int32))
        · refine go (fun _ k => XS.icmpNo X0.here hx rfl (hb hby at_65) rfl (tlt hc65_12).2.1 k) ?_
          show G (s₁.setTop (mkF m 68 #[.val (.int p1), .val (.int p2), .val (.int p3), .val (.int ((p1 &&& (1073741823 : Int32)) + (1 : Int32))), .val (.int (p3 &&& (3 : Int32))), .val (.int ((p2 &&& (3 : Int32)) - (1 : Int32))), .val (.double (FP.ddiv (FP.i2d ((p2 &&& (3 : Int32)) - (1 : Int32))) (FP.i2d ((p1 &&& (1073741823 : Int32)) + (1 : Int32))))), .second, .unset] []))
          refine go (fun _ k => XS.iconst X0.here hx rfl (hb hby at_68) k) ?_
          show G (s₁.setTop (mkF m 69 #[.val (.int p1), .val (.int p2), .val (.int p3), .val (.int ((p1 &&& (1073741823 : Int32)) + (1 : Int32))), .val (.int (p3 &&& (3 : Int32))), .val (.int ((p2 &&& (3 : Int32)) - (1 : Int32))), .val (.double (FP.ddiv (FP.i2d ((p2 &&& (3 : Int32)) - (1 : Int32))) (FP.i2d ((p1 &&& (1073741823 : Int32)) + (1 : Int32))))), .second, .unset] [(.int (1 : Int32))]))
          refine go (fun _ k => XS.goto X0.here hx rfl (pc0 := 69) (pc' := 73) rfl (hb hby at_69) (by decide) (by decide) k) ?_
          show G (s₁.setTop (mkF m 73 #[.val (.int p1), .val (.int p2), .val (.int p3), .val (.int ((p1 &&& (1073741823 : Int32)) + (1 : Int32))), .val (.int (p3 &&& (3 : Int32))), .val (.int ((p2 &&& (3 : Int32)) - (1 : Int32))), .val (.double (FP.ddiv (FP.i2d ((p2 &&& (3 : Int32)) - (1 : Int32))) (FP.i2d ((p1 &&& (1073741823 : Int32)) + (1 : Int32))))), .second, .unset] [(.int (1 : Int32))]))
          refine go (fun _ k => XS.istore X0.here hx rfl (hb hby at_73) rfl (l' := #[.val (.int p1), .val (.int p2), .val (.int p3), .val (.int ((p1 &&& (1073741823 : Int32)) + (1 : Int32))), .val (.int (p3 &&& (3 : Int32))), .val (.int ((p2 &&& (3 : Int32)) - (1 : Int32))), .val (.double (FP.ddiv (FP.i2d ((p2 &&& (3 : Int32)) - (1 : Int32))) (FP.i2d ((p1 &&& (1073741823 : Int32)) + (1 : Int32))))), .second, .val (.int (1 : Int32))]) rfl k) ?_
          show G (s₁.setTop (mkF m 75 #[.val (.int p1), .val (.int p2), .val (.int p3), .val (.int ((p1 &&& (1073741823 : Int32)) + (1 : Int32))), .val (.int (p3 &&& (3 : Int32))), .val (.int ((p2 &&& (3 : Int32)) - (1 : Int32))), .val (.double (FP.ddiv (FP.i2d ((p2 &&& (3 : Int32)) - (1 : Int32))) (FP.i2d ((p1 &&& (1073741823 : Int32)) + (1 : Int32))))), .second, .val (.int (1 : Int32))] []))
          refine go (fun _ k => XS.dload X0.here hx rfl (hb hby at_75) rfl k) ?_
          show G (s₁.setTop (mkF m 77 #[.val (.int p1), .val (.int p2), .val (.int p3), .val (.int ((p1 &&& (1073741823 : Int32)) + (1 : Int32))), .val (.int (p3 &&& (3 : Int32))), .val (.int ((p2 &&& (3 : Int32)) - (1 : Int32))), .val (.double (FP.ddiv (FP.i2d ((p2 &&& (3 : Int32)) - (1 : Int32))) (FP.i2d ((p1 &&& (1073741823 : Int32)) + (1 : Int32))))), .second, .val (.int (1 : Int32))] [(.double (FP.ddiv (FP.i2d ((p2 &&& (3 : Int32)) - (1 : Int32))) (FP.i2d ((p1 &&& (1073741823 : Int32)) + (1 : Int32)))))]))
          obtain ⟨_, _, ⟨T13, L13, k13, n13⟩, -, X13, ⟨Lc13, hQ13, l13, y13, z13⟩, st13⟩ := Jvm.LawKit.callS X0 hx (y := (⟨"com/example/proset/proset/Sizing", "isSizableRate", "(D)Z"⟩ : MethodName)) hown (mvT hZ (hw _ (List.mem_of_getElem? (i := 1) rfl))) (mvT hZ (hw _ (List.mem_of_getElem? (i := 2) rfl))) (mvT hZ (hw _ (List.mem_of_getElem? (i := 3) rfl))) (mvT hZ (hw _ (List.mem_of_getElem? (i := 4) rfl))) (by decide) (backOf (W := 0) (rm1 l Z a0 hw [] (FP.ddiv (FP.i2d ((p2 &&& (3 : Int32)) - (1 : Int32))) (FP.i2d ((p1 &&& (1073741823 : Int32)) + (1 : Int32)))) h0 n0 Z0) hZ (hw _ (List.mem_of_getElem? (i := 4) rfl)) (hw _ (List.mem_of_getElem? (i := 3) rfl)) (by decide) (by decide)) (g := (mkF m 77 #[.val (.int p1), .val (.int p2), .val (.int p3), .val (.int ((p1 &&& (1073741823 : Int32)) + (1 : Int32))), .val (.int (p3 &&& (3 : Int32))), .val (.int ((p2 &&& (3 : Int32)) - (1 : Int32))), .val (.double (FP.ddiv (FP.i2d ((p2 &&& (3 : Int32)) - (1 : Int32))) (FP.i2d ((p1 &&& (1073741823 : Int32)) + (1 : Int32))))), .second, .val (.int (1 : Int32))] [(.double (FP.ddiv (FP.i2d ((p2 &&& (3 : Int32)) - (1 : Int32))) (FP.i2d ((p1 &&& (1073741823 : Int32)) + (1 : Int32)))))])) rfl (by rw [hml]; rfl) (argsL := [(.double (FP.ddiv (FP.i2d ((p2 &&& (3 : Int32)) - (1 : Int32))) (FP.i2d ((p1 &&& (1073741823 : Int32)) + (1 : Int32)))))]) (rest := []) (lenOf pd_0_0 rfl) rfl (by show 2 * 0 + _ ≤ _; exact Nat.le_of_eq rfl) (hb hby at_77) (fun _ _ => ⟨rfl, e0, (by decide : 0 + 0 ≤ _), (by decide : 0 + 0 ≤ _)⟩)
          dsimp only [Pt.U, Pt.locs, Pt.cells, Pt.slots] at X13 l13 y13 z13 st13 hQ13
          subst l13 y13 z13
          obtain ⟨rfl, N13q, e13⟩ := hQ13
          have N13 := Fr.app N0 N13q
          refine go st13 ?_
          show G (T13.setTop (mkF m 80 #[.val (.int p1), .val (.int p2), .val (.int p3), .val (.int ((p1 &&& (1073741823 : Int32)) + (1 : Int32))), .val (.int (p3 &&& (3 : Int32))), .val (.int ((p2 &&& (3 : Int32)) - (1 : Int32))), .val (.double (FP.ddiv (FP.i2d ((p2 &&& (3 : Int32)) - (1 : Int32))) (FP.i2d ((p1 &&& (1073741823 : Int32)) + (1 : Int32))))), .second, .val (.int (1 : Int32))] [(.int (szd (FP.ddiv (FP.i2d ((p2 &&& (3 : Int32)) - (1 : Int32))) (FP.i2d ((p1 &&& (1073741823 : Int32)) + (1 : Int32))))))]))
          refine go (fun _ k => XS.iload X13.here hx rfl (hb hby at_80) rfl k) ?_
          show G (T13.setTop (mkF m 82 #[.val (.int p1), .val (.int p2), .val (.int p3), .val (.int ((p1 &&& (1073741823 : Int32)) + (1 : Int32))), .val (.int (p3 &&& (3 : Int32))), .val (.int ((p2 &&& (3 : Int32)) - (1 : Int32))), .val (.double (FP.ddiv (FP.i2d ((p2 &&& (3 : Int32)) - (1 : Int32))) (FP.i2d ((p1 &&& (1073741823 : Int32)) + (1 : Int32))))), .second, .val (.int (1 : Int32))] [(.int (1 : Int32)), (.int (szd (FP.ddiv (FP.i2d ((p2 &&& (3 : Int32)) - (1 : Int32))) (FP.i2d ((p1 &&& (1073741823 : Int32)) + (1 : Int32))))))]))
          have hc14 : (szd (FP.ddiv (FP.i2d ((p2 &&& (3 : Int32)) - (1 : Int32))) (FP.i2d ((p1 &&& (1073741823 : Int32)) + (1 : Int32))))) = (1 : Int32) := own_rt (own_d _) hc59_11 hc65_12
          refine go (fun _ k => XS.icmpNo X13.here hx rfl (hb hby at_82) rfl (teq hc14).2 k) ?_
          show G (T13.setTop (mkF m 85 #[.val (.int p1), .val (.int p2), .val (.int p3), .val (.int ((p1 &&& (1073741823 : Int32)) + (1 : Int32))), .val (.int (p3 &&& (3 : Int32))), .val (.int ((p2 &&& (3 : Int32)) - (1 : Int32))), .val (.double (FP.ddiv (FP.i2d ((p2 &&& (3 : Int32)) - (1 : Int32))) (FP.i2d ((p1 &&& (1073741823 : Int32)) + (1 : Int32))))), .second, .val (.int (1 : Int32))] []))
          refine go (fun _ k => XS.iconst X13.here hx rfl (hb hby at_85) k) ?_
          show G (T13.setTop (mkF m 86 #[.val (.int p1), .val (.int p2), .val (.int p3), .val (.int ((p1 &&& (1073741823 : Int32)) + (1 : Int32))), .val (.int (p3 &&& (3 : Int32))), .val (.int ((p2 &&& (3 : Int32)) - (1 : Int32))), .val (.double (FP.ddiv (FP.i2d ((p2 &&& (3 : Int32)) - (1 : Int32))) (FP.i2d ((p1 &&& (1073741823 : Int32)) + (1 : Int32))))), .second, .val (.int (1 : Int32))] [(.int (1 : Int32))]))
          refine go (fun _ k => XS.goto X13.here hx rfl (pc0 := 86) (pc' := 90) rfl (hb hby at_86) (by decide) (by decide) k) ?_
          show G (T13.setTop (mkF m 90 #[.val (.int p1), .val (.int p2), .val (.int p3), .val (.int ((p1 &&& (1073741823 : Int32)) + (1 : Int32))), .val (.int (p3 &&& (3 : Int32))), .val (.int ((p2 &&& (3 : Int32)) - (1 : Int32))), .val (.double (FP.ddiv (FP.i2d ((p2 &&& (3 : Int32)) - (1 : Int32))) (FP.i2d ((p1 &&& (1073741823 : Int32)) + (1 : Int32))))), .second, .val (.int (1 : Int32))] [(.int (1 : Int32))]))
          rw [hG]
          refine own_fin X13 Bd.notSynchronized (v := some (.int (1 : Int32))) (fun h => by rw [Bd.returns] at h; cases h) (fun fs hr => retOut X13 hx Bd.returns rfl (by simp [FieldType.isReference, Value.isRef]) (hb hby at_90) hr) ?_ (by decide) (by decide)
          show Q0 Z p1 p2 p3 h0 n0 (some (.int (1 : Int32))) T13.heap _
          rw [e13]
          exact ⟨rfl, N13⟩
        · refine go (fun _ k => XS.icmpYes X0.here hx rfl (pc0 := 65) (pc' := 72) rfl (hb hby at_65) rfl (flt hc65_12).2.1 (by decide) (by decide) k) ?_
          show G (s₁.setTop (mkF m 72 #[.val (.int p1), .val (.int p2), .val (.int p3), .val (.int ((p1 &&& (1073741823 : Int32)) + (1 : Int32))), .val (.int (p3 &&& (3 : Int32))), .val (.int ((p2 &&& (3 : Int32)) - (1 : Int32))), .val (.double (FP.ddiv (FP.i2d ((p2 &&& (3 : Int32)) - (1 : Int32))) (FP.i2d ((p1 &&& (1073741823 : Int32)) + (1 : Int32))))), .second, .unset] []))
          refine go (fun _ k => XS.iconst X0.here hx rfl (hb hby at_72) k) ?_
          show G (s₁.setTop (mkF m 73 #[.val (.int p1), .val (.int p2), .val (.int p3), .val (.int ((p1 &&& (1073741823 : Int32)) + (1 : Int32))), .val (.int (p3 &&& (3 : Int32))), .val (.int ((p2 &&& (3 : Int32)) - (1 : Int32))), .val (.double (FP.ddiv (FP.i2d ((p2 &&& (3 : Int32)) - (1 : Int32))) (FP.i2d ((p1 &&& (1073741823 : Int32)) + (1 : Int32))))), .second, .unset] [(.int (0 : Int32))]))
          refine go (fun _ k => XS.istore X0.here hx rfl (hb hby at_73) rfl (l' := #[.val (.int p1), .val (.int p2), .val (.int p3), .val (.int ((p1 &&& (1073741823 : Int32)) + (1 : Int32))), .val (.int (p3 &&& (3 : Int32))), .val (.int ((p2 &&& (3 : Int32)) - (1 : Int32))), .val (.double (FP.ddiv (FP.i2d ((p2 &&& (3 : Int32)) - (1 : Int32))) (FP.i2d ((p1 &&& (1073741823 : Int32)) + (1 : Int32))))), .second, .val (.int (0 : Int32))]) rfl k) ?_
          show G (s₁.setTop (mkF m 75 #[.val (.int p1), .val (.int p2), .val (.int p3), .val (.int ((p1 &&& (1073741823 : Int32)) + (1 : Int32))), .val (.int (p3 &&& (3 : Int32))), .val (.int ((p2 &&& (3 : Int32)) - (1 : Int32))), .val (.double (FP.ddiv (FP.i2d ((p2 &&& (3 : Int32)) - (1 : Int32))) (FP.i2d ((p1 &&& (1073741823 : Int32)) + (1 : Int32))))), .second, .val (.int (0 : Int32))] []))
          refine go (fun _ k => XS.dload X0.here hx rfl (hb hby at_75) rfl k) ?_
          show G (s₁.setTop (mkF m 77 #[.val (.int p1), .val (.int p2), .val (.int p3), .val (.int ((p1 &&& (1073741823 : Int32)) + (1 : Int32))), .val (.int (p3 &&& (3 : Int32))), .val (.int ((p2 &&& (3 : Int32)) - (1 : Int32))), .val (.double (FP.ddiv (FP.i2d ((p2 &&& (3 : Int32)) - (1 : Int32))) (FP.i2d ((p1 &&& (1073741823 : Int32)) + (1 : Int32))))), .second, .val (.int (0 : Int32))] [(.double (FP.ddiv (FP.i2d ((p2 &&& (3 : Int32)) - (1 : Int32))) (FP.i2d ((p1 &&& (1073741823 : Int32)) + (1 : Int32)))))]))
          obtain ⟨_, _, ⟨T15, L15, k15, n15⟩, -, X15, ⟨Lc15, hQ15, l15, y15, z15⟩, st15⟩ := Jvm.LawKit.callS X0 hx (y := (⟨"com/example/proset/proset/Sizing", "isSizableRate", "(D)Z"⟩ : MethodName)) hown (mvT hZ (hw _ (List.mem_of_getElem? (i := 1) rfl))) (mvT hZ (hw _ (List.mem_of_getElem? (i := 2) rfl))) (mvT hZ (hw _ (List.mem_of_getElem? (i := 3) rfl))) (mvT hZ (hw _ (List.mem_of_getElem? (i := 4) rfl))) (by decide) (backOf (W := 0) (rm1 l Z a0 hw [] (FP.ddiv (FP.i2d ((p2 &&& (3 : Int32)) - (1 : Int32))) (FP.i2d ((p1 &&& (1073741823 : Int32)) + (1 : Int32)))) h0 n0 Z0) hZ (hw _ (List.mem_of_getElem? (i := 4) rfl)) (hw _ (List.mem_of_getElem? (i := 3) rfl)) (by decide) (by decide)) (g := (mkF m 77 #[.val (.int p1), .val (.int p2), .val (.int p3), .val (.int ((p1 &&& (1073741823 : Int32)) + (1 : Int32))), .val (.int (p3 &&& (3 : Int32))), .val (.int ((p2 &&& (3 : Int32)) - (1 : Int32))), .val (.double (FP.ddiv (FP.i2d ((p2 &&& (3 : Int32)) - (1 : Int32))) (FP.i2d ((p1 &&& (1073741823 : Int32)) + (1 : Int32))))), .second, .val (.int (0 : Int32))] [(.double (FP.ddiv (FP.i2d ((p2 &&& (3 : Int32)) - (1 : Int32))) (FP.i2d ((p1 &&& (1073741823 : Int32)) + (1 : Int32)))))])) rfl (by rw [hml]; rfl) (argsL := [(.double (FP.ddiv (FP.i2d ((p2 &&& (3 : Int32)) - (1 : Int32))) (FP.i2d ((p1 &&& (1073741823 : Int32)) + (1 : Int32)))))]) (rest := []) (lenOf pd_0_0 rfl) rfl (by show 2 * 0 + _ ≤ _; exact Nat.le_of_eq rfl) (hb hby at_77) (fun _ _ => ⟨rfl, e0, (by decide : 0 + 0 ≤ _), (by decide : 0 + 0 ≤ _)⟩)
          dsimp only [Pt.U, Pt.locs, Pt.cells, Pt.slots] at X15 l15 y15 z15 st15 hQ15
          subst l15 y15 z15
          obtain ⟨rfl, N15q, e15⟩ := hQ15
          have N15 := Fr.app N0 N15q
          refine go st15 ?_
          show G (T15.setTop (mkF m 80 #[.val (.int p1), .val (.int p2), .val (.int p3), .val (.int ((p1 &&& (1073741823 : Int32)) + (1 : Int32))), .val (.int (p3 &&& (3 : Int32))), .val (.int ((p2 &&& (3 : Int32)) - (1 : Int32))), .val (.double (FP.ddiv (FP.i2d ((p2 &&& (3 : Int32)) - (1 : Int32))) (FP.i2d ((p1 &&& (1073741823 : Int32)) + (1 : Int32))))), .second, .val (.int (0 : Int32))] [(.int (szd (FP.ddiv (FP.i2d ((p2 &&& (3 : Int32)) - (1 : Int32))) (FP.i2d ((p1 &&& (1073741823 : Int32)) + (1 : Int32))))))]))
          refine go (fun _ k => XS.iload X15.here hx rfl (hb hby at_80) rfl k) ?_
          show G (T15.setTop (mkF m 82 #[.val (.int p1), .val (.int p2), .val (.int p3), .val (.int ((p1 &&& (1073741823 : Int32)) + (1 : Int32))), .val (.int (p3 &&& (3 : Int32))), .val (.int ((p2 &&& (3 : Int32)) - (1 : Int32))), .val (.double (FP.ddiv (FP.i2d ((p2 &&& (3 : Int32)) - (1 : Int32))) (FP.i2d ((p1 &&& (1073741823 : Int32)) + (1 : Int32))))), .second, .val (.int (0 : Int32))] [(.int (0 : Int32)), (.int (szd (FP.ddiv (FP.i2d ((p2 &&& (3 : Int32)) - (1 : Int32))) (FP.i2d ((p1 &&& (1073741823 : Int32)) + (1 : Int32))))))]))
          have hc16 : (szd (FP.ddiv (FP.i2d ((p2 &&& (3 : Int32)) - (1 : Int32))) (FP.i2d ((p1 &&& (1073741823 : Int32)) + (1 : Int32))))) = (0 : Int32) := own_rf2 (own_d _) hc65_12
          refine go (fun _ k => XS.icmpNo X15.here hx rfl (hb hby at_82) rfl (teq hc16).2 k) ?_
          show G (T15.setTop (mkF m 85 #[.val (.int p1), .val (.int p2), .val (.int p3), .val (.int ((p1 &&& (1073741823 : Int32)) + (1 : Int32))), .val (.int (p3 &&& (3 : Int32))), .val (.int ((p2 &&& (3 : Int32)) - (1 : Int32))), .val (.double (FP.ddiv (FP.i2d ((p2 &&& (3 : Int32)) - (1 : Int32))) (FP.i2d ((p1 &&& (1073741823 : Int32)) + (1 : Int32))))), .second, .val (.int (0 : Int32))] []))
          refine go (fun _ k => XS.iconst X15.here hx rfl (hb hby at_85) k) ?_
          show G (T15.setTop (mkF m 86 #[.val (.int p1), .val (.int p2), .val (.int p3), .val (.int ((p1 &&& (1073741823 : Int32)) + (1 : Int32))), .val (.int (p3 &&& (3 : Int32))), .val (.int ((p2 &&& (3 : Int32)) - (1 : Int32))), .val (.double (FP.ddiv (FP.i2d ((p2 &&& (3 : Int32)) - (1 : Int32))) (FP.i2d ((p1 &&& (1073741823 : Int32)) + (1 : Int32))))), .second, .val (.int (0 : Int32))] [(.int (1 : Int32))]))
          refine go (fun _ k => XS.goto X15.here hx rfl (pc0 := 86) (pc' := 90) rfl (hb hby at_86) (by decide) (by decide) k) ?_
          show G (T15.setTop (mkF m 90 #[.val (.int p1), .val (.int p2), .val (.int p3), .val (.int ((p1 &&& (1073741823 : Int32)) + (1 : Int32))), .val (.int (p3 &&& (3 : Int32))), .val (.int ((p2 &&& (3 : Int32)) - (1 : Int32))), .val (.double (FP.ddiv (FP.i2d ((p2 &&& (3 : Int32)) - (1 : Int32))) (FP.i2d ((p1 &&& (1073741823 : Int32)) + (1 : Int32))))), .second, .val (.int (0 : Int32))] [(.int (1 : Int32))]))
          rw [hG]
          refine own_fin X15 Bd.notSynchronized (v := some (.int (1 : Int32))) (fun h => by rw [Bd.returns] at h; cases h) (fun fs hr => retOut X15 hx Bd.returns rfl (by simp [FieldType.isReference, Value.isRef]) (hb hby at_90) hr) ?_ (by decide) (by decide)
          show Q0 Z p1 p2 p3 h0 n0 (some (.int (1 : Int32))) T15.heap _
          rw [e15]
          exact ⟨rfl, N15⟩
      · refine go (fun _ k => XS.ifYes X0.here hx rfl (pc0 := 59) (pc' := 72) rfl (hb hby at_59) rfl ((if0 _ _).trans (flt hc59_11).2.2.2) (by decide) (by decide) k) ?_
        show G (s₁.setTop (mkF m 72 #[.val (.int p1), .val (.int p2), .val (.int p3), .val (.int ((p1 &&& (1073741823 : Int32)) + (1 : Int32))), .val (.int (p3 &&& (3 : Int32))), .val (.int ((p2 &&& (3 : Int32)) - (1 : Int32))), .val (.double (FP.ddiv (FP.i2d ((p2 &&& (3 : Int32)) - (1 : Int32))) (FP.i2d ((p1 &&& (1073741823 : Int32)) + (1 : Int32))))), .second, .unset] []))
        refine go (fun _ k => XS.iconst X0.here hx rfl (hb hby at_72) k) ?_
        show G (s₁.setTop (mkF m 73 #[.val (.int p1), .val (.int p2), .val (.int p3), .val (.int ((p1 &&& (1073741823 : Int32)) + (1 : Int32))), .val (.int (p3 &&& (3 : Int32))), .val (.int ((p2 &&& (3 : Int32)) - (1 : Int32))), .val (.double (FP.ddiv (FP.i2d ((p2 &&& (3 : Int32)) - (1 : Int32))) (FP.i2d ((p1 &&& (1073741823 : Int32)) + (1 : Int32))))), .second, .unset] [(.int (0 : Int32))]))
        refine go (fun _ k => XS.istore X0.here hx rfl (hb hby at_73) rfl (l' := #[.val (.int p1), .val (.int p2), .val (.int p3), .val (.int ((p1 &&& (1073741823 : Int32)) + (1 : Int32))), .val (.int (p3 &&& (3 : Int32))), .val (.int ((p2 &&& (3 : Int32)) - (1 : Int32))), .val (.double (FP.ddiv (FP.i2d ((p2 &&& (3 : Int32)) - (1 : Int32))) (FP.i2d ((p1 &&& (1073741823 : Int32)) + (1 : Int32))))), .second, .val (.int (0 : Int32))]) rfl k) ?_
        show G (s₁.setTop (mkF m 75 #[.val (.int p1), .val (.int p2), .val (.int p3), .val (.int ((p1 &&& (1073741823 : Int32)) + (1 : Int32))), .val (.int (p3 &&& (3 : Int32))), .val (.int ((p2 &&& (3 : Int32)) - (1 : Int32))), .val (.double (FP.ddiv (FP.i2d ((p2 &&& (3 : Int32)) - (1 : Int32))) (FP.i2d ((p1 &&& (1073741823 : Int32)) + (1 : Int32))))), .second, .val (.int (0 : Int32))] []))
        refine go (fun _ k => XS.dload X0.here hx rfl (hb hby at_75) rfl k) ?_
        show G (s₁.setTop (mkF m 77 #[.val (.int p1), .val (.int p2), .val (.int p3), .val (.int ((p1 &&& (1073741823 : Int32)) + (1 : Int32))), .val (.int (p3 &&& (3 : Int32))), .val (.int ((p2 &&& (3 : Int32)) - (1 : Int32))), .val (.double (FP.ddiv (FP.i2d ((p2 &&& (3 : Int32)) - (1 : Int32))) (FP.i2d ((p1 &&& (1073741823 : Int32)) + (1 : Int32))))), .second, .val (.int (0 : Int32))] [(.double (FP.ddiv (FP.i2d ((p2 &&& (3 : Int32)) - (1 : Int32))) (FP.i2d ((p1 &&& (1073741823 : Int32)) + (1 : Int32)))))]))
        obtain ⟨_, _, ⟨T17, L17, k17, n17⟩, -, X17, ⟨Lc17, hQ17, l17, y17, z17⟩, st17⟩ := Jvm.LawKit.callS X0 hx (y := (⟨"com/example/proset/proset/Sizing", "isSizableRate", "(D)Z"⟩ : MethodName)) hown (mvT hZ (hw _ (List.mem_of_getElem? (i := 1) rfl))) (mvT hZ (hw _ (List.mem_of_getElem? (i := 2) rfl))) (mvT hZ (hw _ (List.mem_of_getElem? (i := 3) rfl))) (mvT hZ (hw _ (List.mem_of_getElem? (i := 4) rfl))) (by decide) (backOf (W := 0) (rm1 l Z a0 hw [] (FP.ddiv (FP.i2d ((p2 &&& (3 : Int32)) - (1 : Int32))) (FP.i2d ((p1 &&& (1073741823 : Int32)) + (1 : Int32)))) h0 n0 Z0) hZ (hw _ (List.mem_of_getElem? (i := 4) rfl)) (hw _ (List.mem_of_getElem? (i := 3) rfl)) (by decide) (by decide)) (g := (mkF m 77 #[.val (.int p1), .val (.int p2), .val (.int p3), .val (.int ((p1 &&& (1073741823 : Int32)) + (1 : Int32))), .val (.int (p3 &&& (3 : Int32))), .val (.int ((p2 &&& (3 : Int32)) - (1 : Int32))), .val (.double (FP.ddiv (FP.i2d ((p2 &&& (3 : Int32)) - (1 : Int32))) (FP.i2d ((p1 &&& (1073741823 : Int32)) + (1 : Int32))))), .second, .val (.int (0 : Int32))] [(.double (FP.ddiv (FP.i2d ((p2 &&& (3 : Int32)) - (1 : Int32))) (FP.i2d ((p1 &&& (1073741823 : Int32)) + (1 : Int32)))))])) rfl (by rw [hml]; rfl) (argsL := [(.double (FP.ddiv (FP.i2d ((p2 &&& (3 : Int32)) - (1 : Int32))) (FP.i2d ((p1 &&& (1073741823 : Int32)) + (1 : Int32)))))]) (rest := []) (lenOf pd_0_0 rfl) rfl (by show 2 * 0 + _ ≤ _; exact Nat.le_of_eq rfl) (hb hby at_77) (fun _ _ => ⟨rfl, e0, (by decide : 0 + 0 ≤ _), (by decide : 0 + 0 ≤ _)⟩)
        dsimp only [Pt.U, Pt.locs, Pt.cells, Pt.slots] at X17 l17 y17 z17 st17 hQ17
        subst l17 y17 z17
        obtain ⟨rfl, N17q, e17⟩ := hQ17
        have N17 := Fr.app N0 N17q
        refine go st17 ?_
        show G (T17.setTop (mkF m 80 #[.val (.int p1), .val (.int p2), .val (.int p3), .val (.int ((p1 &&& (1073741823 : Int32)) + (1 : Int32))), .val (.int (p3 &&& (3 : Int32))), .val (.int ((p2 &&& (3 : Int32)) - (1 : Int32))), .val (.double (FP.ddiv (FP.i2d ((p2 &&& (3 : Int32)) - (1 : Int32))) (FP.i2d ((p1 &&& (1073741823 : Int32)) + (1 : Int32))))), .second, .val (.int (0 : Int32))] [(.int (szd (FP.ddiv (FP.i2d ((p2 &&& (3 : Int32)) - (1 : Int32))) (FP.i2d ((p1 &&& (1073741823 : Int32)) + (1 : Int32))))))]))
        refine go (fun _ k => XS.iload X17.here hx rfl (hb hby at_80) rfl k) ?_
        show G (T17.setTop (mkF m 82 #[.val (.int p1), .val (.int p2), .val (.int p3), .val (.int ((p1 &&& (1073741823 : Int32)) + (1 : Int32))), .val (.int (p3 &&& (3 : Int32))), .val (.int ((p2 &&& (3 : Int32)) - (1 : Int32))), .val (.double (FP.ddiv (FP.i2d ((p2 &&& (3 : Int32)) - (1 : Int32))) (FP.i2d ((p1 &&& (1073741823 : Int32)) + (1 : Int32))))), .second, .val (.int (0 : Int32))] [(.int (0 : Int32)), (.int (szd (FP.ddiv (FP.i2d ((p2 &&& (3 : Int32)) - (1 : Int32))) (FP.i2d ((p1 &&& (1073741823 : Int32)) + (1 : Int32))))))]))
        have hc18 : (szd (FP.ddiv (FP.i2d ((p2 &&& (3 : Int32)) - (1 : Int32))) (FP.i2d ((p1 &&& (1073741823 : Int32)) + (1 : Int32))))) = (0 : Int32) := own_rf1 (own_d _) hc59_11
        refine go (fun _ k => XS.icmpNo X17.here hx rfl (hb hby at_82) rfl (teq hc18).2 k) ?_
        show G (T17.setTop (mkF m 85 #[.val (.int p1), .val (.int p2), .val (.int p3), .val (.int ((p1 &&& (1073741823 : Int32)) + (1 : Int32))), .val (.int (p3 &&& (3 : Int32))), .val (.int ((p2 &&& (3 : Int32)) - (1 : Int32))), .val (.double (FP.ddiv (FP.i2d ((p2 &&& (3 : Int32)) - (1 : Int32))) (FP.i2d ((p1 &&& (1073741823 : Int32)) + (1 : Int32))))), .second, .val (.int (0 : Int32))] []))
        refine go (fun _ k => XS.iconst X17.here hx rfl (hb hby at_85) k) ?_
        show G (T17.setTop (mkF m 86 #[.val (.int p1), .val (.int p2), .val (.int p3), .val (.int ((p1 &&& (1073741823 : Int32)) + (1 : Int32))), .val (.int (p3 &&& (3 : Int32))), .val (.int ((p2 &&& (3 : Int32)) - (1 : Int32))), .val (.double (FP.ddiv (FP.i2d ((p2 &&& (3 : Int32)) - (1 : Int32))) (FP.i2d ((p1 &&& (1073741823 : Int32)) + (1 : Int32))))), .second, .val (.int (0 : Int32))] [(.int (1 : Int32))]))
        refine go (fun _ k => XS.goto X17.here hx rfl (pc0 := 86) (pc' := 90) rfl (hb hby at_86) (by decide) (by decide) k) ?_
        show G (T17.setTop (mkF m 90 #[.val (.int p1), .val (.int p2), .val (.int p3), .val (.int ((p1 &&& (1073741823 : Int32)) + (1 : Int32))), .val (.int (p3 &&& (3 : Int32))), .val (.int ((p2 &&& (3 : Int32)) - (1 : Int32))), .val (.double (FP.ddiv (FP.i2d ((p2 &&& (3 : Int32)) - (1 : Int32))) (FP.i2d ((p1 &&& (1073741823 : Int32)) + (1 : Int32))))), .second, .val (.int (0 : Int32))] [(.int (1 : Int32))]))
        rw [hG]
        refine own_fin X17 Bd.notSynchronized (v := some (.int (1 : Int32))) (fun h => by rw [Bd.returns] at h; cases h) (fun fs hr => retOut X17 hx Bd.returns rfl (by simp [FieldType.isReference, Value.isRef]) (hb hby at_90) hr) ?_ (by decide) (by decide)
        show Q0 Z p1 p2 p3 h0 n0 (some (.int (1 : Int32))) T17.heap _
        rw [e17]
        exact ⟨rfl, N17⟩
    · refine go (fun _ k => XS.icmpYes X0.here hx rfl (pc0 := 33) (pc' := 46) rfl (hb hby at_33) rfl (feq hc33_10).2 (by decide) (by decide) k) ?_
      show G (s₁.setTop (mkF m 46 #[.val (.int p1), .val (.int p2), .val (.int p3), .val (.int ((p1 &&& (1073741823 : Int32)) + (1 : Int32))), .val (.int (p3 &&& (3 : Int32))), .unset, .unset, .unset, .unset] []))
      refine go (fun _ k => XS.iloadN X0.here hx rfl (hb hby at_46) rfl k) ?_
      show G (s₁.setTop (mkF m 47 #[.val (.int p1), .val (.int p2), .val (.int p3), .val (.int ((p1 &&& (1073741823 : Int32)) + (1 : Int32))), .val (.int (p3 &&& (3 : Int32))), .unset, .unset, .unset, .unset] [(.int p2)]))
      refine go (fun _ k => XS.istore X0.here hx rfl (hb hby at_47) rfl (l' := #[.val (.int p1), .val (.int p2), .val (.int p3), .val (.int ((p1 &&& (1073741823 : Int32)) + (1 : Int32))), .val (.int (p3 &&& (3 : Int32))), .val (.int p2), .unset, .unset, .unset]) rfl k) ?_
      show G (s₁.setTop (mkF m 49 #[.val (.int p1), .val (.int p2), .val (.int p3), .val (.int ((p1 &&& (1073741823 : Int32)) + (1 : Int32))), .val (.int (p3 &&& (3 : Int32))), .val (.int p2), .unset, .unset, .unset] []))
      refine go (fun _ k => XS.iload X0.here hx rfl (hb hby at_49) rfl k) ?_
      show G (s₁.setTop (mkF m 51 #[.val (.int p1), .val (.int p2), .val (.int p3), .val (.int ((p1 &&& (1073741823 : Int32)) + (1 : Int32))), .val (.int (p3 &&& (3 : Int32))), .val (.int p2), .unset, .unset, .unset] [(.int p2)]))
      refine go (fun _ k => XS.i2dS X0.here hx rfl (hb hby at_51) rfl (v := (FP.i2d p2)) rfl k) ?_
      show G (s₁.setTop (mkF m 52 #[.val (.int p1), .val (.int p2), .val (.int p3), .val (.int ((p1 &&& (1073741823 : Int32)) + (1 : Int32))), .val (.int (p3 &&& (3 : Int32))), .val (.int p2), .unset, .unset, .unset] [(.double (FP.i2d p2))]))
      refine go (fun _ k => XS.iloadN X0.here hx rfl (hb hby at_52) rfl k) ?_
      show G (s₁.setTop (mkF m 53 #[.val (.int p1), .val (.int p2), .val (.int p3), .val (.int ((p1 &&& (1073741823 : Int32)) + (1 : Int32))), .val (.int (p3 &&& (3 : Int32))), .val (.int p2), .unset, .unset, .unset] [(.int ((p1 &&& (1073741823 : Int32)) + (1 : Int32))), (.double (FP.i2d p2))]))
      refine go (fun _ k => XS.i2dS X0.here hx rfl (hb hby at_53) rfl (v := (FP.i2d ((p1 &&& (1073741823 : Int32)) + (1 : Int32)))) rfl k) ?_
      show G (s₁.setTop (mkF m 54 #[.val (.int p1), .val (.int p2), .val (.int p3), .val (.int ((p1 &&& (1073741823 : Int32)) + (1 : Int32))), .val (.int (p3 &&& (3 : Int32))), .val (.int p2), .unset, .unset, .unset] [(.double (FP.i2d ((p1 &&& (1073741823 : Int32)) + (1 : Int32)))), (.double (FP.i2d p2))]))
      refine go (fun _ k => XS.ddivS X0.here hx rfl (hb hby at_54) rfl (v := (FP.ddiv (FP.i2d p2) (FP.i2d ((p1 &&& (1073741823 : Int32)) + (1 : Int32))))) (own_rnn _ _ (own_d _)) rfl k) ?_
      show G (s₁.setTop (mkF m 55 #[.val (.int p1), .val (.int p2), .val (.int p3), .val (.int ((p1 &&& (1073741823 : Int32)) + (1 : Int32))), .val (.int (p3 &&& (3 : Int32))), .val (.int p2), .unset, .unset, .unset] [(.double (FP.ddiv (FP.i2d p2) (FP.i2d ((p1 &&& (1073741823 : Int32)) + (1 : Int32)))))]))
      refine go (fun _ k => XS.dstore X0.here hx rfl (hb hby at_55) rfl (l' := #[.val (.int p1), .val (.int p2), .val (.int p3), .val (.int ((p1 &&& (1073741823 : Int32)) + (1 : Int32))), .val (.int (p3 &&& (3 : Int32))), .val (.int p2), .val (.double (FP.ddiv (FP.i2d p2) (FP.i2d ((p1 &&& (1073741823 : Int32)) + (1 : Int32))))), .second, .unset]) rfl k) ?_
      show G (s₁.setTop (mkF m 57 #[.val (.int p1), .val (.int p2), .val (.int p3), .val (.int ((p1 &&& (1073741823 : Int32)) + (1 : Int32))), .val (.int (p3 &&& (3 : Int32))), .val (.int p2), .val (.double (FP.ddiv (FP.i2d p2) (FP.i2d ((p1 &&& (1073741823 : Int32)) + (1 : Int32))))), .second, .unset] []))
      refine go (fun _ k => XS.iload X0.here hx rfl (hb hby at_57) rfl k) ?_
      show G (s₁.setTop (mkF m 59 #[.val (.int p1), .val (.int p2), .val (.int p3), .val (.int ((p1 &&& (1073741823 : Int32)) + (1 : Int32))), .val (.int (p3 &&& (3 : Int32))), .val (.int p2), .val (.double (FP.ddiv (FP.i2d p2) (FP.i2d ((p1 &&& (1073741823 : Int32)) + (1 : Int32))))), .second, .unset] [(.int p2)]))
      by_cases hc59_19 : (0 : Int32) < p2
      · refine go (fun _ k => XS.ifNo X0.here hx rfl (hb hby at_59) rfl ((if0 _ _).trans (tlt hc59_19).2.2.2) k) ?_
        show G (s₁.setTop (mkF m 62 #[.val (.int p1), .val (.int p2), .val (.int p3), .val (.int ((p1 &&& (1073741823 : Int32)) + (1 : Int32))), .val (.int (p3 &&& (3 : Int32))), .val (.int p2), .val (.double (FP.ddiv (FP.i2d p2) (FP.i2d ((p1 &&& (1073741823 : Int32)) + (1 : Int32))))), .second, .unset] []))
        refine go (fun _ k => XS.iload X0.here hx rfl (hb hby at_62) rfl k) ?_
        show G (s₁.setTop (mkF m 64 #[.val (.int p1), .val (.int p2), .val (.int p3), .val (.int ((p1 &&& (1073741823 : Int32)) + (1 : Int32))), .val (.int (p3 &&& (3 : Int32))), .val (.int p2), .val (.double (FP.ddiv (FP.i2d p2) (FP.i2d ((p1 &&& (1073741823 : Int32)) + (1 : Int32))))), .second, .unset] [(.int p2)]))
        refine go (fun _ k => XS.iloadN X0.here hx rfl (hb hby at_64) rfl k) ?_
        show G (s₁.setTop (mkF m 65 #[.val (.int p1), .val (.int p2), .val (.int p3), .val (.int ((p1 &&& (1073741823 : Int32)) + (1 : Int32))), .val (.int (p3 &&& (3 : Int32))), .val (.int p2), .val (.double (FP.ddiv (FP.i2d p2) (FP.i2d ((p1 &&& (1073741823 : Int32)) + (1 : Int32))))), .second, .unset] [(.int ((p1 &&& (1073741823 : Int32)) + (1 : Int32))), (.int p2)]))
        by_cases hc65_20 : p2 < ((p1 &&& (1073741823 : Int32)) + (1 : Int32))
        · refine go (fun _ k => XS.icmpNo X0.here hx rfl (hb hby at_65) rfl (tlt hc65_20).2.1 k) ?_
          show G (s₁.setTop (mkF m 68 #[.val (.int p1), .val (.int p2), .val (.int p3), .val (.int ((p1 &&& (1073741823 : Int32)) + (1 : Int32))), .val (.int (p3 &&& (3 : Int32))), .val (.int p2), .val (.double (FP.ddiv (FP.i2d p2) (FP.i2d ((p1 &&& (1073741823 : Int32)) + (1 : Int32))))), .second, .unset] []))
          refine go (fun _ k => XS.iconst X0.here hx rfl (hb hby at_68) k) ?_
          show G (s₁.setTop (mkF m 69 #[.val (.int p1), .val (.int p2), .val (.int p3), .val (.int ((p1 &&& (1073741823 : Int32)) + (1 : Int32))), .val (.int (p3 &&& (3 : Int32))), .val (.int p2), .val (.double (FP.ddiv (FP.i2d p2) (FP.i2d ((p1 &&& (1073741823 : Int32)) + (1 : Int32))))), .second, .unset] [(.int (1 : Int32))]))
          refine go (fun _ k => XS.goto X0.here hx rfl (pc0 := 69) (pc' := 73) rfl (hb hby at_69) (by decide) (by decide) k) ?_
          show G (s₁.setTop (mkF m 73 #[.val (.int p1), .val (.int p2), .val (.int p3), .val (.int ((p1 &&& (1073741823 : Int32)) + (1 : Int32))), .val (.int (p3 &&& (3 : Int32))), .val (.int p2), .val (.double (FP.ddiv (FP.i2d p2) (FP.i2d ((p1 &&& (1073741823 : Int32)) + (1 : Int32))))), .second, .unset] [(.int (1 : Int32))]))
          refine go (fun _ k => XS.istore X0.here hx rfl (hb hby at_73) rfl (l' := #[.val (.int p1), .val (.int p2), .val (.int p3), .val (.int ((p1 &&& (1073741823 : Int32)) + (1 : Int32))), .val (.int (p3 &&& (3 : Int32))), .val (.int p2), .val (.double (FP.ddiv (FP.i2d p2) (FP.i2d ((p1 &&& (1073741823 : Int32)) + (1 : Int32))))), .second, .val (.int (1 : Int32))]) rfl k) ?_
          show G (s₁.setTop (mkF m 75 #[.val (.int p1), .val (.int p2), .val (.int p3), .val (.int ((p1 &&& (1073741823 : Int32)) + (1 : Int32))), .val (.int (p3 &&& (3 : Int32))), .val (.int p2), .val (.double (FP.ddiv (FP.i2d p2) (FP.i2d ((p1 &&& (1073741823 : Int32)) + (1 : Int32))))), .second, .val (.int (1 : Int32))] []))
          refine go (fun _ k => XS.dload X0.here hx rfl (hb hby at_75) rfl k) ?_
          show G (s₁.setTop (mkF m 77 #[.val (.int p1), .val (.int p2), .val (.int p3), .val (.int ((p1 &&& (1073741823 : Int32)) + (1 : Int32))), .val (.int (p3 &&& (3 : Int32))), .val (.int p2), .val (.double (FP.ddiv (FP.i2d p2) (FP.i2d ((p1 &&& (1073741823 : Int32)) + (1 : Int32))))), .second, .val (.int (1 : Int32))] [(.double (FP.ddiv (FP.i2d p2) (FP.i2d ((p1 &&& (1073741823 : Int32)) + (1 : Int32)))))]))
          obtain ⟨_, _, ⟨T21, L21, k21, n21⟩, -, X21, ⟨Lc21, hQ21, l21, y21, z21⟩, st21⟩ := Jvm.LawKit.callS X0 hx (y := (⟨"com/example/proset/proset/Sizing", "isSizableRate", "(D)Z"⟩ : MethodName)) hown (mvT hZ (hw _ (List.mem_of_getElem? (i := 1) rfl))) (mvT hZ (hw _ (List.mem_of_getElem? (i := 2) rfl))) (mvT hZ (hw _ (List.mem_of_getElem? (i := 3) rfl))) (mvT hZ (hw _ (List.mem_of_getElem? (i := 4) rfl))) (by decide) (backOf (W := 0) (rm1 l Z a0 hw [] (FP.ddiv (FP.i2d p2) (FP.i2d ((p1 &&& (1073741823 : Int32)) + (1 : Int32)))) h0 n0 Z0) hZ (hw _ (List.mem_of_getElem? (i := 4) rfl)) (hw _ (List.mem_of_getElem? (i := 3) rfl)) (by decide) (by decide)) (g := (mkF m 77 #[.val (.int p1), .val (.int p2), .val (.int p3), .val (.int ((p1 &&& (1073741823 : Int32)) + (1 : Int32))), .val (.int (p3 &&& (3 : Int32))), .val (.int p2), .val (.double (FP.ddiv (FP.i2d p2) (FP.i2d ((p1 &&& (1073741823 : Int32)) + (1 : Int32))))), .second, .val (.int (1 : Int32))] [(.double (FP.ddiv (FP.i2d p2) (FP.i2d ((p1 &&& (1073741823 : Int32)) + (1 : Int32)))))])) rfl (by rw [hml]; rfl) (argsL := [(.double (FP.ddiv (FP.i2d p2) (FP.i2d ((p1 &&& (1073741823 : Int32)) + (1 : Int32)))))]) (rest := []) (lenOf pd_0_0 rfl) rfl (by show 2 * 0 + _ ≤ _; exact Nat.le_of_eq rfl) (hb hby at_77) (fun _ _ => ⟨rfl, e0, (by decide : 0 + 0 ≤ _), (by decide : 0 + 0 ≤ _)⟩)
          dsimp only [Pt.U, Pt.locs, Pt.cells, Pt.slots] at X21 l21 y21 z21 st21 hQ21
          subst l21 y21 z21
          obtain ⟨rfl, N21q, e21⟩ := hQ21
          have N21 := Fr.app N0 N21q
          refine go st21 ?_
          show G (T21.setTop (mkF m 80 #[.val (.int p1), .val (.int p2), .val (.int p3), .val (.int ((p1 &&& (1073741823 : Int32)) + (1 : Int32))), .val (.int (p3 &&& (3 : Int32))), .val (.int p2), .val (.double (FP.ddiv (FP.i2d p2) (FP.i2d ((p1 &&& (1073741823 : Int32)) + (1 : Int32))))), .second, .val (.int (1 : Int32))] [(.int (szd (FP.ddiv (FP.i2d p2) (FP.i2d ((p1 &&& (1073741823 : Int32)) + (1 : Int32))))))]))
          refine go (fun _ k => XS.iload X21.here hx rfl (hb hby at_80) rfl k) ?_
          show G (T21.setTop (mkF m 82 #[.val (.int p1), .val (.int p2), .val (.int p3), .val (.int ((p1 &&& (1073741823 : Int32)) + (1 : Int32))), .val (.int (p3 &&& (3 : Int32))), .val (.int p2), .val (.double (FP.ddiv (FP.i2d p2) (FP.i2d ((p1 &&& (1073741823 : Int32)) + (1 : Int32))))), .second, .val (.int (1 : Int32))] [(.int (1 : Int32)), (.int (szd (FP.ddiv (FP.i2d p2) (FP.i2d ((p1 &&& (1073741823 : Int32)) + (1 : Int32))))))]))
          have hc22 : (szd (FP.ddiv (FP.i2d p2) (FP.i2d ((p1 &&& (1073741823 : Int32)) + (1 : Int32))))) = (1 : Int32) := own_rt (own_d _) hc59_19 hc65_20
          refine go (fun _ k => XS.icmpNo X21.here hx rfl (hb hby at_82) rfl (teq hc22).2 k) ?_
          show G (T21.setTop (mkF m 85 #[.val (.int p1), .val (.int p2), .val (.int p3), .val (.int ((p1 &&& (1073741823 : Int32)) + (1 : Int32))), .val (.int (p3 &&& (3 : Int32))), .val (.int p2), .val (.double (FP.ddiv (FP.i2d p2) (FP.i2d ((p1 &&& (1073741823 : Int32)) + (1 : Int32))))), .second, .val (.int (1 : Int32))] []))
          refine go (fun _ k => XS.iconst X21.here hx rfl (hb hby at_85) k) ?_
          show G (T21.setTop (mkF m 86 #[.val (.int p1), .val (.int p2), .val (.int p3), .val (.int ((p1 &&& (1073741823 : Int32)) + (1 : Int32))), .val (.int (p3 &&& (3 : Int32))), .val (.int p2), .val (.double (FP.ddiv (FP.i2d p2) (FP.i2d ((p1 &&& (1073741823 : Int32)) + (1 : Int32))))), .second, .val (.int (1 : Int32))] [(.int (1 : Int32))]))
          refine go (fun _ k => XS.goto X21.here hx rfl (pc0 := 86) (pc' := 90) rfl (hb hby at_86) (by decide) (by decide) k) ?_
          show G (T21.setTop (mkF m 90 #[.val (.int p1), .val (.int p2), .val (.int p3), .val (.int ((p1 &&& (1073741823 : Int32)) + (1 : Int32))), .val (.int (p3 &&& (3 : Int32))), .val (.int p2), .val (.double (FP.ddiv (FP.i2d p2) (FP.i2d ((p1 &&& (1073741823 : Int32)) + (1 : Int32))))), .second, .val (.int (1 : Int32))] [(.int (1 : Int32))]))
          rw [hG]
          refine own_fin X21 Bd.notSynchronized (v := some (.int (1 : Int32))) (fun h => by rw [Bd.returns] at h; cases h) (fun fs hr => retOut X21 hx Bd.returns rfl (by simp [FieldType.isReference, Value.isRef]) (hb hby at_90) hr) ?_ (by decide) (by decide)
          show Q0 Z p1 p2 p3 h0 n0 (some (.int (1 : Int32))) T21.heap _
          rw [e21]
          exact ⟨rfl, N21⟩
        · refine go (fun _ k => XS.icmpYes X0.here hx rfl (pc0 := 65) (pc' := 72) rfl (hb hby at_65) rfl (flt hc65_20).2.1 (by decide) (by decide) k) ?_
          show G (s₁.setTop (mkF m 72 #[.val (.int p1), .val (.int p2), .val (.int p3), .val (.int ((p1 &&& (1073741823 : Int32)) + (1 : Int32))), .val (.int (p3 &&& (3 : Int32))), .val (.int p2), .val (.double (FP.ddiv (FP.i2d p2) (FP.i2d ((p1 &&& (1073741823 : Int32)) + (1 : Int32))))), .second, .unset] []))
          refine go (fun _ k => XS.iconst X0.here hx rfl (hb hby at_72) k) ?_
          show G (s₁.setTop (mkF m 73 #[.val (.int p1), .val (.int p2), .val (.int p3), .val (.int ((p1 &&& (1073741823 : Int32)) + (1 : Int32))), .val (.int (p3 &&& (3 : Int32))), .val (.int p2), .val (.double (FP.ddiv (FP.i2d p2) (FP.i2d ((p1 &&& (1073741823 : Int32)) + (1 : Int32))))), .second, .unset] [(.int (0 : Int32))]))
          refine go (fun _ k => XS.istore X0.here hx rfl (hb hby at_73) rfl (l' := #[.val (.int p1), .val (.int p2), .val (.int p3), .val (.int ((p1 &&& (1073741823 : Int32)) + (1 : Int32))), .val (.int (p3 &&& (3 : Int32))), .val (.int p2), .val (.double (FP.ddiv (FP.i2d p2) (FP.i2d ((p1 &&& (1073741823 : Int32)) + (1 : Int32))))), .second, .val (.int (0 : Int32))]) rfl k) ?_
          show G (s₁.setTop (mkF m 75 #[.val (.int p1), .val (.int p2), .val (.int p3), .val (.int ((p1 &&& (1073741823 : Int32)) + (1 : Int32))), .val (.int (p3 &&& (3 : Int32))), .val (.int p2), .val (.double (FP.ddiv (FP.i2d p2) (FP.i2d ((p1 &&& (1073741823 : Int32)) + (1 : Int32))))), .second, .val (.int (0 : Int32))] []))
          refine go (fun _ k => XS.dload X0.here hx rfl (hb hby at_75) rfl k) ?_
          show G (s₁.setTop (mkF m 77 #[.val (.int p1), .val (.int p2), .val (.int p3), .val (.int ((p1 &&& (1073741823 : Int32)) + (1 : Int32))), .val (.int (p3 &&& (3 : Int32))), .val (.int p2), .val (.double (FP.ddiv (FP.i2d p2) (FP.i2d ((p1 &&& (1073741823 : Int32)) + (1 : Int32))))), .second, .val (.int (0 : Int32))] [(.double (FP.ddiv (FP.i2d p2) (FP.i2d ((p1 &&& (1073741823 : Int32)) + (1 : Int32)))))]))
          obtain ⟨_, _, ⟨T23, L23, k23, n23⟩, -, X23, ⟨Lc23, hQ23, l23, y23, z23⟩, st23⟩ := Jvm.LawKit.callS X0 hx (y := (⟨"com/example/proset/proset/Sizing", "isSizableRate", "(D)Z"⟩ : MethodName)) hown (mvT hZ (hw _ (List.mem_of_getElem? (i := 1) rfl))) (mvT hZ (hw _ (List.mem_of_getElem? (i := 2) rfl))) (mvT hZ (hw _ (List.mem_of_getElem? (i := 3) rfl))) (mvT hZ (hw _ (List.mem_of_getElem? (i := 4) rfl))) (by decide) (backOf (W := 0) (rm1 l Z a0 hw [] (FP.ddiv (FP.i2d p2) (FP.i2d ((p1 &&& (1073741823 : Int32)) + (1 : Int32)))) h0 n0 Z0) hZ (hw _ (List.mem_of_getElem? (i := 4) rfl)) (hw _ (List.mem_of_getElem? (i := 3) rfl)) (by decide) (by decide)) (g := (mkF m 77 #[.val (.int p1), .val (.int p2), .val (.int p3), .val (.int ((p1 &&& (1073741823 : Int32)) + (1 : Int32))), .val (.int (p3 &&& (3 : Int32))), .val (.int p2), .val (.double (FP.ddiv (FP.i2d p2) (FP.i2d ((p1 &&& (1073741823 : Int32)) + (1 : Int32))))), .second, .val (.int (0 : Int32))] [(.double (FP.ddiv (FP.i2d p2) (FP.i2d ((p1 &&& (1073741823 : Int32)) + (1 : Int32)))))])) rfl (by rw [hml]; rfl) (argsL := [(.double (FP.ddiv (FP.i2d p2) (FP.i2d ((p1 &&& (1073741823 : Int32)) + (1 : Int32)))))]) (rest := []) (lenOf pd_0_0 rfl) rfl (by show 2 * 0 + _ ≤ _; exact Nat.le_of_eq rfl) (hb hby at_77) (fun _ _ => ⟨rfl, e0, (by decide : 0 + 0 ≤ _), (by decide : 0 + 0 ≤ _)⟩)
          dsimp only [Pt.U, Pt.locs, Pt.cells, Pt.slots] at X23 l23 y23 z23 st23 hQ23
          subst l23 y23 z23
          obtain ⟨rfl, N23q, e23⟩ := hQ23
          have N23 := Fr.app N0 N23q
          refine go st23 ?_
          show G (T23.setTop (mkF m 80 #[.val (.int p1), .val (.int p2), .val (.int p3), .val (.int ((p1 &&& (1073741823 : Int32)) + (1 : Int32))), .val (.int (p3 &&& (3 : Int32))), .val (.int p2), .val (.double (FP.ddiv (FP.i2d p2) (FP.i2d ((p1 &&& (1073741823 : Int32)) + (1 : Int32))))), .second, .val (.int (0 : Int32))] [(.int (szd (FP.ddiv (FP.i2d p2) (FP.i2d ((p1 &&& (1073741823 : Int32)) + (1 : Int32))))))]))
          refine go (fun _ k => XS.iload X23.here hx rfl (hb hby at_80) rfl k) ?_
          show G (T23.setTop (mkF m 82 #[.val (.int p1), .val (.int p2), .val (.int p3), .val (.int ((p1 &&& (1073741823 : Int32)) + (1 : Int32))), .val (.int (p3 &&& (3 : Int32))), .val (.int p2), .val (.double (FP.ddiv (FP.i2d p2) (FP.i2d ((p1 &&& (1073741823 : Int32)) + (1 : Int32))))), .second, .val (.int (0 : Int32))] [(.int (0 : Int32)), (.int (szd (FP.ddiv (FP.i2d p2) (FP.i2d ((p1 &&& (1073741823 : Int32)) + (1 : Int32))))))]))
          have hc24 : (szd (FP.ddiv (FP.i2d p2) (FP.i2d ((p1 &&& (1073741823 : Int32)) + (1 : Int32))))) = (0 : Int32) := own_rf2 (own_d _) hc65_20
          refine go (fun _ k => XS.icmpNo X23.here hx rfl (hb hby at_82) rfl (teq hc24).2 k) ?_
          show G (T23.setTop (mkF m 85 #[.val (.int p1), .val (.int p2), .val (.int p3), .val (.int ((p1 &&& (1073741823 : Int32)) + (1 : Int32))), .val (.int (p3 &&& (3 : Int32))), .val (.int p2), .val (.double (FP.ddiv (FP.i2d p2) (FP.i2d ((p1 &&& (1073741823 : Int32)) + (1 : Int32))))), .second, .val (.int (0 : Int32))] []))
          refine go (fun _ k => XS.iconst X23.here hx rfl (hb hby at_85) k) ?_
          show G (T23.setTop (mkF m 86 #[.val (.int p1), .val (.int p2), .val (.int p3), .val (.int ((p1 &&& (1073741823 : Int32)) + (1 : Int32))), .val (.int (p3 &&& (3 : Int32))), .val (.int p2), .val (.double (FP.ddiv (FP.i2d p2) (FP.i2d ((p1 &&& (1073741823 : Int32)) + (1 : Int32))))), .second, .val (.int (0 : Int32))] [(.int (1 : Int32))]))
          refine go (fun _ k => XS.goto X23.here hx rfl (pc0 := 86) (pc' := 90) rfl (hb hby at_86) (by decide) (by decide) k) ?_
          show G (T23.setTop (mkF m 90 #[.val (.int p1), .val (.int p2), .val (.int p3), .val (.int ((p1 &&& (1073741823 : Int32)) + (1 : Int32))), .val (.int (p3 &&& (3 : Int32))), .val (.int p2), .val (.double (FP.ddiv (FP.i2d p2) (FP.i2d ((p1 &&& (1073741823 : Int32)) + (1 : Int32))))), .second, .val (.int (0 : Int32))] [(.int (1 : Int32))]))
          rw [hG]
          refine own_fin X23 Bd.notSynchronized (v := some (.int (1 : Int32))) (fun h => by rw [Bd.returns] at h; cases h) (fun fs hr => retOut X23 hx Bd.returns rfl (by simp [FieldType.isReference, Value.isRef]) (hb hby at_90) hr) ?_ (by decide) (by decide)
          show Q0 Z p1 p2 p3 h0 n0 (some (.int (1 : Int32))) T23.heap _
          rw [e23]
          exact ⟨rfl, N23⟩
      · refine go (fun _ k => XS.ifYes X0.here hx rfl (pc0 := 59) (pc' := 72) rfl (hb hby at_59) rfl ((if0 _ _).trans (flt hc59_19).2.2.2) (by decide) (by decide) k) ?_
        show G (s₁.setTop (mkF m 72 #[.val (.int p1), .val (.int p2), .val (.int p3), .val (.int ((p1 &&& (1073741823 : Int32)) + (1 : Int32))), .val (.int (p3 &&& (3 : Int32))), .val (.int p2), .val (.double (FP.ddiv (FP.i2d p2) (FP.i2d ((p1 &&& (1073741823 : Int32)) + (1 : Int32))))), .second, .unset] []))
        refine go (fun _ k => XS.iconst X0.here hx rfl (hb hby at_72) k) ?_
        show G (s₁.setTop (mkF m 73 #[.val (.int p1), .val (.int p2), .val (.int p3), .val (.int ((p1 &&& (1073741823 : Int32)) + (1 : Int32))), .val (.int (p3 &&& (3 : Int32))), .val (.int p2), .val (.double (FP.ddiv (FP.i2d p2) (FP.i2d ((p1 &&& (1073741823 : Int32)) + (1 : Int32))))), .second, .unset] [(.int (0 : Int32))]))
        refine go (fun _ k => XS.istore X0.here hx rfl (hb hby at_73) rfl (l' := #[.val (.int p1), .val (.int p2), .val (.int p3), .val (.int ((p1 &&& (1073741823 : Int32)) + (1 : Int32))), .val (.int (p3 &&& (3 : Int32))), .val (.int p2), .val (.double (FP.ddiv (FP.i2d p2) (FP.i2d ((p1 &&& (1073741823 : Int32)) + (1 : Int32))))), .second, .val (.int (0 : Int32))]) rfl k) ?_
        show G (s₁.setTop (mkF m 75 #[.val (.int p1), .val (.int p2), .val (.int p3), .val (.int ((p1 &&& (1073741823 : Int32)) + (1 : Int32))), .val (.int (p3 &&& (3 : Int32))), .val (.int p2), .val (.double (FP.ddiv (FP.i2d p2) (FP.i2d ((p1 &&& (1073741823 : Int32)) + (1 : Int32))))), .second, .val (.int (0 : Int32))] []))
        refine go (fun _ k => XS.dload X0.here hx rfl (hb hby at_75) rfl k) ?_
        show G (s₁.setTop (mkF m 77 #[.val (.int p1), .val (.int p2), .val (.int p3), .val (.int ((p1 &&& (1073741823 : Int32)) + (1 : Int32))), .val (.int (p3 &&& (3 : Int32))), .val (.int p2), .val (.double (FP.ddiv (FP.i2d p2) (FP.i2d ((p1 &&& (1073741823 : Int32)) + (1 : Int32))))), .second, .val (.int (0 : Int32))] [(.double (FP.ddiv (FP.i2d p2) (FP.i2d ((p1 &&& (1073741823 : Int32)) + (1 : Int32)))))]))
        obtain ⟨_, _, ⟨T25, L25, k25, n25⟩, -, X25, ⟨Lc25, hQ25, l25, y25, z25⟩, st25⟩ := Jvm.LawKit.callS X0 hx (y := (⟨"com/example/proset/proset/Sizing", "isSizableRate", "(D)Z"⟩ : MethodName)) hown (mvT hZ (hw _ (List.mem_of_getElem? (i := 1) rfl))) (mvT hZ (hw _ (List.mem_of_getElem? (i := 2) rfl))) (mvT hZ (hw _ (List.mem_of_getElem? (i := 3) rfl))) (mvT hZ (hw _ (List.mem_of_getElem? (i := 4) rfl))) (by decide) (backOf (W := 0) (rm1 l Z a0 hw [] (FP.ddiv (FP.i2d p2) (FP.i2d ((p1 &&& (1073741823 : Int32)) + (1 : Int32)))) h0 n0 Z0) hZ (hw _ (List.mem_of_getElem? (i := 4) rfl)) (hw _ (List.mem_of_getElem? (i := 3) rfl)) (by decide) (by decide)) (g := (mkF m 77 #[.val (.int p1), .val (.int p2), .val (.int p3), .val (.int ((p1 &&& (1073741823 : Int32)) + (1 : Int32))), .val (.int (p3 &&& (3 : Int32))), .val (.int p2), .val (.double (FP.ddiv (FP.i2d p2) (FP.i2d ((p1 &&& (1073741823 : Int32)) + (1 : Int32))))), .second, .val (.int (0 : Int32))] [(.double (FP.ddiv (FP.i2d p2) (FP.i2d ((p1 &&& (1073741823 : Int32)) + (1 : Int32)))))])) rfl (by rw [hml]; rfl) (argsL := [(.double (FP.ddiv (FP.i2d p2) (FP.i2d ((p1 &&& (1073741823 : Int32)) + (1 : Int32)))))]) (rest := []) (lenOf pd_0_0 rfl) rfl (by show 2 * 0 + _ ≤ _; exact Nat.le_of_eq rfl) (hb hby at_77) (fun _ _ => ⟨rfl, e0, (by decide : 0 + 0 ≤ _), (by decide : 0 + 0 ≤ _)⟩)
        dsimp only [Pt.U, Pt.locs, Pt.cells, Pt.slots] at X25 l25 y25 z25 st25 hQ25
        subst l25 y25 z25
        obtain ⟨rfl, N25q, e25⟩ := hQ25
        have N25 := Fr.app N0 N25q
        refine go st25 ?_
        show G (T25.setTop (mkF m 80 #[.val (.int p1), .val (.int p2), .val (.int p3), .val (.int ((p1 &&& (1073741823 : Int32)) + (1 : Int32))), .val (.int (p3 &&& (3 : Int32))), .val (.int p2), .val (.double (FP.ddiv (FP.i2d p2) (FP.i2d ((p1 &&& (1073741823 : Int32)) + (1 : Int32))))), .second, .val (.int (0 : Int32))] [(.int (szd (FP.ddiv (FP.i2d p2) (FP.i2d ((p1 &&& (1073741823 : Int32)) + (1 : Int32))))))]))
        refine go (fun _ k => XS.iload X25.here hx rfl (hb hby at_80) rfl k) ?_
        show G (T25.setTop (mkF m 82 #[.val (.int p1), .val (.int p2), .val (.int p3), .val (.int ((p1 &&& (1073741823 : Int32)) + (1 : Int32))), .val (.int (p3 &&& (3 : Int32))), .val (.int p2), .val (.double (FP.ddiv (FP.i2d p2) (FP.i2d ((p1 &&& (1073741823 : Int32)) + (1 : Int32))))), .second, .val (.int (0 : Int32))] [(.int (0 : Int32)), (.int (szd (FP.ddiv (FP.i2d p2) (FP.i2d ((p1 &&& (1073741823 : Int32)) + (1 : Int32))))))]))
        have hc26 : (szd (FP.ddiv (FP.i2d p2) (FP.i2d ((p1 &&& (1073741823 : Int32)) + (1 : Int32))))) = (0 : Int32) := own_rf1 (own_d _) hc59_19
        refine go (fun _ k => XS.icmpNo X25.here hx rfl (hb hby at_82) rfl (teq hc26).2 k) ?_
        show G (T25.setTop (mkF m 85 #[.val (.int p1), .val (.int p2), .val (.int p3), .val (.int ((p1 &&& (1073741823 : Int32)) + (1 : Int32))), .val (.int (p3 &&& (3 : Int32))), .val (.int p2), .val (.double (FP.ddiv (FP.i2d p2) (FP.i2d ((p1 &&& (1073741823 : Int32)) + (1 : Int32))))), .second, .val (.int (0 : Int32))] []))
        refine go (fun _ k => XS.iconst X25.here hx rfl (hb hby at_85) k) ?_
        show G (T25.setTop (mkF m 86 #[.val (.int p1), .val (.int p2), .val (.int p3), .val (.int ((p1 &&& (1073741823 : Int32)) + (1 : Int32))), .val (.int (p3 &&& (3 : Int32))), .val (.int p2), .val (.double (FP.ddiv (FP.i2d p2) (FP.i2d ((p1 &&& (1073741823 : Int32)) + (1 : Int32))))), .second, .val (.int (0 : Int32))] [(.int (1 : Int32))]))
        refine go (fun _ k => XS.goto X25.here hx rfl (pc0 := 86) (pc' := 90) rfl (hb hby at_86) (by decide) (by decide) k) ?_
        show G (T25.setTop (mkF m 90 #[.val (.int p1), .val (.int p2), .val (.int p3), .val (.int ((p1 &&& (1073741823 : Int32)) + (1 : Int32))), .val (.int (p3 &&& (3 : Int32))), .val (.int p2), .val (.double (FP.ddiv (FP.i2d p2) (FP.i2d ((p1 &&& (1073741823 : Int32)) + (1 : Int32))))), .second, .val (.int (0 : Int32))] [(.int (1 : Int32))]))
        rw [hG]
        refine own_fin X25 Bd.notSynchronized (v := some (.int (1 : Int32))) (fun h => by rw [Bd.returns] at h; cases h) (fun fs hr => retOut X25 hx Bd.returns rfl (by simp [FieldType.isReference, Value.isRef]) (hb hby at_90) hr) ?_ (by decide) (by decide)
        show Q0 Z p1 p2 p3 h0 n0 (some (.int (1 : Int32))) T25.heap _
        rw [e25]
        exact ⟨rfl, N25⟩

set_option maxRecDepth 65536 in
set_option maxHeartbeats 40000000 in
theorem comes_1 {Post : Tables → Env → Array Value → State → Outcome → State → Prop} (hpost : ∀ tb e args s v u, (limb_1_1.after args s (.returned v) u = true ∧ limb_1_2.after args s (.returned v) u = true ∧ True) → FrameEnd s (.returned v) u (Jvm.fieldLocs frame_1_writes args s ++ Jvm.arrayLocs frame_1_arrays args s ++ Jvm.staticLocs frame_1_statics s) 0 0 → Post tb e args s (.returned v) u) :
    ArmFor flags0 classFile x code maxLocals ret World_1 tables_1 room_1 Calls_1 rest_1 Pre_1 Post := by
  intro l hfl _ _ p e ha hc hk s m args below hf hA hF happ hP
  obtain ⟨hcalls, hrest, hpre⟩ := hP
  obtain ⟨-, -, -, hnamed, -, -, -, hat⟩ := (Spec.applies_iff hf).mp happ
  obtain ⟨hg, hn⟩ := and_e (Cond.before_iff.mp (show (Jvm.Cond.and given_1 narrow_1).before args s = true from hpre))
  obtain ⟨g2, g3⟩ := and_e hg
  obtain ⟨g4, g5⟩ := and_e g3
  obtain ⟨g6, g7⟩ := and_e g5
  obtain ⟨w0, w1, w2, rfl⟩ : ∃ w0 w1 w2 : Value, args = #[w0, w1, w2] := by
    have hs : args.size = 3 := by simpa [Cond.value, given_1] using g2
    obtain ⟨L⟩ := args
    match L, hs with
    | [w0, w1, w2], _ => exact ⟨w0, w1, w2, rfl⟩
  have hw := fun d (hd : d ∈ tables_1) => atoms_spec (ws := Jvm.Cond.code x code maxLocals ret :: tables_1) hat d (List.mem_cons_of_mem _ hd)
  have hfit : Fit s := fun {y c} hc i hi => by
    obtain ⟨ha, rfl⟩ := Array.getElem?_eq_some_iff.mp hc
    have q := List.all_eq_true.mp ((Array.all_eq_true_iff_forall_mem.mp hF) _ (Array.getElem_mem ha)) i (List.mem_range.mpr hi)
    simpa [Array.getElem?_eq_getElem hi] using q
  obtain ⟨i0, ei0⟩ := is_v g4
  obtain rfl : w0 = (.int i0) := Option.some.inj ei0
  obtain ⟨i1, ei1⟩ := is_v g6
  obtain rfl : w1 = (.int i1) := Option.some.inj ei1
  obtain ⟨i2, ei2⟩ := is_v g7
  obtain rfl : w2 = (.int i2) := Option.some.inj ei2
  obtain ⟨n, o, h1, h2, h3, _, L, rfl, ⟨rfl, N⟩, hq⟩ := rm0 l s _ hw tables_1 i0 i1 i2 s.heap s.heap.size (Nat.le_refl _)  p e ha hc hk s m _ below hf ((Spec.applies_iff_loose hf).mp happ).1 ⟨rfl, State.Warmed39.refl s, rfl⟩ trivial
  refine ⟨n, _, h1, h2, h3, hpost _ _ _ _ _ _ ⟨Cond.after_iff.mpr rfl, Cond.after_iff.mpr (eq_i res_at (Term.int_eval (1)) rfl), trivial⟩ ⟨hq.1, hq.2.1, (hq.2.2.sift fun y hy => Or.inr (N y hy)).mono (by decide) (by decide)⟩⟩
theorem main_1_1 : Claimed_1_1 := comes_1 fun _ _ _ _ _ _ h hF => ⟨h.1, hF⟩
theorem main_1_2 : Claimed_1_2 := comes_1 fun _ _ _ _ _ _ h hF => ⟨h.2.1, hF⟩
end Jvm.Pilot.@@N@@
namespace Jvm.Pilot.@@N@@
open Jvm Jvm.ClassFile Sem Op Lib Jvm.Free Jvm.Stand Jvm.Pilot.@@N@@.Jvm.D
/-! MADE BY PROGRAM (witnessworld.py) out of the Statement's table words and the real class files: 9 classes; the members and pool entries that the words name. The judged class is class 1, her method 1. -/
namespace start1
open Jvm.ClassFile
def u (s : String) : CpInfo := .utf8 (stringToUtf16 s)
/-- a pool by its gaps: so many unusable entries, then the entry; so many at the end -/
def gap : Nat → List CpInfo → List CpInfo
  | 0, r => r
  | n + 1, r => .unusable :: gap n r
def poolList (es : List (Nat × CpInfo)) (last : Nat) : List CpInfo := es.foldr (fun e r => gap e.1 (e.2 :: r)) (gap last [])
def pool (es : List (Nat × CpInfo)) (last : Nat) : Array CpInfo := ⟨poolList es last⟩
def fileOf (pool : Array CpInfo) (this : Nat) (attrs : Array Attribute := #[]) (ms : Array MethodInfo := #[]) (fl : Nat := 33) (sup : Nat := 0) (ifs : Array Nat := #[]) (fds : Array FieldInfo := #[]) : ClassFile where
  minorVersion := 0
  majorVersion := 65
  constantPool := pool
  accessFlags := fl
  thisClass := this
  superClass := sup
  interfaces := ifs
  fields := fds
  methods := ms
  attributes := attrs
def plain (name : String) (sup : Option ClassId) : Class where
  name := name
  kind := .ordinary
  loader := none
  accessFlags := 33
  super := sup
  interfaces := #[]
  cf := none
  fields := #[]
  methods := #[]
  instanceTypes := #[]
  staticTypes := #[]
  resolved := #[]
  callSites := []
  init := .initialized
  statics := none
  mirror := none

def pool0 : Array CpInfo := pool [(5, u "<init>"), (0, u "()V"), (1, .class_ 10), (1, u "java/lang/Object")] 113

def k0m0 : Method := { name := "<init>", desc := "()V", sig := { parameters := [], returnType := none }, accessFlags := 1, code := none }
/-- java/lang/Object -/
def k0 : Class := { plain "java/lang/Object" none with
  accessFlags := 33
  interfaces := #[]
  cf := some (fileOf pool0 8 #[] #[{ accessFlags := 1, nameIndex := 5, descriptorIndex := 6, attributes := #[] }] 33 0 #[] #[])
  fields := #[]
  methods := #[k0m0]
  instanceTypes := #[]
  staticTypes := #[]
  resolved := Array.replicate 124 none
  statics := none }

def pool1 : Array CpInfo := pool [(2, .class_ 4), (1, u "java/lang/Object"), (0, u "<init>"), (0, u "()V"), (0, .integer 1073741823), (0, .methodref 9 10), (0, .class_ 11), (0, .nameAndType 12 13), (0, u "com/example/proset/proset/Sizing"), (0, u "isSizableRate"), (0, u "(D)Z"), (0, .class_ 15), (0, u "com/example/proset/proset/SizingIsSizableRatePinLaw"), (2, u "law"), (0, u "(III)Z")] 3

def k1m0 : Method := { name := "<init>", desc := "()V", sig := { parameters := [], returnType := none }, accessFlags := 2, code := none }
def k1c1 : Code := { maxStack := 4, maxLocals := 9, code := code, exceptionTable := #[], attributes := #[] }
def k1m1 : Method := { name := "law", desc := "(III)Z", sig := { parameters := [.int, .int, .int], returnType := some .boolean }, accessFlags := 9, code := some k1c1 }
/-- com/example/proset/proset/SizingIsSizableRatePinLaw -/
def k1 : Class := { plain "com/example/proset/proset/SizingIsSizableRatePinLaw" (some 0) with
  accessFlags := 49
  interfaces := #[]
  cf := some (fileOf pool1 14 #[] #[{ accessFlags := 2, nameIndex := 5, descriptorIndex := 6, attributes := #[] }, { accessFlags := 9, nameIndex := 18, descriptorIndex := 19, attributes := #[] }] 49 2 #[] #[])
  fields := #[]
  methods := #[k1m0, k1m1]
  instanceTypes := #[]
  staticTypes := #[]
  resolved := Array.replicate 23 none
  statics := none }

def pool2 : Array CpInfo := pool [(2, .class_ 4), (1, u "java/lang/Object"), (0, u "<init>"), (0, u "()V"), (1, .class_ 10), (1, u "com/example/proset/proset/Sizing"), (4, u "isSizableRate"), (0, u "(D)Z"), (17, u "LN2_SQUARED"), (0, u "D"), (13, u "LN2")] 71

def k2m0 : Method := { name := "<init>", desc := "()V", sig := { parameters := [], returnType := none }, accessFlags := 2, code := none }
def k2c1 : Code := { maxStack := 4, maxLocals := 2, code := prog_18_method_5_code, exceptionTable := #[], attributes := #[] }
def k2m1 : Method := { name := "isSizableRate", desc := "(D)Z", sig := { parameters := [.double], returnType := some .boolean }, accessFlags := 8, code := some k2c1 }
/-- com/example/proset/proset/Sizing -/
def k2 : Class := { plain "com/example/proset/proset/Sizing" (some 0) with
  accessFlags := 49
  interfaces := #[]
  cf := some (fileOf pool2 8 #[] #[{ accessFlags := 2, nameIndex := 5, descriptorIndex := 6, attributes := #[] }, { accessFlags := 8, nameIndex := 15, descriptorIndex := 16, attributes := #[] }] 49 2 #[] #[{ accessFlags := 26, nameIndex := 49, descriptorIndex := 35, attributes := #[] }, { accessFlags := 26, nameIndex := 34, descriptorIndex := 35, attributes := #[] }])
  fields := #[{ name := "LN2", type := .double, accessFlags := 26, slot := 0, constantValue := 0 }, { name := "LN2_SQUARED", type := .double, accessFlags := 26, slot := 1, constantValue := 0 }]
  methods := #[k2m0, k2m1]
  instanceTypes := #[]
  staticTypes := #[.double, .double]
  resolved := Array.replicate 121 none
  statics := none }

def pool3 : Array CpInfo := pool [(1, u "java/lang/Cloneable"), (0, .class_ 1), (0, u "java/lang/Object"), (0, .class_ 3)] 3

/-- java/lang/Cloneable -/
def k3 : Class := { plain "java/lang/Cloneable" (some 0) with
  accessFlags := 1537
  interfaces := #[]
  cf := some (fileOf pool3 2 #[] #[] 1537 4 #[] #[])
  fields := #[]
  methods := #[]
  instanceTypes := #[]
  staticTypes := #[]
  resolved := Array.replicate 8 none
  statics := none }

def pool4 : Array CpInfo := pool [(1, u "java/io/Serializable"), (0, .class_ 1), (0, u "java/lang/Object"), (0, .class_ 3)] 3

/-- java/io/Serializable -/
def k4 : Class := { plain "java/io/Serializable" (some 0) with
  accessFlags := 1537
  interfaces := #[]
  cf := some (fileOf pool4 2 #[] #[] 1537 4 #[] #[])
  fields := #[]
  methods := #[]
  instanceTypes := #[]
  staticTypes := #[]
  resolved := Array.replicate 8 none
  statics := none }

/-- the primitive byte -/
def k5 : Class := { plain "byte" none with kind := .primitive 'B', accessFlags := 0x411 }
/-- [B -/
def k6 : Class := { plain "[B" (some 0) with kind := .array 5 .byte, interfaces := #[3, 4], accessFlags := 1041 }

/-- the primitive int -/
def k7 : Class := { plain "int" none with kind := .primitive 'I', accessFlags := 0x411 }
/-- [I -/
def k8 : Class := { plain "[I" (some 0) with kind := .array 7 .int, interfaces := #[3, 4], accessFlags := 1041 }

def heap : Heap := #[]
def classes : Array Class := #[k0, k1, k2, k3, k4, k5, k6, k7, k8]
def interned : List (Array UInt16 × Addr) := []
def slotsUsed : Nat := 0
def theMethod : MethodId := ⟨1, 1⟩
def args0 : Array Value := #[.int 5, .int 7, .int 9]
def aboutOver (below : List Frame) : State where
  vm := { classes := classes, interned := interned.toArray }
  heap := heap
  slotsUsed := slotsUsed
  threads := #[{ frames := .invoking theMethod args0 :: below }]
def below0 : List Frame := [.native { method := ⟨0, 0⟩, args := #[] }]
def about1 : State := aboutOver below0
def p0 : Program := .bare "" "" ""
def e0 : Env := launch0.env 0 0 0
theorem w_frames : about1.frames = Frame.invoking theMethod args0 :: below0 := rfl
set_option maxRecDepth 65536 in
theorem w_args : argsFit about1.vm theMethod args0 = true := by decide +kernel
set_option maxRecDepth 65536 in
theorem w_heap : heapFits about1 = true := by decide +kernel
set_option maxRecDepth 65536 in
theorem w_runnable : about1.curStatus? = some .runnable := by decide +kernel
set_option maxRecDepth 65536 in
theorem w_alone : about1.alone = true := by decide +kernel
set_option maxRecDepth 65536 in
theorem w_named : about1.methodNamed? x = some theMethod := by decide +kernel
set_option maxRecDepth 65536 in
theorem w_hears : about1.hears theMethod below0 = true := by decide +kernel
set_option maxRecDepth 65536 in
theorem w_ripe : about1.ripe theMethod args0 below0 = true := by decide +kernel
theorem w_running : about1.status = .running := rfl
set_option maxRecDepth 65536 in
theorem w_room : about1.hasRoom e0.platform room_1 = true :=
  launch0.hasRoom_least _ room_1 (by decide +kernel) (by decide +kernel) (by decide +kernel) (by decide +kernel) (by decide +kernel) (by decide +kernel)
theorem allAtoms_all (ts : List Jvm.Cond) (a : Array Jvm.Value) (st : Jvm.State) : (allAtoms ts).before a st = ts.all (fun c => c.before a st) := by
  induction ts with
  | nil => rfl
  | cons c t ih =>
    show (Jvm.Cond.and c (allAtoms t)).before a st = _
    rw [Jvm.Cond.before_and, ih, List.all_cons]
def words1 : List Jvm.Cond := Jvm.Cond.code x code maxLocals ret :: tables_1
/-- a 'code' word, met by the world's own term for the bytes: nothing is compared byte by byte -/
theorem code_word {y : MethodName} {bytes : ByteArray} {mx : Nat} {rt : Option FieldType} {a : Array Value} {s : State} {m : MethodId} {meth : Method} {c : Code} (h1 : s.methodNamed? y = some m) (h2 : s.vm.method? m = some meth) (h3 : meth.code = some c) (h4 : c.code = bytes)
    (h5 : (c.maxLocals == mx && c.exceptionTable.isEmpty && decide (c.maxStack ≤ mostOperands) && decide (meth.sig.returnType = rt) && !meth.locks && decide (parseMethodDescriptor y.desc = some meth.sig)) = true) : (Jvm.Cond.code y bytes mx rt).before a s = true := by
  simp only [Bool.and_eq_true, beq_iff_eq, Bool.not_eq_true', decide_eq_true_eq] at h5
  obtain ⟨⟨⟨⟨⟨g1, g2⟩, g3⟩, g4⟩, g5⟩, g6⟩ := h5
  simp [Cond.before, Cond.holds, Cond.value, h1, h2, h3, h4, g1, g2, g3, g4, g5, g6]
def isCode : Jvm.Cond → Bool
  | .code _ _ _ _ => true
  | _ => false
theorem all_split {L : List Jvm.Cond} {P : Jvm.Cond → Bool} (h1 : L.all (fun c => isCode c || P c) = true) (h2 : ∀ c ∈ L.filter isCode, P c = true) : L.all P = true := by
  refine List.all_eq_true.mpr fun c hc => ?_
  have h := List.all_eq_true.mp h1 c hc
  rcases Bool.eq_false_or_eq_true (isCode c) with hi | hi
  · exact h2 c (List.mem_filter.mpr ⟨hc, hi⟩)
  · simpa [hi] using h
set_option maxRecDepth 65536 in
theorem w_c0 : (Jvm.Cond.code x code maxLocals ret).before args0 about1 = true := code_word (m := ⟨1, 1⟩) (meth := k1m1) (c := k1c1) (by decide +kernel) rfl rfl rfl (by decide +kernel)
set_option maxRecDepth 65536 in
theorem w_c1 : (Jvm.Cond.code ({ cls := "com/example/proset/proset/Sizing", name := "isSizableRate", desc := "(D)Z" } : Jvm.MethodName) prog_18_method_5_code (2 : Nat) (Option.some Jvm.ClassFile.FieldType.boolean)).before args0 about1 = true := code_word (m := ⟨2, 1⟩) (meth := k2m1) (c := k2c1) (by decide +kernel) rfl rfl rfl (by decide +kernel)
def codes1 : List Jvm.Cond := [Jvm.Cond.code x code maxLocals ret, Jvm.Cond.code ({ cls := "com/example/proset/proset/Sizing", name := "isSizableRate", desc := "(D)Z" } : Jvm.MethodName) prog_18_method_5_code (2 : Nat) (Option.some Jvm.ClassFile.FieldType.boolean)]
set_option maxRecDepth 65536 in
theorem codes_eq : words1.filter isCode = codes1 := rfl
theorem w_codes : ∀ c ∈ words1.filter isCode, c.before args0 about1 = true := by
  rw [codes_eq]
  intro c hc
  simp only [codes1, List.mem_cons, List.not_mem_nil, or_false] at hc
  rcases hc with rfl | rfl
  · exact w_c0
  · exact w_c1
set_option maxRecDepth 65536 in
theorem w_t1 : words1.all (fun c => isCode c || c.before args0 about1) = true := by decide +kernel
theorem w_tables : (allAtoms (Jvm.Cond.code x code maxLocals ret :: tables_1)).before args0 about1 = true := by
  rw [allAtoms_all]
  show words1.all (fun c => c.before args0 about1) = true
  refine all_split ?_ w_codes
  rw [w_t1]
set_option maxRecDepth 65536 in
theorem w_case : (Jvm.Cond.and given_1 narrow_1).before args0 about1 = true := by decide +kernel
theorem w_applies : (headSpec (Jvm.Cond.code x code maxLocals ret :: tables_1) room_1).applies x e0.platform about1 = true :=
  (Spec.applies_iff w_frames).mpr ⟨w_running, w_runnable, w_alone, w_named, w_hears, w_ripe, w_room, w_tables⟩
theorem atStart : AtStart classFile x code maxLocals ret World_1 tables_1 room_1 Calls_1 rest_1 Pre_1 launch0 p0 e0 about1 theMethod args0 below0 :=
  ⟨lists_1, trivial, launch0.admits_env _ _ _, launch0.least_env, fairChoices_fair.cas, fairChoices_fair.clock, w_frames, w_args, w_heap, w_applies, trivial, trivial, w_case⟩
end start1
theorem witness_1 : WitnessClaimed_1 := ⟨start1.p0, start1.e0, start1.about1, start1.theMethod, start1.args0, start1.below0, start1.atStart⟩
end Jvm.Pilot.@@N@@
