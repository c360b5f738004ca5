import JvmDerived
import JvmDerived.Pilot.@@N@@Statement
import JvmDerived.Pilot.@@N@@Code
set_option linter.unusedVariables false
set_option linter.unusedSimpArgs false
namespace Jvm.RoadKit
open Sem ClassFile Op Lib Jvm.Stand Jvm.Free Jvm.LawKit
section New
variable {p : Program} {l : Launch} {e : Env} {R : Room} {s : State} {m : MethodId} {args : Array Value} {below : List Frame} {meth : Method} {c : Code} {T : State} {locs : List Loc} {cells slots : Nat}
theorem retI (X : Stand p l e R s m args below meth c T locs cells slots) (hx : p.tables.exec = Jvm.exec) {pc : Nat} {Ls : Array Slot} {z : Int32} {rest : List Value} (hret : meth.sig.returnType = some .int) (hd : decode c.code pc = .ok (.ireturn, 1)) {fs : List Frame}
    (hl : ∀ (f : JFrame) (acts : List Action), f.method = m → f.locked = none → f.entered = [] → (doReturn e (T.setTop f) acts (some (.int z))).1 = T.setFrames fs) : Steps p.tables e below (T.setTop (mkF m pc Ls (.int z :: rest))) (T.setFrames fs) := by
  have hm' : T.vm.method? m = some meth := X.method'
  have hn : narrow .int (.int z) = .int z := rfl
  show Steps p.tables e below (T.setTop { method := m, pc := pc, locals := Ls, stack := _ :: rest, locked := none }) _
  jvm_step X.here [X.here.top, hx, hd, hm', hret, hn]
  first | (intro acts; rw [hl _ acts rfl rfl rfl]) | rw [hl _ _ rfl rfl rfl]
  exact Steps.refl _
end New
end Jvm.RoadKit
namespace Jvm.Pilot.@@N@@
open Jvm Jvm.ClassFile Sem Op Lib Jvm.Free Jvm.Stand Jvm.LawKit Jvm.RoadKit Bundle Jvm.Pilot.@@N@@.Jvm.D
section Fl
open Jvm.FP.Core
/-- the units in which everything is counted: 2 ^ (-1300) -/
abbrev own_e : Int := -1300
theorem own_qmin : b64.qmin = -1074 := by decide
theorem own_kinds (A : Nat) (e : Int) : (∃ c q, roundRatio b64 false A 1 e = .fin false c q) ∨ roundRatio b64 false A 1 e = .inf false := by
  unfold roundRatio roundAt settle bound
  split
  · exact Or.inl ⟨_, _, rfl⟩
  · split <;> split
    · exact Or.inl ⟨_, _, rfl⟩
    · exact Or.inr rfl
    · exact Or.inl ⟨_, _, rfl⟩
    · exact Or.inr rfl
theorem own_round (A : Nat) (e : Int) (he : own_e ≤ e) (hN : inUnits A e own_e < 2 ^ 1400) :
    ∃ c q, round b64 (.fin false A e) = .fin false c q ∧ -1074 ≤ q ∧ ∀ c' q', c' < 2 ^ 53 → -1074 ≤ q' →
      (inUnits c' q' own_e ≤ inUnits A e own_e → inUnits c' q' own_e ≤ inUnits c q own_e) ∧ (inUnits A e own_e ≤ inUnits c' q' own_e → inUnits c q own_e ≤ inUnits c' q' own_e) := by
  show ∃ c q, roundRatio b64 false A 1 e = .fin false c q ∧ _
  rcases own_kinds A e with ⟨c, q, h⟩ | h
  · have hf := roundRatio_fits good_b64 false A (B := 1) (by decide) e
    rw [h] at hf
    refine ⟨c, q, h, own_qmin ▸ hf.2.1, fun c' q' hc hq => ?_⟩
    have d := roundRatio_nearest good_b64 (e0 := own_e) (by decide) h (show c' < 2 ^ b64.p from hc) (show b64.qmin ≤ q' by rw [own_qmin]; exact hq) (by decide) he
    unfold distance at d
    constructor <;> intro g <;> omega
  · exfalso
    have i := (roundRatio_inf good_b64 (s := false) (A := A) (B := 1) (e := e) (e0 := own_e) (by decide) (by decide) he).mp h
    have k : 2 ^ 1400 ≤ (2 ^ (b64.p + 1) - 1) * 2 ^ (b64.qmax - 1 - own_e).toNat * 1 := by decide +kernel
    omega
/-- the double x is worth N of the units, N below 2 ^ 1400 -/
def own_val (x : UInt64) (N : Nat) : Prop := ∃ c q, val64 x = .fin false c q ∧ -1074 ≤ q ∧ inUnits c q own_e = N
theorem own_val.num {x : UInt64} {N : Nat} (h : own_val x N) : Jvm.Free.Fl.NoNaN64 x := by
  obtain ⟨c, q, h1, -⟩ := h
  exact Jvm.Free.Fl.val64_no.mpr (by rw [h1]; intro z; cases z)
theorem own_unit (n : Nat) : inUnits n 0 own_e = n * 2 ^ 1300 := rfl
theorem own_half (n : Nat) : inUnits n (-1) own_e = n * 2 ^ 1299 := rfl
theorem own_l2d (a : Int64) (h0 : 0 ≤ a.toInt) (h1 : a.toInt < 2 ^ 53) : own_val (Jvm.FP.l2d a) (a.toInt.toNat * 2 ^ 1300) := by
  have hv : val64 (Jvm.FP.l2d a) = round b64 (.fin false a.toInt.toNat 0) := by
    show val64 (Jvm.FP.Core.l2d a) = _
    rw [val64_l2d]
    have : ofInt a.toInt = .fin false a.toInt.toNat 0 := by
      unfold ofInt
      rw [show decide (a.toInt < 0) = false from decide_eq_false (by omega), show a.toInt.natAbs = a.toInt.toNat by omega]
    rw [this]
  have hlt : inUnits a.toInt.toNat 0 own_e < 2 ^ 1400 := by
    rw [own_unit]
    have : a.toInt.toNat < 2 ^ 53 := by omega
    calc a.toInt.toNat * 2 ^ 1300 < 2 ^ 53 * 2 ^ 1300 := Nat.mul_lt_mul_of_pos_right this (Nat.two_pow_pos _)
      _ ≤ 2 ^ 1400 := by rw [← Nat.pow_add]; exact Nat.pow_le_pow_right (by decide) (by decide)
  obtain ⟨c, q, r1, r2, r3⟩ := own_round a.toInt.toNat 0 (by decide) hlt
  have g := r3 a.toInt.toNat 0 (by omega) (by decide)
  refine ⟨c, q, hv.trans r1, r2, ?_⟩
  rw [← own_unit]
  exact Nat.le_antisymm (g.2 (Nat.le_refl _)) (g.1 (Nat.le_refl _))
abbrev own_T : UInt64 := 4472406533629990549
theorem own_tv : val64 own_T = .fin false 4835703278458517 (-82) := by decide +kernel
/-- the product with the tolerance: within every two bounds of the format that hold the exact one -/
theorem own_mul {x : UInt64} {N : Nat} (h : own_val x N) (hN : N < 2 ^ 1360) : ∃ P M, P * 2 ^ 82 = N * 4835703278458517 ∧ own_val (Jvm.FP.dmul x own_T) M ∧ ∀ c' q', c' < 2 ^ 53 → -1074 ≤ q' →
      (inUnits c' q' own_e ≤ P → inUnits c' q' own_e ≤ M) ∧ (P ≤ inUnits c' q' own_e → M ≤ inUnits c' q' own_e) := by
  obtain ⟨c, q, h1, h2, h3⟩ := h
  have hv : val64 (Jvm.FP.dmul x own_T) = round b64 (.fin false (c * 4835703278458517) (q + (-82))) := by
    show val64 (Jvm.FP.Core.dmul x own_T) = _
    rw [val64_dmul, h1, own_tv]; rfl
  have hP : inUnits (c * 4835703278458517) (q + (-82)) own_e * 2 ^ 82 = N * 4835703278458517 := by
    rw [← h3]; unfold inUnits
    rw [show (q - own_e).toNat = (q + (-82) - own_e).toNat + 82 by unfold own_e; omega, Nat.pow_add]
    ac_rfl
  have hlt : inUnits (c * 4835703278458517) (q + (-82)) own_e < 2 ^ 1400 := by
    have k1 : N * 4835703278458517 < 2 ^ 1360 * 2 ^ 53 := Nat.mul_lt_mul'' hN (by decide)
    have k2 : (2 : Nat) ^ 1360 * 2 ^ 53 ≤ 2 ^ 1400 * 2 ^ 82 := by rw [← Nat.pow_add, ← Nat.pow_add]; exact Nat.pow_le_pow_right (by decide) (by decide)
    exact Nat.lt_of_mul_lt_mul_right (a := 2 ^ 82) (Nat.lt_of_le_of_lt (Nat.le_of_eq hP) (Nat.lt_of_lt_of_le k1 k2))
  obtain ⟨c2, q2, r1, r2, r3⟩ := own_round _ _ (by unfold own_e; omega) hlt
  exact ⟨_, _, hP, ⟨c2, q2, hv.trans r1, r2, rfl⟩, r3⟩
theorem own_add {x y : UInt64} {N N' : Nat} (h : own_val x N) (h' : own_val y N') (hN : N + N' < 2 ^ 1400) : ∃ M, own_val (Jvm.FP.dadd x y) M ∧ ∀ c' q', c' < 2 ^ 53 → -1074 ≤ q' →
      (inUnits c' q' own_e ≤ N + N' → inUnits c' q' own_e ≤ M) ∧ (N + N' ≤ inUnits c' q' own_e → M ≤ inUnits c' q' own_e) := by
  obtain ⟨c, q, h1, h2, h3⟩ := h
  obtain ⟨d, r, g1, g2, g3⟩ := h'
  have hS : exactSum (.fin false c q) (.fin false d r) = .fin false (inUnits c q (min q r) + inUnits d r (min q r)) (min q r) := by
    have hu : sumUnits false c q false d r (min q r) = ((inUnits c q (min q r) + inUnits d r (min q r) : Nat) : Int) := by
      unfold sumUnits signed; simp
    show Datum.fin (sumSign false false (sumUnits false c q false d r (min q r))) (sumUnits false c q false d r (min q r)).natAbs (min q r) = _
    rw [hu]
    congr 1
    unfold sumSign
    split
    · rfl
    · exact decide_eq_false (by omega)
  have hv : val64 (Jvm.FP.dadd x y) = round b64 (.fin false (inUnits c q (min q r) + inUnits d r (min q r)) (min q r)) := by
    show val64 (Jvm.FP.Core.dadd x y) = _
    rw [val64_dadd, h1, g1, hS]
  have hE : inUnits (inUnits c q (min q r) + inUnits d r (min q r)) (min q r) own_e = N + N' := by
    rw [← h3, ← g3]
    show (inUnits c q (min q r) + inUnits d r (min q r)) * 2 ^ (min q r - own_e).toNat = _
    rw [Nat.add_mul]
    congr 1
    · unfold inUnits; rw [Nat.mul_assoc, ← Nat.pow_add]; congr 2; unfold own_e; omega
    · unfold inUnits; rw [Nat.mul_assoc, ← Nat.pow_add]; congr 2; unfold own_e; omega
  obtain ⟨c2, q2, r1, r2, r3⟩ := own_round _ _ (show own_e ≤ min q r by unfold own_e; omega) (by rw [hE]; exact hN)
  rw [hE] at r3
  exact ⟨_, ⟨c2, q2, hv.trans r1, r2, rfl⟩, r3⟩
theorem own_cmpI (a b : Int) : compare a b = if a < b then .lt else if a = b then .eq else .gt := rfl
theorem own_cmp {x y : UInt64} {N M : Nat} (h : own_val x N) (h' : own_val y M) : (0 : Int32) < cmpValue (Jvm.FP.dcmp x y) .l ↔ M < N := by
  obtain ⟨c, q, h1, h2, h3⟩ := h
  obtain ⟨d, r, g1, g2, g3⟩ := h'
  have hd : Jvm.FP.dcmp x y = some (compare (inUnits c q (min q r) : Int) (inUnits d r (min q r) : Int)) := by
    show order (val64 x) (val64 y) = _
    rw [h1, g1]; rfl
  have e1 : N = inUnits c q (min q r) * 2 ^ (min q r - own_e).toNat := by rw [← h3]; unfold inUnits; rw [Nat.mul_assoc, ← Nat.pow_add]; congr 2; unfold own_e; omega
  have e2 : M = inUnits d r (min q r) * 2 ^ (min q r - own_e).toNat := by rw [← g3]; unfold inUnits; rw [Nat.mul_assoc, ← Nat.pow_add]; congr 2; unfold own_e; omega
  rw [hd, e1, e2, Nat.mul_lt_mul_right (Nat.two_pow_pos _)]
  generalize inUnits c q (min q r) = a
  generalize inUnits d r (min q r) = b
  rcases Int.lt_trichotomy (a : Int) (b : Int) with t | t | t
  · rw [show compare (a : Int) (b : Int) = .lt from by rw [own_cmpI, if_pos t]]
    exact ⟨fun z => absurd z (by decide), fun z => by omega⟩
  · rw [show compare (a : Int) (b : Int) = .eq from by rw [own_cmpI, if_neg (by omega), if_pos t]]
    exact ⟨fun z => absurd z (by decide), fun z => by omega⟩
  · rw [show compare (a : Int) (b : Int) = .gt from by rw [own_cmpI, if_neg (by omega), if_neg (by omega)]]
    exact ⟨fun _ => by omega, fun _ => by decide⟩
theorem own_ac (n u c : Nat) : n * (2 * u) * c = 2 * (n * c) * u := by ac_rfl
theorem own_ac2 (n u : Nat) : n * (2 * u) = 2 * n * u := by ac_rfl
def own_exc (x o : UInt64) : Int32 := if (0 : Int32) < cmpValue (Jvm.FP.dcmp x (Jvm.FP.dadd o (Jvm.FP.dmul o own_T))) .l then 1 else 0
theorem own_sum {o : UInt64} {n : Nat} (h : own_val o (n * 2 ^ 1300)) (hn : n < 2 ^ 51) : ∃ M, own_val (Jvm.FP.dadd o (Jvm.FP.dmul o own_T)) M ∧ Jvm.Free.Fl.NoNaN64 (Jvm.FP.dmul o own_T) ∧
    (∀ k : Nat, k < 2 ^ 51 → k * 2 ^ 82 ≤ n * 4835703278458517 → (n + k) * 2 ^ 1300 ≤ M) ∧ (∀ k : Nat, k < 2 ^ 51 → n * 4835703278458517 ≤ k * 2 ^ 82 → M ≤ (n + k) * 2 ^ 1300) ∧ (2 * (n * 4835703278458517) ≤ 2 ^ 82 → M ≤ (2 * n + 1) * 2 ^ 1299) := by
  have hN : n * 2 ^ 1300 < 2 ^ 1360 := by
    calc n * 2 ^ 1300 < 2 ^ 51 * 2 ^ 1300 := Nat.mul_lt_mul_of_pos_right hn (Nat.two_pow_pos _)
      _ ≤ 2 ^ 1360 := by rw [← Nat.pow_add]; exact Nat.pow_le_pow_right (by decide) (by decide)
  obtain ⟨P, M1, hP, v1, b1⟩ := own_mul h hN
  -- the product is at most n + 1 units
  have up : M1 ≤ (n + 1) * 2 ^ 1300 := by
    rw [← own_unit]
    refine (b1 (n + 1) 0 (by omega) (by decide)).2 ?_
    rw [own_unit]
    refine Nat.le_of_mul_le_mul_right (c := 2 ^ 82) ?_ (Nat.two_pow_pos _)
    rw [hP]
    calc n * 2 ^ 1300 * 4835703278458517 ≤ (n + 1) * 2 ^ 1300 * 4835703278458517 := Nat.mul_le_mul_right _ (Nat.mul_le_mul_right _ (Nat.le_succ n))
      _ ≤ (n + 1) * 2 ^ 1300 * 2 ^ 82 := Nat.mul_le_mul_left _ (by decide)
  have hS : n * 2 ^ 1300 + M1 < 2 ^ 1400 := by
    have k1 : (n + 1) * 2 ^ 1300 ≤ 2 ^ 52 * 2 ^ 1300 := Nat.mul_le_mul_right _ (by omega)
    have k2 : (2 : Nat) ^ 52 * 2 ^ 1300 ≤ 2 ^ 1360 := by rw [← Nat.pow_add]; exact Nat.pow_le_pow_right (by decide) (by decide)
    have k3 : (2 : Nat) ^ 1360 * 2 ^ 1 ≤ 2 ^ 1399 := by rw [← Nat.pow_add]; exact Nat.pow_le_pow_right (by decide) (by decide)
    have k4 : (2 : Nat) ^ 1399 < 2 ^ 1400 := Nat.pow_lt_pow_right (by decide) (by decide)
    have k5 := Nat.add_lt_add_of_lt_of_le hN (Nat.le_trans up (Nat.le_trans k1 k2))
    have k6 : (2 : Nat) ^ 1360 + 2 ^ 1360 = 2 ^ 1360 * 2 ^ 1 := by rw [Nat.pow_one, Nat.mul_two]
    rw [k6] at k5
    exact Nat.lt_trans (Nat.lt_of_lt_of_le k5 k3) k4
  obtain ⟨M, v2, b2⟩ := own_add h v1 hS
  refine ⟨M, v2, v1.num, fun k hk hl => ?_, fun k hk hl => ?_, fun hl => ?_⟩
  · have g1 : k * 2 ^ 1300 ≤ M1 := by
      rw [← own_unit]
      refine (b1 k 0 (by omega) (by decide)).1 ?_
      rw [own_unit]
      refine Nat.le_of_mul_le_mul_right (c := 2 ^ 82) ?_ (Nat.two_pow_pos _)
      rw [hP, Nat.mul_right_comm, Nat.mul_right_comm n]
      exact Nat.mul_le_mul_right _ hl
    rw [← own_unit]
    refine (b2 (n + k) 0 (by omega) (by decide)).1 ?_
    rw [own_unit, Nat.add_mul]
    exact Nat.add_le_add_left g1 _
  · have g1 : M1 ≤ k * 2 ^ 1300 := by
      rw [← own_unit]
      refine (b1 k 0 (by omega) (by decide)).2 ?_
      rw [own_unit]
      refine Nat.le_of_mul_le_mul_right (c := 2 ^ 82) ?_ (Nat.two_pow_pos _)
      rw [hP, Nat.mul_right_comm, Nat.mul_right_comm k]
      exact Nat.mul_le_mul_right _ hl
    rw [← own_unit]
    refine (b2 (n + k) 0 (by omega) (by decide)).2 ?_
    rw [own_unit, Nat.add_mul]
    exact Nat.add_le_add_left g1 _
  · have e13 : (2 : Nat) ^ 1300 = 2 * 2 ^ 1299 := by rw [← Nat.pow_succ']
    have g1 : M1 ≤ 1 * 2 ^ 1299 := by
      rw [← own_half]
      refine (b1 1 (-1) (by decide) (by decide)).2 ?_
      rw [own_half]
      refine Nat.le_of_mul_le_mul_right (c := 2 ^ 82) ?_ (Nat.two_pow_pos _)
      rw [hP, e13]
      calc n * (2 * 2 ^ 1299) * 4835703278458517 = (2 * (n * 4835703278458517)) * 2 ^ 1299 := own_ac _ _ _
        _ ≤ 2 ^ 82 * 2 ^ 1299 := Nat.mul_le_mul_right _ hl
        _ = 1 * 2 ^ 1299 * 2 ^ 82 := by rw [Nat.one_mul, Nat.mul_comm]
    rw [← own_half]
    refine (b2 (2 * n + 1) (-1) (by omega) (by decide)).2 ?_
    rw [own_half, e13, Nat.add_mul, own_ac2 n]
    exact Nat.add_le_add_left g1 _
theorem own_nn {o : UInt64} {n : Nat} (h : own_val o (n * 2 ^ 1300)) (hn : n < 2 ^ 51) : Jvm.Free.Fl.NoNaN64 (Jvm.FP.dmul o own_T) ∧ Jvm.Free.Fl.NoNaN64 (Jvm.FP.dadd o (Jvm.FP.dmul o own_T)) := by
  obtain ⟨M, v, a, -⟩ := own_sum h hn
  exact ⟨a, v.num⟩
/-- it doesn't exceed, where the tolerance covers the difference -/
theorem own_no {x o : UInt64} {i n : Nat} (k : Nat) (hx : own_val x (i * 2 ^ 1300)) (h : own_val o (n * 2 ^ 1300)) (hn : n < 2 ^ 51) (hk : k < 2 ^ 51) (hl : k * 2 ^ 82 ≤ n * 4835703278458517) (hi : i ≤ n + k) : own_exc x o = 0 := by
  obtain ⟨M, v, -, b, -⟩ := own_sum h hn
  unfold own_exc
  rw [if_neg]
  rw [own_cmp hx v]
  exact Nat.not_lt.mpr (Nat.le_trans (Nat.mul_le_mul_right _ hi) (b k hk hl))
theorem own_yes {x o : UInt64} {i n : Nat} (k : Nat) (hx : own_val x (i * 2 ^ 1300)) (h : own_val o (n * 2 ^ 1300)) (hn : n < 2 ^ 51) (hk : k < 2 ^ 51) (hl : n * 4835703278458517 ≤ k * 2 ^ 82) (hi : n + k < i) : own_exc x o = 1 := by
  obtain ⟨M, v, -, -, b, -⟩ := own_sum h hn
  unfold own_exc
  rw [if_pos]
  rw [own_cmp hx v]
  exact Nat.lt_of_le_of_lt (b k hk hl) (Nat.mul_lt_mul_of_pos_right hi (Nat.two_pow_pos _))
theorem own_small {x o : UInt64} {i n : Nat} (hx : own_val x (i * 2 ^ 1300)) (h : own_val o (n * 2 ^ 1300)) (hn : n < 2 ^ 20) (hi : i < 2 ^ 20) : own_exc x o = if n < i then 1 else 0 := by
  by_cases q : n < i
  · rw [if_pos q]
    obtain ⟨M, v, -, -, -, b⟩ := own_sum h (by omega)
    unfold own_exc
    rw [if_pos]
    rw [own_cmp hx v]
    have e13 : (2 : Nat) ^ 1300 = 2 * 2 ^ 1299 := by rw [← Nat.pow_succ']
    refine Nat.lt_of_le_of_lt (b (by omega)) ?_
    rw [e13, own_ac2 i]
    exact Nat.mul_lt_mul_of_pos_right (by omega) (Nat.two_pow_pos _)
  · rw [if_neg q]
    exact own_no 0 hx h (by omega) (by decide) (by omega) (by omega)
end Fl
theorem own_i2d (x w : Int32) (hw : w = x &&& (1048575 : Int32)) : own_val (FP.i2d w) (w.toInt.toNat * 2 ^ 1300) ∧ w.toInt.toNat < 2 ^ 20 ∧ (w.toInt.toNat : Int) = w.toInt := by
  have a : (x &&& (1048575 : Int32)).toInt = x.toInt % (2 ^ 20 : Nat) := c_mask x 1048575 20 (by decide) (by decide)
  rw [← hw] at a
  have i := c_i2l w
  have v := own_l2d w.toInt64 (by omega) (by omega)
  rw [i] at v
  refine ⟨?_, by omega, by omega⟩
  rw [i2d_w]; exact v
theorem own_vs (x y v w : Int32) (hv : v = x &&& (1048575 : Int32)) (hw : w = y &&& (1048575 : Int32)) : own_exc (FP.i2d v) (FP.i2d w) = if w < v then (1 : Int32) else (0 : Int32) := by
  obtain ⟨a1, a2, a3⟩ := own_i2d x v hv
  obtain ⟨b1, b2, b3⟩ := own_i2d y w hw
  rw [own_small a1 b1 b2 a2]
  by_cases q : w < v
  · rw [if_pos q, if_pos]; rw [Int32.lt_iff_toInt_lt] at q; omega
  · rw [if_neg q, if_neg]; rw [Int32.lt_iff_toInt_lt] at q; omega
theorem own_big (P Q : Int32) (lb ld lo : Int64) (hb : lb = ((P &&& (1023 : Int32)) + (1 : Int32)).toInt64) (hd : ld = ((Q &&& (2047 : Int32)) - (1023 : Int32)).toInt64) (ho : lo = (lb <<< ((40 : Int32) &&& 0x3f).toInt64)) :
    (∃ n, own_val (FP.l2d lo) (n * 2 ^ 1300) ∧ n < 2 ^ 51) ∧ (∃ n, own_val (FP.l2d (lo + ld)) (n * 2 ^ 1300) ∧ n < 2 ^ 51) ∧ (∃ n, own_val (FP.l2d (lo + (lb <<< ((12 : Int32) &&& 0x3f).toInt64))) (n * 2 ^ 1300) ∧ n < 2 ^ 51) ∧
    own_exc (FP.l2d (lo + ld)) (FP.l2d lo) = (0 : Int32) ∧ own_exc (FP.l2d lo) (FP.l2d (lo + ld)) = (0 : Int32) ∧ own_exc (FP.l2d (lo + (lb <<< ((12 : Int32) &&& 0x3f).toInt64))) (FP.l2d lo) = (1 : Int32) ∧ own_exc (FP.l2d lo) (FP.l2d (lo + (lb <<< ((12 : Int32) &&& 0x3f).toInt64))) = (0 : Int32) := by
  have a1 : (P &&& (1023 : Int32)).toInt = P.toInt % (2 ^ 10 : Nat) := c_mask P 1023 10 (by decide) (by decide)
  have a2 := c_iadd (P &&& (1023 : Int32)) 1
  have k1 : (1 : Int32).toInt = 1 := by decide
  have r1 := rng32 ((P &&& (1023 : Int32)) + 1)
  have i1 := c_i2l ((P &&& (1023 : Int32)) + 1)
  rw [← hb] at i1
  have b1 : (Q &&& (2047 : Int32)).toInt = Q.toInt % (2 ^ 11 : Nat) := c_mask Q 2047 11 (by decide) (by decide)
  have b2 := c_isub (Q &&& (2047 : Int32)) 1023
  have k2 : (1023 : Int32).toInt = 1023 := by decide
  have r2 := rng32 ((Q &&& (2047 : Int32)) - 1023)
  have i2 := c_i2l ((Q &&& (2047 : Int32)) - 1023)
  rw [← hd] at i2
  have hB : 1 ≤ lb.toInt ∧ lb.toInt ≤ 1024 := by omega
  have hD : -1023 ≤ ld.toInt ∧ ld.toInt ≤ 1024 := by omega
  clear a1 a2 b1 b2 r1 r2 i1 i2
  have s1 := c_lshl lb 40 40 (by decide)
  have g1 := rng64 (lb <<< ((40 : Int32) &&& 0x3f).toInt64)
  rw [← ho] at s1 g1
  have e1 : lo.toInt = lb.toInt * 1099511627776 := by omega
  have s2 := c_lshl lb 12 12 (by decide)
  have g2 := rng64 (lb <<< ((12 : Int32) &&& 0x3f).toInt64)
  have e2 : (lb <<< ((12 : Int32) &&& 0x3f).toInt64).toInt = lb.toInt * 4096 := by omega
  have s3 := c_ladd lo ld
  have g3 := rng64 (lo + ld)
  have e3 : (lo + ld).toInt = lb.toInt * 1099511627776 + ld.toInt := by omega
  have s4 := c_ladd lo (lb <<< ((12 : Int32) &&& 0x3f).toInt64)
  have g4 := rng64 (lo + (lb <<< ((12 : Int32) &&& 0x3f).toInt64))
  have e4 : (lo + (lb <<< ((12 : Int32) &&& 0x3f).toInt64)).toInt = lb.toInt * 1099511627776 + lb.toInt * 4096 := by omega
  clear s1 g1 s2 g2 s3 g3 s4 g4
  have v1 := own_l2d lo (by omega) (by omega)
  have v3 := own_l2d (lo + ld) (by omega) (by omega)
  have v4 := own_l2d (lo + (lb <<< ((12 : Int32) &&& 0x3f).toInt64)) (by omega) (by omega)
  generalize hn1 : lo.toInt.toNat = n1 at v1
  generalize hn3 : (lo + ld).toInt.toNat = n3 at v3
  generalize hn4 : (lo + (lb <<< ((12 : Int32) &&& 0x3f).toInt64)).toInt.toNat = n4 at v4
  generalize hbn : lb.toInt.toNat = bn
  have q1 : n1 = bn * 1099511627776 := by omega
  have q3 : (n3 : Int) = (bn : Int) * 1099511627776 + ld.toInt := by omega
  have q4 : n4 = bn * 1099511627776 + bn * 4096 := by omega
  have qb : 1 ≤ bn ∧ bn ≤ 1024 := by omega
  refine ⟨⟨n1, v1, by omega⟩, ⟨n3, v3, by omega⟩, ⟨n4, v4, by omega⟩, own_no 1099 v3 v1 (by omega) (by decide) (by omega) (by omega), own_no 1099 v1 v3 (by omega) (by decide) (by omega) (by omega), own_yes (1100 * bn) v4 v1 (by omega) (by omega) (by omega) (by omega), own_no 0 v1 v4 (by omega) (by decide) (by omega) (by omega)⟩
theorem own_pn0 : plainName "com/example/covey/covey/divisive/VertexSplits" = true := by first | (simp [plainName, overriddenIn]; done) | decide +kernel
theorem dX_0 : decode prog_26_method_4_code 0 = .ok (.dload_n 0, 1) := by decide +kernel
theorem dX_1 : decode prog_26_method_4_code 1 = .ok (.dload_n 2, 1) := by decide +kernel
theorem dX_2 : decode prog_26_method_4_code 2 = .ok (.dload_n 2, 1) := by decide +kernel
theorem dX_3 : decode prog_26_method_4_code 3 = .ok (.ldc2_w 77, 3) := by decide +kernel
theorem dX_6 : decode prog_26_method_4_code 6 = .ok (.dmul, 1) := by decide +kernel
theorem dX_7 : decode prog_26_method_4_code 7 = .ok (.dadd, 1) := by decide +kernel
theorem dX_8 : decode prog_26_method_4_code 8 = .ok (.dcmp .l, 1) := by decide +kernel
theorem dX_9 : decode prog_26_method_4_code 9 = .ok (.ifCond .le 7, 3) := by decide +kernel
theorem dX_12 : decode prog_26_method_4_code 12 = .ok (.iconst 1, 1) := by decide +kernel
theorem dX_13 : decode prog_26_method_4_code 13 = .ok (.goto 4, 3) := by decide +kernel
theorem dX_16 : decode prog_26_method_4_code 16 = .ok (.iconst 0, 1) := by decide +kernel
theorem dX_17 : decode prog_26_method_4_code 17 = .ok (.ireturn, 1) := by decide +kernel
theorem efX (m : MethodId) (xa : UInt64) (xo : UInt64) : entryFrame m #[(.double xa), (.double xo)] 4 = mkF m 0 #[.val (.double xa), .second, .val (.double xo), .second] [] := by first | (simp [entryFrame, mkF, argsToLocals, Value.category]; done) | rfl
def QX (Z : State) (xa : UInt64) (xo : UInt64) (h0 : Heap) (n0 : Nat) (v : Option Value) (h : Heap) (L : List Loc) : Prop := v = some (.int (own_exc xa xo)) ∧ Fr n0 L ∧ h = h0
set_option maxRecDepth 65536 in
set_option maxHeartbeats 40000000 in
theorem rmX (l : Launch) (Z : State) (a0 : Array Value) (hw : ∀ d ∈ tables_1, d.before a0 Z = true) (ws : List Jvm.Cond) (xa : UInt64) (xo : UInt64) (h0 : Heap) (n0 : Nat) (Z0 : n0 ≤ h0.size) (hna : Jvm.Free.Fl.NoNaN64 (FP.dmul xo (4472406533629990549 : UInt64))) (hnb : Jvm.Free.Fl.NoNaN64 (FP.dadd xo (FP.dmul xo (4472406533629990549 : UInt64)))) :
    MetFree l (⟨"com/example/covey/covey/divisive/VertexSplits", "exceeds", "(DD)Z"⟩ : MethodName) (head1 (Jvm.Cond.code (⟨"com/example/covey/covey/divisive/VertexSplits", "exceeds", "(DD)Z"⟩ : MethodName) prog_26_method_4_code 4 (some .boolean) :: ws) ({ frames := 0, cells := 0, slots := 0, locals := 0 } : Room)) (fun av_ U => av_ = #[(.double xa), (.double xo)] ∧ Z.Warmed39 U.vm ∧ U.heap = h0) (fun _ _ _ _ _ => True) (fun _ U o U' => ∃ v L, o = .returned v ∧ QX Z xa xo h0 n0 v U'.heap L ∧ FrameEnd U o U' L ({ frames := 0, cells := 0, slots := 0, locals := 0 } : Room).cells ({ frames := 0, cells := 0, slots := 0, locals := 0 } : Room).slots) := by
  refine MetFree.of_bodySF (plainFor_of_name own_pn0) hisR ?_
  intro p e s m args below meth c s₁ Bd hml0 hP hK
  obtain ⟨rfl, hZ, hh⟩ := hP
  have hx := Bd.exec
  have hby := Bd.bytes
  have hml : c.maxLocals = 4 := hml0
  have hown : s.vm.findClass "com/example/covey/covey/divisive/VertexSplits" = some m.cls := findClass_of_methodNamed Bd.named
  have hnm := (name_of_methodNamed Bd.named Bd.method).1
  have X0 : Stand p l e ({ frames := 0, cells := 0, slots := 0, locals := 0 } : Room) s m #[(.double xa), (.double xo)] below meth c s₁ [] 0 0 := Stand.of_body Bd
  have e0 : s₁.heap = h0 := by rw [← hh, Bd.state]; rfl
  have N0 := Fr.nil n0
  have pre0 : ∀ t, Steps p.tables e below (s₁.setTop (mkF m 0 #[.val (.double xa), .second, .val (.double xo), .second] [])) t → Steps p.tables e below (s₁.setTop (entryFrame m #[(.double xa), (.double xo)] 4)) t := fun t k => castTop (efX m xa xo) k
  have r1 : ∀ t, Steps p.tables e below (s₁.setTop (mkF m 9 #[.val (.double xa), .second, .val (.double xo), .second] [(.int (cmpValue (FP.dcmp xa (FP.dadd xo (FP.dmul xo (4472406533629990549 : UInt64)))) .l))])) t → Steps p.tables e below (s₁.setTop (mkF m 0 #[.val (.double xa), .second, .val (.double xo), .second] [])) t := fun t kt => by
    show Steps p.tables e below (s₁.setTop (mkF m 0 #[.val (.double xa), .second, .val (.double xo), .second] [])) _
    refine XS.dloadN X0.here hx rfl (hb hby dX_0) rfl ?_
    show Steps p.tables e below (s₁.setTop (mkF m 1 #[.val (.double xa), .second, .val (.double xo), .second] [(.double xa)])) _
    refine XS.dloadN X0.here hx rfl (hb hby dX_1) rfl ?_
    show Steps p.tables e below (s₁.setTop (mkF m 2 #[.val (.double xa), .second, .val (.double xo), .second] [(.double xo), (.double xa)])) _
    refine XS.dloadN X0.here hx rfl (hb hby dX_2) rfl ?_
    show Steps p.tables e below (s₁.setTop (mkF m 3 #[.val (.double xa), .second, .val (.double xo), .second] [(.double xo), (.double xo), (.double xa)])) _
    refine X0.ldc2DoubleC hx hown (mvT hZ (hw _ (List.mem_of_getElem? (i := 5) rfl))) (g := (mkF m 3 #[.val (.double xa), .second, .val (.double xo), .second] [(.double xo), (.double xo), (.double xa)])) rfl (hb hby dX_3) _ ?_
    show Steps p.tables e below (s₁.setTop (mkF m 6 #[.val (.double xa), .second, .val (.double xo), .second] [(.double (4472406533629990549 : UInt64)), (.double xo), (.double xo), (.double xa)])) _
    refine XS.dmulS X0.here hx rfl (hb hby dX_6) rfl hna rfl ?_
    show Steps p.tables e below (s₁.setTop (mkF m 7 #[.val (.double xa), .second, .val (.double xo), .second] [(.double (FP.dmul xo (4472406533629990549 : UInt64))), (.double xo), (.double xa)])) _
    refine XS.daddS X0.here hx rfl (hb hby dX_7) rfl hnb rfl ?_
    show Steps p.tables e below (s₁.setTop (mkF m 8 #[.val (.double xa), .second, .val (.double xo), .second] [(.double (FP.dadd xo (FP.dmul xo (4472406533629990549 : UInt64)))), (.double xa)])) _
    refine XS.dcmpS X0.here hx rfl (hb hby dX_8) rfl rfl ?_
    exact kt
  by_cases hc2 : (0 : Int32) < (cmpValue (FP.dcmp xa (FP.dadd xo (FP.dmul xo (4472406533629990549 : UInt64)))) .l)
  · obtain ⟨fs, hr, hrun, hended, hW, hsame⟩ := X0.leave (v := some (.int (1 : Int32))) (fun h => by rw [Bd.returns] at h; cases h)
    refine ⟨_, _, (pre0 _ (r1 _ ?_)), hrun, hended, _, _, rfl, ?_, ⟨_, rfl⟩, hW, hsame.mono (by decide) (by decide)⟩
    · show Steps p.tables e below (s₁.setTop (mkF m 9 #[.val (.double xa), .second, .val (.double xo), .second] [(.int (cmpValue (FP.dcmp xa (FP.dadd xo (FP.dmul xo (4472406533629990549 : UInt64)))) .l))])) _
      refine XS.ifNo X0.here hx rfl (hb hby dX_9) rfl ((if0 _ _).trans (tlt hc2).2.2.2) ?_
      show Steps p.tables e below (s₁.setTop (mkF m 12 #[.val (.double xa), .second, .val (.double xo), .second] [])) _
      refine XS.iconst X0.here hx rfl (hb hby dX_12) ?_
      show Steps p.tables e below (s₁.setTop (mkF m 13 #[.val (.double xa), .second, .val (.double xo), .second] [(.int (1 : Int32))])) _
      refine XS.goto X0.here hx rfl (pc0 := 13) (pc' := 17) rfl (hb hby dX_13) (by decide) (by decide) ?_
      show Steps p.tables e below (s₁.setTop (mkF m 17 #[.val (.double xa), .second, .val (.double xo), .second] [(.int (1 : Int32))])) _
      exact retN X0 hx (t := .boolean) Bd.returns (by simp) (hb hby dX_17) hr
    · show QX Z xa xo h0 n0 _ s₁.heap _
      rw [e0]
      exact ⟨(by unfold own_exc own_T; simp [hc2]), N0, rfl⟩
  · obtain ⟨fs, hr, hrun, hended, hW, hsame⟩ := X0.leave (v := some (.int (0 : Int32))) (fun h => by rw [Bd.returns] at h; cases h)
    refine ⟨_, _, (pre0 _ (r1 _ ?_)), hrun, hended, _, _, rfl, ?_, ⟨_, rfl⟩, hW, hsame.mono (by decide) (by decide)⟩
    · show Steps p.tables e below (s₁.setTop (mkF m 9 #[.val (.double xa), .second, .val (.double xo), .second] [(.int (cmpValue (FP.dcmp xa (FP.dadd xo (FP.dmul xo (4472406533629990549 : UInt64)))) .l))])) _
      refine XS.ifYes X0.here hx rfl (pc0 := 9) (pc' := 16) rfl (hb hby dX_9) rfl ((if0 _ _).trans (flt hc2).2.2.2) (by decide) (by decide) ?_
      show Steps p.tables e below (s₁.setTop (mkF m 16 #[.val (.double xa), .second, .val (.double xo), .second] [])) _
      refine XS.iconst X0.here hx rfl (hb hby dX_16) ?_
      show Steps p.tables e below (s₁.setTop (mkF m 17 #[.val (.double xa), .second, .val (.double xo), .second] [(.int (0 : Int32))])) _
      exact retN X0 hx (t := .boolean) Bd.returns (by simp) (hb hby dX_17) hr
    · show QX Z xa xo h0 n0 _ s₁.heap _
      rw [e0]
      exact ⟨(by unfold own_exc own_T; simp [hc2]), N0, rfl⟩
theorem own_pd0 : parseMethodDescriptor "(DD)Z" = some ⟨[.double, .double], some .boolean⟩ := by decide +kernel
theorem own_pn1 : plainName "com/example/covey/covey/divisive/VertexSplitsExceedsPinLaw" = true := by first | (simp [plainName, overriddenIn]; done) | decide +kernel
theorem efL (m : MethodId) (xx : Int32) (yy : Int32) (pp : Int32) (qq : Int32) : entryFrame m #[(.int xx), (.int yy), (.int pp), (.int qq)] maxLocals = mkF m 0 #[.val (.int xx), .val (.int yy), .val (.int pp), .val (.int qq), .unset, .unset, .unset, .unset, .unset, .unset, .unset, .unset, .unset, .unset, .unset, .unset, .unset, .unset, .unset, .unset, .unset] [] := by first | (simp [entryFrame, mkF, argsToLocals, Value.category, maxLocals]; done) | rfl
def QL (Z : State) (xx : Int32) (yy : Int32) (pp : Int32) (qq : Int32) (h0 : Heap) (n0 : Nat) (v : Option Value) (h : Heap) (L : List Loc) : Prop := v = some (.int 1) ∧ Fr n0 L
set_option maxRecDepth 65536 in
set_option maxHeartbeats 40000000 in
theorem rmL (l : Launch) (Z : State) (a0 : Array Value) (hw : ∀ d ∈ tables_1, d.before a0 Z = true) (ws : List Jvm.Cond) (xx : Int32) (yy : Int32) (pp : Int32) (qq : Int32) (h0 : Heap) (n0 : Nat) (Z0 : n0 ≤ h0.size) :
    MetFree l x (head1 (Jvm.Cond.code x code maxLocals ret :: ws) room_1) (fun av_ U => av_ = #[(.int xx), (.int yy), (.int pp), (.int qq)] ∧ Z.Warmed39 U.vm ∧ U.heap = h0) (fun _ _ _ _ _ => True) (fun _ U o U' => ∃ v L, o = .returned v ∧ QL Z xx yy pp qq h0 n0 v U'.heap L ∧ FrameEnd U o U' L room_1.cells room_1.slots) := by
  refine MetFree.of_bodySF (plainFor_of_name own_pn1) hisR ?_
  intro p e s m args below meth c s₁ Bd hml0 hP hK
  obtain ⟨rfl, hZ, hh⟩ := hP
  have hx := Bd.exec
  have hby := Bd.bytes
  have hml : c.maxLocals = 21 := hml0
  have hown : s.vm.findClass "com/example/covey/covey/divisive/VertexSplitsExceedsPinLaw" = some m.cls := findClass_of_methodNamed Bd.named
  have hnm := (name_of_methodNamed Bd.named Bd.method).1
  have X0 : Stand p l e room_1 s m #[(.int xx), (.int yy), (.int pp), (.int qq)] below meth c s₁ [] 0 0 := Stand.of_body Bd
  have e0 : s₁.heap = h0 := by rw [← hh, Bd.state]; rfl
  have N0 := Fr.nil n0
  have pre0 : ∀ t, Steps p.tables e below (s₁.setTop (mkF m 0 #[.val (.int xx), .val (.int yy), .val (.int pp), .val (.int qq), .unset, .unset, .unset, .unset, .unset, .unset, .unset, .unset, .unset, .unset, .unset, .unset, .unset, .unset, .unset, .unset, .unset] [])) t → Steps p.tables e below (s₁.setTop (entryFrame m #[(.int xx), (.int yy), (.int pp), (.int qq)] maxLocals)) t := fun t k => castTop (efL m xx yy pp qq) k
  have r1 : ∀ t, Steps p.tables e below (s₁.setTop (mkF m 6 #[.val (.int xx), .val (.int yy), .val (.int pp), .val (.int qq), .val (.int (xx &&& (1048575 : Int32))), .unset, .unset, .unset, .unset, .unset, .unset, .unset, .unset, .unset, .unset, .unset, .unset, .unset, .unset, .unset, .unset] [])) t → Steps p.tables e below (s₁.setTop (mkF m 0 #[.val (.int xx), .val (.int yy), .val (.int pp), .val (.int qq), .unset, .unset, .unset, .unset, .unset, .unset, .unset, .unset, .unset, .unset, .unset, .unset, .unset, .unset, .unset, .unset, .unset] [])) t := fun t kt => by
    show Steps p.tables e below (s₁.setTop (mkF m 0 #[.val (.int xx), .val (.int yy), .val (.int pp), .val (.int qq), .unset, .unset, .unset, .unset, .unset, .unset, .unset, .unset, .unset, .unset, .unset, .unset, .unset, .unset, .unset, .unset, .unset] [])) _
    refine XS.iloadN X0.here hx rfl (hb hby at_0) rfl ?_
    show Steps p.tables e below (s₁.setTop (mkF m 1 #[.val (.int xx), .val (.int yy), .val (.int pp), .val (.int qq), .unset, .unset, .unset, .unset, .unset, .unset, .unset, .unset, .unset, .unset, .unset, .unset, .unset, .unset, .unset, .unset, .unset] [(.int xx)])) _
    refine X0.ldcInt hx hown (mvT hZ (hw _ (List.mem_of_getElem? (i := 0) rfl))) (g := (mkF m 1 #[.val (.int xx), .val (.int yy), .val (.int pp), .val (.int qq), .unset, .unset, .unset, .unset, .unset, .unset, .unset, .unset, .unset, .unset, .unset, .unset, .unset, .unset, .unset, .unset, .unset] [(.int xx)])) rfl (hb hby at_1) _ ?_
    show Steps p.tables e below (s₁.setTop (mkF m 3 #[.val (.int xx), .val (.int yy), .val (.int pp), .val (.int qq), .unset, .unset, .unset, .unset, .unset, .unset, .unset, .unset, .unset, .unset, .unset, .unset, .unset, .unset, .unset, .unset, .unset] [(.int (1048575 : Int32)), (.int xx)])) _
    refine XS.iand X0.here hx rfl (hb hby at_3) rfl ?_
    show Steps p.tables e below (s₁.setTop (mkF m 4 #[.val (.int xx), .val (.int yy), .val (.int pp), .val (.int qq), .unset, .unset, .unset, .unset, .unset, .unset, .unset, .unset, .unset, .unset, .unset, .unset, .unset, .unset, .unset, .unset, .unset] [(.int (xx &&& (1048575 : Int32)))])) _
    refine XS.istore X0.here hx rfl (hb hby at_4) rfl (l' := #[.val (.int xx), .val (.int yy), .val (.int pp), .val (.int qq), .val (.int (xx &&& (1048575 : Int32))), .unset, .unset, .unset, .unset, .unset, .unset, .unset, .unset, .unset, .unset, .unset, .unset, .unset, .unset, .unset, .unset]) rfl ?_
    exact kt
  obtain ⟨vo, hvo⟩ : ∃ zz : Int32, zz = (xx &&& (1048575 : Int32)) := ⟨_, rfl⟩
  have r2 : ∀ t, Steps p.tables e below (s₁.setTop (mkF m 6 #[.val (.int xx), .val (.int yy), .val (.int pp), .val (.int qq), .val (.int vo), .unset, .unset, .unset, .unset, .unset, .unset, .unset, .unset, .unset, .unset, .unset, .unset, .unset, .unset, .unset, .unset] [])) t → Steps p.tables e below (s₁.setTop (mkF m 6 #[.val (.int xx), .val (.int yy), .val (.int pp), .val (.int qq), .val (.int (xx &&& (1048575 : Int32))), .unset, .unset, .unset, .unset, .unset, .unset, .unset, .unset, .unset, .unset, .unset, .unset, .unset, .unset, .unset, .unset] [])) t := fun t kt => by
    subst hvo
    exact kt
  have r3 : ∀ t, Steps p.tables e below (s₁.setTop (mkF m 12 #[.val (.int xx), .val (.int yy), .val (.int pp), .val (.int qq), .val (.int vo), .val (.int (yy &&& (1048575 : Int32))), .unset, .unset, .unset, .unset, .unset, .unset, .unset, .unset, .unset, .unset, .unset, .unset, .unset, .unset, .unset] [])) t → Steps p.tables e below (s₁.setTop (mkF m 6 #[.val (.int xx), .val (.int yy), .val (.int pp), .val (.int qq), .val (.int vo), .unset, .unset, .unset, .unset, .unset, .unset, .unset, .unset, .unset, .unset, .unset, .unset, .unset, .unset, .unset, .unset] [])) t := fun t kt => by
    show Steps p.tables e below (s₁.setTop (mkF m 6 #[.val (.int xx), .val (.int yy), .val (.int pp), .val (.int qq), .val (.int vo), .unset, .unset, .unset, .unset, .unset, .unset, .unset, .unset, .unset, .unset, .unset, .unset, .unset, .unset, .unset, .unset] [])) _
    refine XS.iloadN X0.here hx rfl (hb hby at_6) rfl ?_
    show Steps p.tables e below (s₁.setTop (mkF m 7 #[.val (.int xx), .val (.int yy), .val (.int pp), .val (.int qq), .val (.int vo), .unset, .unset, .unset, .unset, .unset, .unset, .unset, .unset, .unset, .unset, .unset, .unset, .unset, .unset, .unset, .unset] [(.int yy)])) _
    refine X0.ldcInt hx hown (mvT hZ (hw _ (List.mem_of_getElem? (i := 0) rfl))) (g := (mkF m 7 #[.val (.int xx), .val (.int yy), .val (.int pp), .val (.int qq), .val (.int vo), .unset, .unset, .unset, .unset, .unset, .unset, .unset, .unset, .unset, .unset, .unset, .unset, .unset, .unset, .unset, .unset] [(.int yy)])) rfl (hb hby at_7) _ ?_
    show Steps p.tables e below (s₁.setTop (mkF m 9 #[.val (.int xx), .val (.int yy), .val (.int pp), .val (.int qq), .val (.int vo), .unset, .unset, .unset, .unset, .unset, .unset, .unset, .unset, .unset, .unset, .unset, .unset, .unset, .unset, .unset, .unset] [(.int (1048575 : Int32)), (.int yy)])) _
    refine XS.iand X0.here hx rfl (hb hby at_9) rfl ?_
    show Steps p.tables e below (s₁.setTop (mkF m 10 #[.val (.int xx), .val (.int yy), .val (.int pp), .val (.int qq), .val (.int vo), .unset, .unset, .unset, .unset, .unset, .unset, .unset, .unset, .unset, .unset, .unset, .unset, .unset, .unset, .unset, .unset] [(.int (yy &&& (1048575 : Int32)))])) _
    refine XS.istore X0.here hx rfl (hb hby at_10) rfl (l' := #[.val (.int xx), .val (.int yy), .val (.int pp), .val (.int qq), .val (.int vo), .val (.int (yy &&& (1048575 : Int32))), .unset, .unset, .unset, .unset, .unset, .unset, .unset, .unset, .unset, .unset, .unset, .unset, .unset, .unset, .unset]) rfl ?_
    exact kt
  obtain ⟨wo, hwo⟩ : ∃ zz : Int32, zz = (yy &&& (1048575 : Int32)) := ⟨_, rfl⟩
  have r4 : ∀ t, Steps p.tables e below (s₁.setTop (mkF m 12 #[.val (.int xx), .val (.int yy), .val (.int pp), .val (.int qq), .val (.int vo), .val (.int wo), .unset, .unset, .unset, .unset, .unset, .unset, .unset, .unset, .unset, .unset, .unset, .unset, .unset, .unset, .unset] [])) t → Steps p.tables e below (s₁.setTop (mkF m 12 #[.val (.int xx), .val (.int yy), .val (.int pp), .val (.int qq), .val (.int vo), .val (.int (yy &&& (1048575 : Int32))), .unset, .unset, .unset, .unset, .unset, .unset, .unset, .unset, .unset, .unset, .unset, .unset, .unset, .unset, .unset] [])) t := fun t kt => by
    subst hwo
    exact kt
  obtain ⟨hwv, hwl, -⟩ := own_i2d yy wo hwo
  have nnI := own_nn hwv (Nat.lt_trans hwl (by decide))
  obtain ⟨_, _, ⟨T5, L5, k5, n5⟩, -, X5, ⟨Lc5, hQ5, l5, y5, z5⟩, st5⟩ := Jvm.LawKit.callS X0 hx (y := (⟨"com/example/covey/covey/divisive/VertexSplits", "exceeds", "(DD)Z"⟩ : MethodName)) hown (mvT hZ (hw _ (List.mem_of_getElem? (i := 1) rfl))) (mvT hZ (hw _ (List.mem_of_getElem? (i := 2) rfl))) (mvT hZ (hw _ (List.mem_of_getElem? (i := 3) rfl))) (mvT hZ (hw _ (List.mem_of_getElem? (i := 4) rfl))) (by decide) (backOf (W := 0) (rmX l Z a0 hw [] (FP.i2d vo) (FP.i2d wo) h0 n0 Z0 nnI.1 nnI.2) hZ (hw _ (List.mem_of_getElem? (i := 4) rfl)) (hw _ (List.mem_of_getElem? (i := 3) rfl)) (by decide) (by decide)) (g := (mkF m 18 #[.val (.int xx), .val (.int yy), .val (.int pp), .val (.int qq), .val (.int vo), .val (.int wo), .unset, .unset, .unset, .unset, .unset, .unset, .unset, .unset, .unset, .unset, .unset, .unset, .unset, .unset, .unset] [(.double (FP.i2d wo)), (.double (FP.i2d vo))])) rfl (by rw [hml]; rfl) (argsL := [(.double (FP.i2d vo)), (.double (FP.i2d wo))]) (rest := []) (lenOf own_pd0 rfl) rfl (by show 2 * 0 + _ ≤ _; exact Nat.le_of_eq rfl) (hb hby at_18) (fun _ _ => ⟨rfl, e0, (by decide : 0 + 0 ≤ _), (by decide : 0 + 0 ≤ _)⟩)
  dsimp only [Pt.U, Pt.locs, Pt.cells, Pt.slots] at X5 l5 y5 z5 st5 hQ5
  subst l5 y5 z5
  obtain ⟨rfl, Nq5, e5⟩ := hQ5
  have N5 := Fr.app N0 Nq5
  have r6 : ∀ t, Steps p.tables e below (T5.setTop (mkF m 25 #[.val (.int xx), .val (.int yy), .val (.int pp), .val (.int qq), .val (.int vo), .val (.int wo), .unset, .unset, .unset, .unset, .unset, .unset, .unset, .unset, .unset, .unset, .unset, .unset, .unset, .unset, .unset] [(.int wo), (.int vo), (.int (own_exc (FP.i2d vo) (FP.i2d wo)))])) t → Steps p.tables e below (s₁.setTop (mkF m 12 #[.val (.int xx), .val (.int yy), .val (.int pp), .val (.int qq), .val (.int vo), .val (.int wo), .unset, .unset, .unset, .unset, .unset, .unset, .unset, .unset, .unset, .unset, .unset, .unset, .unset, .unset, .unset] [])) t := fun t kt => by
    show Steps p.tables e below (s₁.setTop (mkF m 12 #[.val (.int xx), .val (.int yy), .val (.int pp), .val (.int qq), .val (.int vo), .val (.int wo), .unset, .unset, .unset, .unset, .unset, .unset, .unset, .unset, .unset, .unset, .unset, .unset, .unset, .unset, .unset] [])) _
    refine XS.iload X0.here hx rfl (hb hby at_12) rfl ?_
    show Steps p.tables e below (s₁.setTop (mkF m 14 #[.val (.int xx), .val (.int yy), .val (.int pp), .val (.int qq), .val (.int vo), .val (.int wo), .unset, .unset, .unset, .unset, .unset, .unset, .unset, .unset, .unset, .unset, .unset, .unset, .unset, .unset, .unset] [(.int vo)])) _
    refine XS.i2dS X0.here hx rfl (hb hby at_14) rfl rfl ?_
    show Steps p.tables e below (s₁.setTop (mkF m 15 #[.val (.int xx), .val (.int yy), .val (.int pp), .val (.int qq), .val (.int vo), .val (.int wo), .unset, .unset, .unset, .unset, .unset, .unset, .unset, .unset, .unset, .unset, .unset, .unset, .unset, .unset, .unset] [(.double (FP.i2d vo))])) _
    refine XS.iload X0.here hx rfl (hb hby at_15) rfl ?_
    show Steps p.tables e below (s₁.setTop (mkF m 17 #[.val (.int xx), .val (.int yy), .val (.int pp), .val (.int qq), .val (.int vo), .val (.int wo), .unset, .unset, .unset, .unset, .unset, .unset, .unset, .unset, .unset, .unset, .unset, .unset, .unset, .unset, .unset] [(.int wo), (.double (FP.i2d vo))])) _
    refine XS.i2dS X0.here hx rfl (hb hby at_17) rfl rfl ?_
    show Steps p.tables e below (s₁.setTop (mkF m 18 #[.val (.int xx), .val (.int yy), .val (.int pp), .val (.int qq), .val (.int vo), .val (.int wo), .unset, .unset, .unset, .unset, .unset, .unset, .unset, .unset, .unset, .unset, .unset, .unset, .unset, .unset, .unset] [(.double (FP.i2d wo)), (.double (FP.i2d vo))])) _
    refine st5 _ ?_
    show Steps p.tables e below (T5.setTop (mkF m 21 #[.val (.int xx), .val (.int yy), .val (.int pp), .val (.int qq), .val (.int vo), .val (.int wo), .unset, .unset, .unset, .unset, .unset, .unset, .unset, .unset, .unset, .unset, .unset, .unset, .unset, .unset, .unset] [(.int (own_exc (FP.i2d vo) (FP.i2d wo)))])) _
    refine XS.iload X5.here hx rfl (hb hby at_21) rfl ?_
    show Steps p.tables e below (T5.setTop (mkF m 23 #[.val (.int xx), .val (.int yy), .val (.int pp), .val (.int qq), .val (.int vo), .val (.int wo), .unset, .unset, .unset, .unset, .unset, .unset, .unset, .unset, .unset, .unset, .unset, .unset, .unset, .unset, .unset] [(.int vo), (.int (own_exc (FP.i2d vo) (FP.i2d wo)))])) _
    refine XS.iload X5.here hx rfl (hb hby at_23) rfl ?_
    exact kt
  obtain ⟨v9, hv9⟩ : ∃ zz : Int32, zz = (if wo < vo then (1 : Int32) else (0 : Int32)) := ⟨_, rfl⟩
  have r7 : ∀ t, Steps p.tables e below (T5.setTop (mkF m 33 #[.val (.int xx), .val (.int yy), .val (.int pp), .val (.int qq), .val (.int vo), .val (.int wo), .unset, .unset, .unset, .unset, .unset, .unset, .unset, .unset, .unset, .unset, .unset, .unset, .unset, .unset, .unset] [(.int v9), (.int (own_exc (FP.i2d vo) (FP.i2d wo)))])) t → Steps p.tables e below (T5.setTop (mkF m 25 #[.val (.int xx), .val (.int yy), .val (.int pp), .val (.int qq), .val (.int vo), .val (.int wo), .unset, .unset, .unset, .unset, .unset, .unset, .unset, .unset, .unset, .unset, .unset, .unset, .unset, .unset, .unset] [(.int wo), (.int vo), (.int (own_exc (FP.i2d vo) (FP.i2d wo)))])) t := fun t kt => by
    rw [hv9] at kt
    by_cases hd8 : wo < vo
    · simp only [if_pos hd8] at kt
      show Steps p.tables e below (T5.setTop (mkF m 25 #[.val (.int xx), .val (.int yy), .val (.int pp), .val (.int qq), .val (.int vo), .val (.int wo), .unset, .unset, .unset, .unset, .unset, .unset, .unset, .unset, .unset, .unset, .unset, .unset, .unset, .unset, .unset] [(.int wo), (.int vo), (.int (own_exc (FP.i2d vo) (FP.i2d wo)))])) _
      refine XS.icmpNo X5.here hx rfl (hb hby at_25) rfl (tlt hd8).2.2.2 ?_
      show Steps p.tables e below (T5.setTop (mkF m 28 #[.val (.int xx), .val (.int yy), .val (.int pp), .val (.int qq), .val (.int vo), .val (.int wo), .unset, .unset, .unset, .unset, .unset, .unset, .unset, .unset, .unset, .unset, .unset, .unset, .unset, .unset, .unset] [(.int (own_exc (FP.i2d vo) (FP.i2d wo)))])) _
      refine XS.iconst X5.here hx rfl (hb hby at_28) ?_
      show Steps p.tables e below (T5.setTop (mkF m 29 #[.val (.int xx), .val (.int yy), .val (.int pp), .val (.int qq), .val (.int vo), .val (.int wo), .unset, .unset, .unset, .unset, .unset, .unset, .unset, .unset, .unset, .unset, .unset, .unset, .unset, .unset, .unset] [(.int (1 : Int32)), (.int (own_exc (FP.i2d vo) (FP.i2d wo)))])) _
      refine XS.goto X5.here hx rfl (pc0 := 29) (pc' := 33) rfl (hb hby at_29) (by decide) (by decide) ?_
      exact kt
    · simp only [if_neg hd8] at kt
      show Steps p.tables e below (T5.setTop (mkF m 25 #[.val (.int xx), .val (.int yy), .val (.int pp), .val (.int qq), .val (.int vo), .val (.int wo), .unset, .unset, .unset, .unset, .unset, .unset, .unset, .unset, .unset, .unset, .unset, .unset, .unset, .unset, .unset] [(.int wo), (.int vo), (.int (own_exc (FP.i2d vo) (FP.i2d wo)))])) _
      refine XS.icmpYes X5.here hx rfl (pc0 := 25) (pc' := 32) rfl (hb hby at_25) rfl (flt hd8).2.2.2 (by decide) (by decide) ?_
      show Steps p.tables e below (T5.setTop (mkF m 32 #[.val (.int xx), .val (.int yy), .val (.int pp), .val (.int qq), .val (.int vo), .val (.int wo), .unset, .unset, .unset, .unset, .unset, .unset, .unset, .unset, .unset, .unset, .unset, .unset, .unset, .unset, .unset] [(.int (own_exc (FP.i2d vo) (FP.i2d wo)))])) _
      refine XS.iconst X5.here hx rfl (hb hby at_32) ?_
      exact kt
  have r10 : ∀ t, Steps p.tables e below (T5.setTop (mkF m 53 #[.val (.int xx), .val (.int yy), .val (.int pp), .val (.int qq), .val (.int vo), .val (.int wo), .val (.int (1 : Int32)), .val (.long (((pp &&& (1023 : Int32)) + (1 : Int32)).toInt64)), .second, .unset, .unset, .unset, .unset, .unset, .unset, .unset, .unset, .unset, .unset, .unset, .unset] [])) t → Steps p.tables e below (T5.setTop (mkF m 33 #[.val (.int xx), .val (.int yy), .val (.int pp), .val (.int qq), .val (.int vo), .val (.int wo), .unset, .unset, .unset, .unset, .unset, .unset, .unset, .unset, .unset, .unset, .unset, .unset, .unset, .unset, .unset] [(.int v9), (.int (own_exc (FP.i2d vo) (FP.i2d wo)))])) t := fun t kt => by
    show Steps p.tables e below (T5.setTop (mkF m 33 #[.val (.int xx), .val (.int yy), .val (.int pp), .val (.int qq), .val (.int vo), .val (.int wo), .unset, .unset, .unset, .unset, .unset, .unset, .unset, .unset, .unset, .unset, .unset, .unset, .unset, .unset, .unset] [(.int v9), (.int (own_exc (FP.i2d vo) (FP.i2d wo)))])) _
    refine XS.icmpNo X5.here hx rfl (hb hby at_33) rfl (teq (by rw [hv9]; exact own_vs xx yy vo wo hvo hwo)).2 ?_
    show Steps p.tables e below (T5.setTop (mkF m 36 #[.val (.int xx), .val (.int yy), .val (.int pp), .val (.int qq), .val (.int vo), .val (.int wo), .unset, .unset, .unset, .unset, .unset, .unset, .unset, .unset, .unset, .unset, .unset, .unset, .unset, .unset, .unset] [])) _
    refine XS.iconst X5.here hx rfl (hb hby at_36) ?_
    show Steps p.tables e below (T5.setTop (mkF m 37 #[.val (.int xx), .val (.int yy), .val (.int pp), .val (.int qq), .val (.int vo), .val (.int wo), .unset, .unset, .unset, .unset, .unset, .unset, .unset, .unset, .unset, .unset, .unset, .unset, .unset, .unset, .unset] [(.int (1 : Int32))])) _
    refine XS.goto X5.here hx rfl (pc0 := 37) (pc' := 41) rfl (hb hby at_37) (by decide) (by decide) ?_
    show Steps p.tables e below (T5.setTop (mkF m 41 #[.val (.int xx), .val (.int yy), .val (.int pp), .val (.int qq), .val (.int vo), .val (.int wo), .unset, .unset, .unset, .unset, .unset, .unset, .unset, .unset, .unset, .unset, .unset, .unset, .unset, .unset, .unset] [(.int (1 : Int32))])) _
    refine XS.istore X5.here hx rfl (hb hby at_41) rfl (l' := #[.val (.int xx), .val (.int yy), .val (.int pp), .val (.int qq), .val (.int vo), .val (.int wo), .val (.int (1 : Int32)), .unset, .unset, .unset, .unset, .unset, .unset, .unset, .unset, .unset, .unset, .unset, .unset, .unset, .unset]) rfl ?_
    show Steps p.tables e below (T5.setTop (mkF m 43 #[.val (.int xx), .val (.int yy), .val (.int pp), .val (.int qq), .val (.int vo), .val (.int wo), .val (.int (1 : Int32)), .unset, .unset, .unset, .unset, .unset, .unset, .unset, .unset, .unset, .unset, .unset, .unset, .unset, .unset] [])) _
    refine XS.iloadN X5.here hx rfl (hb hby at_43) rfl ?_
    show Steps p.tables e below (T5.setTop (mkF m 44 #[.val (.int xx), .val (.int yy), .val (.int pp), .val (.int qq), .val (.int vo), .val (.int wo), .val (.int (1 : Int32)), .unset, .unset, .unset, .unset, .unset, .unset, .unset, .unset, .unset, .unset, .unset, .unset, .unset, .unset] [(.int pp)])) _
    refine XS.sipush X5.here hx rfl (hb hby at_44) ?_
    show Steps p.tables e below (T5.setTop (mkF m 47 #[.val (.int xx), .val (.int yy), .val (.int pp), .val (.int qq), .val (.int vo), .val (.int wo), .val (.int (1 : Int32)), .unset, .unset, .unset, .unset, .unset, .unset, .unset, .unset, .unset, .unset, .unset, .unset, .unset, .unset] [(.int (1023 : Int32)), (.int pp)])) _
    refine XS.iand X5.here hx rfl (hb hby at_47) rfl ?_
    show Steps p.tables e below (T5.setTop (mkF m 48 #[.val (.int xx), .val (.int yy), .val (.int pp), .val (.int qq), .val (.int vo), .val (.int wo), .val (.int (1 : Int32)), .unset, .unset, .unset, .unset, .unset, .unset, .unset, .unset, .unset, .unset, .unset, .unset, .unset, .unset] [(.int (pp &&& (1023 : Int32)))])) _
    refine XS.iconst X5.here hx rfl (hb hby at_48) ?_
    show Steps p.tables e below (T5.setTop (mkF m 49 #[.val (.int xx), .val (.int yy), .val (.int pp), .val (.int qq), .val (.int vo), .val (.int wo), .val (.int (1 : Int32)), .unset, .unset, .unset, .unset, .unset, .unset, .unset, .unset, .unset, .unset, .unset, .unset, .unset, .unset] [(.int (1 : Int32)), (.int (pp &&& (1023 : Int32)))])) _
    refine XS.iadd X5.here hx rfl (hb hby at_49) rfl ?_
    show Steps p.tables e below (T5.setTop (mkF m 50 #[.val (.int xx), .val (.int yy), .val (.int pp), .val (.int qq), .val (.int vo), .val (.int wo), .val (.int (1 : Int32)), .unset, .unset, .unset, .unset, .unset, .unset, .unset, .unset, .unset, .unset, .unset, .unset, .unset, .unset] [(.int ((pp &&& (1023 : Int32)) + (1 : Int32)))])) _
    refine XS.i2l X5.here hx rfl (hb hby at_50) rfl ?_
    show Steps p.tables e below (T5.setTop (mkF m 51 #[.val (.int xx), .val (.int yy), .val (.int pp), .val (.int qq), .val (.int vo), .val (.int wo), .val (.int (1 : Int32)), .unset, .unset, .unset, .unset, .unset, .unset, .unset, .unset, .unset, .unset, .unset, .unset, .unset, .unset] [(.long (((pp &&& (1023 : Int32)) + (1 : Int32)).toInt64))])) _
    refine XS.lstore X5.here hx rfl (hb hby at_51) rfl (l' := #[.val (.int xx), .val (.int yy), .val (.int pp), .val (.int qq), .val (.int vo), .val (.int wo), .val (.int (1 : Int32)), .val (.long (((pp &&& (1023 : Int32)) + (1 : Int32)).toInt64)), .second, .unset, .unset, .unset, .unset, .unset, .unset, .unset, .unset, .unset, .unset, .unset, .unset]) rfl ?_
    exact kt
  obtain ⟨lb, hlb⟩ : ∃ zz : Int64, zz = (((pp &&& (1023 : Int32)) + (1 : Int32)).toInt64) := ⟨_, rfl⟩
  have r11 : ∀ t, Steps p.tables e below (T5.setTop (mkF m 53 #[.val (.int xx), .val (.int yy), .val (.int pp), .val (.int qq), .val (.int vo), .val (.int wo), .val (.int (1 : Int32)), .val (.long lb), .second, .unset, .unset, .unset, .unset, .unset, .unset, .unset, .unset, .unset, .unset, .unset, .unset] [])) t → Steps p.tables e below (T5.setTop (mkF m 53 #[.val (.int xx), .val (.int yy), .val (.int pp), .val (.int qq), .val (.int vo), .val (.int wo), .val (.int (1 : Int32)), .val (.long (((pp &&& (1023 : Int32)) + (1 : Int32)).toInt64)), .second, .unset, .unset, .unset, .unset, .unset, .unset, .unset, .unset, .unset, .unset, .unset, .unset] [])) t := fun t kt => by
    subst hlb
    exact kt
  have r12 : ∀ t, Steps p.tables e below (T5.setTop (mkF m 65 #[.val (.int xx), .val (.int yy), .val (.int pp), .val (.int qq), .val (.int vo), .val (.int wo), .val (.int (1 : Int32)), .val (.long lb), .second, .val (.long (((qq &&& (2047 : Int32)) - (1023 : Int32)).toInt64)), .second, .unset, .unset, .unset, .unset, .unset, .unset, .unset, .unset, .unset, .unset] [])) t → Steps p.tables e below (T5.setTop (mkF m 53 #[.val (.int xx), .val (.int yy), .val (.int pp), .val (.int qq), .val (.int vo), .val (.int wo), .val (.int (1 : Int32)), .val (.long lb), .second, .unset, .unset, .unset, .unset, .unset, .unset, .unset, .unset, .unset, .unset, .unset, .unset] [])) t := fun t kt => by
    show Steps p.tables e below (T5.setTop (mkF m 53 #[.val (.int xx), .val (.int yy), .val (.int pp), .val (.int qq), .val (.int vo), .val (.int wo), .val (.int (1 : Int32)), .val (.long lb), .second, .unset, .unset, .unset, .unset, .unset, .unset, .unset, .unset, .unset, .unset, .unset, .unset] [])) _
    refine XS.iloadN X5.here hx rfl (hb hby at_53) rfl ?_
    show Steps p.tables e below (T5.setTop (mkF m 54 #[.val (.int xx), .val (.int yy), .val (.int pp), .val (.int qq), .val (.int vo), .val (.int wo), .val (.int (1 : Int32)), .val (.long lb), .second, .unset, .unset, .unset, .unset, .unset, .unset, .unset, .unset, .unset, .unset, .unset, .unset] [(.int qq)])) _
    refine XS.sipush X5.here hx rfl (hb hby at_54) ?_
    show Steps p.tables e below (T5.setTop (mkF m 57 #[.val (.int xx), .val (.int yy), .val (.int pp), .val (.int qq), .val (.int vo), .val (.int wo), .val (.int (1 : Int32)), .val (.long lb), .second, .unset, .unset, .unset, .unset, .unset, .unset, .unset, .unset, .unset, .unset, .unset, .unset] [(.int (2047 : Int32)), (.int qq)])) _
    refine XS.iand X5.here hx rfl (hb hby at_57) rfl ?_
    show Steps p.tables e below (T5.setTop (mkF m 58 #[.val (.int xx), .val (.int yy), .val (.int pp), .val (.int qq), .val (.int vo), .val (.int wo), .val (.int (1 : Int32)), .val (.long lb), .second, .unset, .unset, .unset, .unset, .unset, .unset, .unset, .unset, .unset, .unset, .unset, .unset] [(.int (qq &&& (2047 : Int32)))])) _
    refine XS.sipush X5.here hx rfl (hb hby at_58) ?_
    show Steps p.tables e below (T5.setTop (mkF m 61 #[.val (.int xx), .val (.int yy), .val (.int pp), .val (.int qq), .val (.int vo), .val (.int wo), .val (.int (1 : Int32)), .val (.long lb), .second, .unset, .unset, .unset, .unset, .unset, .unset, .unset, .unset, .unset, .unset, .unset, .unset] [(.int (1023 : Int32)), (.int (qq &&& (2047 : Int32)))])) _
    refine XS.isub X5.here hx rfl (hb hby at_61) rfl ?_
    show Steps p.tables e below (T5.setTop (mkF m 62 #[.val (.int xx), .val (.int yy), .val (.int pp), .val (.int qq), .val (.int vo), .val (.int wo), .val (.int (1 : Int32)), .val (.long lb), .second, .unset, .unset, .unset, .unset, .unset, .unset, .unset, .unset, .unset, .unset, .unset, .unset] [(.int ((qq &&& (2047 : Int32)) - (1023 : Int32)))])) _
    refine XS.i2l X5.here hx rfl (hb hby at_62) rfl ?_
    show Steps p.tables e below (T5.setTop (mkF m 63 #[.val (.int xx), .val (.int yy), .val (.int pp), .val (.int qq), .val (.int vo), .val (.int wo), .val (.int (1 : Int32)), .val (.long lb), .second, .unset, .unset, .unset, .unset, .unset, .unset, .unset, .unset, .unset, .unset, .unset, .unset] [(.long (((qq &&& (2047 : Int32)) - (1023 : Int32)).toInt64))])) _
    refine XS.lstore X5.here hx rfl (hb hby at_63) rfl (l' := #[.val (.int xx), .val (.int yy), .val (.int pp), .val (.int qq), .val (.int vo), .val (.int wo), .val (.int (1 : Int32)), .val (.long lb), .second, .val (.long (((qq &&& (2047 : Int32)) - (1023 : Int32)).toInt64)), .second, .unset, .unset, .unset, .unset, .unset, .unset, .unset, .unset, .unset, .unset]) rfl ?_
    exact kt
  obtain ⟨ld, hld⟩ : ∃ zz : Int64, zz = (((qq &&& (2047 : Int32)) - (1023 : Int32)).toInt64) := ⟨_, rfl⟩
  have r13 : ∀ t, Steps p.tables e below (T5.setTop (mkF m 65 #[.val (.int xx), .val (.int yy), .val (.int pp), .val (.int qq), .val (.int vo), .val (.int wo), .val (.int (1 : Int32)), .val (.long lb), .second, .val (.long ld), .second, .unset, .unset, .unset, .unset, .unset, .unset, .unset, .unset, .unset, .unset] [])) t → Steps p.tables e below (T5.setTop (mkF m 65 #[.val (.int xx), .val (.int yy), .val (.int pp), .val (.int qq), .val (.int vo), .val (.int wo), .val (.int (1 : Int32)), .val (.long lb), .second, .val (.long (((qq &&& (2047 : Int32)) - (1023 : Int32)).toInt64)), .second, .unset, .unset, .unset, .unset, .unset, .unset, .unset, .unset, .unset, .unset] [])) t := fun t kt => by
    subst hld
    exact kt
  have r14 : ∀ t, Steps p.tables e below (T5.setTop (mkF m 72 #[.val (.int xx), .val (.int yy), .val (.int pp), .val (.int qq), .val (.int vo), .val (.int wo), .val (.int (1 : Int32)), .val (.long lb), .second, .val (.long ld), .second, .val (.long (lb <<< ((40 : Int32) &&& 0x3f).toInt64)), .second, .unset, .unset, .unset, .unset, .unset, .unset, .unset, .unset] [])) t → Steps p.tables e below (T5.setTop (mkF m 65 #[.val (.int xx), .val (.int yy), .val (.int pp), .val (.int qq), .val (.int vo), .val (.int wo), .val (.int (1 : Int32)), .val (.long lb), .second, .val (.long ld), .second, .unset, .unset, .unset, .unset, .unset, .unset, .unset, .unset, .unset, .unset] [])) t := fun t kt => by
    show Steps p.tables e below (T5.setTop (mkF m 65 #[.val (.int xx), .val (.int yy), .val (.int pp), .val (.int qq), .val (.int vo), .val (.int wo), .val (.int (1 : Int32)), .val (.long lb), .second, .val (.long ld), .second, .unset, .unset, .unset, .unset, .unset, .unset, .unset, .unset, .unset, .unset] [])) _
    refine XS.lload X5.here hx rfl (hb hby at_65) rfl ?_
    show Steps p.tables e below (T5.setTop (mkF m 67 #[.val (.int xx), .val (.int yy), .val (.int pp), .val (.int qq), .val (.int vo), .val (.int wo), .val (.int (1 : Int32)), .val (.long lb), .second, .val (.long ld), .second, .unset, .unset, .unset, .unset, .unset, .unset, .unset, .unset, .unset, .unset] [(.long lb)])) _
    refine XS.bipush X5.here hx rfl (hb hby at_67) ?_
    show Steps p.tables e below (T5.setTop (mkF m 69 #[.val (.int xx), .val (.int yy), .val (.int pp), .val (.int qq), .val (.int vo), .val (.int wo), .val (.int (1 : Int32)), .val (.long lb), .second, .val (.long ld), .second, .unset, .unset, .unset, .unset, .unset, .unset, .unset, .unset, .unset, .unset] [(.int (40 : Int32)), (.long lb)])) _
    refine XS.lshl X5.here hx rfl (hb hby at_69) rfl ?_
    show Steps p.tables e below (T5.setTop (mkF m 70 #[.val (.int xx), .val (.int yy), .val (.int pp), .val (.int qq), .val (.int vo), .val (.int wo), .val (.int (1 : Int32)), .val (.long lb), .second, .val (.long ld), .second, .unset, .unset, .unset, .unset, .unset, .unset, .unset, .unset, .unset, .unset] [(.long (lb <<< ((40 : Int32) &&& 0x3f).toInt64))])) _
    refine XS.lstore X5.here hx rfl (hb hby at_70) rfl (l' := #[.val (.int xx), .val (.int yy), .val (.int pp), .val (.int qq), .val (.int vo), .val (.int wo), .val (.int (1 : Int32)), .val (.long lb), .second, .val (.long ld), .second, .val (.long (lb <<< ((40 : Int32) &&& 0x3f).toInt64)), .second, .unset, .unset, .unset, .unset, .unset, .unset, .unset, .unset]) rfl ?_
    exact kt
  obtain ⟨lo, hlo⟩ : ∃ zz : Int64, zz = (lb <<< ((40 : Int32) &&& 0x3f).toInt64) := ⟨_, rfl⟩
  have r15 : ∀ t, Steps p.tables e below (T5.setTop (mkF m 72 #[.val (.int xx), .val (.int yy), .val (.int pp), .val (.int qq), .val (.int vo), .val (.int wo), .val (.int (1 : Int32)), .val (.long lb), .second, .val (.long ld), .second, .val (.long lo), .second, .unset, .unset, .unset, .unset, .unset, .unset, .unset, .unset] [])) t → Steps p.tables e below (T5.setTop (mkF m 72 #[.val (.int xx), .val (.int yy), .val (.int pp), .val (.int qq), .val (.int vo), .val (.int wo), .val (.int (1 : Int32)), .val (.long lb), .second, .val (.long ld), .second, .val (.long (lb <<< ((40 : Int32) &&& 0x3f).toInt64)), .second, .unset, .unset, .unset, .unset, .unset, .unset, .unset, .unset] [])) t := fun t kt => by
    subst hlo
    exact kt
  obtain ⟨⟨no_, vno, lno⟩, ⟨nn_, vnn, lnn⟩, ⟨nf_, vnf, lnf⟩, x1_, x2_, x3_, x4_⟩ := own_big pp qq lb ld lo hlb hld hlo
  have nnO := own_nn vno lno
  have nnN := own_nn vnn lnn
  have nnF := own_nn vnf lnf
  obtain ⟨_, _, ⟨T16, L16, k16, n16⟩, -, X16, ⟨Lc16, hQ16, l16, y16, z16⟩, st16⟩ := Jvm.LawKit.callS X5 hx (y := (⟨"com/example/covey/covey/divisive/VertexSplits", "exceeds", "(DD)Z"⟩ : MethodName)) hown (mvT hZ (hw _ (List.mem_of_getElem? (i := 1) rfl))) (mvT hZ (hw _ (List.mem_of_getElem? (i := 2) rfl))) (mvT hZ (hw _ (List.mem_of_getElem? (i := 3) rfl))) (mvT hZ (hw _ (List.mem_of_getElem? (i := 4) rfl))) (by decide) (backOf (W := 0) (rmX l Z a0 hw [] (FP.l2d (lo + ld)) (FP.l2d lo) h0 n0 Z0 nnO.1 nnO.2) hZ (hw _ (List.mem_of_getElem? (i := 4) rfl)) (hw _ (List.mem_of_getElem? (i := 3) rfl)) (by decide) (by decide)) (g := (mkF m 100 #[.val (.int xx), .val (.int yy), .val (.int pp), .val (.int qq), .val (.int vo), .val (.int wo), .val (.int (1 : Int32)), .val (.long lb), .second, .val (.long ld), .second, .val (.long lo), .second, .val (.double (FP.l2d lo)), .second, .val (.double (FP.l2d (lo + ld))), .second, .val (.double (FP.l2d (lo + (lb <<< ((12 : Int32) &&& 0x3f).toInt64)))), .second, .unset, .unset] [(.double (FP.l2d lo)), (.double (FP.l2d (lo + ld)))])) rfl (by rw [hml]; rfl) (argsL := [(.double (FP.l2d (lo + ld))), (.double (FP.l2d lo))]) (rest := []) (lenOf own_pd0 rfl) rfl (by show 2 * 0 + _ ≤ _; exact Nat.le_of_eq rfl) (hb hby at_100) (fun _ _ => ⟨rfl, e5, (by decide : 0 + 0 ≤ _), (by decide : 0 + 0 ≤ _)⟩)
  dsimp only [Pt.U, Pt.locs, Pt.cells, Pt.slots] at X16 l16 y16 z16 st16 hQ16
  subst l16 y16 z16
  obtain ⟨rfl, Nq16, e16⟩ := hQ16
  have N16 := Fr.app N5 Nq16
  obtain ⟨_, _, ⟨T17, L17, k17, n17⟩, -, X17, ⟨Lc17, hQ17, l17, y17, z17⟩, st17⟩ := Jvm.LawKit.callS X16 hx (y := (⟨"com/example/covey/covey/divisive/VertexSplits", "exceeds", "(DD)Z"⟩ : MethodName)) hown (mvT hZ (hw _ (List.mem_of_getElem? (i := 1) rfl))) (mvT hZ (hw _ (List.mem_of_getElem? (i := 2) rfl))) (mvT hZ (hw _ (List.mem_of_getElem? (i := 3) rfl))) (mvT hZ (hw _ (List.mem_of_getElem? (i := 4) rfl))) (by decide) (backOf (W := 0) (rmX l Z a0 hw [] (FP.l2d lo) (FP.l2d (lo + ld)) h0 n0 Z0 nnN.1 nnN.2) hZ (hw _ (List.mem_of_getElem? (i := 4) rfl)) (hw _ (List.mem_of_getElem? (i := 3) rfl)) (by decide) (by decide)) (g := (mkF m 110 #[.val (.int xx), .val (.int yy), .val (.int pp), .val (.int qq), .val (.int vo), .val (.int wo), .val (.int (1 : Int32)), .val (.long lb), .second, .val (.long ld), .second, .val (.long lo), .second, .val (.double (FP.l2d lo)), .second, .val (.double (FP.l2d (lo + ld))), .second, .val (.double (FP.l2d (lo + (lb <<< ((12 : Int32) &&& 0x3f).toInt64)))), .second, .unset, .unset] [(.double (FP.l2d (lo + ld))), (.double (FP.l2d lo))])) rfl (by rw [hml]; rfl) (argsL := [(.double (FP.l2d lo)), (.double (FP.l2d (lo + ld)))]) (rest := []) (lenOf own_pd0 rfl) rfl (by show 2 * 0 + _ ≤ _; exact Nat.le_of_eq rfl) (hb hby at_110) (fun _ _ => ⟨rfl, e16, (by decide : 0 + 0 ≤ _), (by decide : 0 + 0 ≤ _)⟩)
  dsimp only [Pt.U, Pt.locs, Pt.cells, Pt.slots] at X17 l17 y17 z17 st17 hQ17
  subst l17 y17 z17
  obtain ⟨rfl, Nq17, e17⟩ := hQ17
  have N17 := Fr.app N16 Nq17
  obtain ⟨_, _, ⟨T18, L18, k18, n18⟩, -, X18, ⟨Lc18, hQ18, l18, y18, z18⟩, st18⟩ := Jvm.LawKit.callS X17 hx (y := (⟨"com/example/covey/covey/divisive/VertexSplits", "exceeds", "(DD)Z"⟩ : MethodName)) hown (mvT hZ (hw _ (List.mem_of_getElem? (i := 1) rfl))) (mvT hZ (hw _ (List.mem_of_getElem? (i := 2) rfl))) (mvT hZ (hw _ (List.mem_of_getElem? (i := 3) rfl))) (mvT hZ (hw _ (List.mem_of_getElem? (i := 4) rfl))) (by decide) (backOf (W := 0) (rmX l Z a0 hw [] (FP.l2d (lo + (lb <<< ((12 : Int32) &&& 0x3f).toInt64))) (FP.l2d lo) h0 n0 Z0 nnO.1 nnO.2) hZ (hw _ (List.mem_of_getElem? (i := 4) rfl)) (hw _ (List.mem_of_getElem? (i := 3) rfl)) (by decide) (by decide)) (g := (mkF m 127 #[.val (.int xx), .val (.int yy), .val (.int pp), .val (.int qq), .val (.int vo), .val (.int wo), .val (.int (1 : Int32)), .val (.long lb), .second, .val (.long ld), .second, .val (.long lo), .second, .val (.double (FP.l2d lo)), .second, .val (.double (FP.l2d (lo + ld))), .second, .val (.double (FP.l2d (lo + (lb <<< ((12 : Int32) &&& 0x3f).toInt64)))), .second, .val (.int (1 : Int32)), .unset] [(.double (FP.l2d lo)), (.double (FP.l2d (lo + (lb <<< ((12 : Int32) &&& 0x3f).toInt64))))])) rfl (by rw [hml]; rfl) (argsL := [(.double (FP.l2d (lo + (lb <<< ((12 : Int32) &&& 0x3f).toInt64)))), (.double (FP.l2d lo))]) (rest := []) (lenOf own_pd0 rfl) rfl (by show 2 * 0 + _ ≤ _; exact Nat.le_of_eq rfl) (hb hby at_127) (fun _ _ => ⟨rfl, e17, (by decide : 0 + 0 ≤ _), (by decide : 0 + 0 ≤ _)⟩)
  dsimp only [Pt.U, Pt.locs, Pt.cells, Pt.slots] at X18 l18 y18 z18 st18 hQ18
  subst l18 y18 z18
  obtain ⟨rfl, Nq18, e18⟩ := hQ18
  have N18 := Fr.app N17 Nq18
  obtain ⟨_, _, ⟨T19, L19, k19, n19⟩, -, X19, ⟨Lc19, hQ19, l19, y19, z19⟩, st19⟩ := Jvm.LawKit.callS X18 hx (y := (⟨"com/example/covey/covey/divisive/VertexSplits", "exceeds", "(DD)Z"⟩ : MethodName)) hown (mvT hZ (hw _ (List.mem_of_getElem? (i := 1) rfl))) (mvT hZ (hw _ (List.mem_of_getElem? (i := 2) rfl))) (mvT hZ (hw _ (List.mem_of_getElem? (i := 3) rfl))) (mvT hZ (hw _ (List.mem_of_getElem? (i := 4) rfl))) (by decide) (backOf (W := 0) (rmX l Z a0 hw [] (FP.l2d lo) (FP.l2d (lo + (lb <<< ((12 : Int32) &&& 0x3f).toInt64))) h0 n0 Z0 nnF.1 nnF.2) hZ (hw _ (List.mem_of_getElem? (i := 4) rfl)) (hw _ (List.mem_of_getElem? (i := 3) rfl)) (by decide) (by decide)) (g := (mkF m 137 #[.val (.int xx), .val (.int yy), .val (.int pp), .val (.int qq), .val (.int vo), .val (.int wo), .val (.int (1 : Int32)), .val (.long lb), .second, .val (.long ld), .second, .val (.long lo), .second, .val (.double (FP.l2d lo)), .second, .val (.double (FP.l2d (lo + ld))), .second, .val (.double (FP.l2d (lo + (lb <<< ((12 : Int32) &&& 0x3f).toInt64)))), .second, .val (.int (1 : Int32)), .unset] [(.double (FP.l2d (lo + (lb <<< ((12 : Int32) &&& 0x3f).toInt64)))), (.double (FP.l2d lo))])) rfl (by rw [hml]; rfl) (argsL := [(.double (FP.l2d lo)), (.double (FP.l2d (lo + (lb <<< ((12 : Int32) &&& 0x3f).toInt64))))]) (rest := []) (lenOf own_pd0 rfl) rfl (by show 2 * 0 + _ ≤ _; exact Nat.le_of_eq rfl) (hb hby at_137) (fun _ _ => ⟨rfl, e18, (by decide : 0 + 0 ≤ _), (by decide : 0 + 0 ≤ _)⟩)
  dsimp only [Pt.U, Pt.locs, Pt.cells, Pt.slots] at X19 l19 y19 z19 st19 hQ19
  subst l19 y19 z19
  obtain ⟨rfl, Nq19, e19⟩ := hQ19
  have N19 := Fr.app N18 Nq19
  obtain ⟨fs, hr, hrun, hended, hW, hsame⟩ := X19.leave (v := some (.int (1 : Int32))) (fun h => by rw [Bd.returns] at h; cases h)
  refine ⟨_, _, (pre0 _ (r1 _ (r2 _ (r3 _ (r4 _ (r6 _ (r7 _ (r10 _ (r11 _ (r12 _ (r13 _ (r14 _ (r15 _ ?_))))))))))))), hrun, hended, _, _, rfl, ?_, ⟨_, rfl⟩, hW, hsame.mono (by decide) (by decide)⟩
  · show Steps p.tables e below (T5.setTop (mkF m 72 #[.val (.int xx), .val (.int yy), .val (.int pp), .val (.int qq), .val (.int vo), .val (.int wo), .val (.int (1 : Int32)), .val (.long lb), .second, .val (.long ld), .second, .val (.long lo), .second, .unset, .unset, .unset, .unset, .unset, .unset, .unset, .unset] [])) _
    refine XS.lload X5.here hx rfl (hb hby at_72) rfl ?_
    show Steps p.tables e below (T5.setTop (mkF m 74 #[.val (.int xx), .val (.int yy), .val (.int pp), .val (.int qq), .val (.int vo), .val (.int wo), .val (.int (1 : Int32)), .val (.long lb), .second, .val (.long ld), .second, .val (.long lo), .second, .unset, .unset, .unset, .unset, .unset, .unset, .unset, .unset] [(.long lo)])) _
    refine XS.l2dS X5.here hx rfl (hb hby at_74) rfl rfl ?_
    show Steps p.tables e below (T5.setTop (mkF m 75 #[.val (.int xx), .val (.int yy), .val (.int pp), .val (.int qq), .val (.int vo), .val (.int wo), .val (.int (1 : Int32)), .val (.long lb), .second, .val (.long ld), .second, .val (.long lo), .second, .unset, .unset, .unset, .unset, .unset, .unset, .unset, .unset] [(.double (FP.l2d lo))])) _
    refine XS.dstore X5.here hx rfl (hb hby at_75) rfl (l' := #[.val (.int xx), .val (.int yy), .val (.int pp), .val (.int qq), .val (.int vo), .val (.int wo), .val (.int (1 : Int32)), .val (.long lb), .second, .val (.long ld), .second, .val (.long lo), .second, .val (.double (FP.l2d lo)), .second, .unset, .unset, .unset, .unset, .unset, .unset]) rfl ?_
    show Steps p.tables e below (T5.setTop (mkF m 77 #[.val (.int xx), .val (.int yy), .val (.int pp), .val (.int qq), .val (.int vo), .val (.int wo), .val (.int (1 : Int32)), .val (.long lb), .second, .val (.long ld), .second, .val (.long lo), .second, .val (.double (FP.l2d lo)), .second, .unset, .unset, .unset, .unset, .unset, .unset] [])) _
    refine XS.lload X5.here hx rfl (hb hby at_77) rfl ?_
    show Steps p.tables e below (T5.setTop (mkF m 79 #[.val (.int xx), .val (.int yy), .val (.int pp), .val (.int qq), .val (.int vo), .val (.int wo), .val (.int (1 : Int32)), .val (.long lb), .second, .val (.long ld), .second, .val (.long lo), .second, .val (.double (FP.l2d lo)), .second, .unset, .unset, .unset, .unset, .unset, .unset] [(.long lo)])) _
    refine XS.lload X5.here hx rfl (hb hby at_79) rfl ?_
    show Steps p.tables e below (T5.setTop (mkF m 81 #[.val (.int xx), .val (.int yy), .val (.int pp), .val (.int qq), .val (.int vo), .val (.int wo), .val (.int (1 : Int32)), .val (.long lb), .second, .val (.long ld), .second, .val (.long lo), .second, .val (.double (FP.l2d lo)), .second, .unset, .unset, .unset, .unset, .unset, .unset] [(.long ld), (.long lo)])) _
    refine XS.ladd X5.here hx rfl (hb hby at_81) rfl ?_
    show Steps p.tables e below (T5.setTop (mkF m 82 #[.val (.int xx), .val (.int yy), .val (.int pp), .val (.int qq), .val (.int vo), .val (.int wo), .val (.int (1 : Int32)), .val (.long lb), .second, .val (.long ld), .second, .val (.long lo), .second, .val (.double (FP.l2d lo)), .second, .unset, .unset, .unset, .unset, .unset, .unset] [(.long (lo + ld))])) _
    refine XS.l2dS X5.here hx rfl (hb hby at_82) rfl rfl ?_
    show Steps p.tables e below (T5.setTop (mkF m 83 #[.val (.int xx), .val (.int yy), .val (.int pp), .val (.int qq), .val (.int vo), .val (.int wo), .val (.int (1 : Int32)), .val (.long lb), .second, .val (.long ld), .second, .val (.long lo), .second, .val (.double (FP.l2d lo)), .second, .unset, .unset, .unset, .unset, .unset, .unset] [(.double (FP.l2d (lo + ld)))])) _
    refine XS.dstore X5.here hx rfl (hb hby at_83) rfl (l' := #[.val (.int xx), .val (.int yy), .val (.int pp), .val (.int qq), .val (.int vo), .val (.int wo), .val (.int (1 : Int32)), .val (.long lb), .second, .val (.long ld), .second, .val (.long lo), .second, .val (.double (FP.l2d lo)), .second, .val (.double (FP.l2d (lo + ld))), .second, .unset, .unset, .unset, .unset]) rfl ?_
    show Steps p.tables e below (T5.setTop (mkF m 85 #[.val (.int xx), .val (.int yy), .val (.int pp), .val (.int qq), .val (.int vo), .val (.int wo), .val (.int (1 : Int32)), .val (.long lb), .second, .val (.long ld), .second, .val (.long lo), .second, .val (.double (FP.l2d lo)), .second, .val (.double (FP.l2d (lo + ld))), .second, .unset, .unset, .unset, .unset] [])) _
    refine XS.lload X5.here hx rfl (hb hby at_85) rfl ?_
    show Steps p.tables e below (T5.setTop (mkF m 87 #[.val (.int xx), .val (.int yy), .val (.int pp), .val (.int qq), .val (.int vo), .val (.int wo), .val (.int (1 : Int32)), .val (.long lb), .second, .val (.long ld), .second, .val (.long lo), .second, .val (.double (FP.l2d lo)), .second, .val (.double (FP.l2d (lo + ld))), .second, .unset, .unset, .unset, .unset] [(.long lo)])) _
    refine XS.lload X5.here hx rfl (hb hby at_87) rfl ?_
    show Steps p.tables e below (T5.setTop (mkF m 89 #[.val (.int xx), .val (.int yy), .val (.int pp), .val (.int qq), .val (.int vo), .val (.int wo), .val (.int (1 : Int32)), .val (.long lb), .second, .val (.long ld), .second, .val (.long lo), .second, .val (.double (FP.l2d lo)), .second, .val (.double (FP.l2d (lo + ld))), .second, .unset, .unset, .unset, .unset] [(.long lb), (.long lo)])) _
    refine XS.bipush X5.here hx rfl (hb hby at_89) ?_
    show Steps p.tables e below (T5.setTop (mkF m 91 #[.val (.int xx), .val (.int yy), .val (.int pp), .val (.int qq), .val (.int vo), .val (.int wo), .val (.int (1 : Int32)), .val (.long lb), .second, .val (.long ld), .second, .val (.long lo), .second, .val (.double (FP.l2d lo)), .second, .val (.double (FP.l2d (lo + ld))), .second, .unset, .unset, .unset, .unset] [(.int (12 : Int32)), (.long lb), (.long lo)])) _
    refine XS.lshl X5.here hx rfl (hb hby at_91) rfl ?_
    show Steps p.tables e below (T5.setTop (mkF m 92 #[.val (.int xx), .val (.int yy), .val (.int pp), .val (.int qq), .val (.int vo), .val (.int wo), .val (.int (1 : Int32)), .val (.long lb), .second, .val (.long ld), .second, .val (.long lo), .second, .val (.double (FP.l2d lo)), .second, .val (.double (FP.l2d (lo + ld))), .second, .unset, .unset, .unset, .unset] [(.long (lb <<< ((12 : Int32) &&& 0x3f).toInt64)), (.long lo)])) _
    refine XS.ladd X5.here hx rfl (hb hby at_92) rfl ?_
    show Steps p.tables e below (T5.setTop (mkF m 93 #[.val (.int xx), .val (.int yy), .val (.int pp), .val (.int qq), .val (.int vo), .val (.int wo), .val (.int (1 : Int32)), .val (.long lb), .second, .val (.long ld), .second, .val (.long lo), .second, .val (.double (FP.l2d lo)), .second, .val (.double (FP.l2d (lo + ld))), .second, .unset, .unset, .unset, .unset] [(.long (lo + (lb <<< ((12 : Int32) &&& 0x3f).toInt64)))])) _
    refine XS.l2dS X5.here hx rfl (hb hby at_93) rfl rfl ?_
    show Steps p.tables e below (T5.setTop (mkF m 94 #[.val (.int xx), .val (.int yy), .val (.int pp), .val (.int qq), .val (.int vo), .val (.int wo), .val (.int (1 : Int32)), .val (.long lb), .second, .val (.long ld), .second, .val (.long lo), .second, .val (.double (FP.l2d lo)), .second, .val (.double (FP.l2d (lo + ld))), .second, .unset, .unset, .unset, .unset] [(.double (FP.l2d (lo + (lb <<< ((12 : Int32) &&& 0x3f).toInt64))))])) _
    refine XS.dstore X5.here hx rfl (hb hby at_94) rfl (l' := #[.val (.int xx), .val (.int yy), .val (.int pp), .val (.int qq), .val (.int vo), .val (.int wo), .val (.int (1 : Int32)), .val (.long lb), .second, .val (.long ld), .second, .val (.long lo), .second, .val (.double (FP.l2d lo)), .second, .val (.double (FP.l2d (lo + ld))), .second, .val (.double (FP.l2d (lo + (lb <<< ((12 : Int32) &&& 0x3f).toInt64)))), .second, .unset, .unset]) rfl ?_
    show Steps p.tables e below (T5.setTop (mkF m 96 #[.val (.int xx), .val (.int yy), .val (.int pp), .val (.int qq), .val (.int vo), .val (.int wo), .val (.int (1 : Int32)), .val (.long lb), .second, .val (.long ld), .second, .val (.long lo), .second, .val (.double (FP.l2d lo)), .second, .val (.double (FP.l2d (lo + ld))), .second, .val (.double (FP.l2d (lo + (lb <<< ((12 : Int32) &&& 0x3f).toInt64)))), .second, .unset, .unset] [])) _
    refine XS.dload X5.here hx rfl (hb hby at_96) rfl ?_
    show Steps p.tables e below (T5.setTop (mkF m 98 #[.val (.int xx), .val (.int yy), .val (.int pp), .val (.int qq), .val (.int vo), .val (.int wo), .val (.int (1 : Int32)), .val (.long lb), .second, .val (.long ld), .second, .val (.long lo), .second, .val (.double (FP.l2d lo)), .second, .val (.double (FP.l2d (lo + ld))), .second, .val (.double (FP.l2d (lo + (lb <<< ((12 : Int32) &&& 0x3f).toInt64)))), .second, .unset, .unset] [(.double (FP.l2d (lo + ld)))])) _
    refine XS.dload X5.here hx rfl (hb hby at_98) rfl ?_
    show Steps p.tables e below (T5.setTop (mkF m 100 #[.val (.int xx), .val (.int yy), .val (.int pp), .val (.int qq), .val (.int vo), .val (.int wo), .val (.int (1 : Int32)), .val (.long lb), .second, .val (.long ld), .second, .val (.long lo), .second, .val (.double (FP.l2d lo)), .second, .val (.double (FP.l2d (lo + ld))), .second, .val (.double (FP.l2d (lo + (lb <<< ((12 : Int32) &&& 0x3f).toInt64)))), .second, .unset, .unset] [(.double (FP.l2d lo)), (.double (FP.l2d (lo + ld)))])) _
    refine st16 _ ?_
    show Steps p.tables e below (T16.setTop (mkF m 103 #[.val (.int xx), .val (.int yy), .val (.int pp), .val (.int qq), .val (.int vo), .val (.int wo), .val (.int (1 : Int32)), .val (.long lb), .second, .val (.long ld), .second, .val (.long lo), .second, .val (.double (FP.l2d lo)), .second, .val (.double (FP.l2d (lo + ld))), .second, .val (.double (FP.l2d (lo + (lb <<< ((12 : Int32) &&& 0x3f).toInt64)))), .second, .unset, .unset] [(.int (own_exc (FP.l2d (lo + ld)) (FP.l2d lo)))])) _
    refine XS.ifNo X16.here hx rfl (hb hby at_103) rfl ((if0 _ _).trans (teq x1_).2) ?_
    show Steps p.tables e below (T16.setTop (mkF m 106 #[.val (.int xx), .val (.int yy), .val (.int pp), .val (.int qq), .val (.int vo), .val (.int wo), .val (.int (1 : Int32)), .val (.long lb), .second, .val (.long ld), .second, .val (.long lo), .second, .val (.double (FP.l2d lo)), .second, .val (.double (FP.l2d (lo + ld))), .second, .val (.double (FP.l2d (lo + (lb <<< ((12 : Int32) &&& 0x3f).toInt64)))), .second, .unset, .unset] [])) _
    refine XS.dload X16.here hx rfl (hb hby at_106) rfl ?_
    show Steps p.tables e below (T16.setTop (mkF m 108 #[.val (.int xx), .val (.int yy), .val (.int pp), .val (.int qq), .val (.int vo), .val (.int wo), .val (.int (1 : Int32)), .val (.long lb), .second, .val (.long ld), .second, .val (.long lo), .second, .val (.double (FP.l2d lo)), .second, .val (.double (FP.l2d (lo + ld))), .second, .val (.double (FP.l2d (lo + (lb <<< ((12 : Int32) &&& 0x3f).toInt64)))), .second, .unset, .unset] [(.double (FP.l2d lo))])) _
    refine XS.dload X16.here hx rfl (hb hby at_108) rfl ?_
    show Steps p.tables e below (T16.setTop (mkF m 110 #[.val (.int xx), .val (.int yy), .val (.int pp), .val (.int qq), .val (.int vo), .val (.int wo), .val (.int (1 : Int32)), .val (.long lb), .second, .val (.long ld), .second, .val (.long lo), .second, .val (.double (FP.l2d lo)), .second, .val (.double (FP.l2d (lo + ld))), .second, .val (.double (FP.l2d (lo + (lb <<< ((12 : Int32) &&& 0x3f).toInt64)))), .second, .unset, .unset] [(.double (FP.l2d (lo + ld))), (.double (FP.l2d lo))])) _
    refine st17 _ ?_
    show Steps p.tables e below (T17.setTop (mkF m 113 #[.val (.int xx), .val (.int yy), .val (.int pp), .val (.int qq), .val (.int vo), .val (.int wo), .val (.int (1 : Int32)), .val (.long lb), .second, .val (.long ld), .second, .val (.long lo), .second, .val (.double (FP.l2d lo)), .second, .val (.double (FP.l2d (lo + ld))), .second, .val (.double (FP.l2d (lo + (lb <<< ((12 : Int32) &&& 0x3f).toInt64)))), .second, .unset, .unset] [(.int (own_exc (FP.l2d lo) (FP.l2d (lo + ld))))])) _
    refine XS.ifNo X17.here hx rfl (hb hby at_113) rfl ((if0 _ _).trans (teq x2_).2) ?_
    show Steps p.tables e below (T17.setTop (mkF m 116 #[.val (.int xx), .val (.int yy), .val (.int pp), .val (.int qq), .val (.int vo), .val (.int wo), .val (.int (1 : Int32)), .val (.long lb), .second, .val (.long ld), .second, .val (.long lo), .second, .val (.double (FP.l2d lo)), .second, .val (.double (FP.l2d (lo + ld))), .second, .val (.double (FP.l2d (lo + (lb <<< ((12 : Int32) &&& 0x3f).toInt64)))), .second, .unset, .unset] [])) _
    refine XS.iconst X17.here hx rfl (hb hby at_116) ?_
    show Steps p.tables e below (T17.setTop (mkF m 117 #[.val (.int xx), .val (.int yy), .val (.int pp), .val (.int qq), .val (.int vo), .val (.int wo), .val (.int (1 : Int32)), .val (.long lb), .second, .val (.long ld), .second, .val (.long lo), .second, .val (.double (FP.l2d lo)), .second, .val (.double (FP.l2d (lo + ld))), .second, .val (.double (FP.l2d (lo + (lb <<< ((12 : Int32) &&& 0x3f).toInt64)))), .second, .unset, .unset] [(.int (1 : Int32))])) _
    refine XS.goto X17.here hx rfl (pc0 := 117) (pc' := 121) rfl (hb hby at_117) (by decide) (by decide) ?_
    show Steps p.tables e below (T17.setTop (mkF m 121 #[.val (.int xx), .val (.int yy), .val (.int pp), .val (.int qq), .val (.int vo), .val (.int wo), .val (.int (1 : Int32)), .val (.long lb), .second, .val (.long ld), .second, .val (.long lo), .second, .val (.double (FP.l2d lo)), .second, .val (.double (FP.l2d (lo + ld))), .second, .val (.double (FP.l2d (lo + (lb <<< ((12 : Int32) &&& 0x3f).toInt64)))), .second, .unset, .unset] [(.int (1 : Int32))])) _
    refine XS.istore X17.here hx rfl (hb hby at_121) rfl (l' := #[.val (.int xx), .val (.int yy), .val (.int pp), .val (.int qq), .val (.int vo), .val (.int wo), .val (.int (1 : Int32)), .val (.long lb), .second, .val (.long ld), .second, .val (.long lo), .second, .val (.double (FP.l2d lo)), .second, .val (.double (FP.l2d (lo + ld))), .second, .val (.double (FP.l2d (lo + (lb <<< ((12 : Int32) &&& 0x3f).toInt64)))), .second, .val (.int (1 : Int32)), .unset]) rfl ?_
    show Steps p.tables e below (T17.setTop (mkF m 123 #[.val (.int xx), .val (.int yy), .val (.int pp), .val (.int qq), .val (.int vo), .val (.int wo), .val (.int (1 : Int32)), .val (.long lb), .second, .val (.long ld), .second, .val (.long lo), .second, .val (.double (FP.l2d lo)), .second, .val (.double (FP.l2d (lo + ld))), .second, .val (.double (FP.l2d (lo + (lb <<< ((12 : Int32) &&& 0x3f).toInt64)))), .second, .val (.int (1 : Int32)), .unset] [])) _
    refine XS.dload X17.here hx rfl (hb hby at_123) rfl ?_
    show Steps p.tables e below (T17.setTop (mkF m 125 #[.val (.int xx), .val (.int yy), .val (.int pp), .val (.int qq), .val (.int vo), .val (.int wo), .val (.int (1 : Int32)), .val (.long lb), .second, .val (.long ld), .second, .val (.long lo), .second, .val (.double (FP.l2d lo)), .second, .val (.double (FP.l2d (lo + ld))), .second, .val (.double (FP.l2d (lo + (lb <<< ((12 : Int32) &&& 0x3f).toInt64)))), .second, .val (.int (1 : Int32)), .unset] [(.double (FP.l2d (lo + (lb <<< ((12 : Int32) &&& 0x3f).toInt64))))])) _
    refine XS.dload X17.here hx rfl (hb hby at_125) rfl ?_
    show Steps p.tables e below (T17.setTop (mkF m 127 #[.val (.int xx), .val (.int yy), .val (.int pp), .val (.int qq), .val (.int vo), .val (.int wo), .val (.int (1 : Int32)), .val (.long lb), .second, .val (.long ld), .second, .val (.long lo), .second, .val (.double (FP.l2d lo)), .second, .val (.double (FP.l2d (lo + ld))), .second, .val (.double (FP.l2d (lo + (lb <<< ((12 : Int32) &&& 0x3f).toInt64)))), .second, .val (.int (1 : Int32)), .unset] [(.double (FP.l2d lo)), (.double (FP.l2d (lo + (lb <<< ((12 : Int32) &&& 0x3f).toInt64))))])) _
    refine st18 _ ?_
    show Steps p.tables e below (T18.setTop (mkF m 130 #[.val (.int xx), .val (.int yy), .val (.int pp), .val (.int qq), .val (.int vo), .val (.int wo), .val (.int (1 : Int32)), .val (.long lb), .second, .val (.long ld), .second, .val (.long lo), .second, .val (.double (FP.l2d lo)), .second, .val (.double (FP.l2d (lo + ld))), .second, .val (.double (FP.l2d (lo + (lb <<< ((12 : Int32) &&& 0x3f).toInt64)))), .second, .val (.int (1 : Int32)), .unset] [(.int (own_exc (FP.l2d (lo + (lb <<< ((12 : Int32) &&& 0x3f).toInt64))) (FP.l2d lo)))])) _
    refine XS.ifNo X18.here hx rfl (hb hby at_130) rfl ((if0 _ _).trans (feq (by rw [x3_]; decide)).1) ?_
    show Steps p.tables e below (T18.setTop (mkF m 133 #[.val (.int xx), .val (.int yy), .val (.int pp), .val (.int qq), .val (.int vo), .val (.int wo), .val (.int (1 : Int32)), .val (.long lb), .second, .val (.long ld), .second, .val (.long lo), .second, .val (.double (FP.l2d lo)), .second, .val (.double (FP.l2d (lo + ld))), .second, .val (.double (FP.l2d (lo + (lb <<< ((12 : Int32) &&& 0x3f).toInt64)))), .second, .val (.int (1 : Int32)), .unset] [])) _
    refine XS.dload X18.here hx rfl (hb hby at_133) rfl ?_
    show Steps p.tables e below (T18.setTop (mkF m 135 #[.val (.int xx), .val (.int yy), .val (.int pp), .val (.int qq), .val (.int vo), .val (.int wo), .val (.int (1 : Int32)), .val (.long lb), .second, .val (.long ld), .second, .val (.long lo), .second, .val (.double (FP.l2d lo)), .second, .val (.double (FP.l2d (lo + ld))), .second, .val (.double (FP.l2d (lo + (lb <<< ((12 : Int32) &&& 0x3f).toInt64)))), .second, .val (.int (1 : Int32)), .unset] [(.double (FP.l2d lo))])) _
    refine XS.dload X18.here hx rfl (hb hby at_135) rfl ?_
    show Steps p.tables e below (T18.setTop (mkF m 137 #[.val (.int xx), .val (.int yy), .val (.int pp), .val (.int qq), .val (.int vo), .val (.int wo), .val (.int (1 : Int32)), .val (.long lb), .second, .val (.long ld), .second, .val (.long lo), .second, .val (.double (FP.l2d lo)), .second, .val (.double (FP.l2d (lo + ld))), .second, .val (.double (FP.l2d (lo + (lb <<< ((12 : Int32) &&& 0x3f).toInt64)))), .second, .val (.int (1 : Int32)), .unset] [(.double (FP.l2d (lo + (lb <<< ((12 : Int32) &&& 0x3f).toInt64)))), (.double (FP.l2d lo))])) _
    refine st19 _ ?_
    show Steps p.tables e below (T19.setTop (mkF m 140 #[.val (.int xx), .val (.int yy), .val (.int pp), .val (.int qq), .val (.int vo), .val (.int wo), .val (.int (1 : Int32)), .val (.long lb), .second, .val (.long ld), .second, .val (.long lo), .second, .val (.double (FP.l2d lo)), .second, .val (.double (FP.l2d (lo + ld))), .second, .val (.double (FP.l2d (lo + (lb <<< ((12 : Int32) &&& 0x3f).toInt64)))), .second, .val (.int (1 : Int32)), .unset] [(.int (own_exc (FP.l2d lo) (FP.l2d (lo + (lb <<< ((12 : Int32) &&& 0x3f).toInt64)))))])) _
    refine XS.ifNo X19.here hx rfl (hb hby at_140) rfl ((if0 _ _).trans (teq x4_).2) ?_
    show Steps p.tables e below (T19.setTop (mkF m 143 #[.val (.int xx), .val (.int yy), .val (.int pp), .val (.int qq), .val (.int vo), .val (.int wo), .val (.int (1 : Int32)), .val (.long lb), .second, .val (.long ld), .second, .val (.long lo), .second, .val (.double (FP.l2d lo)), .second, .val (.double (FP.l2d (lo + ld))), .second, .val (.double (FP.l2d (lo + (lb <<< ((12 : Int32) &&& 0x3f).toInt64)))), .second, .val (.int (1 : Int32)), .unset] [])) _
    refine XS.iconst X19.here hx rfl (hb hby at_143) ?_
    show Steps p.tables e below (T19.setTop (mkF m 144 #[.val (.int xx), .val (.int yy), .val (.int pp), .val (.int qq), .val (.int vo), .val (.int wo), .val (.int (1 : Int32)), .val (.long lb), .second, .val (.long ld), .second, .val (.long lo), .second, .val (.double (FP.l2d lo)), .second, .val (.double (FP.l2d (lo + ld))), .second, .val (.double (FP.l2d (lo + (lb <<< ((12 : Int32) &&& 0x3f).toInt64)))), .second, .val (.int (1 : Int32)), .unset] [(.int (1 : Int32))])) _
    refine XS.goto X19.here hx rfl (pc0 := 144) (pc' := 148) rfl (hb hby at_144) (by decide) (by decide) ?_
    show Steps p.tables e below (T19.setTop (mkF m 148 #[.val (.int xx), .val (.int yy), .val (.int pp), .val (.int qq), .val (.int vo), .val (.int wo), .val (.int (1 : Int32)), .val (.long lb), .second, .val (.long ld), .second, .val (.long lo), .second, .val (.double (FP.l2d lo)), .second, .val (.double (FP.l2d (lo + ld))), .second, .val (.double (FP.l2d (lo + (lb <<< ((12 : Int32) &&& 0x3f).toInt64)))), .second, .val (.int (1 : Int32)), .unset] [(.int (1 : Int32))])) _
    refine XS.istore X19.here hx rfl (hb hby at_148) rfl (l' := #[.val (.int xx), .val (.int yy), .val (.int pp), .val (.int qq), .val (.int vo), .val (.int wo), .val (.int (1 : Int32)), .val (.long lb), .second, .val (.long ld), .second, .val (.long lo), .second, .val (.double (FP.l2d lo)), .second, .val (.double (FP.l2d (lo + ld))), .second, .val (.double (FP.l2d (lo + (lb <<< ((12 : Int32) &&& 0x3f).toInt64)))), .second, .val (.int (1 : Int32)), .val (.int (1 : Int32))]) rfl ?_
    show Steps p.tables e below (T19.setTop (mkF m 150 #[.val (.int xx), .val (.int yy), .val (.int pp), .val (.int qq), .val (.int vo), .val (.int wo), .val (.int (1 : Int32)), .val (.long lb), .second, .val (.long ld), .second, .val (.long lo), .second, .val (.double (FP.l2d lo)), .second, .val (.double (FP.l2d (lo + ld))), .second, .val (.double (FP.l2d (lo + (lb <<< ((12 : Int32) &&& 0x3f).toInt64)))), .second, .val (.int (1 : Int32)), .val (.int (1 : Int32))] [])) _
    refine XS.iload X19.here hx rfl (hb hby at_150) rfl ?_
    show Steps p.tables e below (T19.setTop (mkF m 152 #[.val (.int xx), .val (.int yy), .val (.int pp), .val (.int qq), .val (.int vo), .val (.int wo), .val (.int (1 : Int32)), .val (.long lb), .second, .val (.long ld), .second, .val (.long lo), .second, .val (.double (FP.l2d lo)), .second, .val (.double (FP.l2d (lo + ld))), .second, .val (.double (FP.l2d (lo + (lb <<< ((12 : Int32) &&& 0x3f).toInt64)))), .second, .val (.int (1 : Int32)), .val (.int (1 : Int32))] [(.int (1 : Int32))])) _
    refine XS.ifNo X19.here hx rfl (hb hby at_152) rfl ((if0 _ _).trans (feq (by decide : ¬ ((1 : Int32) = (0 : Int32)))).1) ?_
    show Steps p.tables e below (T19.setTop (mkF m 155 #[.val (.int xx), .val (.int yy), .val (.int pp), .val (.int qq), .val (.int vo), .val (.int wo), .val (.int (1 : Int32)), .val (.long lb), .second, .val (.long ld), .second, .val (.long lo), .second, .val (.double (FP.l2d lo)), .second, .val (.double (FP.l2d (lo + ld))), .second, .val (.double (FP.l2d (lo + (lb <<< ((12 : Int32) &&& 0x3f).toInt64)))), .second, .val (.int (1 : Int32)), .val (.int (1 : Int32))] [])) _
    refine XS.iload X19.here hx rfl (hb hby at_155) rfl ?_
    show Steps p.tables e below (T19.setTop (mkF m 157 #[.val (.int xx), .val (.int yy), .val (.int pp), .val (.int qq), .val (.int vo), .val (.int wo), .val (.int (1 : Int32)), .val (.long lb), .second, .val (.long ld), .second, .val (.long lo), .second, .val (.double (FP.l2d lo)), .second, .val (.double (FP.l2d (lo + ld))), .second, .val (.double (FP.l2d (lo + (lb <<< ((12 : Int32) &&& 0x3f).toInt64)))), .second, .val (.int (1 : Int32)), .val (.int (1 : Int32))] [(.int (1 : Int32))])) _
    refine XS.ifNo X19.here hx rfl (hb hby at_157) rfl ((if0 _ _).trans (feq (by decide : ¬ ((1 : Int32) = (0 : Int32)))).1) ?_
    show Steps p.tables e below (T19.setTop (mkF m 160 #[.val (.int xx), .val (.int yy), .val (.int pp), .val (.int qq), .val (.int vo), .val (.int wo), .val (.int (1 : Int32)), .val (.long lb), .second, .val (.long ld), .second, .val (.long lo), .second, .val (.double (FP.l2d lo)), .second, .val (.double (FP.l2d (lo + ld))), .second, .val (.double (FP.l2d (lo + (lb <<< ((12 : Int32) &&& 0x3f).toInt64)))), .second, .val (.int (1 : Int32)), .val (.int (1 : Int32))] [])) _
    refine XS.iload X19.here hx rfl (hb hby at_160) rfl ?_
    show Steps p.tables e below (T19.setTop (mkF m 162 #[.val (.int xx), .val (.int yy), .val (.int pp), .val (.int qq), .val (.int vo), .val (.int wo), .val (.int (1 : Int32)), .val (.long lb), .second, .val (.long ld), .second, .val (.long lo), .second, .val (.double (FP.l2d lo)), .second, .val (.double (FP.l2d (lo + ld))), .second, .val (.double (FP.l2d (lo + (lb <<< ((12 : Int32) &&& 0x3f).toInt64)))), .second, .val (.int (1 : Int32)), .val (.int (1 : Int32))] [(.int (1 : Int32))])) _
    refine XS.ifNo X19.here hx rfl (hb hby at_162) rfl ((if0 _ _).trans (feq (by decide : ¬ ((1 : Int32) = (0 : Int32)))).1) ?_
    show Steps p.tables e below (T19.setTop (mkF m 165 #[.val (.int xx), .val (.int yy), .val (.int pp), .val (.int qq), .val (.int vo), .val (.int wo), .val (.int (1 : Int32)), .val (.long lb), .second, .val (.long ld), .second, .val (.long lo), .second, .val (.double (FP.l2d lo)), .second, .val (.double (FP.l2d (lo + ld))), .second, .val (.double (FP.l2d (lo + (lb <<< ((12 : Int32) &&& 0x3f).toInt64)))), .second, .val (.int (1 : Int32)), .val (.int (1 : Int32))] [])) _
    refine XS.iconst X19.here hx rfl (hb hby at_165) ?_
    show Steps p.tables e below (T19.setTop (mkF m 166 #[.val (.int xx), .val (.int yy), .val (.int pp), .val (.int qq), .val (.int vo), .val (.int wo), .val (.int (1 : Int32)), .val (.long lb), .second, .val (.long ld), .second, .val (.long lo), .second, .val (.double (FP.l2d lo)), .second, .val (.double (FP.l2d (lo + ld))), .second, .val (.double (FP.l2d (lo + (lb <<< ((12 : Int32) &&& 0x3f).toInt64)))), .second, .val (.int (1 : Int32)), .val (.int (1 : Int32))] [(.int (1 : Int32))])) _
    refine XS.goto X19.here hx rfl (pc0 := 166) (pc' := 170) rfl (hb hby at_166) (by decide) (by decide) ?_
    show Steps p.tables e below (T19.setTop (mkF m 170 #[.val (.int xx), .val (.int yy), .val (.int pp), .val (.int qq), .val (.int vo), .val (.int wo), .val (.int (1 : Int32)), .val (.long lb), .second, .val (.long ld), .second, .val (.long lo), .second, .val (.double (FP.l2d lo)), .second, .val (.double (FP.l2d (lo + ld))), .second, .val (.double (FP.l2d (lo + (lb <<< ((12 : Int32) &&& 0x3f).toInt64)))), .second, .val (.int (1 : Int32)), .val (.int (1 : Int32))] [(.int (1 : Int32))])) _
    exact retN X19 hx (t := .boolean) Bd.returns (by simp) (hb hby at_170) hr
  · show QL Z xx yy pp qq h0 n0 _ T19.heap _
    rw [e19]
    exact ⟨rfl, N19⟩
set_option maxRecDepth 65536 in
set_option maxHeartbeats 40000000 in
theorem comes_1 {Post : Tables → Env → Array Value → State → Outcome → State → Prop} (hpost : ∀ tb e args s v u, (limb_1_1.after args s (.returned v) u = true ∧ limb_1_2.after args s (.returned v) u = true ∧ True) → FrameEnd s (.returned v) u (Jvm.fieldLocs frame_1_writes args s ++ Jvm.arrayLocs frame_1_arrays args s ++ Jvm.staticLocs frame_1_statics s) 0 0 → Post tb e args s (.returned v) u) :
    ArmFor flags0 classFile x code maxLocals ret World_1 tables_1 room_1 Calls_1 rest_1 Pre_1 Post := by
  intro l hfl _ _ p e ha hc hk s m args below hf hA hF happ hP
  obtain ⟨hcalls, hrest, hpre⟩ := hP
  obtain ⟨-, -, -, hnamed, -, -, -, hat⟩ := (Spec.applies_iff hf).mp happ
  obtain ⟨hg, hn⟩ := and_e (Cond.before_iff.mp (show (Jvm.Cond.and given_1 narrow_1).before args s = true from hpre))
  obtain ⟨hcount, gr0⟩ := and_e hg
  obtain ⟨ga0, gr1⟩ := and_e gr0
  obtain ⟨ga1, gr2⟩ := and_e gr1
  obtain ⟨ga2, gr3⟩ := and_e gr2
  have ga3 := gr3
  obtain ⟨w0, w1, w2, w3, rfl⟩ : ∃ w0 w1 w2 w3 : Value, args = #[w0, w1, w2, w3] := by
    have hs : args.size = 4 := by simpa [Cond.value, given_1] using hcount
    obtain ⟨L⟩ := args
    match L, hs with
    | [w0, w1, w2, w3], _ => exact ⟨w0, w1, w2, w3, rfl⟩
  have hw := fun d (hd : d ∈ tables_1) => atoms_spec (ws := Jvm.Cond.code x code maxLocals ret :: tables_1) hat d (List.mem_cons_of_mem _ hd)
  have hfit : Fit s := fun {y c} hc i hi => by
    obtain ⟨ha, rfl⟩ := Array.getElem?_eq_some_iff.mp hc
    have q := List.all_eq_true.mp ((Array.all_eq_true_iff_forall_mem.mp hF) _ (Array.getElem_mem ha)) i (List.mem_range.mpr hi)
    simpa [Array.getElem?_eq_getElem hi] using q
  obtain ⟨i0, ei0⟩ := is_v ga0
  obtain rfl : w0 = (.int i0) := Option.some.inj ei0
  obtain ⟨i1, ei1⟩ := is_v ga1
  obtain rfl : w1 = (.int i1) := Option.some.inj ei1
  obtain ⟨i2, ei2⟩ := is_v ga2
  obtain rfl : w2 = (.int i2) := Option.some.inj ei2
  obtain ⟨i3, ei3⟩ := is_v ga3
  obtain rfl : w3 = (.int i3) := Option.some.inj ei3
  obtain ⟨n, o, h1, h2, h3, _, L, rfl, ⟨rfl, N⟩, hq⟩ := rmL l s _ hw tables_1 i0 i1 i2 i3 s.heap s.heap.size (Nat.le_refl _)  p e ha hc hk s m _ below hf ((Spec.applies_iff_loose hf).mp happ).1 ⟨rfl, State.Warmed39.refl s, rfl⟩ trivial
  refine ⟨n, _, h1, h2, h3, hpost _ _ _ _ _ _ ⟨Cond.after_iff.mpr rfl, Cond.after_iff.mpr (eq_i res_at (Term.int_eval (1)) rfl), trivial⟩ ⟨hq.1, hq.2.1, (hq.2.2.sift fun y hy => Or.inr (N y hy)).mono (by decide) (by decide)⟩⟩
theorem main_1_1 : Claimed_1_1 := comes_1 fun _ _ _ _ _ _ h hF => ⟨h.1, hF⟩
theorem main_1_2 : Claimed_1_2 := comes_1 fun _ _ _ _ _ _ h hF => ⟨h.2.1, hF⟩
end Jvm.Pilot.@@N@@
namespace Jvm.Pilot.@@N@@
open Jvm Jvm.ClassFile Sem Op Lib Jvm.Free Jvm.Stand Jvm.Pilot.@@N@@.Jvm.D
/-! MADE BY PROGRAM (witnessworld.py) out of the Statement's table words and the real class files: 9 classes; the members and pool entries that the words name. The judged class is class 1, her method 1. -/
namespace start1
open Jvm.ClassFile
def u (s : String) : CpInfo := .utf8 (stringToUtf16 s)
/-- a pool by its gaps: so many unusable entries, then the entry; so many at the end -/
def gap : Nat → List CpInfo → List CpInfo
  | 0, r => r
  | n + 1, r => .unusable :: gap n r
def poolList (es : List (Nat × CpInfo)) (last : Nat) : List CpInfo := es.foldr (fun e r => gap e.1 (e.2 :: r)) (gap last [])
def pool (es : List (Nat × CpInfo)) (last : Nat) : Array CpInfo := ⟨poolList es last⟩
def fileOf (pool : Array CpInfo) (this : Nat) (attrs : Array Attribute := #[]) (ms : Array MethodInfo := #[]) (fl : Nat := 33) (sup : Nat := 0) (ifs : Array Nat := #[]) (fds : Array FieldInfo := #[]) : ClassFile where
  minorVersion := 0
  majorVersion := 65
  constantPool := pool
  accessFlags := fl
  thisClass := this
  superClass := sup
  interfaces := ifs
  fields := fds
  methods := ms
  attributes := attrs
def plain (name : String) (sup : Option ClassId) : Class where
  name := name
  kind := .ordinary
  loader := none
  accessFlags := 33
  super := sup
  interfaces := #[]
  cf := none
  fields := #[]
  methods := #[]
  instanceTypes := #[]
  staticTypes := #[]
  resolved := #[]
  callSites := []
  init := .initialized
  statics := none
  mirror := none

def pool0 : Array CpInfo := pool [(5, u "<init>"), (0, u "()V"), (1, .class_ 10), (1, u "java/lang/Object")] 113

def k0m0 : Method := { name := "<init>", desc := "()V", sig := { parameters := [], returnType := none }, accessFlags := 1, code := none }
/-- java/lang/Object -/
def k0 : Class := { plain "java/lang/Object" none with
  accessFlags := 33
  interfaces := #[]
  cf := some (fileOf pool0 8 #[] #[{ accessFlags := 1, nameIndex := 5, descriptorIndex := 6, attributes := #[] }] 33 0 #[] #[])
  fields := #[]
  methods := #[k0m0]
  instanceTypes := #[]
  staticTypes := #[]
  resolved := Array.replicate 124 none
  statics := none }

def pool1 : Array CpInfo := pool [(2, .class_ 4), (1, u "java/lang/Object"), (0, u "<init>"), (0, u "()V"), (0, .integer 1048575), (0, .methodref 9 10), (0, .class_ 11), (0, .nameAndType 12 13), (0, u "com/example/covey/covey/divisive/VertexSplits"), (0, u "exceeds"), (0, u "(DD)Z"), (0, .class_ 15), (0, u "com/example/covey/covey/divisive/VertexSplitsExceedsPinLaw"), (2, u "law"), (0, u "(IIII)Z")] 3

def k1m0 : Method := { name := "<init>", desc := "()V", sig := { parameters := [], returnType := none }, accessFlags := 1, code := none }
def k1c1 : Code := { maxStack := 5, maxLocals := 21, code := code, exceptionTable := #[], attributes := #[] }
def k1m1 : Method := { name := "law", desc := "(IIII)Z", sig := { parameters := [.int, .int, .int, .int], returnType := some .boolean }, accessFlags := 9, code := some k1c1 }
/-- com/example/covey/covey/divisive/VertexSplitsExceedsPinLaw -/
def k1 : Class := { plain "com/example/covey/covey/divisive/VertexSplitsExceedsPinLaw" (some 0) with
  accessFlags := 49
  interfaces := #[]
  cf := some (fileOf pool1 14 #[] #[{ accessFlags := 1, nameIndex := 5, descriptorIndex := 6, attributes := #[] }, { accessFlags := 9, nameIndex := 18, descriptorIndex := 19, attributes := #[] }] 49 2 #[] #[])
  fields := #[]
  methods := #[k1m0, k1m1]
  instanceTypes := #[]
  staticTypes := #[]
  resolved := Array.replicate 23 none
  statics := none }

def pool2 : Array CpInfo := pool [(2, .class_ 4), (1, u "java/lang/Object"), (3, .class_ 10), (1, u "com/example/covey/covey/divisive/VertexSplits"), (0, u "network"), (0, u "Lcom/example/covey/covey/divisive/DividingNetwork;"), (2, u "betweenness"), (0, u "Lcom/example/covey/covey/divisive/Betweenness;"), (8, u "counted"), (0, u "[I"), (2, u "splitBetweenness"), (0, u "[D"), (3, u "moved"), (0, u "[[I"), (2, u "sources"), (38, .double 4472406533629990549), (28, u "exceeds"), (0, u "(DD)Z")] 165

def k2c0 : Code := { maxStack := 8, maxLocals := 4, code := prog_26_method_4_code, exceptionTable := #[], attributes := #[] }
def k2m0 : Method := { name := "exceeds", desc := "(DD)Z", sig := { parameters := [.double, .double], returnType := some .boolean }, accessFlags := 8, code := some k2c0 }
/-- com/example/covey/covey/divisive/VertexSplits -/
def k2 : Class := { plain "com/example/covey/covey/divisive/VertexSplits" (some 0) with
  accessFlags := 48
  interfaces := #[]
  cf := some (fileOf pool2 8 #[] #[{ accessFlags := 8, nameIndex := 106, descriptorIndex := 107, attributes := #[] }] 48 2 #[] #[{ accessFlags := 18, nameIndex := 11, descriptorIndex := 12, attributes := #[] }, { accessFlags := 18, nameIndex := 15, descriptorIndex := 16, attributes := #[] }, { accessFlags := 18, nameIndex := 25, descriptorIndex := 26, attributes := #[] }, { accessFlags := 18, nameIndex := 29, descriptorIndex := 30, attributes := #[] }, { accessFlags := 18, nameIndex := 34, descriptorIndex := 35, attributes := #[] }, { accessFlags := 18, nameIndex := 38, descriptorIndex := 26, attributes := #[] }])
  fields := #[{ name := "network", type := (.object "com/example/covey/covey/divisive/DividingNetwork"), accessFlags := 18, slot := 0, constantValue := 0 }, { name := "betweenness", type := (.object "com/example/covey/covey/divisive/Betweenness"), accessFlags := 18, slot := 1, constantValue := 0 }, { name := "counted", type := (.array .int), accessFlags := 18, slot := 2, constantValue := 0 }, { name := "splitBetweenness", type := (.array .double), accessFlags := 18, slot := 3, constantValue := 0 }, { name := "moved", type := (.array (.array .int)), accessFlags := 18, slot := 4, constantValue := 0 }, { name := "sources", type := (.array .int), accessFlags := 18, slot := 5, constantValue := 0 }]
  methods := #[k2m0]
  instanceTypes := #[(.object "com/example/covey/covey/divisive/DividingNetwork"), (.object "com/example/covey/covey/divisive/Betweenness"), (.array .int), (.array .double), (.array (.array .int)), (.array .int)]
  staticTypes := #[]
  resolved := Array.replicate 273 none
  statics := none }

def pool3 : Array CpInfo := pool [(1, u "java/lang/Cloneable"), (0, .class_ 1), (0, u "java/lang/Object"), (0, .class_ 3)] 3

/-- java/lang/Cloneable -/
def k3 : Class := { plain "java/lang/Cloneable" (some 0) with
  accessFlags := 1537
  interfaces := #[]
  cf := some (fileOf pool3 2 #[] #[] 1537 4 #[] #[])
  fields := #[]
  methods := #[]
  instanceTypes := #[]
  staticTypes := #[]
  resolved := Array.replicate 8 none
  statics := none }

def pool4 : Array CpInfo := pool [(1, u "java/io/Serializable"), (0, .class_ 1), (0, u "java/lang/Object"), (0, .class_ 3)] 3

/-- java/io/Serializable -/
def k4 : Class := { plain "java/io/Serializable" (some 0) with
  accessFlags := 1537
  interfaces := #[]
  cf := some (fileOf pool4 2 #[] #[] 1537 4 #[] #[])
  fields := #[]
  methods := #[]
  instanceTypes := #[]
  staticTypes := #[]
  resolved := Array.replicate 8 none
  statics := none }

/-- the primitive byte -/
def k5 : Class := { plain "byte" none with kind := .primitive 'B', accessFlags := 0x411 }
/-- [B -/
def k6 : Class := { plain "[B" (some 0) with kind := .array 5 .byte, interfaces := #[3, 4], accessFlags := 1041 }

/-- the primitive int -/
def k7 : Class := { plain "int" none with kind := .primitive 'I', accessFlags := 0x411 }
/-- [I -/
def k8 : Class := { plain "[I" (some 0) with kind := .array 7 .int, interfaces := #[3, 4], accessFlags := 1041 }

def heap : Heap := #[]
def classes : Array Class := #[k0, k1, k2, k3, k4, k5, k6, k7, k8]
def interned : List (Array UInt16 × Addr) := []
def slotsUsed : Nat := 0
def theMethod : MethodId := ⟨1, 1⟩
def args0 : Array Value := #[.int 5, .int 7, .int 6, .int 9]
def aboutOver (below : List Frame) : State where
  vm := { classes := classes, interned := interned.toArray }
  heap := heap
  slotsUsed := slotsUsed
  threads := #[{ frames := .invoking theMethod args0 :: below }]
def below0 : List Frame := [.native { method := ⟨0, 0⟩, args := #[] }]
def about1 : State := aboutOver below0
def p0 : Program := .bare "" "" ""
def e0 : Env := launch0.env 0 0 0
theorem w_frames : about1.frames = Frame.invoking theMethod args0 :: below0 := rfl
set_option maxRecDepth 65536 in
theorem w_args : argsFit about1.vm theMethod args0 = true := by decide +kernel
set_option maxRecDepth 65536 in
theorem w_heap : heapFits about1 = true := by decide +kernel
set_option maxRecDepth 65536 in
theorem w_runnable : about1.curStatus? = some .runnable := by decide +kernel
set_option maxRecDepth 65536 in
theorem w_alone : about1.alone = true := by decide +kernel
set_option maxRecDepth 65536 in
theorem w_named : about1.methodNamed? x = some theMethod := by decide +kernel
set_option maxRecDepth 65536 in
theorem w_hears : about1.hears theMethod below0 = true := by decide +kernel
set_option maxRecDepth 65536 in
theorem w_ripe : about1.ripe theMethod args0 below0 = true := by decide +kernel
theorem w_running : about1.status = .running := rfl
set_option maxRecDepth 65536 in
theorem w_room : about1.hasRoom e0.platform room_1 = true :=
  launch0.hasRoom_least _ room_1 (by decide +kernel) (by decide +kernel) (by decide +kernel) (by decide +kernel) (by decide +kernel) (by decide +kernel)
theorem allAtoms_all (ts : List Jvm.Cond) (a : Array Jvm.Value) (st : Jvm.State) : (allAtoms ts).before a st = ts.all (fun c => c.before a st) := by
  induction ts with
  | nil => rfl
  | cons c t ih =>
    show (Jvm.Cond.and c (allAtoms t)).before a st = _
    rw [Jvm.Cond.before_and, ih, List.all_cons]
def words1 : List Jvm.Cond := Jvm.Cond.code x code maxLocals ret :: tables_1
/-- a 'code' word, met by the world's own term for the bytes: nothing is compared byte by byte -/
theorem code_word {y : MethodName} {bytes : ByteArray} {mx : Nat} {rt : Option FieldType} {a : Array Value} {s : State} {m : MethodId} {meth : Method} {c : Code} (h1 : s.methodNamed? y = some m) (h2 : s.vm.method? m = some meth) (h3 : meth.code = some c) (h4 : c.code = bytes)
    (h5 : (c.maxLocals == mx && c.exceptionTable.isEmpty && decide (c.maxStack ≤ mostOperands) && decide (meth.sig.returnType = rt) && !meth.locks && decide (parseMethodDescriptor y.desc = some meth.sig)) = true) : (Jvm.Cond.code y bytes mx rt).before a s = true := by
  simp only [Bool.and_eq_true, beq_iff_eq, Bool.not_eq_true', decide_eq_true_eq] at h5
  obtain ⟨⟨⟨⟨⟨g1, g2⟩, g3⟩, g4⟩, g5⟩, g6⟩ := h5
  simp [Cond.before, Cond.holds, Cond.value, h1, h2, h3, h4, g1, g2, g3, g4, g5, g6]
def isCode : Jvm.Cond → Bool
  | .code _ _ _ _ => true
  | _ => false
theorem all_split {L : List Jvm.Cond} {P : Jvm.Cond → Bool} (h1 : L.all (fun c => isCode c || P c) = true) (h2 : ∀ c ∈ L.filter isCode, P c = true) : L.all P = true := by
  refine List.all_eq_true.mpr fun c hc => ?_
  have h := List.all_eq_true.mp h1 c hc
  rcases Bool.eq_false_or_eq_true (isCode c) with hi | hi
  · exact h2 c (List.mem_filter.mpr ⟨hc, hi⟩)
  · simpa [hi] using h
set_option maxRecDepth 65536 in
theorem w_c0 : (Jvm.Cond.code x code maxLocals ret).before args0 about1 = true := code_word (m := ⟨1, 1⟩) (meth := k1m1) (c := k1c1) (by decide +kernel) rfl rfl rfl (by decide +kernel)
set_option maxRecDepth 65536 in
theorem w_c1 : (Jvm.Cond.code ({ cls := "com/example/covey/covey/divisive/VertexSplits", name := "exceeds", desc := "(DD)Z" } : Jvm.MethodName) prog_26_method_4_code (4 : Nat) (Option.some Jvm.ClassFile.FieldType.boolean)).before args0 about1 = true := code_word (m := ⟨2, 0⟩) (meth := k2m0) (c := k2c0) (by decide +kernel) rfl rfl rfl (by decide +kernel)
def codes1 : List Jvm.Cond := [Jvm.Cond.code x code maxLocals ret, Jvm.Cond.code ({ cls := "com/example/covey/covey/divisive/VertexSplits", name := "exceeds", desc := "(DD)Z" } : Jvm.MethodName) prog_26_method_4_code (4 : Nat) (Option.some Jvm.ClassFile.FieldType.boolean)]
set_option maxRecDepth 65536 in
theorem codes_eq : words1.filter isCode = codes1 := rfl
theorem w_codes : ∀ c ∈ words1.filter isCode, c.before args0 about1 = true := by
  rw [codes_eq]
  intro c hc
  simp only [codes1, List.mem_cons, List.not_mem_nil, or_false] at hc
  rcases hc with rfl | rfl
  · exact w_c0
  · exact w_c1
set_option maxRecDepth 65536 in
theorem w_t1 : words1.all (fun c => isCode c || c.before args0 about1) = true := by decide +kernel
theorem w_tables : (allAtoms (Jvm.Cond.code x code maxLocals ret :: tables_1)).before args0 about1 = true := by
  rw [allAtoms_all]
  show words1.all (fun c => c.before args0 about1) = true
  refine all_split ?_ w_codes
  rw [w_t1]
set_option maxRecDepth 65536 in
theorem w_case : (Jvm.Cond.and given_1 narrow_1).before args0 about1 = true := by decide +kernel
theorem w_applies : (headSpec (Jvm.Cond.code x code maxLocals ret :: tables_1) room_1).applies x e0.platform about1 = true :=
  (Spec.applies_iff w_frames).mpr ⟨w_running, w_runnable, w_alone, w_named, w_hears, w_ripe, w_room, w_tables⟩
theorem atStart : AtStart classFile x code maxLocals ret World_1 tables_1 room_1 Calls_1 rest_1 Pre_1 launch0 p0 e0 about1 theMethod args0 below0 :=
  ⟨lists_1, trivial, launch0.admits_env _ _ _, launch0.least_env, fairChoices_fair.cas, fairChoices_fair.clock, w_frames, w_args, w_heap, w_applies, trivial, trivial, w_case⟩
end start1
theorem witness_1 : WitnessClaimed_1 := ⟨start1.p0, start1.e0, start1.about1, start1.theMethod, start1.args0, start1.below0, start1.atStart⟩
end Jvm.Pilot.@@N@@
