import JvmDerived
import JvmDerived.Pilot.@@N@@Statement
import JvmDerived.Pilot.@@N@@Code
set_option linter.unusedVariables false
set_option linter.unusedSimpArgs false
namespace Jvm.RoadKit
open Sem ClassFile Op Lib Jvm.Stand Jvm.Free Jvm.LawKit
section New
variable {p : Program} {l : Launch} {e : Env} {R : Room} {s : State} {m : MethodId} {args : Array Value} {below : List Frame} {meth : Method} {c : Code} {T : State} {locs : List Loc} {cells slots : Nat}
theorem retI (X : Stand p l e R s m args below meth c T locs cells slots) (hx : p.tables.exec = Jvm.exec) {pc : Nat} {Ls : Array Slot} {z : Int32} {rest : List Value} (hret : meth.sig.returnType = some .int) (hd : decode c.code pc = .ok (.ireturn, 1)) {fs : List Frame}
    (hl : ∀ (f : JFrame) (acts : List Action), f.method = m → f.locked = none → f.entered = [] → (doReturn e (T.setTop f) acts (some (.int z))).1 = T.setFrames fs) : Steps p.tables e below (T.setTop (mkF m pc Ls (.int z :: rest))) (T.setFrames fs) := by
  have hm' : T.vm.method? m = some meth := X.method'
  have hn : narrow .int (.int z) = .int z := rfl
  show Steps p.tables e below (T.setTop { method := m, pc := pc, locals := Ls, stack := _ :: rest, locked := none }) _
  jvm_step X.here [X.here.top, hx, hd, hm', hret, hn]
  first | (intro acts; rw [hl _ acts rfl rfl rfl]) | rw [hl _ _ rfl rfl rfl]
  exact Steps.refl _
end New
end Jvm.RoadKit
namespace Jvm.Pilot.@@N@@
open Jvm Jvm.ClassFile Sem Op Lib Jvm.Free Jvm.Stand Jvm.LawKit Jvm.RoadKit Bundle Jvm.Pilot.@@N@@.Jvm.D
theorem nlt {a b c : Nat} (h : a < b) (k : b ≤ c) : a ≠ c := Nat.ne_of_lt (Nat.lt_of_lt_of_le h k)
theorem Wd {a0 : Array Value} {Z : State} (hw : ∀ d ∈ tables_1, d.before a0 Z = true) (i : Nat) {d : Jvm.Cond} (h : tables_1[i]? = some d) : d.before a0 Z = true := hw d (List.mem_of_getElem? h)
def own_get (l : List Int32) (j : Int32) : Int32 := l.getD j.toNatClampNeg 0
theorem own_getV (l : List Int32) (j : Int32) : (l.map Value.int).getD j.toNatClampNeg (.int (0 : Int32)) = .int (own_get l j) := by
 unfold own_get
 rw [List.getD_eq_getElem?_getD, List.getD_eq_getElem?_getD, List.getElem?_map]
 cases l[j.toNatClampNeg]? <;> rfl
/-- an array's values beyond its length don't matter -/
theorem own_irr {Z : State} {h : Heap} {a : Addr} {k : ClassId} {ty : FieldType} {n : Int32} {vs vs' : List Value} {d : Value} (F : Arv Z h a k ty n vs d) (q : ∀ i, i < n.toNatClampNeg → vs'.getD i d = vs.getD i d) : Arv Z h a k ty n vs' d := by
 obtain ⟨c, A, r1, r2, r3, H, G⟩ := F
 exact ⟨c, A, r1, r2, r3, fun i hi => by rw [q i (by omega)]; exact H i hi, fun i hi => by rw [q i (by omega)]; exact G i hi⟩
theorem own_short {w c : Int32} {n : Nat} (h : ¬ c < w) (hc : c.toInt = (n : Int)) : w.toNatClampNeg ≤ n := by
 rw [Int32.lt_iff_toInt_lt] at h; simp only [Int32.toNatClampNeg]; omega
theorem own_lt {w c : Int32} {n : Nat} (h : c < w) (hc : c.toInt = (n : Int)) : (n : Int) < w.toInt := by rw [Int32.lt_iff_toInt_lt] at h; omega
theorem own_le7 {w : Int32} (h : 0 ≤ w.toInt ∧ w.toInt ≤ 7) : ¬ (7 : Int32) < w := by
 have k0 : (7 : Int32).toInt = 7 := by decide
 rw [Int32.lt_iff_toInt_lt, k0]; omega
theorem own_lo2 (x : Int32) : x.toInt8.toInt32.toInt8.toInt32 = x.toInt8.toInt32 := by rw [Int8.toInt8_toInt32]
/-- no char below the length is above 255 -/
abbrev own_lat (n : Int32) (l : List Int32) : Prop := ∀ i : Nat, (i : Int) < n.toInt → ¬ (255 : Int32) < l.getD i 0
/-- place j below the length holds one above 255 -/
abbrev own_at (n : Int32) (l : List Int32) (j : Int32) : Prop := ∃ i : Nat, i < 7 ∧ j.toInt = (i : Int) ∧ (i : Int) < n.toInt ∧ (255 : Int32) < l.getD i 0
abbrev own_wide (n : Int32) (l : List Int32) : Prop := ∃ i : Nat, i < 7 ∧ (i : Int) < n.toInt ∧ (255 : Int32) < l.getD i 0
abbrev own_w0 (x : Int32) : Int32 := (((x >>> ((0 : Int32) &&& 31)).toInt8.toInt32)).toInt8.toInt32
abbrev own_w1 (x : Int32) : Int32 := (((x >>> ((8 : Int32) &&& 31)).toInt8.toInt32)).toInt8.toInt32
theorem own_eight {w : Int32} (h : 0 ≤ w.toInt ∧ w.toInt ≤ 7) : w = 0 ∨ w = 1 ∨ w = 2 ∨ w = 3 ∨ w = 4 ∨ w = 5 ∨ w = 6 ∨ w = 7 := by
 have e : w.toInt = 0 ∨ w.toInt = 1 ∨ w.toInt = 2 ∨ w.toInt = 3 ∨ w.toInt = 4 ∨ w.toInt = 5 ∨ w.toInt = 6 ∨ w.toInt = 7 := by omega
 have k : ∀ y : Int32, w.toInt = y.toInt → w = y := fun y q => Int32.toInt_inj.mp q
 rcases e with e | e | e | e | e | e | e | e
 ·exact Or.inl (k 0 e)
 ·exact Or.inr (Or.inl (k 1 e))
 ·exact Or.inr (Or.inr (Or.inl (k 2 e)))
 ·exact Or.inr (Or.inr (Or.inr (Or.inl (k 3 e))))
 ·exact Or.inr (Or.inr (Or.inr (Or.inr (Or.inl (k 4 e)))))
 ·exact Or.inr (Or.inr (Or.inr (Or.inr (Or.inr (Or.inl (k 5 e))))))
 ·exact Or.inr (Or.inr (Or.inr (Or.inr (Or.inr (Or.inr (Or.inl (k 6 e)))))))
 ·exact Or.inr (Or.inr (Or.inr (Or.inr (Or.inr (Or.inr (Or.inr (k 7 e)))))))
theorem own_shl {w : Int32} (h : 0 ≤ w.toInt ∧ w.toInt ≤ 7) : (w <<< ((1 : Int32) &&& 31)).toInt = 2 * w.toInt := by rcases own_eight h with rfl | rfl | rfl | rfl | rfl | rfl | rfl | rfl <;> decide
theorem own_shr {w : Int32} (h : 0 ≤ w.toInt ∧ w.toInt ≤ 7) : ((w <<< ((1 : Int32) &&& 31)) >>> ((1 : Int32) &&& 31)) = w := by rcases own_eight h with rfl | rfl | rfl | rfl | rfl | rfl | rfl | rfl <;> decide
theorem own_nn0 {w : Int32} (h : 0 ≤ w.toInt ∧ w.toInt ≤ 7) : ¬ w < (0 : Int32) := by rcases own_eight h with rfl | rfl | rfl | rfl | rfl | rfl | rfl | rfl <;> decide
theorem own_big {w : Int32} (h : 0 ≤ w.toInt ∧ w.toInt ≤ 7) : w < (1073741823 : Int32) := by rcases own_eight h with rfl | rfl | rfl | rfl | rfl | rfl | rfl | rfl <;> decide
theorem own_neg7 {w : Int32} (h : 0 ≤ w.toInt ∧ w.toInt ≤ 7) : ¬ w < 0 ∧ w.toNatClampNeg ≤ 7 := by rcases own_eight h with rfl | rfl | rfl | rfl | rfl | rfl | rfl | rfl <;> decide
abbrev own_sz (x : Int32) : Prop := ¬ x < 0 ∧ x.toNatClampNeg ≤ 14
theorem own_sz14 {w : Int32} (h : 0 ≤ w.toInt ∧ w.toInt ≤ 7) : own_sz (w <<< ((1 : Int32) &&& 31)) := by rcases own_eight h with rfl | rfl | rfl | rfl | rfl | rfl | rfl | rfl <;> decide
theorem own_sh2 {w c d : Int32} {i : Nat} (h : 0 ≤ w.toInt ∧ w.toInt ≤ 7) (hc : c < w) (e : c.toInt = (i : Int)) (hd : d.toInt ≤ 2 * (i : Int) + 1) : d < (w <<< ((1 : Int32) &&& 31)) := by
 rw [Int32.lt_iff_toInt_lt] at hc ⊢; rw [own_shl h]; omega
theorem own_shortS {w c : Int32} {n : Nat} (h : 0 ≤ w.toInt ∧ w.toInt ≤ 7) (hc : ¬ c < w) (e : c.toInt = (n : Int)) : (w <<< ((1 : Int32) &&& 31)).toNatClampNeg ≤ 2 * n := by
 rw [Int32.lt_iff_toInt_lt] at hc; have := own_shl h; simp only [Int32.toNatClampNeg]; omega
theorem own_jne {n j : Int32} {l : List Int32} (h : own_at n l j) : ¬ j = n := by rintro rfl; obtain ⟨i, h1, h2, h3, -⟩ := h; omega
theorem own_pick {n j c : Int32} {l : List Int32} {i : Nat} (h : own_at n l j) (hk : j = c) (e : c.toInt = (i : Int)) : (i : Int) < n.toInt ∧ (255 : Int32) < l.getD i 0 := by
 obtain ⟨q, h1, h2, h3, h4⟩ := h
 have : q = i := by subst hk; omega
 subst this; exact ⟨h3, h4⟩
theorem own_seven {n j : Int32} {l : List Int32} (h : own_at n l j) : j = 0 ∨ j = 1 ∨ j = 2 ∨ j = 3 ∨ j = 4 ∨ j = 5 ∨ j = 6 := by
 obtain ⟨i, h1, h2, h3, -⟩ := h
 rcases own_eight (w := j) ⟨by omega, by omega⟩ with e | e | e | e | e | e | e | e
 ·exact Or.inl e
 ·exact Or.inr (Or.inl e)
 ·exact Or.inr (Or.inr (Or.inl e))
 ·exact Or.inr (Or.inr (Or.inr (Or.inl e)))
 ·exact Or.inr (Or.inr (Or.inr (Or.inr (Or.inl e))))
 ·exact Or.inr (Or.inr (Or.inr (Or.inr (Or.inr (Or.inl e)))))
 ·exact Or.inr (Or.inr (Or.inr (Or.inr (Or.inr (Or.inr e)))))
 ·subst e; have : (7 : Int32).toInt = 7 := by decide
  omega
abbrev own_rd (x : Int32) : Int32 := ((((own_w0 x) &&& (255 : Int32)) <<< ((0 : Int32) &&& 31)) ||| (((own_w1 x) &&& (255 : Int32)) <<< ((8 : Int32) &&& 31))).toUInt32.toUInt16.toUInt32.toInt32
abbrev own_c16 (x : Int32) : Prop := 0 ≤ x.toInt ∧ x.toInt ≤ 65535
theorem own_hi (v : BitVec 32) (hv : v.toNat < 65536) (j : Nat) (hj : 16 ≤ j) : v.getLsbD j = false := by
 rw [BitVec.getLsbD]; exact Nat.testBit_lt_two_pow (Nat.lt_of_lt_of_le hv (Nat.le_trans (by decide : 65536 ≤ 2 ^ 16) (Nat.pow_le_pow_right (by decide) hj)))
theorem own_rdb (v : BitVec 32) (hv : v.toNat < 65536) :
  ((((((v.signExtend 8).signExtend 32) &&& 255#32)) ||| (((((v.sshiftRight 8).signExtend 8).signExtend 32) &&& 255#32) <<< 8)).setWidth 16).setWidth 32 = v := by
 apply BitVec.eq_of_getLsbD_eq
 intro i hi
 have hz := own_hi v hv
 have h255 : ∀ j, (255#32).getLsbD j = decide (j < 8) := by
  intro j
  by_cases h : j < 32
  ·exact (by decide : ∀ k : Fin 32, (255#32).getLsbD k.val = decide (k.val < 8)) ⟨j, h⟩
  ·rw [BitVec.getLsbD_of_ge _ _ (by omega)]; simp; omega
 simp only [BitVec.getLsbD_setWidth, BitVec.getLsbD_or, BitVec.getLsbD_and, BitVec.getLsbD_shiftLeft, BitVec.getLsbD_signExtend, BitVec.getLsbD_sshiftRight, h255]
 by_cases a : i < 8
 ·simp [a, show i < 16 by omega, show i < 32 by omega]
 ·by_cases b : i < 16
  ·simp [a, b, show i - 8 < 8 by omega, show i - 8 < 32 by omega, show i < 32 by omega, show 8 + (i - 8) = i by omega, show 8 ≤ i by omega]
  ·rw [hz i (by omega)]; simp [a, b]
theorem own_rdq {x : Int32} (h : own_c16 x) : own_rd x = x := by
 have hv : x.toBitVec.toNat < 65536 := by
  have e : x.toInt = x.toBitVec.toInt := rfl
  rw [BitVec.toInt_eq_toNat_cond] at e
  have := x.toBitVec.isLt
  obtain ⟨h1, h2⟩ := h
  split at e <;> omega
 apply Int32.toBitVec_inj.mp
 refine Eq.trans ?_ (own_rdb x.toBitVec hv)
 have k1 : ∀ y : Int32, (y.toInt8.toInt32).toInt8.toInt32 = y.toInt8.toInt32 := fun y => by rw [Int8.toInt8_toInt32]
 have k0 : x >>> ((0 : Int32) &&& 31) = x := by apply Int32.toBitVec_inj.mp; simp
 have k2 : ∀ y : Int32, y <<< ((0 : Int32) &&& 31) = y := fun y => by apply Int32.toBitVec_inj.mp; simp
 have k3 : ∀ y : Int32, (y <<< ((8 : Int32) &&& 31)).toBitVec = y.toBitVec <<< 8 := fun y => by simp
 have k4 : (x >>> ((8 : Int32) &&& 31)).toBitVec = x.toBitVec.sshiftRight 8 := by simp
 have i2 : ∀ z : Int32, (z.toUInt32.toUInt16.toUInt32.toInt32).toBitVec = (z.toBitVec.setWidth 16).setWidth 32 := fun z => rfl
 have t8 : ∀ y : Int32, (y.toInt8.toInt32).toBitVec = (y.toBitVec.signExtend 8).signExtend 32 := fun y => rfl
 simp only [own_rd, own_w0, own_w1, k1, k0, k2]
 rw [i2, Int32.toBitVec_or, Int32.toBitVec_and, k3, Int32.toBitVec_and, t8, t8, k4]
 rfl
theorem own_rd255 {x : Int32} (h : own_c16 x) (q : (255 : Int32) < x) : (255 : Int32) < own_rd x := by rw [own_rdq h]; exact q
theorem own_i2c (x : Int32) : (x.toUInt32.toUInt16.toUInt32.toInt32).toUInt32.toUInt16.toUInt32.toInt32 = x.toUInt32.toUInt16.toUInt32.toInt32 := by
 apply Int32.toBitVec_inj.mp
 have i2 : ∀ z : Int32, (z.toUInt32.toUInt16.toUInt32.toInt32).toBitVec = (z.toBitVec.setWidth 16).setWidth 32 := fun z => rfl
 rw [i2, i2]; apply BitVec.eq_of_getLsbD_eq; intro i hi; simp only [BitVec.getLsbD_setWidth]; by_cases a : i < 16 <;> simp [a]
theorem own_narc (x : Int32) : nar .char (x.toUInt32.toUInt16.toUInt32.toInt32) = x.toUInt32.toUInt16.toUInt32.toInt32 := own_i2c x
theorem own_sh3 {w d : Int32} {i : Nat} (h : 0 ≤ w.toInt ∧ w.toInt ≤ 7) (hi : (i : Int) < w.toInt) (hd : d.toInt ≤ 2 * (i : Int) + 1) : d < (w <<< ((1 : Int32) &&& 31)) := by
 rw [Int32.lt_iff_toInt_lt, own_shl h]; omega
theorem own_pos {w : Int32} (h : 1 ≤ w.toInt ∧ w.toInt ≤ 7) : 0 ≤ w.toInt ∧ w.toInt ≤ 7 := ⟨by omega, h.2⟩
theorem own_ne0 {w : Int32} (h : 1 ≤ w.toInt ∧ w.toInt ≤ 7) : ¬ w = (0 : Int32) := by rintro rfl; exact absurd h.1 (by decide)
theorem own_cfL (w : Int32) : nar .byte ((((w - w).toUInt32 >>> ((31 : Int32) &&& 31).toUInt32).toInt32).toInt8.toInt32) = (0 : Int32) := by rw [Int32.sub_self]; decide
theorem own_cfW {w : Int32} (h : 1 ≤ w.toInt ∧ w.toInt ≤ 7) : nar .byte ((((w - (w <<< ((1 : Int32) &&& 31))).toUInt32 >>> ((31 : Int32) &&& 31).toUInt32).toInt32).toInt8.toInt32) = (1 : Int32) := by
 rcases own_eight (own_pos h) with rfl | rfl | rfl | rfl | rfl | rfl | rfl | rfl
 ·exact absurd h.1 (by decide)
 all_goals decide
abbrev own_nr (v : Value) : Prop := v = .null ∨ ∃ a, v = .ref a
theorem own_shr0 (w : Int32) : (w >>> ((0 : Int32) &&& 31)) = w := by apply Int32.toBitVec_inj.mp; simp
def own_min5 (x : Int32) : Int32 := if (5 : Int32) < x then 5 else x
theorem own_chLF : ∀ k : Fin 256, ((Int32.ofNat k.val).toInt8.toInt32 &&& (255 : Int32)) = Int32.ofNat k.val := by decide +kernel
theorem own_chL {x : Int32} (h : own_c16 x) (q : ¬ (255 : Int32) < x) : nar .char (((x.toInt8.toInt32) &&& (255 : Int32)).toUInt32.toUInt16.toUInt32.toInt32) = x := by
 rw [own_narc, i2c_mask]
 rw [Int32.lt_iff_toInt_lt, show (255 : Int32).toInt = 255 from by decide] at q
 obtain ⟨n, hn⟩ : ∃ n : Nat, x.toInt = n := ⟨x.toInt.toNat, by have := h.1; omega⟩
 have hx : x = Int32.ofNat n := Int32.toInt_inj.mp (by rw [hn, Int32.toInt_ofNat_of_lt (by omega)])
 rw [hx]; exact own_chLF ⟨n, by omega⟩
theorem own_chW {x : Int32} (h : own_c16 x) : nar .char (own_rd x) = x := (own_narc _).trans (own_rdq h)
theorem own_min_lt {c w : Int32} (h : c < own_min5 w) (hc : c < 5) : c < w := by
 unfold own_min5 at h; split at h
 ·rename_i q; rw [Int32.lt_iff_toInt_lt] at *; omega
 ·exact h
theorem own_min_ge {c w : Int32} (h : ¬ c < own_min5 w) (hc : c < 5) : ¬ c < w := by
 unfold own_min5 at h; split at h
 ·exact absurd hc h
 ·exact h
theorem own_min_5 (w : Int32) : ¬ (5 : Int32) < own_min5 w := by
 unfold own_min5; split
 ·decide
 ·assumption
/-- a colon among the first five of n -/
def own_col (n qa qb qc qd qe : Int32) : Int32 := if ((0 : Int32) < n ∧ qa = (58 : Int32)) ∨ ((1 : Int32) < n ∧ qb = (58 : Int32)) ∨ ((2 : Int32) < n ∧ qc = (58 : Int32)) ∨ ((3 : Int32) < n ∧ qd = (58 : Int32)) ∨ ((4 : Int32) < n ∧ qe = (58 : Int32)) then 1 else 0
theorem own_down {a b w : Int32} (h : b < w) (q : ¬ b < a) : a < w := by rw [Int32.lt_iff_toInt_lt] at *; omega
def own_EL : List (String × Nat) := [("java/lang/String", 7)]
theorem own_EW {Z : State} {a0 : Array Value} (hw : ∀ d ∈ tables_1, d.before a0 Z = true) : EW Z a0 own_EL := (EW.cons (Wd hw 19 rfl) (by decide) EW.nil)
/-- a String whose value is still null is no booked one -/
theorem own_safe {Z : State} {EL : List (String × Nat)} {vm : Vm} {h : Heap} {x : Addr} (hal : Z.vm.Alike vm) (E : Exa Z h x "java/lang/String") (F0 : Fld Z h x "java/lang/String" "value" "[B" .null) : Safe Z EL vm h x := fun B => by
 obtain ⟨cell, k, e1, e2, e3, -, -⟩ := E
 obtain ⟨p, -, u, a, -, q, -, F, rfl | rfl⟩ := B
 ·have ha : h[q.sa]? = some q.sC := F.ha
  obtain ⟨cS, ⟨⟨-, -, -, ⟨c1, k1, i1, f1, -⟩, -, -, -, v1, -⟩, -⟩, -⟩ := F
  obtain ⟨cell2, cf, k2, i2, f, g1, g2, -, -, -, -, g7⟩ := F0
  cases ha.symm.trans g1
  obtain ⟨k3, e4, -⟩ := State.fieldFound?_setVm (s := Z) hal g2
  cases Option.some.inj ((show (Z.setVm vm).fieldFound? "java/lang/String" "value" "[B" = _ from e4).symm.trans f1)
  cases g7.symm.trans v1
 ·cases (show h[q.sd]? = some q.SA from F.hd).symm.trans e1
  obtain ⟨cS, -, -, f, -⟩ := F
  rw [show (Wst Z vm h).vm = vm from rfl, hal.findClass] at f
  obtain ⟨k1, q1, q2⟩ := Vm.findClass_spec f
  obtain ⟨k2, q3, q4⟩ := Vm.findClass_spec e2
  cases q1.symm.trans q3
  exact absurd (q2.symm.trans q4) (by decide)
theorem own_eqw {args : Array Value} {first s : State} {o : Option Outcome} {idx : List Nat} {t : Term} {k : Int32} (h : (Cond.eq t (Term.int k)).value args first o s idx = some true) : t.eval args first o idx s = some (.int k) := by
 simp only [Cond.value, Term.eval] at h
 cases ht : t.eval args first o idx s with
 | none => simp [ht] at h
 | some x => cases x <;> simp [ht] at h ⊢; exact h
theorem own_c16nar (x : Int32) : own_c16 (nar .char x) := by
 obtain ⟨h1, h2⟩ := rng_char (fits_nar_char x)
 rw [Int32.lt_iff_toInt_lt, show (0 : Int32).toInt = 0 from by decide] at h1
 rw [Int32.lt_iff_toInt_lt, show (65535 : Int32).toInt = 65535 from by decide] at h2
 exact ⟨by omega, by omega⟩
theorem own_and7 (x : Int32) : 0 ≤ (x &&& (7 : Int32)).toInt ∧ (x &&& (7 : Int32)).toInt ≤ 7 := by
 have a : (x &&& (7 : Int32)).toInt = x.toInt % (2 ^ 3 : Nat) := c_mask x 7 3 (by decide) (by decide)
 omega
theorem own_narid {x : Int32} (h : own_c16 x) : nar .char x = x := by have e := own_chW h; rwa [own_rdq h] at e
theorem own_pos1 {w : Int32} (h : 0 ≤ w.toInt ∧ w.toInt ≤ 7) (hz : ¬ w = (0 : Int32)) : 1 ≤ w.toInt ∧ w.toInt ≤ 7 := by
 have : w.toInt ≠ 0 := fun e => hz (Int32.toInt_inj.mp (e.trans (by decide)))
 omega
theorem own_nz {a w : Int32} (h : w = (0 : Int32)) (q : ¬ a < (0 : Int32)) : ¬ a < w := by rw [h]; exact q
theorem own_up {a b w : Int32} (h : ¬ a < w) (q : ¬ b < a) : ¬ b < w := by rw [Int32.lt_iff_toInt_lt] at *; omega
theorem own_same (n a b c d e : Int32) : own_col n a b c d e = (if (0 : Int32) < n then (if a = (58 : Int32) then (1 : Int32) else (if (1 : Int32) < n then (if b = (58 : Int32) then (1 : Int32) else (if (2 : Int32) < n then (if c = (58 : Int32) then (1 : Int32) else (if (3 : Int32) < n then (if d = (58 : Int32) then (1 : Int32) else (if (4 : Int32) < n then (if e = (58 : Int32) then (1 : Int32) else (0 : Int32)) else (0 : Int32))) else (0 : Int32))) else (0 : Int32))) else (0 : Int32))) else (0 : Int32)) := by
 unfold own_col
 by_cases h0 : (0 : Int32) < n
 ·by_cases h1 : (1 : Int32) < n
  ·by_cases h2 : (2 : Int32) < n
   ·by_cases h3 : (3 : Int32) < n
    ·by_cases h4 : (4 : Int32) < n
     ·by_cases a = 58 <;> by_cases b = 58 <;> by_cases c = 58 <;> by_cases d = 58 <;> by_cases e = 58 <;> simp [*]
     ·by_cases a = 58 <;> by_cases b = 58 <;> by_cases c = 58 <;> by_cases d = 58 <;> simp [*]
    ·have h4 : ¬ (4 : Int32) < n := own_up h3 (by decide)
     by_cases a = 58 <;> by_cases b = 58 <;> by_cases c = 58 <;> simp [*]
   ·have h3 : ¬ (3 : Int32) < n := own_up h2 (by decide)
    have h4 : ¬ (4 : Int32) < n := own_up h2 (by decide)
    by_cases a = 58 <;> by_cases b = 58 <;> simp [*]
  ·have h2 : ¬ (2 : Int32) < n := own_up h1 (by decide)
   have h3 : ¬ (3 : Int32) < n := own_up h1 (by decide)
   have h4 : ¬ (4 : Int32) < n := own_up h1 (by decide)
   by_cases a = 58 <;> simp [*]
 ·have h1 : ¬ (1 : Int32) < n := own_up h0 (by decide)
  have h2 : ¬ (2 : Int32) < n := own_up h0 (by decide)
  have h3 : ¬ (3 : Int32) < n := own_up h0 (by decide)
  have h4 : ¬ (4 : Int32) < n := own_up h0 (by decide)
  simp [*]
theorem own_notlat {w : Int32} {l : List Int32} (h : 0 ≤ w.toInt ∧ w.toInt ≤ 7) (q : ¬ own_lat w l) : own_wide w l := by
 obtain ⟨i, hi⟩ := Classical.not_forall.mp q
 obtain ⟨h1, h2⟩ := Classical.not_imp.mp hi
 exact ⟨i, by omega, h1, Classical.not_not.mp h2⟩
theorem own_pn0 : plainName "java/lang/StringUTF16" = true := by first | (simp [plainName, overriddenIn]; done) | decide +kernel
theorem d10_0 : decode jdk_52_method_21_code 0 = .ok (.iconst 0, 1) := by decide +kernel
theorem d10_1 : decode jdk_52_method_21_code 1 = .ok (.istore 5, 2) := by decide +kernel
theorem d10_3 : decode jdk_52_method_21_code 3 = .ok (.iload 5, 2) := by decide +kernel
theorem d10_5 : decode jdk_52_method_21_code 5 = .ok (.iload 4, 2) := by decide +kernel
theorem d10_7 : decode jdk_52_method_21_code 7 = .ok (.if_icmp .ge 37, 3) := by decide +kernel
theorem d10_10 : decode jdk_52_method_21_code 10 = .ok (.aload_n 0, 1) := by decide +kernel
theorem d10_11 : decode jdk_52_method_21_code 11 = .ok (.iload_n 1, 1) := by decide +kernel
theorem d10_12 : decode jdk_52_method_21_code 12 = .ok (.caload, 1) := by decide +kernel
theorem d10_13 : decode jdk_52_method_21_code 13 = .ok (.istore 6, 2) := by decide +kernel
theorem d10_15 : decode jdk_52_method_21_code 15 = .ok (.iload 6, 2) := by decide +kernel
theorem d10_17 : decode jdk_52_method_21_code 17 = .ok (.sipush 255, 3) := by decide +kernel
theorem d10_20 : decode jdk_52_method_21_code 20 = .ok (.if_icmp .le 6, 3) := by decide +kernel
theorem d10_26 : decode jdk_52_method_21_code 26 = .ok (.aload_n 2, 1) := by decide +kernel
theorem d10_27 : decode jdk_52_method_21_code 27 = .ok (.iload_n 3, 1) := by decide +kernel
theorem d10_28 : decode jdk_52_method_21_code 28 = .ok (.iload 6, 2) := by decide +kernel
theorem d10_30 : decode jdk_52_method_21_code 30 = .ok (.i2b, 1) := by decide +kernel
theorem d10_31 : decode jdk_52_method_21_code 31 = .ok (.bastore, 1) := by decide +kernel
theorem d10_32 : decode jdk_52_method_21_code 32 = .ok (.iinc 1 1, 3) := by decide +kernel
theorem d10_35 : decode jdk_52_method_21_code 35 = .ok (.iinc 3 1, 3) := by decide +kernel
theorem d10_38 : decode jdk_52_method_21_code 38 = .ok (.iinc 5 1, 3) := by decide +kernel
theorem d10_41 : decode jdk_52_method_21_code 41 = .ok (.goto (-38), 3) := by decide +kernel
theorem d10_44 : decode jdk_52_method_21_code 44 = .ok (.iload 4, 2) := by decide +kernel
theorem d10_46 : decode jdk_52_method_21_code 46 = .ok (.ireturn, 1) := by decide +kernel
theorem efC5L (m : MethodId) (a : Addr) (b : Addr) (nn : Int32) : entryFrame m #[(.ref a), (.int (0 : Int32)), (.ref b), (.int (0 : Int32)), (.int nn)] 7 = mkF m 0 #[.val (.ref a), .val (.int (0 : Int32)), .val (.ref b), .val (.int (0 : Int32)), .val (.int nn), .unset, .unset] [] := by first | (simp [entryFrame, mkF, argsToLocals, Value.category]; done) | rfl
def QC5L (Z : State) (a : Addr) (b : Addr) (nn : Int32) (qa : Int32) (qb : Int32) (qc : Int32) (qd : Int32) (qe : Int32) (qf : Int32) (qg : Int32) (k_a : ClassId) (k_b : ClassId) (h0 : Heap) (n0 : Nat) (v : Option Value) (h : Heap) (L : List Loc) : Prop := v = some (.int nn) ∧ Fr n0 L ∧ Keep h0 h [b] ∧ Arv Z h b k_b .byte nn [(.int qa.toInt8.toInt32), (.int qb.toInt8.toInt32), (.int qc.toInt8.toInt32), (.int qd.toInt8.toInt32), (.int qe.toInt8.toInt32), (.int qf.toInt8.toInt32), (.int qg.toInt8.toInt32)] (.int (0 : Int32))
set_option maxRecDepth 65536 in
set_option maxHeartbeats 40000000 in
theorem rmC5L (l : Launch) (Z : State) (a0 : Array Value) (hw : ∀ d ∈ tables_1, d.before a0 Z = true) (ws : List Jvm.Cond) (a : Addr) (b : Addr) (nn : Int32) (qa : Int32) (qb : Int32) (qc : Int32) (qd : Int32) (qe : Int32) (qf : Int32) (qg : Int32) (k_a : ClassId) (k_b : ClassId) (h0 : Heap) (n0 : Nat) (Z0 : n0 ≤ h0.size) (V_a : Arv Z h0 a k_a .char nn [(.int qa), (.int qb), (.int qc), (.int qd), (.int qe), (.int qf), (.int qg)] (.int (0 : Int32))) (V_b : Arv Z h0 b k_b .byte nn [(.int (0 : Int32)), (.int (0 : Int32)), (.int (0 : Int32)), (.int (0 : Int32)), (.int (0 : Int32)), (.int (0 : Int32)), (.int (0 : Int32))] (.int (0 : Int32))) (g_b : n0 ≤ b) (ne_a_b : a ≠ b) (hn : 0 ≤ nn.toInt ∧ nn.toInt ≤ 7) (hl : own_lat nn [qa, qb, qc, qd, qe, qf, qg]) :
  MetFree l (⟨"java/lang/StringUTF16", "compress", "([CI[BII)I"⟩ : MethodName) (head1 (Jvm.Cond.code (⟨"java/lang/StringUTF16", "compress", "([CI[BII)I"⟩ : MethodName) jdk_52_method_21_code 7 (some .int) :: ws) ({ frames := 0, cells := 0, slots := 0, locals := 0 } : Room)) (fun av_ U => av_ = #[(.ref a), (.int (0 : Int32)), (.ref b), (.int (0 : Int32)), (.int nn)] ∧ Z.Warmed39 U.vm ∧ U.heap = h0) (fun _ _ _ _ _ => True) (fun _ U o U' => ∃ v L, o = .returned v ∧ QC5L Z a b nn qa qb qc qd qe qf qg k_a k_b h0 n0 v U'.heap L ∧ FrameEnd U o U' L ({ frames := 0, cells := 0, slots := 0, locals := 0 } : Room).cells ({ frames := 0, cells := 0, slots := 0, locals := 0 } : Room).slots) := by
 refine MetFree.of_bodySF (plainFor_of_name own_pn0) hisR ?_
 intro p e s m args below meth c s₁ Bd hml0 hP hK
 obtain ⟨rfl, hZ, hh⟩ := hP
 have hx := Bd.exec
 have hby := Bd.bytes
 have hml : c.maxLocals = 7 := hml0
 have hown : s.vm.findClass "java/lang/StringUTF16" = some m.cls := findClass_of_methodNamed Bd.named
 have hnm := (name_of_methodNamed Bd.named Bd.method).1
 have X0 : Stand p l e ({ frames := 0, cells := 0, slots := 0, locals := 0 } : Room) s m #[(.ref a), (.int (0 : Int32)), (.ref b), (.int (0 : Int32)), (.int nn)] below meth c s₁ [] 0 0 := Stand.of_body Bd
 have e0 : s₁.heap = h0 := by rw [← hh, Bd.state]; rfl
 have N0 := Fr.nil n0
 have pre0 : ∀ t, Steps p.tables e below (s₁.setTop (mkF m 0 #[.val (.ref a), .val (.int (0 : Int32)), .val (.ref b), .val (.int (0 : Int32)), .val (.int nn), .unset, .unset] [])) t → Steps p.tables e below (s₁.setTop (entryFrame m #[(.ref a), (.int (0 : Int32)), (.ref b), (.int (0 : Int32)), (.int nn)] 7)) t := fun t k => castTop (efC5L m a b nn) k
 have r1 : ∀ t, Steps p.tables e below (s₁.setTop (mkF m 7 #[.val (.ref a), .val (.int (0 : Int32)), .val (.ref b), .val (.int (0 : Int32)), .val (.int nn), .val (.int (0 : Int32)), .unset] [(.int nn), (.int (0 : Int32))])) t → Steps p.tables e below (s₁.setTop (mkF m 0 #[.val (.ref a), .val (.int (0 : Int32)), .val (.ref b), .val (.int (0 : Int32)), .val (.int nn), .unset, .unset] [])) t := fun t kt => by
  refine XS.iconst X0.here hx rfl (hb hby d10_0) ?_
  refine XS.istore X0.here hx rfl (hb hby d10_1) rfl (l' := #[.val (.ref a), .val (.int (0 : Int32)), .val (.ref b), .val (.int (0 : Int32)), .val (.int nn), .val (.int (0 : Int32)), .unset]) rfl ?_
  refine XS.iload X0.here hx rfl (hb hby d10_3) rfl ?_
  refine XS.iload X0.here hx rfl (hb hby d10_5) rfl ?_
  exact kt
 by_cases hc2 : (0 : Int32) < nn
 ·obtain ⟨cl3, Ar3, q3, S3, M3, Hs3, G3⟩ := (id V_a)
  have hin3 : ¬ ((0 : Int32) < 0 ∨ cl3.slots.size ≤ ((0 : Int32)).toNatClampNeg) := inb_of S3 ⟨by decide, hc2⟩
  have hat3 : cl3.slots[((0 : Int32)).toNatClampNeg]? = some (.int qa) := Hs3.at hin3 rfl
  obtain ⟨cl4, Ar4, q4, S4, M4, Hs4, G4⟩ := (id V_b)
  have hin4 : ¬ ((0 : Int32) < 0 ∨ cl4.slots.size ≤ ((0 : Int32)).toNatClampNeg) := inb_of S4 ⟨by decide, hc2⟩
  obtain ⟨T5, h5, X5, e5, W5, st5⟩ := stB X0 hx hZ e0 Ar4 (j := (0 : Int32)) hin4 (g := (mkF m 31 #[.val (.ref a), .val (.int (0 : Int32)), .val (.ref b), .val (.int (0 : Int32)), .val (.int nn), .val (.int (0 : Int32)), .val (.int qa)] [(.int (qa.toInt8.toInt32)), (.int (0 : Int32)), (.ref b)])) rfl rfl (hb hby d10_31)
  have V5 : Arv Z h5 b k_b .byte nn [(.int ((qa.toInt8.toInt32)).toInt8.toInt32), (.int (0 : Int32)), (.int (0 : Int32)), (.int (0 : Int32)), (.int (0 : Int32)), (.int (0 : Int32)), (.int (0 : Int32))] (.int (0 : Int32)) := Arv.set Ar4 q4 S4 M4 Hs4 G4 (fits_nar_byte _) W5 0 rfl (Nat.le_of_ble_eq_true rfl)
  have K5 : Keep h0 h5 [b] := (Keep.refl h0 [b]).wr W5 (Or.inl (List.mem_of_getElem? (i := 0) rfl))
  have Zs5 : n0 ≤ h5.size := Nat.le_trans Z0 (Keep.of_wr W5).1
  have N5 := Fr.snoc X5 N0 g_b
  have r6 : ∀ t, Steps p.tables e below (T5.setTop (mkF m 7 #[.val (.ref a), .val (.int (1 : Int32)), .val (.ref b), .val (.int (1 : Int32)), .val (.int nn), .val (.int (1 : Int32)), .val (.int qa)] [(.int nn), (.int (1 : Int32))])) t → Steps p.tables e below (s₁.setTop (mkF m 7 #[.val (.ref a), .val (.int (0 : Int32)), .val (.ref b), .val (.int (0 : Int32)), .val (.int nn), .val (.int (0 : Int32)), .unset] [(.int nn), (.int (0 : Int32))])) t := fun t kt => by
   refine XS.icmpNo X0.here hx rfl (hb hby d10_7) rfl (tlt hc2).2.1 ?_
   refine XS.aloadN X0.here hx rfl (hb hby d10_10) rfl rfl ?_
   refine XS.iloadN X0.here hx rfl (hb hby d10_11) rfl ?_
   refine X0.caload hx (j := (0 : Int32)) (v := (.int qa)) (by rw [e0]; exact Ar3.1) (State.isArrayOf_alike hZ.alike Ar3.2.1) Ar3.2.2 hin3 hat3 (g := (mkF m 12 #[.val (.ref a), .val (.int (0 : Int32)), .val (.ref b), .val (.int (0 : Int32)), .val (.int nn), .val (.int (0 : Int32)), .unset] [(.int (0 : Int32)), (.ref a)])) rfl rfl (hb hby d10_12) _ ?_
   refine XS.istore X0.here hx rfl (hb hby d10_13) rfl (l' := #[.val (.ref a), .val (.int (0 : Int32)), .val (.ref b), .val (.int (0 : Int32)), .val (.int nn), .val (.int (0 : Int32)), .val (.int qa)]) rfl ?_
   refine XS.iload X0.here hx rfl (hb hby d10_15) rfl ?_
   refine XS.sipush X0.here hx rfl (hb hby d10_17) ?_
   refine XS.icmpYes X0.here hx rfl (pc0 := 20) (pc' := 26) rfl (hb hby d10_20) rfl (flt (hl 0 (own_lt hc2 (by decide)))).2.2.2 (by decide) (by decide) ?_
   refine XS.aloadN X0.here hx rfl (hb hby d10_26) rfl rfl ?_
   refine XS.iloadN X0.here hx rfl (hb hby d10_27) rfl ?_
   refine XS.iload X0.here hx rfl (hb hby d10_28) rfl ?_
   refine XS.i2b X0.here hx rfl (hb hby d10_30) rfl ?_
   refine st5 _ ?_
   refine XS.iinc X5.here hx rfl (hb hby d10_32) rfl (l' := #[.val (.ref a), .val (.int (1 : Int32)), .val (.ref b), .val (.int (0 : Int32)), .val (.int nn), .val (.int (0 : Int32)), .val (.int qa)]) rfl ?_
   refine XS.iinc X5.here hx rfl (hb hby d10_35) rfl (l' := #[.val (.ref a), .val (.int (1 : Int32)), .val (.ref b), .val (.int (1 : Int32)), .val (.int nn), .val (.int (0 : Int32)), .val (.int qa)]) rfl ?_
   refine XS.iinc X5.here hx rfl (hb hby d10_38) rfl (l' := #[.val (.ref a), .val (.int (1 : Int32)), .val (.ref b), .val (.int (1 : Int32)), .val (.int nn), .val (.int (1 : Int32)), .val (.int qa)]) rfl ?_
   refine XS.goto X5.here hx rfl (pc0 := 41) (pc' := 3) rfl (hb hby d10_41) (by decide) (by decide) ?_
   refine XS.iload X5.here hx rfl (hb hby d10_3) rfl ?_
   refine XS.iload X5.here hx rfl (hb hby d10_5) rfl ?_
   exact kt
  by_cases hc7 : (1 : Int32) < nn
  ·obtain ⟨cl8, Ar8, q8, S8, M8, Hs8, G8⟩ := (V_a.other W5 ne_a_b)
   have hin8 : ¬ ((1 : Int32) < 0 ∨ cl8.slots.size ≤ ((1 : Int32)).toNatClampNeg) := inb_of S8 ⟨by decide, hc7⟩
   have hat8 : cl8.slots[((1 : Int32)).toNatClampNeg]? = some (.int qb) := Hs8.at hin8 rfl
   obtain ⟨cl9, Ar9, q9, S9, M9, Hs9, G9⟩ := (id V5)
   have hin9 : ¬ ((1 : Int32) < 0 ∨ cl9.slots.size ≤ ((1 : Int32)).toNatClampNeg) := inb_of S9 ⟨by decide, hc7⟩
   obtain ⟨T10, h10, X10, e10, W10, st10⟩ := stB X5 hx hZ e5 Ar9 (j := (1 : Int32)) hin9 (g := (mkF m 31 #[.val (.ref a), .val (.int (1 : Int32)), .val (.ref b), .val (.int (1 : Int32)), .val (.int nn), .val (.int (1 : Int32)), .val (.int qb)] [(.int (qb.toInt8.toInt32)), (.int (1 : Int32)), (.ref b)])) rfl rfl (hb hby d10_31)
   have V10 : Arv Z h10 b k_b .byte nn [(.int ((qa.toInt8.toInt32)).toInt8.toInt32), (.int ((qb.toInt8.toInt32)).toInt8.toInt32), (.int (0 : Int32)), (.int (0 : Int32)), (.int (0 : Int32)), (.int (0 : Int32)), (.int (0 : Int32))] (.int (0 : Int32)) := Arv.set Ar9 q9 S9 M9 Hs9 G9 (fits_nar_byte _) W10 1 rfl (Nat.le_of_ble_eq_true rfl)
   have K10 : Keep h0 h10 [b] := K5.wr W10 (Or.inl (List.mem_of_getElem? (i := 0) rfl))
   have Zs10 : n0 ≤ h10.size := Nat.le_trans Zs5 (Keep.of_wr W10).1
   have N10 := Fr.snoc X10 N5 g_b
   have r11 : ∀ t, Steps p.tables e below (T10.setTop (mkF m 7 #[.val (.ref a), .val (.int (2 : Int32)), .val (.ref b), .val (.int (2 : Int32)), .val (.int nn), .val (.int (2 : Int32)), .val (.int qb)] [(.int nn), (.int (2 : Int32))])) t → Steps p.tables e below (T5.setTop (mkF m 7 #[.val (.ref a), .val (.int (1 : Int32)), .val (.ref b), .val (.int (1 : Int32)), .val (.int nn), .val (.int (1 : Int32)), .val (.int qa)] [(.int nn), (.int (1 : Int32))])) t := fun t kt => by
    refine XS.icmpNo X5.here hx rfl (hb hby d10_7) rfl (tlt hc7).2.1 ?_
    refine XS.aloadN X5.here hx rfl (hb hby d10_10) rfl rfl ?_
    refine XS.iloadN X5.here hx rfl (hb hby d10_11) rfl ?_
    refine X5.caload hx (j := (1 : Int32)) (v := (.int qb)) (by rw [e5]; exact Ar8.1) (State.isArrayOf_alike hZ.alike Ar8.2.1) Ar8.2.2 hin8 hat8 (g := (mkF m 12 #[.val (.ref a), .val (.int (1 : Int32)), .val (.ref b), .val (.int (1 : Int32)), .val (.int nn), .val (.int (1 : Int32)), .val (.int qa)] [(.int (1 : Int32)), (.ref a)])) rfl rfl (hb hby d10_12) _ ?_
    refine XS.istore X5.here hx rfl (hb hby d10_13) rfl (l' := #[.val (.ref a), .val (.int (1 : Int32)), .val (.ref b), .val (.int (1 : Int32)), .val (.int nn), .val (.int (1 : Int32)), .val (.int qb)]) rfl ?_
    refine XS.iload X5.here hx rfl (hb hby d10_15) rfl ?_
    refine XS.sipush X5.here hx rfl (hb hby d10_17) ?_
    refine XS.icmpYes X5.here hx rfl (pc0 := 20) (pc' := 26) rfl (hb hby d10_20) rfl (flt (hl 1 (own_lt hc7 (by decide)))).2.2.2 (by decide) (by decide) ?_
    refine XS.aloadN X5.here hx rfl (hb hby d10_26) rfl rfl ?_
    refine XS.iloadN X5.here hx rfl (hb hby d10_27) rfl ?_
    refine XS.iload X5.here hx rfl (hb hby d10_28) rfl ?_
    refine XS.i2b X5.here hx rfl (hb hby d10_30) rfl ?_
    refine st10 _ ?_
    refine XS.iinc X10.here hx rfl (hb hby d10_32) rfl (l' := #[.val (.ref a), .val (.int (2 : Int32)), .val (.ref b), .val (.int (1 : Int32)), .val (.int nn), .val (.int (1 : Int32)), .val (.int qb)]) rfl ?_
    refine XS.iinc X10.here hx rfl (hb hby d10_35) rfl (l' := #[.val (.ref a), .val (.int (2 : Int32)), .val (.ref b), .val (.int (2 : Int32)), .val (.int nn), .val (.int (1 : Int32)), .val (.int qb)]) rfl ?_
    refine XS.iinc X10.here hx rfl (hb hby d10_38) rfl (l' := #[.val (.ref a), .val (.int (2 : Int32)), .val (.ref b), .val (.int (2 : Int32)), .val (.int nn), .val (.int (2 : Int32)), .val (.int qb)]) rfl ?_
    refine XS.goto X10.here hx rfl (pc0 := 41) (pc' := 3) rfl (hb hby d10_41) (by decide) (by decide) ?_
    refine XS.iload X10.here hx rfl (hb hby d10_3) rfl ?_
    refine XS.iload X10.here hx rfl (hb hby d10_5) rfl ?_
    exact kt
   by_cases hc12 : (2 : Int32) < nn
   ·obtain ⟨cl13, Ar13, q13, S13, M13, Hs13, G13⟩ := ((V_a.other W5 ne_a_b).other W10 ne_a_b)
    have hin13 : ¬ ((2 : Int32) < 0 ∨ cl13.slots.size ≤ ((2 : Int32)).toNatClampNeg) := inb_of S13 ⟨by decide, hc12⟩
    have hat13 : cl13.slots[((2 : Int32)).toNatClampNeg]? = some (.int qc) := Hs13.at hin13 rfl
    obtain ⟨cl14, Ar14, q14, S14, M14, Hs14, G14⟩ := (id V10)
    have hin14 : ¬ ((2 : Int32) < 0 ∨ cl14.slots.size ≤ ((2 : Int32)).toNatClampNeg) := inb_of S14 ⟨by decide, hc12⟩
    obtain ⟨T15, h15, X15, e15, W15, st15⟩ := stB X10 hx hZ e10 Ar14 (j := (2 : Int32)) hin14 (g := (mkF m 31 #[.val (.ref a), .val (.int (2 : Int32)), .val (.ref b), .val (.int (2 : Int32)), .val (.int nn), .val (.int (2 : Int32)), .val (.int qc)] [(.int (qc.toInt8.toInt32)), (.int (2 : Int32)), (.ref b)])) rfl rfl (hb hby d10_31)
    have V15 : Arv Z h15 b k_b .byte nn [(.int ((qa.toInt8.toInt32)).toInt8.toInt32), (.int ((qb.toInt8.toInt32)).toInt8.toInt32), (.int ((qc.toInt8.toInt32)).toInt8.toInt32), (.int (0 : Int32)), (.int (0 : Int32)), (.int (0 : Int32)), (.int (0 : Int32))] (.int (0 : Int32)) := Arv.set Ar14 q14 S14 M14 Hs14 G14 (fits_nar_byte _) W15 2 rfl (Nat.le_of_ble_eq_true rfl)
    have K15 : Keep h0 h15 [b] := K10.wr W15 (Or.inl (List.mem_of_getElem? (i := 0) rfl))
    have Zs15 : n0 ≤ h15.size := Nat.le_trans Zs10 (Keep.of_wr W15).1
    have N15 := Fr.snoc X15 N10 g_b
    have r16 : ∀ t, Steps p.tables e below (T15.setTop (mkF m 7 #[.val (.ref a), .val (.int (3 : Int32)), .val (.ref b), .val (.int (3 : Int32)), .val (.int nn), .val (.int (3 : Int32)), .val (.int qc)] [(.int nn), (.int (3 : Int32))])) t → Steps p.tables e below (T10.setTop (mkF m 7 #[.val (.ref a), .val (.int (2 : Int32)), .val (.ref b), .val (.int (2 : Int32)), .val (.int nn), .val (.int (2 : Int32)), .val (.int qb)] [(.int nn), (.int (2 : Int32))])) t := fun t kt => by
     refine XS.icmpNo X10.here hx rfl (hb hby d10_7) rfl (tlt hc12).2.1 ?_
     refine XS.aloadN X10.here hx rfl (hb hby d10_10) rfl rfl ?_
     refine XS.iloadN X10.here hx rfl (hb hby d10_11) rfl ?_
     refine X10.caload hx (j := (2 : Int32)) (v := (.int qc)) (by rw [e10]; exact Ar13.1) (State.isArrayOf_alike hZ.alike Ar13.2.1) Ar13.2.2 hin13 hat13 (g := (mkF m 12 #[.val (.ref a), .val (.int (2 : Int32)), .val (.ref b), .val (.int (2 : Int32)), .val (.int nn), .val (.int (2 : Int32)), .val (.int qb)] [(.int (2 : Int32)), (.ref a)])) rfl rfl (hb hby d10_12) _ ?_
     refine XS.istore X10.here hx rfl (hb hby d10_13) rfl (l' := #[.val (.ref a), .val (.int (2 : Int32)), .val (.ref b), .val (.int (2 : Int32)), .val (.int nn), .val (.int (2 : Int32)), .val (.int qc)]) rfl ?_
     refine XS.iload X10.here hx rfl (hb hby d10_15) rfl ?_
     refine XS.sipush X10.here hx rfl (hb hby d10_17) ?_
     refine XS.icmpYes X10.here hx rfl (pc0 := 20) (pc' := 26) rfl (hb hby d10_20) rfl (flt (hl 2 (own_lt hc12 (by decide)))).2.2.2 (by decide) (by decide) ?_
     refine XS.aloadN X10.here hx rfl (hb hby d10_26) rfl rfl ?_
     refine XS.iloadN X10.here hx rfl (hb hby d10_27) rfl ?_
     refine XS.iload X10.here hx rfl (hb hby d10_28) rfl ?_
     refine XS.i2b X10.here hx rfl (hb hby d10_30) rfl ?_
     refine st15 _ ?_
     refine XS.iinc X15.here hx rfl (hb hby d10_32) rfl (l' := #[.val (.ref a), .val (.int (3 : Int32)), .val (.ref b), .val (.int (2 : Int32)), .val (.int nn), .val (.int (2 : Int32)), .val (.int qc)]) rfl ?_
     refine XS.iinc X15.here hx rfl (hb hby d10_35) rfl (l' := #[.val (.ref a), .val (.int (3 : Int32)), .val (.ref b), .val (.int (3 : Int32)), .val (.int nn), .val (.int (2 : Int32)), .val (.int qc)]) rfl ?_
     refine XS.iinc X15.here hx rfl (hb hby d10_38) rfl (l' := #[.val (.ref a), .val (.int (3 : Int32)), .val (.ref b), .val (.int (3 : Int32)), .val (.int nn), .val (.int (3 : Int32)), .val (.int qc)]) rfl ?_
     refine XS.goto X15.here hx rfl (pc0 := 41) (pc' := 3) rfl (hb hby d10_41) (by decide) (by decide) ?_
     refine XS.iload X15.here hx rfl (hb hby d10_3) rfl ?_
     refine XS.iload X15.here hx rfl (hb hby d10_5) rfl ?_
     exact kt
    by_cases hc17 : (3 : Int32) < nn
    ·obtain ⟨cl18, Ar18, q18, S18, M18, Hs18, G18⟩ := (((V_a.other W5 ne_a_b).other W10 ne_a_b).other W15 ne_a_b)
     have hin18 : ¬ ((3 : Int32) < 0 ∨ cl18.slots.size ≤ ((3 : Int32)).toNatClampNeg) := inb_of S18 ⟨by decide, hc17⟩
     have hat18 : cl18.slots[((3 : Int32)).toNatClampNeg]? = some (.int qd) := Hs18.at hin18 rfl
     obtain ⟨cl19, Ar19, q19, S19, M19, Hs19, G19⟩ := (id V15)
     have hin19 : ¬ ((3 : Int32) < 0 ∨ cl19.slots.size ≤ ((3 : Int32)).toNatClampNeg) := inb_of S19 ⟨by decide, hc17⟩
     obtain ⟨T20, h20, X20, e20, W20, st20⟩ := stB X15 hx hZ e15 Ar19 (j := (3 : Int32)) hin19 (g := (mkF m 31 #[.val (.ref a), .val (.int (3 : Int32)), .val (.ref b), .val (.int (3 : Int32)), .val (.int nn), .val (.int (3 : Int32)), .val (.int qd)] [(.int (qd.toInt8.toInt32)), (.int (3 : Int32)), (.ref b)])) rfl rfl (hb hby d10_31)
     have V20 : Arv Z h20 b k_b .byte nn [(.int ((qa.toInt8.toInt32)).toInt8.toInt32), (.int ((qb.toInt8.toInt32)).toInt8.toInt32), (.int ((qc.toInt8.toInt32)).toInt8.toInt32), (.int ((qd.toInt8.toInt32)).toInt8.toInt32), (.int (0 : Int32)), (.int (0 : Int32)), (.int (0 : Int32))] (.int (0 : Int32)) := Arv.set Ar19 q19 S19 M19 Hs19 G19 (fits_nar_byte _) W20 3 rfl (Nat.le_of_ble_eq_true rfl)
     have K20 : Keep h0 h20 [b] := K15.wr W20 (Or.inl (List.mem_of_getElem? (i := 0) rfl))
     have Zs20 : n0 ≤ h20.size := Nat.le_trans Zs15 (Keep.of_wr W20).1
     have N20 := Fr.snoc X20 N15 g_b
     have r21 : ∀ t, Steps p.tables e below (T20.setTop (mkF m 7 #[.val (.ref a), .val (.int (4 : Int32)), .val (.ref b), .val (.int (4 : Int32)), .val (.int nn), .val (.int (4 : Int32)), .val (.int qd)] [(.int nn), (.int (4 : Int32))])) t → Steps p.tables e below (T15.setTop (mkF m 7 #[.val (.ref a), .val (.int (3 : Int32)), .val (.ref b), .val (.int (3 : Int32)), .val (.int nn), .val (.int (3 : Int32)), .val (.int qc)] [(.int nn), (.int (3 : Int32))])) t := fun t kt => by
      refine XS.icmpNo X15.here hx rfl (hb hby d10_7) rfl (tlt hc17).2.1 ?_
      refine XS.aloadN X15.here hx rfl (hb hby d10_10) rfl rfl ?_
      refine XS.iloadN X15.here hx rfl (hb hby d10_11) rfl ?_
      refine X15.caload hx (j := (3 : Int32)) (v := (.int qd)) (by rw [e15]; exact Ar18.1) (State.isArrayOf_alike hZ.alike Ar18.2.1) Ar18.2.2 hin18 hat18 (g := (mkF m 12 #[.val (.ref a), .val (.int (3 : Int32)), .val (.ref b), .val (.int (3 : Int32)), .val (.int nn), .val (.int (3 : Int32)), .val (.int qc)] [(.int (3 : Int32)), (.ref a)])) rfl rfl (hb hby d10_12) _ ?_
      refine XS.istore X15.here hx rfl (hb hby d10_13) rfl (l' := #[.val (.ref a), .val (.int (3 : Int32)), .val (.ref b), .val (.int (3 : Int32)), .val (.int nn), .val (.int (3 : Int32)), .val (.int qd)]) rfl ?_
      refine XS.iload X15.here hx rfl (hb hby d10_15) rfl ?_
      refine XS.sipush X15.here hx rfl (hb hby d10_17) ?_
      refine XS.icmpYes X15.here hx rfl (pc0 := 20) (pc' := 26) rfl (hb hby d10_20) rfl (flt (hl 3 (own_lt hc17 (by decide)))).2.2.2 (by decide) (by decide) ?_
      refine XS.aloadN X15.here hx rfl (hb hby d10_26) rfl rfl ?_
      refine XS.iloadN X15.here hx rfl (hb hby d10_27) rfl ?_
      refine XS.iload X15.here hx rfl (hb hby d10_28) rfl ?_
      refine XS.i2b X15.here hx rfl (hb hby d10_30) rfl ?_
      refine st20 _ ?_
      refine XS.iinc X20.here hx rfl (hb hby d10_32) rfl (l' := #[.val (.ref a), .val (.int (4 : Int32)), .val (.ref b), .val (.int (3 : Int32)), .val (.int nn), .val (.int (3 : Int32)), .val (.int qd)]) rfl ?_
      refine XS.iinc X20.here hx rfl (hb hby d10_35) rfl (l' := #[.val (.ref a), .val (.int (4 : Int32)), .val (.ref b), .val (.int (4 : Int32)), .val (.int nn), .val (.int (3 : Int32)), .val (.int qd)]) rfl ?_
      refine XS.iinc X20.here hx rfl (hb hby d10_38) rfl (l' := #[.val (.ref a), .val (.int (4 : Int32)), .val (.ref b), .val (.int (4 : Int32)), .val (.int nn), .val (.int (4 : Int32)), .val (.int qd)]) rfl ?_
      refine XS.goto X20.here hx rfl (pc0 := 41) (pc' := 3) rfl (hb hby d10_41) (by decide) (by decide) ?_
      refine XS.iload X20.here hx rfl (hb hby d10_3) rfl ?_
      refine XS.iload X20.here hx rfl (hb hby d10_5) rfl ?_
      exact kt
     by_cases hc22 : (4 : Int32) < nn
     ·obtain ⟨cl23, Ar23, q23, S23, M23, Hs23, G23⟩ := ((((V_a.other W5 ne_a_b).other W10 ne_a_b).other W15 ne_a_b).other W20 ne_a_b)
      have hin23 : ¬ ((4 : Int32) < 0 ∨ cl23.slots.size ≤ ((4 : Int32)).toNatClampNeg) := inb_of S23 ⟨by decide, hc22⟩
      have hat23 : cl23.slots[((4 : Int32)).toNatClampNeg]? = some (.int qe) := Hs23.at hin23 rfl
      obtain ⟨cl24, Ar24, q24, S24, M24, Hs24, G24⟩ := (id V20)
      have hin24 : ¬ ((4 : Int32) < 0 ∨ cl24.slots.size ≤ ((4 : Int32)).toNatClampNeg) := inb_of S24 ⟨by decide, hc22⟩
      obtain ⟨T25, h25, X25, e25, W25, st25⟩ := stB X20 hx hZ e20 Ar24 (j := (4 : Int32)) hin24 (g := (mkF m 31 #[.val (.ref a), .val (.int (4 : Int32)), .val (.ref b), .val (.int (4 : Int32)), .val (.int nn), .val (.int (4 : Int32)), .val (.int qe)] [(.int (qe.toInt8.toInt32)), (.int (4 : Int32)), (.ref b)])) rfl rfl (hb hby d10_31)
      have V25 : Arv Z h25 b k_b .byte nn [(.int ((qa.toInt8.toInt32)).toInt8.toInt32), (.int ((qb.toInt8.toInt32)).toInt8.toInt32), (.int ((qc.toInt8.toInt32)).toInt8.toInt32), (.int ((qd.toInt8.toInt32)).toInt8.toInt32), (.int ((qe.toInt8.toInt32)).toInt8.toInt32), (.int (0 : Int32)), (.int (0 : Int32))] (.int (0 : Int32)) := Arv.set Ar24 q24 S24 M24 Hs24 G24 (fits_nar_byte _) W25 4 rfl (Nat.le_of_ble_eq_true rfl)
      have K25 : Keep h0 h25 [b] := K20.wr W25 (Or.inl (List.mem_of_getElem? (i := 0) rfl))
      have Zs25 : n0 ≤ h25.size := Nat.le_trans Zs20 (Keep.of_wr W25).1
      have N25 := Fr.snoc X25 N20 g_b
      have r26 : ∀ t, Steps p.tables e below (T25.setTop (mkF m 7 #[.val (.ref a), .val (.int (5 : Int32)), .val (.ref b), .val (.int (5 : Int32)), .val (.int nn), .val (.int (5 : Int32)), .val (.int qe)] [(.int nn), (.int (5 : Int32))])) t → Steps p.tables e below (T20.setTop (mkF m 7 #[.val (.ref a), .val (.int (4 : Int32)), .val (.ref b), .val (.int (4 : Int32)), .val (.int nn), .val (.int (4 : Int32)), .val (.int qd)] [(.int nn), (.int (4 : Int32))])) t := fun t kt => by
       refine XS.icmpNo X20.here hx rfl (hb hby d10_7) rfl (tlt hc22).2.1 ?_
       refine XS.aloadN X20.here hx rfl (hb hby d10_10) rfl rfl ?_
       refine XS.iloadN X20.here hx rfl (hb hby d10_11) rfl ?_
       refine X20.caload hx (j := (4 : Int32)) (v := (.int qe)) (by rw [e20]; exact Ar23.1) (State.isArrayOf_alike hZ.alike Ar23.2.1) Ar23.2.2 hin23 hat23 (g := (mkF m 12 #[.val (.ref a), .val (.int (4 : Int32)), .val (.ref b), .val (.int (4 : Int32)), .val (.int nn), .val (.int (4 : Int32)), .val (.int qd)] [(.int (4 : Int32)), (.ref a)])) rfl rfl (hb hby d10_12) _ ?_
       refine XS.istore X20.here hx rfl (hb hby d10_13) rfl (l' := #[.val (.ref a), .val (.int (4 : Int32)), .val (.ref b), .val (.int (4 : Int32)), .val (.int nn), .val (.int (4 : Int32)), .val (.int qe)]) rfl ?_
       refine XS.iload X20.here hx rfl (hb hby d10_15) rfl ?_
       refine XS.sipush X20.here hx rfl (hb hby d10_17) ?_
       refine XS.icmpYes X20.here hx rfl (pc0 := 20) (pc' := 26) rfl (hb hby d10_20) rfl (flt (hl 4 (own_lt hc22 (by decide)))).2.2.2 (by decide) (by decide) ?_
       refine XS.aloadN X20.here hx rfl (hb hby d10_26) rfl rfl ?_
       refine XS.iloadN X20.here hx rfl (hb hby d10_27) rfl ?_
       refine XS.iload X20.here hx rfl (hb hby d10_28) rfl ?_
       refine XS.i2b X20.here hx rfl (hb hby d10_30) rfl ?_
       refine st25 _ ?_
       refine XS.iinc X25.here hx rfl (hb hby d10_32) rfl (l' := #[.val (.ref a), .val (.int (5 : Int32)), .val (.ref b), .val (.int (4 : Int32)), .val (.int nn), .val (.int (4 : Int32)), .val (.int qe)]) rfl ?_
       refine XS.iinc X25.here hx rfl (hb hby d10_35) rfl (l' := #[.val (.ref a), .val (.int (5 : Int32)), .val (.ref b), .val (.int (5 : Int32)), .val (.int nn), .val (.int (4 : Int32)), .val (.int qe)]) rfl ?_
       refine XS.iinc X25.here hx rfl (hb hby d10_38) rfl (l' := #[.val (.ref a), .val (.int (5 : Int32)), .val (.ref b), .val (.int (5 : Int32)), .val (.int nn), .val (.int (5 : Int32)), .val (.int qe)]) rfl ?_
       refine XS.goto X25.here hx rfl (pc0 := 41) (pc' := 3) rfl (hb hby d10_41) (by decide) (by decide) ?_
       refine XS.iload X25.here hx rfl (hb hby d10_3) rfl ?_
       refine XS.iload X25.here hx rfl (hb hby d10_5) rfl ?_
       exact kt
      by_cases hc27 : (5 : Int32) < nn
      ·obtain ⟨cl28, Ar28, q28, S28, M28, Hs28, G28⟩ := (((((V_a.other W5 ne_a_b).other W10 ne_a_b).other W15 ne_a_b).other W20 ne_a_b).other W25 ne_a_b)
       have hin28 : ¬ ((5 : Int32) < 0 ∨ cl28.slots.size ≤ ((5 : Int32)).toNatClampNeg) := inb_of S28 ⟨by decide, hc27⟩
       have hat28 : cl28.slots[((5 : Int32)).toNatClampNeg]? = some (.int qf) := Hs28.at hin28 rfl
       obtain ⟨cl29, Ar29, q29, S29, M29, Hs29, G29⟩ := (id V25)
       have hin29 : ¬ ((5 : Int32) < 0 ∨ cl29.slots.size ≤ ((5 : Int32)).toNatClampNeg) := inb_of S29 ⟨by decide, hc27⟩
       obtain ⟨T30, h30, X30, e30, W30, st30⟩ := stB X25 hx hZ e25 Ar29 (j := (5 : Int32)) hin29 (g := (mkF m 31 #[.val (.ref a), .val (.int (5 : Int32)), .val (.ref b), .val (.int (5 : Int32)), .val (.int nn), .val (.int (5 : Int32)), .val (.int qf)] [(.int (qf.toInt8.toInt32)), (.int (5 : Int32)), (.ref b)])) rfl rfl (hb hby d10_31)
       have V30 : Arv Z h30 b k_b .byte nn [(.int ((qa.toInt8.toInt32)).toInt8.toInt32), (.int ((qb.toInt8.toInt32)).toInt8.toInt32), (.int ((qc.toInt8.toInt32)).toInt8.toInt32), (.int ((qd.toInt8.toInt32)).toInt8.toInt32), (.int ((qe.toInt8.toInt32)).toInt8.toInt32), (.int ((qf.toInt8.toInt32)).toInt8.toInt32), (.int (0 : Int32))] (.int (0 : Int32)) := Arv.set Ar29 q29 S29 M29 Hs29 G29 (fits_nar_byte _) W30 5 rfl (Nat.le_of_ble_eq_true rfl)
       have K30 : Keep h0 h30 [b] := K25.wr W30 (Or.inl (List.mem_of_getElem? (i := 0) rfl))
       have Zs30 : n0 ≤ h30.size := Nat.le_trans Zs25 (Keep.of_wr W30).1
       have N30 := Fr.snoc X30 N25 g_b
       have r31 : ∀ t, Steps p.tables e below (T30.setTop (mkF m 7 #[.val (.ref a), .val (.int (6 : Int32)), .val (.ref b), .val (.int (6 : Int32)), .val (.int nn), .val (.int (6 : Int32)), .val (.int qf)] [(.int nn), (.int (6 : Int32))])) t → Steps p.tables e below (T25.setTop (mkF m 7 #[.val (.ref a), .val (.int (5 : Int32)), .val (.ref b), .val (.int (5 : Int32)), .val (.int nn), .val (.int (5 : Int32)), .val (.int qe)] [(.int nn), (.int (5 : Int32))])) t := fun t kt => by
        refine XS.icmpNo X25.here hx rfl (hb hby d10_7) rfl (tlt hc27).2.1 ?_
        refine XS.aloadN X25.here hx rfl (hb hby d10_10) rfl rfl ?_
        refine XS.iloadN X25.here hx rfl (hb hby d10_11) rfl ?_
        refine X25.caload hx (j := (5 : Int32)) (v := (.int qf)) (by rw [e25]; exact Ar28.1) (State.isArrayOf_alike hZ.alike Ar28.2.1) Ar28.2.2 hin28 hat28 (g := (mkF m 12 #[.val (.ref a), .val (.int (5 : Int32)), .val (.ref b), .val (.int (5 : Int32)), .val (.int nn), .val (.int (5 : Int32)), .val (.int qe)] [(.int (5 : Int32)), (.ref a)])) rfl rfl (hb hby d10_12) _ ?_
        refine XS.istore X25.here hx rfl (hb hby d10_13) rfl (l' := #[.val (.ref a), .val (.int (5 : Int32)), .val (.ref b), .val (.int (5 : Int32)), .val (.int nn), .val (.int (5 : Int32)), .val (.int qf)]) rfl ?_
        refine XS.iload X25.here hx rfl (hb hby d10_15) rfl ?_
        refine XS.sipush X25.here hx rfl (hb hby d10_17) ?_
        refine XS.icmpYes X25.here hx rfl (pc0 := 20) (pc' := 26) rfl (hb hby d10_20) rfl (flt (hl 5 (own_lt hc27 (by decide)))).2.2.2 (by decide) (by decide) ?_
        refine XS.aloadN X25.here hx rfl (hb hby d10_26) rfl rfl ?_
        refine XS.iloadN X25.here hx rfl (hb hby d10_27) rfl ?_
        refine XS.iload X25.here hx rfl (hb hby d10_28) rfl ?_
        refine XS.i2b X25.here hx rfl (hb hby d10_30) rfl ?_
        refine st30 _ ?_
        refine XS.iinc X30.here hx rfl (hb hby d10_32) rfl (l' := #[.val (.ref a), .val (.int (6 : Int32)), .val (.ref b), .val (.int (5 : Int32)), .val (.int nn), .val (.int (5 : Int32)), .val (.int qf)]) rfl ?_
        refine XS.iinc X30.here hx rfl (hb hby d10_35) rfl (l' := #[.val (.ref a), .val (.int (6 : Int32)), .val (.ref b), .val (.int (6 : Int32)), .val (.int nn), .val (.int (5 : Int32)), .val (.int qf)]) rfl ?_
        refine XS.iinc X30.here hx rfl (hb hby d10_38) rfl (l' := #[.val (.ref a), .val (.int (6 : Int32)), .val (.ref b), .val (.int (6 : Int32)), .val (.int nn), .val (.int (6 : Int32)), .val (.int qf)]) rfl ?_
        refine XS.goto X30.here hx rfl (pc0 := 41) (pc' := 3) rfl (hb hby d10_41) (by decide) (by decide) ?_
        refine XS.iload X30.here hx rfl (hb hby d10_3) rfl ?_
        refine XS.iload X30.here hx rfl (hb hby d10_5) rfl ?_
        exact kt
       by_cases hc32 : (6 : Int32) < nn
       ·obtain ⟨cl33, Ar33, q33, S33, M33, Hs33, G33⟩ := ((((((V_a.other W5 ne_a_b).other W10 ne_a_b).other W15 ne_a_b).other W20 ne_a_b).other W25 ne_a_b).other W30 ne_a_b)
        have hin33 : ¬ ((6 : Int32) < 0 ∨ cl33.slots.size ≤ ((6 : Int32)).toNatClampNeg) := inb_of S33 ⟨by decide, hc32⟩
        have hat33 : cl33.slots[((6 : Int32)).toNatClampNeg]? = some (.int qg) := Hs33.at hin33 rfl
        obtain ⟨cl34, Ar34, q34, S34, M34, Hs34, G34⟩ := (id V30)
        have hin34 : ¬ ((6 : Int32) < 0 ∨ cl34.slots.size ≤ ((6 : Int32)).toNatClampNeg) := inb_of S34 ⟨by decide, hc32⟩
        obtain ⟨T35, h35, X35, e35, W35, st35⟩ := stB X30 hx hZ e30 Ar34 (j := (6 : Int32)) hin34 (g := (mkF m 31 #[.val (.ref a), .val (.int (6 : Int32)), .val (.ref b), .val (.int (6 : Int32)), .val (.int nn), .val (.int (6 : Int32)), .val (.int qg)] [(.int (qg.toInt8.toInt32)), (.int (6 : Int32)), (.ref b)])) rfl rfl (hb hby d10_31)
        have V35 : Arv Z h35 b k_b .byte nn [(.int ((qa.toInt8.toInt32)).toInt8.toInt32), (.int ((qb.toInt8.toInt32)).toInt8.toInt32), (.int ((qc.toInt8.toInt32)).toInt8.toInt32), (.int ((qd.toInt8.toInt32)).toInt8.toInt32), (.int ((qe.toInt8.toInt32)).toInt8.toInt32), (.int ((qf.toInt8.toInt32)).toInt8.toInt32), (.int ((qg.toInt8.toInt32)).toInt8.toInt32)] (.int (0 : Int32)) := Arv.set Ar34 q34 S34 M34 Hs34 G34 (fits_nar_byte _) W35 6 rfl (Nat.le_of_ble_eq_true rfl)
        have K35 : Keep h0 h35 [b] := K30.wr W35 (Or.inl (List.mem_of_getElem? (i := 0) rfl))
        have Zs35 : n0 ≤ h35.size := Nat.le_trans Zs30 (Keep.of_wr W35).1
        have N35 := Fr.snoc X35 N30 g_b
        have Vq : Arv Z h35 b k_b .byte nn [(.int qa.toInt8.toInt32), (.int qb.toInt8.toInt32), (.int qc.toInt8.toInt32), (.int qd.toInt8.toInt32), (.int qe.toInt8.toInt32), (.int qf.toInt8.toInt32), (.int qg.toInt8.toInt32)] (.int (0 : Int32)) := by
         have q := V35
         simp only [own_lo2] at q
         exact q
        have Vt : Arv Z h35 b k_b .byte nn [(.int qa.toInt8.toInt32), (.int qb.toInt8.toInt32), (.int qc.toInt8.toInt32), (.int qd.toInt8.toInt32), (.int qe.toInt8.toInt32), (.int qf.toInt8.toInt32), (.int qg.toInt8.toInt32)] (.int (0 : Int32)) := Vq
        obtain ⟨fs, hr, hrun, hended, hW, hsame⟩ := X35.leave (v := some (.int nn)) (fun h => by rw [Bd.returns] at h; cases h)
        refine ⟨_, _, (pre0 _ (r1 _ (r6 _ (r11 _ (r16 _ (r21 _ (r26 _ (r31 _ ?_)))))))), hrun, hended, _, _, rfl, ?_, ⟨_, rfl⟩, hW, hsame.mono (by decide) (by decide)⟩
        ·show Steps p.tables e below (T30.setTop (mkF m 7 #[.val (.ref a), .val (.int (6 : Int32)), .val (.ref b), .val (.int (6 : Int32)), .val (.int nn), .val (.int (6 : Int32)), .val (.int qf)] [(.int nn), (.int (6 : Int32))])) _
         refine XS.icmpNo X30.here hx rfl (hb hby d10_7) rfl (tlt hc32).2.1 ?_
         refine XS.aloadN X30.here hx rfl (hb hby d10_10) rfl rfl ?_
         refine XS.iloadN X30.here hx rfl (hb hby d10_11) rfl ?_
         refine X30.caload hx (j := (6 : Int32)) (v := (.int qg)) (by rw [e30]; exact Ar33.1) (State.isArrayOf_alike hZ.alike Ar33.2.1) Ar33.2.2 hin33 hat33 (g := (mkF m 12 #[.val (.ref a), .val (.int (6 : Int32)), .val (.ref b), .val (.int (6 : Int32)), .val (.int nn), .val (.int (6 : Int32)), .val (.int qf)] [(.int (6 : Int32)), (.ref a)])) rfl rfl (hb hby d10_12) _ ?_
         refine XS.istore X30.here hx rfl (hb hby d10_13) rfl (l' := #[.val (.ref a), .val (.int (6 : Int32)), .val (.ref b), .val (.int (6 : Int32)), .val (.int nn), .val (.int (6 : Int32)), .val (.int qg)]) rfl ?_
         refine XS.iload X30.here hx rfl (hb hby d10_15) rfl ?_
         refine XS.sipush X30.here hx rfl (hb hby d10_17) ?_
         refine XS.icmpYes X30.here hx rfl (pc0 := 20) (pc' := 26) rfl (hb hby d10_20) rfl (flt (hl 6 (own_lt hc32 (by decide)))).2.2.2 (by decide) (by decide) ?_
         refine XS.aloadN X30.here hx rfl (hb hby d10_26) rfl rfl ?_
         refine XS.iloadN X30.here hx rfl (hb hby d10_27) rfl ?_
         refine XS.iload X30.here hx rfl (hb hby d10_28) rfl ?_
         refine XS.i2b X30.here hx rfl (hb hby d10_30) rfl ?_
         refine st35 _ ?_
         refine XS.iinc X35.here hx rfl (hb hby d10_32) rfl (l' := #[.val (.ref a), .val (.int (7 : Int32)), .val (.ref b), .val (.int (6 : Int32)), .val (.int nn), .val (.int (6 : Int32)), .val (.int qg)]) rfl ?_
         refine XS.iinc X35.here hx rfl (hb hby d10_35) rfl (l' := #[.val (.ref a), .val (.int (7 : Int32)), .val (.ref b), .val (.int (7 : Int32)), .val (.int nn), .val (.int (6 : Int32)), .val (.int qg)]) rfl ?_
         refine XS.iinc X35.here hx rfl (hb hby d10_38) rfl (l' := #[.val (.ref a), .val (.int (7 : Int32)), .val (.ref b), .val (.int (7 : Int32)), .val (.int nn), .val (.int (7 : Int32)), .val (.int qg)]) rfl ?_
         refine XS.goto X35.here hx rfl (pc0 := 41) (pc' := 3) rfl (hb hby d10_41) (by decide) (by decide) ?_
         refine XS.iload X35.here hx rfl (hb hby d10_3) rfl ?_
         refine XS.iload X35.here hx rfl (hb hby d10_5) rfl ?_
         refine XS.icmpYes X35.here hx rfl (pc0 := 7) (pc' := 44) rfl (hb hby d10_7) rfl (flt (own_le7 hn)).2.1 (by decide) (by decide) ?_
         refine XS.iload X35.here hx rfl (hb hby d10_44) rfl ?_
         exact retI X35 hx Bd.returns (hb hby d10_46) hr
        ·show QC5L Z a b nn qa qb qc qd qe qf qg k_a k_b h0 n0 _ T35.heap _
         rw [e35]
         exact ⟨rfl, N35, K35, Vt⟩
       ·have Vq : Arv Z h30 b k_b .byte nn [(.int qa.toInt8.toInt32), (.int qb.toInt8.toInt32), (.int qc.toInt8.toInt32), (.int qd.toInt8.toInt32), (.int qe.toInt8.toInt32), (.int qf.toInt8.toInt32), (.int (0 : Int32))] (.int (0 : Int32)) := by
         have q := V30
         simp only [own_lo2] at q
         exact q
        have Vt : Arv Z h30 b k_b .byte nn [(.int qa.toInt8.toInt32), (.int qb.toInt8.toInt32), (.int qc.toInt8.toInt32), (.int qd.toInt8.toInt32), (.int qe.toInt8.toInt32), (.int qf.toInt8.toInt32), (.int qg.toInt8.toInt32)] (.int (0 : Int32)) := (own_irr Vq (fun i hi => by have q : i < 6 := Nat.lt_of_lt_of_le hi (own_short hc32 (by decide)); match i, q with | 0, _ => rfl | 1, _ => rfl | 2, _ => rfl | 3, _ => rfl | 4, _ => rfl | 5, _ => rfl))
        obtain ⟨fs, hr, hrun, hended, hW, hsame⟩ := X30.leave (v := some (.int nn)) (fun h => by rw [Bd.returns] at h; cases h)
        refine ⟨_, _, (pre0 _ (r1 _ (r6 _ (r11 _ (r16 _ (r21 _ (r26 _ (r31 _ ?_)))))))), hrun, hended, _, _, rfl, ?_, ⟨_, rfl⟩, hW, hsame.mono (by decide) (by decide)⟩
        ·show Steps p.tables e below (T30.setTop (mkF m 7 #[.val (.ref a), .val (.int (6 : Int32)), .val (.ref b), .val (.int (6 : Int32)), .val (.int nn), .val (.int (6 : Int32)), .val (.int qf)] [(.int nn), (.int (6 : Int32))])) _
         refine XS.icmpYes X30.here hx rfl (pc0 := 7) (pc' := 44) rfl (hb hby d10_7) rfl (flt hc32).2.1 (by decide) (by decide) ?_
         refine XS.iload X30.here hx rfl (hb hby d10_44) rfl ?_
         exact retI X30 hx Bd.returns (hb hby d10_46) hr
        ·show QC5L Z a b nn qa qb qc qd qe qf qg k_a k_b h0 n0 _ T30.heap _
         rw [e30]
         exact ⟨rfl, N30, K30, Vt⟩
      ·have Vq : Arv Z h25 b k_b .byte nn [(.int qa.toInt8.toInt32), (.int qb.toInt8.toInt32), (.int qc.toInt8.toInt32), (.int qd.toInt8.toInt32), (.int qe.toInt8.toInt32), (.int (0 : Int32)), (.int (0 : Int32))] (.int (0 : Int32)) := by
        have q := V25
        simp only [own_lo2] at q
        exact q
       have Vt : Arv Z h25 b k_b .byte nn [(.int qa.toInt8.toInt32), (.int qb.toInt8.toInt32), (.int qc.toInt8.toInt32), (.int qd.toInt8.toInt32), (.int qe.toInt8.toInt32), (.int qf.toInt8.toInt32), (.int qg.toInt8.toInt32)] (.int (0 : Int32)) := (own_irr Vq (fun i hi => by have q : i < 5 := Nat.lt_of_lt_of_le hi (own_short hc27 (by decide)); match i, q with | 0, _ => rfl | 1, _ => rfl | 2, _ => rfl | 3, _ => rfl | 4, _ => rfl))
       obtain ⟨fs, hr, hrun, hended, hW, hsame⟩ := X25.leave (v := some (.int nn)) (fun h => by rw [Bd.returns] at h; cases h)
       refine ⟨_, _, (pre0 _ (r1 _ (r6 _ (r11 _ (r16 _ (r21 _ (r26 _ ?_))))))), hrun, hended, _, _, rfl, ?_, ⟨_, rfl⟩, hW, hsame.mono (by decide) (by decide)⟩
       ·show Steps p.tables e below (T25.setTop (mkF m 7 #[.val (.ref a), .val (.int (5 : Int32)), .val (.ref b), .val (.int (5 : Int32)), .val (.int nn), .val (.int (5 : Int32)), .val (.int qe)] [(.int nn), (.int (5 : Int32))])) _
        refine XS.icmpYes X25.here hx rfl (pc0 := 7) (pc' := 44) rfl (hb hby d10_7) rfl (flt hc27).2.1 (by decide) (by decide) ?_
        refine XS.iload X25.here hx rfl (hb hby d10_44) rfl ?_
        exact retI X25 hx Bd.returns (hb hby d10_46) hr
       ·show QC5L Z a b nn qa qb qc qd qe qf qg k_a k_b h0 n0 _ T25.heap _
        rw [e25]
        exact ⟨rfl, N25, K25, Vt⟩
     ·have Vq : Arv Z h20 b k_b .byte nn [(.int qa.toInt8.toInt32), (.int qb.toInt8.toInt32), (.int qc.toInt8.toInt32), (.int qd.toInt8.toInt32), (.int (0 : Int32)), (.int (0 : Int32)), (.int (0 : Int32))] (.int (0 : Int32)) := by
       have q := V20
       simp only [own_lo2] at q
       exact q
      have Vt : Arv Z h20 b k_b .byte nn [(.int qa.toInt8.toInt32), (.int qb.toInt8.toInt32), (.int qc.toInt8.toInt32), (.int qd.toInt8.toInt32), (.int qe.toInt8.toInt32), (.int qf.toInt8.toInt32), (.int qg.toInt8.toInt32)] (.int (0 : Int32)) := (own_irr Vq (fun i hi => by have q : i < 4 := Nat.lt_of_lt_of_le hi (own_short hc22 (by decide)); match i, q with | 0, _ => rfl | 1, _ => rfl | 2, _ => rfl | 3, _ => rfl))
      obtain ⟨fs, hr, hrun, hended, hW, hsame⟩ := X20.leave (v := some (.int nn)) (fun h => by rw [Bd.returns] at h; cases h)
      refine ⟨_, _, (pre0 _ (r1 _ (r6 _ (r11 _ (r16 _ (r21 _ ?_)))))), hrun, hended, _, _, rfl, ?_, ⟨_, rfl⟩, hW, hsame.mono (by decide) (by decide)⟩
      ·show Steps p.tables e below (T20.setTop (mkF m 7 #[.val (.ref a), .val (.int (4 : Int32)), .val (.ref b), .val (.int (4 : Int32)), .val (.int nn), .val (.int (4 : Int32)), .val (.int qd)] [(.int nn), (.int (4 : Int32))])) _
       refine XS.icmpYes X20.here hx rfl (pc0 := 7) (pc' := 44) rfl (hb hby d10_7) rfl (flt hc22).2.1 (by decide) (by decide) ?_
       refine XS.iload X20.here hx rfl (hb hby d10_44) rfl ?_
       exact retI X20 hx Bd.returns (hb hby d10_46) hr
      ·show QC5L Z a b nn qa qb qc qd qe qf qg k_a k_b h0 n0 _ T20.heap _
       rw [e20]
       exact ⟨rfl, N20, K20, Vt⟩
    ·have Vq : Arv Z h15 b k_b .byte nn [(.int qa.toInt8.toInt32), (.int qb.toInt8.toInt32), (.int qc.toInt8.toInt32), (.int (0 : Int32)), (.int (0 : Int32)), (.int (0 : Int32)), (.int (0 : Int32))] (.int (0 : Int32)) := by
      have q := V15
      simp only [own_lo2] at q
      exact q
     have Vt : Arv Z h15 b k_b .byte nn [(.int qa.toInt8.toInt32), (.int qb.toInt8.toInt32), (.int qc.toInt8.toInt32), (.int qd.toInt8.toInt32), (.int qe.toInt8.toInt32), (.int qf.toInt8.toInt32), (.int qg.toInt8.toInt32)] (.int (0 : Int32)) := (own_irr Vq (fun i hi => by have q : i < 3 := Nat.lt_of_lt_of_le hi (own_short hc17 (by decide)); match i, q with | 0, _ => rfl | 1, _ => rfl | 2, _ => rfl))
     obtain ⟨fs, hr, hrun, hended, hW, hsame⟩ := X15.leave (v := some (.int nn)) (fun h => by rw [Bd.returns] at h; cases h)
     refine ⟨_, _, (pre0 _ (r1 _ (r6 _ (r11 _ (r16 _ ?_))))), hrun, hended, _, _, rfl, ?_, ⟨_, rfl⟩, hW, hsame.mono (by decide) (by decide)⟩
     ·show Steps p.tables e below (T15.setTop (mkF m 7 #[.val (.ref a), .val (.int (3 : Int32)), .val (.ref b), .val (.int (3 : Int32)), .val (.int nn), .val (.int (3 : Int32)), .val (.int qc)] [(.int nn), (.int (3 : Int32))])) _
      refine XS.icmpYes X15.here hx rfl (pc0 := 7) (pc' := 44) rfl (hb hby d10_7) rfl (flt hc17).2.1 (by decide) (by decide) ?_
      refine XS.iload X15.here hx rfl (hb hby d10_44) rfl ?_
      exact retI X15 hx Bd.returns (hb hby d10_46) hr
     ·show QC5L Z a b nn qa qb qc qd qe qf qg k_a k_b h0 n0 _ T15.heap _
      rw [e15]
      exact ⟨rfl, N15, K15, Vt⟩
   ·have Vq : Arv Z h10 b k_b .byte nn [(.int qa.toInt8.toInt32), (.int qb.toInt8.toInt32), (.int (0 : Int32)), (.int (0 : Int32)), (.int (0 : Int32)), (.int (0 : Int32)), (.int (0 : Int32))] (.int (0 : Int32)) := by
     have q := V10
     simp only [own_lo2] at q
     exact q
    have Vt : Arv Z h10 b k_b .byte nn [(.int qa.toInt8.toInt32), (.int qb.toInt8.toInt32), (.int qc.toInt8.toInt32), (.int qd.toInt8.toInt32), (.int qe.toInt8.toInt32), (.int qf.toInt8.toInt32), (.int qg.toInt8.toInt32)] (.int (0 : Int32)) := (own_irr Vq (fun i hi => by have q : i < 2 := Nat.lt_of_lt_of_le hi (own_short hc12 (by decide)); match i, q with | 0, _ => rfl | 1, _ => rfl))
    obtain ⟨fs, hr, hrun, hended, hW, hsame⟩ := X10.leave (v := some (.int nn)) (fun h => by rw [Bd.returns] at h; cases h)
    refine ⟨_, _, (pre0 _ (r1 _ (r6 _ (r11 _ ?_)))), hrun, hended, _, _, rfl, ?_, ⟨_, rfl⟩, hW, hsame.mono (by decide) (by decide)⟩
    ·show Steps p.tables e below (T10.setTop (mkF m 7 #[.val (.ref a), .val (.int (2 : Int32)), .val (.ref b), .val (.int (2 : Int32)), .val (.int nn), .val (.int (2 : Int32)), .val (.int qb)] [(.int nn), (.int (2 : Int32))])) _
     refine XS.icmpYes X10.here hx rfl (pc0 := 7) (pc' := 44) rfl (hb hby d10_7) rfl (flt hc12).2.1 (by decide) (by decide) ?_
     refine XS.iload X10.here hx rfl (hb hby d10_44) rfl ?_
     exact retI X10 hx Bd.returns (hb hby d10_46) hr
    ·show QC5L Z a b nn qa qb qc qd qe qf qg k_a k_b h0 n0 _ T10.heap _
     rw [e10]
     exact ⟨rfl, N10, K10, Vt⟩
  ·have Vq : Arv Z h5 b k_b .byte nn [(.int qa.toInt8.toInt32), (.int (0 : Int32)), (.int (0 : Int32)), (.int (0 : Int32)), (.int (0 : Int32)), (.int (0 : Int32)), (.int (0 : Int32))] (.int (0 : Int32)) := by
    have q := V5
    simp only [own_lo2] at q
    exact q
   have Vt : Arv Z h5 b k_b .byte nn [(.int qa.toInt8.toInt32), (.int qb.toInt8.toInt32), (.int qc.toInt8.toInt32), (.int qd.toInt8.toInt32), (.int qe.toInt8.toInt32), (.int qf.toInt8.toInt32), (.int qg.toInt8.toInt32)] (.int (0 : Int32)) := (own_irr Vq (fun i hi => by have q : i < 1 := Nat.lt_of_lt_of_le hi (own_short hc7 (by decide)); match i, q with | 0, _ => rfl))
   obtain ⟨fs, hr, hrun, hended, hW, hsame⟩ := X5.leave (v := some (.int nn)) (fun h => by rw [Bd.returns] at h; cases h)
   refine ⟨_, _, (pre0 _ (r1 _ (r6 _ ?_))), hrun, hended, _, _, rfl, ?_, ⟨_, rfl⟩, hW, hsame.mono (by decide) (by decide)⟩
   ·show Steps p.tables e below (T5.setTop (mkF m 7 #[.val (.ref a), .val (.int (1 : Int32)), .val (.ref b), .val (.int (1 : Int32)), .val (.int nn), .val (.int (1 : Int32)), .val (.int qa)] [(.int nn), (.int (1 : Int32))])) _
    refine XS.icmpYes X5.here hx rfl (pc0 := 7) (pc' := 44) rfl (hb hby d10_7) rfl (flt hc7).2.1 (by decide) (by decide) ?_
    refine XS.iload X5.here hx rfl (hb hby d10_44) rfl ?_
    exact retI X5 hx Bd.returns (hb hby d10_46) hr
   ·show QC5L Z a b nn qa qb qc qd qe qf qg k_a k_b h0 n0 _ T5.heap _
    rw [e5]
    exact ⟨rfl, N5, K5, Vt⟩
 ·have Vq : Arv Z h0 b k_b .byte nn [(.int (0 : Int32)), (.int (0 : Int32)), (.int (0 : Int32)), (.int (0 : Int32)), (.int (0 : Int32)), (.int (0 : Int32)), (.int (0 : Int32))] (.int (0 : Int32)) := by
   have q := V_b
   exact q
  have Vt : Arv Z h0 b k_b .byte nn [(.int qa.toInt8.toInt32), (.int qb.toInt8.toInt32), (.int qc.toInt8.toInt32), (.int qd.toInt8.toInt32), (.int qe.toInt8.toInt32), (.int qf.toInt8.toInt32), (.int qg.toInt8.toInt32)] (.int (0 : Int32)) := (own_irr Vq (fun i hi => by have q : i < 0 := Nat.lt_of_lt_of_le hi (own_short hc2 (by decide)); exact absurd q (Nat.not_lt_zero _)))
  obtain ⟨fs, hr, hrun, hended, hW, hsame⟩ := X0.leave (v := some (.int nn)) (fun h => by rw [Bd.returns] at h; cases h)
  refine ⟨_, _, (pre0 _ (r1 _ ?_)), hrun, hended, _, _, rfl, ?_, ⟨_, rfl⟩, hW, hsame.mono (by decide) (by decide)⟩
  ·show Steps p.tables e below (s₁.setTop (mkF m 7 #[.val (.ref a), .val (.int (0 : Int32)), .val (.ref b), .val (.int (0 : Int32)), .val (.int nn), .val (.int (0 : Int32)), .unset] [(.int nn), (.int (0 : Int32))])) _
   refine XS.icmpYes X0.here hx rfl (pc0 := 7) (pc' := 44) rfl (hb hby d10_7) rfl (flt hc2).2.1 (by decide) (by decide) ?_
   refine XS.iload X0.here hx rfl (hb hby d10_44) rfl ?_
   exact retI X0 hx Bd.returns (hb hby d10_46) hr
  ·show QC5L Z a b nn qa qb qc qd qe qf qg k_a k_b h0 n0 _ s₁.heap _
   rw [e0]
   exact ⟨rfl, N0, (Keep.refl h0 [b]), Vt⟩
theorem d10_23 : decode jdk_52_method_21_code 23 = .ok (.iload 5, 2) := by decide +kernel
theorem d10_25 : decode jdk_52_method_21_code 25 = .ok (.ireturn, 1) := by decide +kernel
theorem efC5W (m : MethodId) (a : Addr) (b : Addr) (nn : Int32) : entryFrame m #[(.ref a), (.int (0 : Int32)), (.ref b), (.int (0 : Int32)), (.int nn)] 7 = mkF m 0 #[.val (.ref a), .val (.int (0 : Int32)), .val (.ref b), .val (.int (0 : Int32)), .val (.int nn), .unset, .unset] [] := by first | (simp [entryFrame, mkF, argsToLocals, Value.category]; done) | rfl
def QC5W (Z : State) (a : Addr) (b : Addr) (nn : Int32) (qa : Int32) (qb : Int32) (qc : Int32) (qd : Int32) (qe : Int32) (qf : Int32) (qg : Int32) (k_a : ClassId) (k_b : ClassId) (h0 : Heap) (n0 : Nat) (v : Option Value) (h : Heap) (L : List Loc) : Prop := ∃ jv : Int32, v = some (.int jv) ∧ Fr n0 L ∧ Keep h0 h [b] ∧ own_at nn [qa, qb, qc, qd, qe, qf, qg] jv
set_option maxRecDepth 65536 in
set_option maxHeartbeats 40000000 in
theorem rmC5W (l : Launch) (Z : State) (a0 : Array Value) (hw : ∀ d ∈ tables_1, d.before a0 Z = true) (ws : List Jvm.Cond) (a : Addr) (b : Addr) (nn : Int32) (qa : Int32) (qb : Int32) (qc : Int32) (qd : Int32) (qe : Int32) (qf : Int32) (qg : Int32) (k_a : ClassId) (k_b : ClassId) (h0 : Heap) (n0 : Nat) (Z0 : n0 ≤ h0.size) (V_a : Arv Z h0 a k_a .char nn [(.int qa), (.int qb), (.int qc), (.int qd), (.int qe), (.int qf), (.int qg)] (.int (0 : Int32))) (V_b : Arv Z h0 b k_b .byte nn [(.int (0 : Int32)), (.int (0 : Int32)), (.int (0 : Int32)), (.int (0 : Int32)), (.int (0 : Int32)), (.int (0 : Int32)), (.int (0 : Int32))] (.int (0 : Int32))) (g_b : n0 ≤ b) (ne_a_b : a ≠ b) (hn : 0 ≤ nn.toInt ∧ nn.toInt ≤ 7) (hwd : own_wide nn [qa, qb, qc, qd, qe, qf, qg]) :
  MetFree l (⟨"java/lang/StringUTF16", "compress", "([CI[BII)I"⟩ : MethodName) (head1 (Jvm.Cond.code (⟨"java/lang/StringUTF16", "compress", "([CI[BII)I"⟩ : MethodName) jdk_52_method_21_code 7 (some .int) :: ws) ({ frames := 0, cells := 0, slots := 0, locals := 0 } : Room)) (fun av_ U => av_ = #[(.ref a), (.int (0 : Int32)), (.ref b), (.int (0 : Int32)), (.int nn)] ∧ Z.Warmed39 U.vm ∧ U.heap = h0) (fun _ _ _ _ _ => True) (fun _ U o U' => ∃ v L, o = .returned v ∧ QC5W Z a b nn qa qb qc qd qe qf qg k_a k_b h0 n0 v U'.heap L ∧ FrameEnd U o U' L ({ frames := 0, cells := 0, slots := 0, locals := 0 } : Room).cells ({ frames := 0, cells := 0, slots := 0, locals := 0 } : Room).slots) := by
 refine MetFree.of_bodySF (plainFor_of_name own_pn0) hisR ?_
 intro p e s m args below meth c s₁ Bd hml0 hP hK
 obtain ⟨rfl, hZ, hh⟩ := hP
 have hx := Bd.exec
 have hby := Bd.bytes
 have hml : c.maxLocals = 7 := hml0
 have hown : s.vm.findClass "java/lang/StringUTF16" = some m.cls := findClass_of_methodNamed Bd.named
 have hnm := (name_of_methodNamed Bd.named Bd.method).1
 have X0 : Stand p l e ({ frames := 0, cells := 0, slots := 0, locals := 0 } : Room) s m #[(.ref a), (.int (0 : Int32)), (.ref b), (.int (0 : Int32)), (.int nn)] below meth c s₁ [] 0 0 := Stand.of_body Bd
 have e0 : s₁.heap = h0 := by rw [← hh, Bd.state]; rfl
 have N0 := Fr.nil n0
 have pre0 : ∀ t, Steps p.tables e below (s₁.setTop (mkF m 0 #[.val (.ref a), .val (.int (0 : Int32)), .val (.ref b), .val (.int (0 : Int32)), .val (.int nn), .unset, .unset] [])) t → Steps p.tables e below (s₁.setTop (entryFrame m #[(.ref a), (.int (0 : Int32)), (.ref b), (.int (0 : Int32)), (.int nn)] 7)) t := fun t k => castTop (efC5W m a b nn) k
 have r1 : ∀ t, Steps p.tables e below (s₁.setTop (mkF m 7 #[.val (.ref a), .val (.int (0 : Int32)), .val (.ref b), .val (.int (0 : Int32)), .val (.int nn), .val (.int (0 : Int32)), .unset] [(.int nn), (.int (0 : Int32))])) t → Steps p.tables e below (s₁.setTop (mkF m 0 #[.val (.ref a), .val (.int (0 : Int32)), .val (.ref b), .val (.int (0 : Int32)), .val (.int nn), .unset, .unset] [])) t := fun t kt => by
  refine XS.iconst X0.here hx rfl (hb hby d10_0) ?_
  refine XS.istore X0.here hx rfl (hb hby d10_1) rfl (l' := #[.val (.ref a), .val (.int (0 : Int32)), .val (.ref b), .val (.int (0 : Int32)), .val (.int nn), .val (.int (0 : Int32)), .unset]) rfl ?_
  refine XS.iload X0.here hx rfl (hb hby d10_3) rfl ?_
  refine XS.iload X0.here hx rfl (hb hby d10_5) rfl ?_
  exact kt
 by_cases hc2 : (0 : Int32) < nn
 ·obtain ⟨cl3, Ar3, q3, S3, M3, Hs3, G3⟩ := (id V_a)
  have hin3 : ¬ ((0 : Int32) < 0 ∨ cl3.slots.size ≤ ((0 : Int32)).toNatClampNeg) := inb_of S3 ⟨by decide, hc2⟩
  have hat3 : cl3.slots[((0 : Int32)).toNatClampNeg]? = some (.int qa) := Hs3.at hin3 rfl
  have r4 : ∀ t, Steps p.tables e below (s₁.setTop (mkF m 20 #[.val (.ref a), .val (.int (0 : Int32)), .val (.ref b), .val (.int (0 : Int32)), .val (.int nn), .val (.int (0 : Int32)), .val (.int qa)] [(.int (255 : Int32)), (.int qa)])) t → Steps p.tables e below (s₁.setTop (mkF m 7 #[.val (.ref a), .val (.int (0 : Int32)), .val (.ref b), .val (.int (0 : Int32)), .val (.int nn), .val (.int (0 : Int32)), .unset] [(.int nn), (.int (0 : Int32))])) t := fun t kt => by
   refine XS.icmpNo X0.here hx rfl (hb hby d10_7) rfl (tlt hc2).2.1 ?_
   refine XS.aloadN X0.here hx rfl (hb hby d10_10) rfl rfl ?_
   refine XS.iloadN X0.here hx rfl (hb hby d10_11) rfl ?_
   refine X0.caload hx (j := (0 : Int32)) (v := (.int qa)) (by rw [e0]; exact Ar3.1) (State.isArrayOf_alike hZ.alike Ar3.2.1) Ar3.2.2 hin3 hat3 (g := (mkF m 12 #[.val (.ref a), .val (.int (0 : Int32)), .val (.ref b), .val (.int (0 : Int32)), .val (.int nn), .val (.int (0 : Int32)), .unset] [(.int (0 : Int32)), (.ref a)])) rfl rfl (hb hby d10_12) _ ?_
   refine XS.istore X0.here hx rfl (hb hby d10_13) rfl (l' := #[.val (.ref a), .val (.int (0 : Int32)), .val (.ref b), .val (.int (0 : Int32)), .val (.int nn), .val (.int (0 : Int32)), .val (.int qa)]) rfl ?_
   refine XS.iload X0.here hx rfl (hb hby d10_15) rfl ?_
   refine XS.sipush X0.here hx rfl (hb hby d10_17) ?_
   exact kt
  by_cases hc5 : (255 : Int32) < qa
  ·obtain ⟨fs, hr, hrun, hended, hW, hsame⟩ := X0.leave (v := some (.int (0 : Int32))) (fun h => by rw [Bd.returns] at h; cases h)
   refine ⟨_, _, (pre0 _ (r1 _ (r4 _ ?_))), hrun, hended, _, _, rfl, ?_, ⟨_, rfl⟩, hW, hsame.mono (by decide) (by decide)⟩
   ·show Steps p.tables e below (s₁.setTop (mkF m 20 #[.val (.ref a), .val (.int (0 : Int32)), .val (.ref b), .val (.int (0 : Int32)), .val (.int nn), .val (.int (0 : Int32)), .val (.int qa)] [(.int (255 : Int32)), (.int qa)])) _
    refine XS.icmpNo X0.here hx rfl (hb hby d10_20) rfl (tlt hc5).2.2.2 ?_
    refine XS.iload X0.here hx rfl (hb hby d10_23) rfl ?_
    exact retI X0 hx Bd.returns (hb hby d10_25) hr
   ·show QC5W Z a b nn qa qb qc qd qe qf qg k_a k_b h0 n0 _ s₁.heap _
    rw [e0]
    exact ⟨(0 : Int32), rfl, N0, (Keep.refl h0 [b]), ⟨0, by decide, by decide, own_lt hc2 (by decide), hc5⟩⟩
  ·obtain ⟨cl6, Ar6, q6, S6, M6, Hs6, G6⟩ := (id V_b)
   have hin6 : ¬ ((0 : Int32) < 0 ∨ cl6.slots.size ≤ ((0 : Int32)).toNatClampNeg) := inb_of S6 ⟨by decide, hc2⟩
   obtain ⟨T7, h7, X7, e7, W7, st7⟩ := stB X0 hx hZ e0 Ar6 (j := (0 : Int32)) hin6 (g := (mkF m 31 #[.val (.ref a), .val (.int (0 : Int32)), .val (.ref b), .val (.int (0 : Int32)), .val (.int nn), .val (.int (0 : Int32)), .val (.int qa)] [(.int (qa.toInt8.toInt32)), (.int (0 : Int32)), (.ref b)])) rfl rfl (hb hby d10_31)
   have V7 : Arv Z h7 b k_b .byte nn [(.int ((qa.toInt8.toInt32)).toInt8.toInt32), (.int (0 : Int32)), (.int (0 : Int32)), (.int (0 : Int32)), (.int (0 : Int32)), (.int (0 : Int32)), (.int (0 : Int32))] (.int (0 : Int32)) := Arv.set Ar6 q6 S6 M6 Hs6 G6 (fits_nar_byte _) W7 0 rfl (Nat.le_of_ble_eq_true rfl)
   have K7 : Keep h0 h7 [b] := (Keep.refl h0 [b]).wr W7 (Or.inl (List.mem_of_getElem? (i := 0) rfl))
   have Zs7 : n0 ≤ h7.size := Nat.le_trans Z0 (Keep.of_wr W7).1
   have N7 := Fr.snoc X7 N0 g_b
   have r8 : ∀ t, Steps p.tables e below (T7.setTop (mkF m 7 #[.val (.ref a), .val (.int (1 : Int32)), .val (.ref b), .val (.int (1 : Int32)), .val (.int nn), .val (.int (1 : Int32)), .val (.int qa)] [(.int nn), (.int (1 : Int32))])) t → Steps p.tables e below (s₁.setTop (mkF m 20 #[.val (.ref a), .val (.int (0 : Int32)), .val (.ref b), .val (.int (0 : Int32)), .val (.int nn), .val (.int (0 : Int32)), .val (.int qa)] [(.int (255 : Int32)), (.int qa)])) t := fun t kt => by
    refine XS.icmpYes X0.here hx rfl (pc0 := 20) (pc' := 26) rfl (hb hby d10_20) rfl (flt hc5).2.2.2 (by decide) (by decide) ?_
    refine XS.aloadN X0.here hx rfl (hb hby d10_26) rfl rfl ?_
    refine XS.iloadN X0.here hx rfl (hb hby d10_27) rfl ?_
    refine XS.iload X0.here hx rfl (hb hby d10_28) rfl ?_
    refine XS.i2b X0.here hx rfl (hb hby d10_30) rfl ?_
    refine st7 _ ?_
    refine XS.iinc X7.here hx rfl (hb hby d10_32) rfl (l' := #[.val (.ref a), .val (.int (1 : Int32)), .val (.ref b), .val (.int (0 : Int32)), .val (.int nn), .val (.int (0 : Int32)), .val (.int qa)]) rfl ?_
    refine XS.iinc X7.here hx rfl (hb hby d10_35) rfl (l' := #[.val (.ref a), .val (.int (1 : Int32)), .val (.ref b), .val (.int (1 : Int32)), .val (.int nn), .val (.int (0 : Int32)), .val (.int qa)]) rfl ?_
    refine XS.iinc X7.here hx rfl (hb hby d10_38) rfl (l' := #[.val (.ref a), .val (.int (1 : Int32)), .val (.ref b), .val (.int (1 : Int32)), .val (.int nn), .val (.int (1 : Int32)), .val (.int qa)]) rfl ?_
    refine XS.goto X7.here hx rfl (pc0 := 41) (pc' := 3) rfl (hb hby d10_41) (by decide) (by decide) ?_
    refine XS.iload X7.here hx rfl (hb hby d10_3) rfl ?_
    refine XS.iload X7.here hx rfl (hb hby d10_5) rfl ?_
    exact kt
   by_cases hc9 : (1 : Int32) < nn
   ·obtain ⟨cl10, Ar10, q10, S10, M10, Hs10, G10⟩ := (V_a.other W7 ne_a_b)
    have hin10 : ¬ ((1 : Int32) < 0 ∨ cl10.slots.size ≤ ((1 : Int32)).toNatClampNeg) := inb_of S10 ⟨by decide, hc9⟩
    have hat10 : cl10.slots[((1 : Int32)).toNatClampNeg]? = some (.int qb) := Hs10.at hin10 rfl
    have r11 : ∀ t, Steps p.tables e below (T7.setTop (mkF m 20 #[.val (.ref a), .val (.int (1 : Int32)), .val (.ref b), .val (.int (1 : Int32)), .val (.int nn), .val (.int (1 : Int32)), .val (.int qb)] [(.int (255 : Int32)), (.int qb)])) t → Steps p.tables e below (T7.setTop (mkF m 7 #[.val (.ref a), .val (.int (1 : Int32)), .val (.ref b), .val (.int (1 : Int32)), .val (.int nn), .val (.int (1 : Int32)), .val (.int qa)] [(.int nn), (.int (1 : Int32))])) t := fun t kt => by
     refine XS.icmpNo X7.here hx rfl (hb hby d10_7) rfl (tlt hc9).2.1 ?_
     refine XS.aloadN X7.here hx rfl (hb hby d10_10) rfl rfl ?_
     refine XS.iloadN X7.here hx rfl (hb hby d10_11) rfl ?_
     refine X7.caload hx (j := (1 : Int32)) (v := (.int qb)) (by rw [e7]; exact Ar10.1) (State.isArrayOf_alike hZ.alike Ar10.2.1) Ar10.2.2 hin10 hat10 (g := (mkF m 12 #[.val (.ref a), .val (.int (1 : Int32)), .val (.ref b), .val (.int (1 : Int32)), .val (.int nn), .val (.int (1 : Int32)), .val (.int qa)] [(.int (1 : Int32)), (.ref a)])) rfl rfl (hb hby d10_12) _ ?_
     refine XS.istore X7.here hx rfl (hb hby d10_13) rfl (l' := #[.val (.ref a), .val (.int (1 : Int32)), .val (.ref b), .val (.int (1 : Int32)), .val (.int nn), .val (.int (1 : Int32)), .val (.int qb)]) rfl ?_
     refine XS.iload X7.here hx rfl (hb hby d10_15) rfl ?_
     refine XS.sipush X7.here hx rfl (hb hby d10_17) ?_
     exact kt
    by_cases hc12 : (255 : Int32) < qb
    ·obtain ⟨fs, hr, hrun, hended, hW, hsame⟩ := X7.leave (v := some (.int (1 : Int32))) (fun h => by rw [Bd.returns] at h; cases h)
     refine ⟨_, _, (pre0 _ (r1 _ (r4 _ (r8 _ (r11 _ ?_))))), hrun, hended, _, _, rfl, ?_, ⟨_, rfl⟩, hW, hsame.mono (by decide) (by decide)⟩
     ·show Steps p.tables e below (T7.setTop (mkF m 20 #[.val (.ref a), .val (.int (1 : Int32)), .val (.ref b), .val (.int (1 : Int32)), .val (.int nn), .val (.int (1 : Int32)), .val (.int qb)] [(.int (255 : Int32)), (.int qb)])) _
      refine XS.icmpNo X7.here hx rfl (hb hby d10_20) rfl (tlt hc12).2.2.2 ?_
      refine XS.iload X7.here hx rfl (hb hby d10_23) rfl ?_
      exact retI X7 hx Bd.returns (hb hby d10_25) hr
     ·show QC5W Z a b nn qa qb qc qd qe qf qg k_a k_b h0 n0 _ T7.heap _
      rw [e7]
      exact ⟨(1 : Int32), rfl, N7, K7, ⟨1, by decide, by decide, own_lt hc9 (by decide), hc12⟩⟩
    ·obtain ⟨cl13, Ar13, q13, S13, M13, Hs13, G13⟩ := (id V7)
     have hin13 : ¬ ((1 : Int32) < 0 ∨ cl13.slots.size ≤ ((1 : Int32)).toNatClampNeg) := inb_of S13 ⟨by decide, hc9⟩
     obtain ⟨T14, h14, X14, e14, W14, st14⟩ := stB X7 hx hZ e7 Ar13 (j := (1 : Int32)) hin13 (g := (mkF m 31 #[.val (.ref a), .val (.int (1 : Int32)), .val (.ref b), .val (.int (1 : Int32)), .val (.int nn), .val (.int (1 : Int32)), .val (.int qb)] [(.int (qb.toInt8.toInt32)), (.int (1 : Int32)), (.ref b)])) rfl rfl (hb hby d10_31)
     have V14 : Arv Z h14 b k_b .byte nn [(.int ((qa.toInt8.toInt32)).toInt8.toInt32), (.int ((qb.toInt8.toInt32)).toInt8.toInt32), (.int (0 : Int32)), (.int (0 : Int32)), (.int (0 : Int32)), (.int (0 : Int32)), (.int (0 : Int32))] (.int (0 : Int32)) := Arv.set Ar13 q13 S13 M13 Hs13 G13 (fits_nar_byte _) W14 1 rfl (Nat.le_of_ble_eq_true rfl)
     have K14 : Keep h0 h14 [b] := K7.wr W14 (Or.inl (List.mem_of_getElem? (i := 0) rfl))
     have Zs14 : n0 ≤ h14.size := Nat.le_trans Zs7 (Keep.of_wr W14).1
     have N14 := Fr.snoc X14 N7 g_b
     have r15 : ∀ t, Steps p.tables e below (T14.setTop (mkF m 7 #[.val (.ref a), .val (.int (2 : Int32)), .val (.ref b), .val (.int (2 : Int32)), .val (.int nn), .val (.int (2 : Int32)), .val (.int qb)] [(.int nn), (.int (2 : Int32))])) t → Steps p.tables e below (T7.setTop (mkF m 20 #[.val (.ref a), .val (.int (1 : Int32)), .val (.ref b), .val (.int (1 : Int32)), .val (.int nn), .val (.int (1 : Int32)), .val (.int qb)] [(.int (255 : Int32)), (.int qb)])) t := fun t kt => by
      refine XS.icmpYes X7.here hx rfl (pc0 := 20) (pc' := 26) rfl (hb hby d10_20) rfl (flt hc12).2.2.2 (by decide) (by decide) ?_
      refine XS.aloadN X7.here hx rfl (hb hby d10_26) rfl rfl ?_
      refine XS.iloadN X7.here hx rfl (hb hby d10_27) rfl ?_
      refine XS.iload X7.here hx rfl (hb hby d10_28) rfl ?_
      refine XS.i2b X7.here hx rfl (hb hby d10_30) rfl ?_
      refine st14 _ ?_
      refine XS.iinc X14.here hx rfl (hb hby d10_32) rfl (l' := #[.val (.ref a), .val (.int (2 : Int32)), .val (.ref b), .val (.int (1 : Int32)), .val (.int nn), .val (.int (1 : Int32)), .val (.int qb)]) rfl ?_
      refine XS.iinc X14.here hx rfl (hb hby d10_35) rfl (l' := #[.val (.ref a), .val (.int (2 : Int32)), .val (.ref b), .val (.int (2 : Int32)), .val (.int nn), .val (.int (1 : Int32)), .val (.int qb)]) rfl ?_
      refine XS.iinc X14.here hx rfl (hb hby d10_38) rfl (l' := #[.val (.ref a), .val (.int (2 : Int32)), .val (.ref b), .val (.int (2 : Int32)), .val (.int nn), .val (.int (2 : Int32)), .val (.int qb)]) rfl ?_
      refine XS.goto X14.here hx rfl (pc0 := 41) (pc' := 3) rfl (hb hby d10_41) (by decide) (by decide) ?_
      refine XS.iload X14.here hx rfl (hb hby d10_3) rfl ?_
      refine XS.iload X14.here hx rfl (hb hby d10_5) rfl ?_
      exact kt
     by_cases hc16 : (2 : Int32) < nn
     ·obtain ⟨cl17, Ar17, q17, S17, M17, Hs17, G17⟩ := ((V_a.other W7 ne_a_b).other W14 ne_a_b)
      have hin17 : ¬ ((2 : Int32) < 0 ∨ cl17.slots.size ≤ ((2 : Int32)).toNatClampNeg) := inb_of S17 ⟨by decide, hc16⟩
      have hat17 : cl17.slots[((2 : Int32)).toNatClampNeg]? = some (.int qc) := Hs17.at hin17 rfl
      have r18 : ∀ t, Steps p.tables e below (T14.setTop (mkF m 20 #[.val (.ref a), .val (.int (2 : Int32)), .val (.ref b), .val (.int (2 : Int32)), .val (.int nn), .val (.int (2 : Int32)), .val (.int qc)] [(.int (255 : Int32)), (.int qc)])) t → Steps p.tables e below (T14.setTop (mkF m 7 #[.val (.ref a), .val (.int (2 : Int32)), .val (.ref b), .val (.int (2 : Int32)), .val (.int nn), .val (.int (2 : Int32)), .val (.int qb)] [(.int nn), (.int (2 : Int32))])) t := fun t kt => by
       refine XS.icmpNo X14.here hx rfl (hb hby d10_7) rfl (tlt hc16).2.1 ?_
       refine XS.aloadN X14.here hx rfl (hb hby d10_10) rfl rfl ?_
       refine XS.iloadN X14.here hx rfl (hb hby d10_11) rfl ?_
       refine X14.caload hx (j := (2 : Int32)) (v := (.int qc)) (by rw [e14]; exact Ar17.1) (State.isArrayOf_alike hZ.alike Ar17.2.1) Ar17.2.2 hin17 hat17 (g := (mkF m 12 #[.val (.ref a), .val (.int (2 : Int32)), .val (.ref b), .val (.int (2 : Int32)), .val (.int nn), .val (.int (2 : Int32)), .val (.int qb)] [(.int (2 : Int32)), (.ref a)])) rfl rfl (hb hby d10_12) _ ?_
       refine XS.istore X14.here hx rfl (hb hby d10_13) rfl (l' := #[.val (.ref a), .val (.int (2 : Int32)), .val (.ref b), .val (.int (2 : Int32)), .val (.int nn), .val (.int (2 : Int32)), .val (.int qc)]) rfl ?_
       refine XS.iload X14.here hx rfl (hb hby d10_15) rfl ?_
       refine XS.sipush X14.here hx rfl (hb hby d10_17) ?_
       exact kt
      by_cases hc19 : (255 : Int32) < qc
      ·obtain ⟨fs, hr, hrun, hended, hW, hsame⟩ := X14.leave (v := some (.int (2 : Int32))) (fun h => by rw [Bd.returns] at h; cases h)
       refine ⟨_, _, (pre0 _ (r1 _ (r4 _ (r8 _ (r11 _ (r15 _ (r18 _ ?_))))))), hrun, hended, _, _, rfl, ?_, ⟨_, rfl⟩, hW, hsame.mono (by decide) (by decide)⟩
       ·show Steps p.tables e below (T14.setTop (mkF m 20 #[.val (.ref a), .val (.int (2 : Int32)), .val (.ref b), .val (.int (2 : Int32)), .val (.int nn), .val (.int (2 : Int32)), .val (.int qc)] [(.int (255 : Int32)), (.int qc)])) _
        refine XS.icmpNo X14.here hx rfl (hb hby d10_20) rfl (tlt hc19).2.2.2 ?_
        refine XS.iload X14.here hx rfl (hb hby d10_23) rfl ?_
        exact retI X14 hx Bd.returns (hb hby d10_25) hr
       ·show QC5W Z a b nn qa qb qc qd qe qf qg k_a k_b h0 n0 _ T14.heap _
        rw [e14]
        exact ⟨(2 : Int32), rfl, N14, K14, ⟨2, by decide, by decide, own_lt hc16 (by decide), hc19⟩⟩
      ·obtain ⟨cl20, Ar20, q20, S20, M20, Hs20, G20⟩ := (id V14)
       have hin20 : ¬ ((2 : Int32) < 0 ∨ cl20.slots.size ≤ ((2 : Int32)).toNatClampNeg) := inb_of S20 ⟨by decide, hc16⟩
       obtain ⟨T21, h21, X21, e21, W21, st21⟩ := stB X14 hx hZ e14 Ar20 (j := (2 : Int32)) hin20 (g := (mkF m 31 #[.val (.ref a), .val (.int (2 : Int32)), .val (.ref b), .val (.int (2 : Int32)), .val (.int nn), .val (.int (2 : Int32)), .val (.int qc)] [(.int (qc.toInt8.toInt32)), (.int (2 : Int32)), (.ref b)])) rfl rfl (hb hby d10_31)
       have V21 : Arv Z h21 b k_b .byte nn [(.int ((qa.toInt8.toInt32)).toInt8.toInt32), (.int ((qb.toInt8.toInt32)).toInt8.toInt32), (.int ((qc.toInt8.toInt32)).toInt8.toInt32), (.int (0 : Int32)), (.int (0 : Int32)), (.int (0 : Int32)), (.int (0 : Int32))] (.int (0 : Int32)) := Arv.set Ar20 q20 S20 M20 Hs20 G20 (fits_nar_byte _) W21 2 rfl (Nat.le_of_ble_eq_true rfl)
       have K21 : Keep h0 h21 [b] := K14.wr W21 (Or.inl (List.mem_of_getElem? (i := 0) rfl))
       have Zs21 : n0 ≤ h21.size := Nat.le_trans Zs14 (Keep.of_wr W21).1
       have N21 := Fr.snoc X21 N14 g_b
       have r22 : ∀ t, Steps p.tables e below (T21.setTop (mkF m 7 #[.val (.ref a), .val (.int (3 : Int32)), .val (.ref b), .val (.int (3 : Int32)), .val (.int nn), .val (.int (3 : Int32)), .val (.int qc)] [(.int nn), (.int (3 : Int32))])) t → Steps p.tables e below (T14.setTop (mkF m 20 #[.val (.ref a), .val (.int (2 : Int32)), .val (.ref b), .val (.int (2 : Int32)), .val (.int nn), .val (.int (2 : Int32)), .val (.int qc)] [(.int (255 : Int32)), (.int qc)])) t := fun t kt => by
        refine XS.icmpYes X14.here hx rfl (pc0 := 20) (pc' := 26) rfl (hb hby d10_20) rfl (flt hc19).2.2.2 (by decide) (by decide) ?_
        refine XS.aloadN X14.here hx rfl (hb hby d10_26) rfl rfl ?_
        refine XS.iloadN X14.here hx rfl (hb hby d10_27) rfl ?_
        refine XS.iload X14.here hx rfl (hb hby d10_28) rfl ?_
        refine XS.i2b X14.here hx rfl (hb hby d10_30) rfl ?_
        refine st21 _ ?_
        refine XS.iinc X21.here hx rfl (hb hby d10_32) rfl (l' := #[.val (.ref a), .val (.int (3 : Int32)), .val (.ref b), .val (.int (2 : Int32)), .val (.int nn), .val (.int (2 : Int32)), .val (.int qc)]) rfl ?_
        refine XS.iinc X21.here hx rfl (hb hby d10_35) rfl (l' := #[.val (.ref a), .val (.int (3 : Int32)), .val (.ref b), .val (.int (3 : Int32)), .val (.int nn), .val (.int (2 : Int32)), .val (.int qc)]) rfl ?_
        refine XS.iinc X21.here hx rfl (hb hby d10_38) rfl (l' := #[.val (.ref a), .val (.int (3 : Int32)), .val (.ref b), .val (.int (3 : Int32)), .val (.int nn), .val (.int (3 : Int32)), .val (.int qc)]) rfl ?_
        refine XS.goto X21.here hx rfl (pc0 := 41) (pc' := 3) rfl (hb hby d10_41) (by decide) (by decide) ?_
        refine XS.iload X21.here hx rfl (hb hby d10_3) rfl ?_
        refine XS.iload X21.here hx rfl (hb hby d10_5) rfl ?_
        exact kt
       by_cases hc23 : (3 : Int32) < nn
       ·obtain ⟨cl24, Ar24, q24, S24, M24, Hs24, G24⟩ := (((V_a.other W7 ne_a_b).other W14 ne_a_b).other W21 ne_a_b)
        have hin24 : ¬ ((3 : Int32) < 0 ∨ cl24.slots.size ≤ ((3 : Int32)).toNatClampNeg) := inb_of S24 ⟨by decide, hc23⟩
        have hat24 : cl24.slots[((3 : Int32)).toNatClampNeg]? = some (.int qd) := Hs24.at hin24 rfl
        have r25 : ∀ t, Steps p.tables e below (T21.setTop (mkF m 20 #[.val (.ref a), .val (.int (3 : Int32)), .val (.ref b), .val (.int (3 : Int32)), .val (.int nn), .val (.int (3 : Int32)), .val (.int qd)] [(.int (255 : Int32)), (.int qd)])) t → Steps p.tables e below (T21.setTop (mkF m 7 #[.val (.ref a), .val (.int (3 : Int32)), .val (.ref b), .val (.int (3 : Int32)), .val (.int nn), .val (.int (3 : Int32)), .val (.int qc)] [(.int nn), (.int (3 : Int32))])) t := fun t kt => by
         refine XS.icmpNo X21.here hx rfl (hb hby d10_7) rfl (tlt hc23).2.1 ?_
         refine XS.aloadN X21.here hx rfl (hb hby d10_10) rfl rfl ?_
         refine XS.iloadN X21.here hx rfl (hb hby d10_11) rfl ?_
         refine X21.caload hx (j := (3 : Int32)) (v := (.int qd)) (by rw [e21]; exact Ar24.1) (State.isArrayOf_alike hZ.alike Ar24.2.1) Ar24.2.2 hin24 hat24 (g := (mkF m 12 #[.val (.ref a), .val (.int (3 : Int32)), .val (.ref b), .val (.int (3 : Int32)), .val (.int nn), .val (.int (3 : Int32)), .val (.int qc)] [(.int (3 : Int32)), (.ref a)])) rfl rfl (hb hby d10_12) _ ?_
         refine XS.istore X21.here hx rfl (hb hby d10_13) rfl (l' := #[.val (.ref a), .val (.int (3 : Int32)), .val (.ref b), .val (.int (3 : Int32)), .val (.int nn), .val (.int (3 : Int32)), .val (.int qd)]) rfl ?_
         refine XS.iload X21.here hx rfl (hb hby d10_15) rfl ?_
         refine XS.sipush X21.here hx rfl (hb hby d10_17) ?_
         exact kt
        by_cases hc26 : (255 : Int32) < qd
        ·obtain ⟨fs, hr, hrun, hended, hW, hsame⟩ := X21.leave (v := some (.int (3 : Int32))) (fun h => by rw [Bd.returns] at h; cases h)
         refine ⟨_, _, (pre0 _ (r1 _ (r4 _ (r8 _ (r11 _ (r15 _ (r18 _ (r22 _ (r25 _ ?_))))))))), hrun, hended, _, _, rfl, ?_, ⟨_, rfl⟩, hW, hsame.mono (by decide) (by decide)⟩
         ·show Steps p.tables e below (T21.setTop (mkF m 20 #[.val (.ref a), .val (.int (3 : Int32)), .val (.ref b), .val (.int (3 : Int32)), .val (.int nn), .val (.int (3 : Int32)), .val (.int qd)] [(.int (255 : Int32)), (.int qd)])) _
          refine XS.icmpNo X21.here hx rfl (hb hby d10_20) rfl (tlt hc26).2.2.2 ?_
          refine XS.iload X21.here hx rfl (hb hby d10_23) rfl ?_
          exact retI X21 hx Bd.returns (hb hby d10_25) hr
         ·show QC5W Z a b nn qa qb qc qd qe qf qg k_a k_b h0 n0 _ T21.heap _
          rw [e21]
          exact ⟨(3 : Int32), rfl, N21, K21, ⟨3, by decide, by decide, own_lt hc23 (by decide), hc26⟩⟩
        ·obtain ⟨cl27, Ar27, q27, S27, M27, Hs27, G27⟩ := (id V21)
         have hin27 : ¬ ((3 : Int32) < 0 ∨ cl27.slots.size ≤ ((3 : Int32)).toNatClampNeg) := inb_of S27 ⟨by decide, hc23⟩
         obtain ⟨T28, h28, X28, e28, W28, st28⟩ := stB X21 hx hZ e21 Ar27 (j := (3 : Int32)) hin27 (g := (mkF m 31 #[.val (.ref a), .val (.int (3 : Int32)), .val (.ref b), .val (.int (3 : Int32)), .val (.int nn), .val (.int (3 : Int32)), .val (.int qd)] [(.int (qd.toInt8.toInt32)), (.int (3 : Int32)), (.ref b)])) rfl rfl (hb hby d10_31)
         have V28 : Arv Z h28 b k_b .byte nn [(.int ((qa.toInt8.toInt32)).toInt8.toInt32), (.int ((qb.toInt8.toInt32)).toInt8.toInt32), (.int ((qc.toInt8.toInt32)).toInt8.toInt32), (.int ((qd.toInt8.toInt32)).toInt8.toInt32), (.int (0 : Int32)), (.int (0 : Int32)), (.int (0 : Int32))] (.int (0 : Int32)) := Arv.set Ar27 q27 S27 M27 Hs27 G27 (fits_nar_byte _) W28 3 rfl (Nat.le_of_ble_eq_true rfl)
         have K28 : Keep h0 h28 [b] := K21.wr W28 (Or.inl (List.mem_of_getElem? (i := 0) rfl))
         have Zs28 : n0 ≤ h28.size := Nat.le_trans Zs21 (Keep.of_wr W28).1
         have N28 := Fr.snoc X28 N21 g_b
         have r29 : ∀ t, Steps p.tables e below (T28.setTop (mkF m 7 #[.val (.ref a), .val (.int (4 : Int32)), .val (.ref b), .val (.int (4 : Int32)), .val (.int nn), .val (.int (4 : Int32)), .val (.int qd)] [(.int nn), (.int (4 : Int32))])) t → Steps p.tables e below (T21.setTop (mkF m 20 #[.val (.ref a), .val (.int (3 : Int32)), .val (.ref b), .val (.int (3 : Int32)), .val (.int nn), .val (.int (3 : Int32)), .val (.int qd)] [(.int (255 : Int32)), (.int qd)])) t := fun t kt => by
          refine XS.icmpYes X21.here hx rfl (pc0 := 20) (pc' := 26) rfl (hb hby d10_20) rfl (flt hc26).2.2.2 (by decide) (by decide) ?_
          refine XS.aloadN X21.here hx rfl (hb hby d10_26) rfl rfl ?_
          refine XS.iloadN X21.here hx rfl (hb hby d10_27) rfl ?_
          refine XS.iload X21.here hx rfl (hb hby d10_28) rfl ?_
          refine XS.i2b X21.here hx rfl (hb hby d10_30) rfl ?_
          refine st28 _ ?_
          refine XS.iinc X28.here hx rfl (hb hby d10_32) rfl (l' := #[.val (.ref a), .val (.int (4 : Int32)), .val (.ref b), .val (.int (3 : Int32)), .val (.int nn), .val (.int (3 : Int32)), .val (.int qd)]) rfl ?_
          refine XS.iinc X28.here hx rfl (hb hby d10_35) rfl (l' := #[.val (.ref a), .val (.int (4 : Int32)), .val (.ref b), .val (.int (4 : Int32)), .val (.int nn), .val (.int (3 : Int32)), .val (.int qd)]) rfl ?_
          refine XS.iinc X28.here hx rfl (hb hby d10_38) rfl (l' := #[.val (.ref a), .val (.int (4 : Int32)), .val (.ref b), .val (.int (4 : Int32)), .val (.int nn), .val (.int (4 : Int32)), .val (.int qd)]) rfl ?_
          refine XS.goto X28.here hx rfl (pc0 := 41) (pc' := 3) rfl (hb hby d10_41) (by decide) (by decide) ?_
          refine XS.iload X28.here hx rfl (hb hby d10_3) rfl ?_
          refine XS.iload X28.here hx rfl (hb hby d10_5) rfl ?_
          exact kt
         by_cases hc30 : (4 : Int32) < nn
         ·obtain ⟨cl31, Ar31, q31, S31, M31, Hs31, G31⟩ := ((((V_a.other W7 ne_a_b).other W14 ne_a_b).other W21 ne_a_b).other W28 ne_a_b)
          have hin31 : ¬ ((4 : Int32) < 0 ∨ cl31.slots.size ≤ ((4 : Int32)).toNatClampNeg) := inb_of S31 ⟨by decide, hc30⟩
          have hat31 : cl31.slots[((4 : Int32)).toNatClampNeg]? = some (.int qe) := Hs31.at hin31 rfl
          have r32 : ∀ t, Steps p.tables e below (T28.setTop (mkF m 20 #[.val (.ref a), .val (.int (4 : Int32)), .val (.ref b), .val (.int (4 : Int32)), .val (.int nn), .val (.int (4 : Int32)), .val (.int qe)] [(.int (255 : Int32)), (.int qe)])) t → Steps p.tables e below (T28.setTop (mkF m 7 #[.val (.ref a), .val (.int (4 : Int32)), .val (.ref b), .val (.int (4 : Int32)), .val (.int nn), .val (.int (4 : Int32)), .val (.int qd)] [(.int nn), (.int (4 : Int32))])) t := fun t kt => by
           refine XS.icmpNo X28.here hx rfl (hb hby d10_7) rfl (tlt hc30).2.1 ?_
           refine XS.aloadN X28.here hx rfl (hb hby d10_10) rfl rfl ?_
           refine XS.iloadN X28.here hx rfl (hb hby d10_11) rfl ?_
           refine X28.caload hx (j := (4 : Int32)) (v := (.int qe)) (by rw [e28]; exact Ar31.1) (State.isArrayOf_alike hZ.alike Ar31.2.1) Ar31.2.2 hin31 hat31 (g := (mkF m 12 #[.val (.ref a), .val (.int (4 : Int32)), .val (.ref b), .val (.int (4 : Int32)), .val (.int nn), .val (.int (4 : Int32)), .val (.int qd)] [(.int (4 : Int32)), (.ref a)])) rfl rfl (hb hby d10_12) _ ?_
           refine XS.istore X28.here hx rfl (hb hby d10_13) rfl (l' := #[.val (.ref a), .val (.int (4 : Int32)), .val (.ref b), .val (.int (4 : Int32)), .val (.int nn), .val (.int (4 : Int32)), .val (.int qe)]) rfl ?_
           refine XS.iload X28.here hx rfl (hb hby d10_15) rfl ?_
           refine XS.sipush X28.here hx rfl (hb hby d10_17) ?_
           exact kt
          by_cases hc33 : (255 : Int32) < qe
          ·obtain ⟨fs, hr, hrun, hended, hW, hsame⟩ := X28.leave (v := some (.int (4 : Int32))) (fun h => by rw [Bd.returns] at h; cases h)
           refine ⟨_, _, (pre0 _ (r1 _ (r4 _ (r8 _ (r11 _ (r15 _ (r18 _ (r22 _ (r25 _ (r29 _ (r32 _ ?_))))))))))), hrun, hended, _, _, rfl, ?_, ⟨_, rfl⟩, hW, hsame.mono (by decide) (by decide)⟩
           ·show Steps p.tables e below (T28.setTop (mkF m 20 #[.val (.ref a), .val (.int (4 : Int32)), .val (.ref b), .val (.int (4 : Int32)), .val (.int nn), .val (.int (4 : Int32)), .val (.int qe)] [(.int (255 : Int32)), (.int qe)])) _
            refine XS.icmpNo X28.here hx rfl (hb hby d10_20) rfl (tlt hc33).2.2.2 ?_
            refine XS.iload X28.here hx rfl (hb hby d10_23) rfl ?_
            exact retI X28 hx Bd.returns (hb hby d10_25) hr
           ·show QC5W Z a b nn qa qb qc qd qe qf qg k_a k_b h0 n0 _ T28.heap _
            rw [e28]
            exact ⟨(4 : Int32), rfl, N28, K28, ⟨4, by decide, by decide, own_lt hc30 (by decide), hc33⟩⟩
          ·obtain ⟨cl34, Ar34, q34, S34, M34, Hs34, G34⟩ := (id V28)
           have hin34 : ¬ ((4 : Int32) < 0 ∨ cl34.slots.size ≤ ((4 : Int32)).toNatClampNeg) := inb_of S34 ⟨by decide, hc30⟩
           obtain ⟨T35, h35, X35, e35, W35, st35⟩ := stB X28 hx hZ e28 Ar34 (j := (4 : Int32)) hin34 (g := (mkF m 31 #[.val (.ref a), .val (.int (4 : Int32)), .val (.ref b), .val (.int (4 : Int32)), .val (.int nn), .val (.int (4 : Int32)), .val (.int qe)] [(.int (qe.toInt8.toInt32)), (.int (4 : Int32)), (.ref b)])) rfl rfl (hb hby d10_31)
           have V35 : Arv Z h35 b k_b .byte nn [(.int ((qa.toInt8.toInt32)).toInt8.toInt32), (.int ((qb.toInt8.toInt32)).toInt8.toInt32), (.int ((qc.toInt8.toInt32)).toInt8.toInt32), (.int ((qd.toInt8.toInt32)).toInt8.toInt32), (.int ((qe.toInt8.toInt32)).toInt8.toInt32), (.int (0 : Int32)), (.int (0 : Int32))] (.int (0 : Int32)) := Arv.set Ar34 q34 S34 M34 Hs34 G34 (fits_nar_byte _) W35 4 rfl (Nat.le_of_ble_eq_true rfl)
           have K35 : Keep h0 h35 [b] := K28.wr W35 (Or.inl (List.mem_of_getElem? (i := 0) rfl))
           have Zs35 : n0 ≤ h35.size := Nat.le_trans Zs28 (Keep.of_wr W35).1
           have N35 := Fr.snoc X35 N28 g_b
           have r36 : ∀ t, Steps p.tables e below (T35.setTop (mkF m 7 #[.val (.ref a), .val (.int (5 : Int32)), .val (.ref b), .val (.int (5 : Int32)), .val (.int nn), .val (.int (5 : Int32)), .val (.int qe)] [(.int nn), (.int (5 : Int32))])) t → Steps p.tables e below (T28.setTop (mkF m 20 #[.val (.ref a), .val (.int (4 : Int32)), .val (.ref b), .val (.int (4 : Int32)), .val (.int nn), .val (.int (4 : Int32)), .val (.int qe)] [(.int (255 : Int32)), (.int qe)])) t := fun t kt => by
            refine XS.icmpYes X28.here hx rfl (pc0 := 20) (pc' := 26) rfl (hb hby d10_20) rfl (flt hc33).2.2.2 (by decide) (by decide) ?_
            refine XS.aloadN X28.here hx rfl (hb hby d10_26) rfl rfl ?_
            refine XS.iloadN X28.here hx rfl (hb hby d10_27) rfl ?_
            refine XS.iload X28.here hx rfl (hb hby d10_28) rfl ?_
            refine XS.i2b X28.here hx rfl (hb hby d10_30) rfl ?_
            refine st35 _ ?_
            refine XS.iinc X35.here hx rfl (hb hby d10_32) rfl (l' := #[.val (.ref a), .val (.int (5 : Int32)), .val (.ref b), .val (.int (4 : Int32)), .val (.int nn), .val (.int (4 : Int32)), .val (.int qe)]) rfl ?_
            refine XS.iinc X35.here hx rfl (hb hby d10_35) rfl (l' := #[.val (.ref a), .val (.int (5 : Int32)), .val (.ref b), .val (.int (5 : Int32)), .val (.int nn), .val (.int (4 : Int32)), .val (.int qe)]) rfl ?_
            refine XS.iinc X35.here hx rfl (hb hby d10_38) rfl (l' := #[.val (.ref a), .val (.int (5 : Int32)), .val (.ref b), .val (.int (5 : Int32)), .val (.int nn), .val (.int (5 : Int32)), .val (.int qe)]) rfl ?_
            refine XS.goto X35.here hx rfl (pc0 := 41) (pc' := 3) rfl (hb hby d10_41) (by decide) (by decide) ?_
            refine XS.iload X35.here hx rfl (hb hby d10_3) rfl ?_
            refine XS.iload X35.here hx rfl (hb hby d10_5) rfl ?_
            exact kt
           by_cases hc37 : (5 : Int32) < nn
           ·obtain ⟨cl38, Ar38, q38, S38, M38, Hs38, G38⟩ := (((((V_a.other W7 ne_a_b).other W14 ne_a_b).other W21 ne_a_b).other W28 ne_a_b).other W35 ne_a_b)
            have hin38 : ¬ ((5 : Int32) < 0 ∨ cl38.slots.size ≤ ((5 : Int32)).toNatClampNeg) := inb_of S38 ⟨by decide, hc37⟩
            have hat38 : cl38.slots[((5 : Int32)).toNatClampNeg]? = some (.int qf) := Hs38.at hin38 rfl
            have r39 : ∀ t, Steps p.tables e below (T35.setTop (mkF m 20 #[.val (.ref a), .val (.int (5 : Int32)), .val (.ref b), .val (.int (5 : Int32)), .val (.int nn), .val (.int (5 : Int32)), .val (.int qf)] [(.int (255 : Int32)), (.int qf)])) t → Steps p.tables e below (T35.setTop (mkF m 7 #[.val (.ref a), .val (.int (5 : Int32)), .val (.ref b), .val (.int (5 : Int32)), .val (.int nn), .val (.int (5 : Int32)), .val (.int qe)] [(.int nn), (.int (5 : Int32))])) t := fun t kt => by
             refine XS.icmpNo X35.here hx rfl (hb hby d10_7) rfl (tlt hc37).2.1 ?_
             refine XS.aloadN X35.here hx rfl (hb hby d10_10) rfl rfl ?_
             refine XS.iloadN X35.here hx rfl (hb hby d10_11) rfl ?_
             refine X35.caload hx (j := (5 : Int32)) (v := (.int qf)) (by rw [e35]; exact Ar38.1) (State.isArrayOf_alike hZ.alike Ar38.2.1) Ar38.2.2 hin38 hat38 (g := (mkF m 12 #[.val (.ref a), .val (.int (5 : Int32)), .val (.ref b), .val (.int (5 : Int32)), .val (.int nn), .val (.int (5 : Int32)), .val (.int qe)] [(.int (5 : Int32)), (.ref a)])) rfl rfl (hb hby d10_12) _ ?_
             refine XS.istore X35.here hx rfl (hb hby d10_13) rfl (l' := #[.val (.ref a), .val (.int (5 : Int32)), .val (.ref b), .val (.int (5 : Int32)), .val (.int nn), .val (.int (5 : Int32)), .val (.int qf)]) rfl ?_
             refine XS.iload X35.here hx rfl (hb hby d10_15) rfl ?_
             refine XS.sipush X35.here hx rfl (hb hby d10_17) ?_
             exact kt
            by_cases hc40 : (255 : Int32) < qf
            ·obtain ⟨fs, hr, hrun, hended, hW, hsame⟩ := X35.leave (v := some (.int (5 : Int32))) (fun h => by rw [Bd.returns] at h; cases h)
             refine ⟨_, _, (pre0 _ (r1 _ (r4 _ (r8 _ (r11 _ (r15 _ (r18 _ (r22 _ (r25 _ (r29 _ (r32 _ (r36 _ (r39 _ ?_))))))))))))), hrun, hended, _, _, rfl, ?_, ⟨_, rfl⟩, hW, hsame.mono (by decide) (by decide)⟩
             ·show Steps p.tables e below (T35.setTop (mkF m 20 #[.val (.ref a), .val (.int (5 : Int32)), .val (.ref b), .val (.int (5 : Int32)), .val (.int nn), .val (.int (5 : Int32)), .val (.int qf)] [(.int (255 : Int32)), (.int qf)])) _
              refine XS.icmpNo X35.here hx rfl (hb hby d10_20) rfl (tlt hc40).2.2.2 ?_
              refine XS.iload X35.here hx rfl (hb hby d10_23) rfl ?_
              exact retI X35 hx Bd.returns (hb hby d10_25) hr
             ·show QC5W Z a b nn qa qb qc qd qe qf qg k_a k_b h0 n0 _ T35.heap _
              rw [e35]
              exact ⟨(5 : Int32), rfl, N35, K35, ⟨5, by decide, by decide, own_lt hc37 (by decide), hc40⟩⟩
            ·obtain ⟨cl41, Ar41, q41, S41, M41, Hs41, G41⟩ := (id V35)
             have hin41 : ¬ ((5 : Int32) < 0 ∨ cl41.slots.size ≤ ((5 : Int32)).toNatClampNeg) := inb_of S41 ⟨by decide, hc37⟩
             obtain ⟨T42, h42, X42, e42, W42, st42⟩ := stB X35 hx hZ e35 Ar41 (j := (5 : Int32)) hin41 (g := (mkF m 31 #[.val (.ref a), .val (.int (5 : Int32)), .val (.ref b), .val (.int (5 : Int32)), .val (.int nn), .val (.int (5 : Int32)), .val (.int qf)] [(.int (qf.toInt8.toInt32)), (.int (5 : Int32)), (.ref b)])) rfl rfl (hb hby d10_31)
             have V42 : Arv Z h42 b k_b .byte nn [(.int ((qa.toInt8.toInt32)).toInt8.toInt32), (.int ((qb.toInt8.toInt32)).toInt8.toInt32), (.int ((qc.toInt8.toInt32)).toInt8.toInt32), (.int ((qd.toInt8.toInt32)).toInt8.toInt32), (.int ((qe.toInt8.toInt32)).toInt8.toInt32), (.int ((qf.toInt8.toInt32)).toInt8.toInt32), (.int (0 : Int32))] (.int (0 : Int32)) := Arv.set Ar41 q41 S41 M41 Hs41 G41 (fits_nar_byte _) W42 5 rfl (Nat.le_of_ble_eq_true rfl)
             have K42 : Keep h0 h42 [b] := K35.wr W42 (Or.inl (List.mem_of_getElem? (i := 0) rfl))
             have Zs42 : n0 ≤ h42.size := Nat.le_trans Zs35 (Keep.of_wr W42).1
             have N42 := Fr.snoc X42 N35 g_b
             have r43 : ∀ t, Steps p.tables e below (T42.setTop (mkF m 7 #[.val (.ref a), .val (.int (6 : Int32)), .val (.ref b), .val (.int (6 : Int32)), .val (.int nn), .val (.int (6 : Int32)), .val (.int qf)] [(.int nn), (.int (6 : Int32))])) t → Steps p.tables e below (T35.setTop (mkF m 20 #[.val (.ref a), .val (.int (5 : Int32)), .val (.ref b), .val (.int (5 : Int32)), .val (.int nn), .val (.int (5 : Int32)), .val (.int qf)] [(.int (255 : Int32)), (.int qf)])) t := fun t kt => by
              refine XS.icmpYes X35.here hx rfl (pc0 := 20) (pc' := 26) rfl (hb hby d10_20) rfl (flt hc40).2.2.2 (by decide) (by decide) ?_
              refine XS.aloadN X35.here hx rfl (hb hby d10_26) rfl rfl ?_
              refine XS.iloadN X35.here hx rfl (hb hby d10_27) rfl ?_
              refine XS.iload X35.here hx rfl (hb hby d10_28) rfl ?_
              refine XS.i2b X35.here hx rfl (hb hby d10_30) rfl ?_
              refine st42 _ ?_
              refine XS.iinc X42.here hx rfl (hb hby d10_32) rfl (l' := #[.val (.ref a), .val (.int (6 : Int32)), .val (.ref b), .val (.int (5 : Int32)), .val (.int nn), .val (.int (5 : Int32)), .val (.int qf)]) rfl ?_
              refine XS.iinc X42.here hx rfl (hb hby d10_35) rfl (l' := #[.val (.ref a), .val (.int (6 : Int32)), .val (.ref b), .val (.int (6 : Int32)), .val (.int nn), .val (.int (5 : Int32)), .val (.int qf)]) rfl ?_
              refine XS.iinc X42.here hx rfl (hb hby d10_38) rfl (l' := #[.val (.ref a), .val (.int (6 : Int32)), .val (.ref b), .val (.int (6 : Int32)), .val (.int nn), .val (.int (6 : Int32)), .val (.int qf)]) rfl ?_
              refine XS.goto X42.here hx rfl (pc0 := 41) (pc' := 3) rfl (hb hby d10_41) (by decide) (by decide) ?_
              refine XS.iload X42.here hx rfl (hb hby d10_3) rfl ?_
              refine XS.iload X42.here hx rfl (hb hby d10_5) rfl ?_
              exact kt
             by_cases hc44 : (6 : Int32) < nn
             ·obtain ⟨cl45, Ar45, q45, S45, M45, Hs45, G45⟩ := ((((((V_a.other W7 ne_a_b).other W14 ne_a_b).other W21 ne_a_b).other W28 ne_a_b).other W35 ne_a_b).other W42 ne_a_b)
              have hin45 : ¬ ((6 : Int32) < 0 ∨ cl45.slots.size ≤ ((6 : Int32)).toNatClampNeg) := inb_of S45 ⟨by decide, hc44⟩
              have hat45 : cl45.slots[((6 : Int32)).toNatClampNeg]? = some (.int qg) := Hs45.at hin45 rfl
              have r46 : ∀ t, Steps p.tables e below (T42.setTop (mkF m 20 #[.val (.ref a), .val (.int (6 : Int32)), .val (.ref b), .val (.int (6 : Int32)), .val (.int nn), .val (.int (6 : Int32)), .val (.int qg)] [(.int (255 : Int32)), (.int qg)])) t → Steps p.tables e below (T42.setTop (mkF m 7 #[.val (.ref a), .val (.int (6 : Int32)), .val (.ref b), .val (.int (6 : Int32)), .val (.int nn), .val (.int (6 : Int32)), .val (.int qf)] [(.int nn), (.int (6 : Int32))])) t := fun t kt => by
               refine XS.icmpNo X42.here hx rfl (hb hby d10_7) rfl (tlt hc44).2.1 ?_
               refine XS.aloadN X42.here hx rfl (hb hby d10_10) rfl rfl ?_
               refine XS.iloadN X42.here hx rfl (hb hby d10_11) rfl ?_
               refine X42.caload hx (j := (6 : Int32)) (v := (.int qg)) (by rw [e42]; exact Ar45.1) (State.isArrayOf_alike hZ.alike Ar45.2.1) Ar45.2.2 hin45 hat45 (g := (mkF m 12 #[.val (.ref a), .val (.int (6 : Int32)), .val (.ref b), .val (.int (6 : Int32)), .val (.int nn), .val (.int (6 : Int32)), .val (.int qf)] [(.int (6 : Int32)), (.ref a)])) rfl rfl (hb hby d10_12) _ ?_
               refine XS.istore X42.here hx rfl (hb hby d10_13) rfl (l' := #[.val (.ref a), .val (.int (6 : Int32)), .val (.ref b), .val (.int (6 : Int32)), .val (.int nn), .val (.int (6 : Int32)), .val (.int qg)]) rfl ?_
               refine XS.iload X42.here hx rfl (hb hby d10_15) rfl ?_
               refine XS.sipush X42.here hx rfl (hb hby d10_17) ?_
               exact kt
              by_cases hc47 : (255 : Int32) < qg
              ·obtain ⟨fs, hr, hrun, hended, hW, hsame⟩ := X42.leave (v := some (.int (6 : Int32))) (fun h => by rw [Bd.returns] at h; cases h)
               refine ⟨_, _, (pre0 _ (r1 _ (r4 _ (r8 _ (r11 _ (r15 _ (r18 _ (r22 _ (r25 _ (r29 _ (r32 _ (r36 _ (r39 _ (r43 _ (r46 _ ?_))))))))))))))), hrun, hended, _, _, rfl, ?_, ⟨_, rfl⟩, hW, hsame.mono (by decide) (by decide)⟩
               ·show Steps p.tables e below (T42.setTop (mkF m 20 #[.val (.ref a), .val (.int (6 : Int32)), .val (.ref b), .val (.int (6 : Int32)), .val (.int nn), .val (.int (6 : Int32)), .val (.int qg)] [(.int (255 : Int32)), (.int qg)])) _
                refine XS.icmpNo X42.here hx rfl (hb hby d10_20) rfl (tlt hc47).2.2.2 ?_
                refine XS.iload X42.here hx rfl (hb hby d10_23) rfl ?_
                exact retI X42 hx Bd.returns (hb hby d10_25) hr
               ·show QC5W Z a b nn qa qb qc qd qe qf qg k_a k_b h0 n0 _ T42.heap _
                rw [e42]
                exact ⟨(6 : Int32), rfl, N42, K42, ⟨6, by decide, by decide, own_lt hc44 (by decide), hc47⟩⟩
              ·obtain ⟨cl48, Ar48, q48, S48, M48, Hs48, G48⟩ := (id V42)
               have hin48 : ¬ ((6 : Int32) < 0 ∨ cl48.slots.size ≤ ((6 : Int32)).toNatClampNeg) := inb_of S48 ⟨by decide, hc44⟩
               obtain ⟨T49, h49, X49, e49, W49, st49⟩ := stB X42 hx hZ e42 Ar48 (j := (6 : Int32)) hin48 (g := (mkF m 31 #[.val (.ref a), .val (.int (6 : Int32)), .val (.ref b), .val (.int (6 : Int32)), .val (.int nn), .val (.int (6 : Int32)), .val (.int qg)] [(.int (qg.toInt8.toInt32)), (.int (6 : Int32)), (.ref b)])) rfl rfl (hb hby d10_31)
               have V49 : Arv Z h49 b k_b .byte nn [(.int ((qa.toInt8.toInt32)).toInt8.toInt32), (.int ((qb.toInt8.toInt32)).toInt8.toInt32), (.int ((qc.toInt8.toInt32)).toInt8.toInt32), (.int ((qd.toInt8.toInt32)).toInt8.toInt32), (.int ((qe.toInt8.toInt32)).toInt8.toInt32), (.int ((qf.toInt8.toInt32)).toInt8.toInt32), (.int ((qg.toInt8.toInt32)).toInt8.toInt32)] (.int (0 : Int32)) := Arv.set Ar48 q48 S48 M48 Hs48 G48 (fits_nar_byte _) W49 6 rfl (Nat.le_of_ble_eq_true rfl)
               have K49 : Keep h0 h49 [b] := K42.wr W49 (Or.inl (List.mem_of_getElem? (i := 0) rfl))
               have Zs49 : n0 ≤ h49.size := Nat.le_trans Zs42 (Keep.of_wr W49).1
               have N49 := Fr.snoc X49 N42 g_b
               obtain ⟨i, hi1, hi2, hi3⟩ := hwd
               exfalso
               match i, hi1 with
               | 0, _ => exact hc5 hi3
               | 1, _ => exact hc12 hi3
               | 2, _ => exact hc19 hi3
               | 3, _ => exact hc26 hi3
               | 4, _ => exact hc33 hi3
               | 5, _ => exact hc40 hi3
               | 6, _ => exact hc47 hi3
             ·obtain ⟨i, hi1, hi2, hi3⟩ := hwd
              exfalso
              match i, hi1 with
              | 0, _ => exact hc5 hi3
              | 1, _ => exact hc12 hi3
              | 2, _ => exact hc19 hi3
              | 3, _ => exact hc26 hi3
              | 4, _ => exact hc33 hi3
              | 5, _ => exact hc40 hi3
              | 6, _ => exact absurd hi2 (by have := hc44; simp only [Int32.lt_iff_toInt_lt, show (6 : Int32).toInt = 6 from by decide] at this; omega)
           ·obtain ⟨i, hi1, hi2, hi3⟩ := hwd
            exfalso
            match i, hi1 with
            | 0, _ => exact hc5 hi3
            | 1, _ => exact hc12 hi3
            | 2, _ => exact hc19 hi3
            | 3, _ => exact hc26 hi3
            | 4, _ => exact hc33 hi3
            | 5, _ => exact absurd hi2 (by have := hc37; simp only [Int32.lt_iff_toInt_lt, show (5 : Int32).toInt = 5 from by decide] at this; omega)
            | 6, _ => exact absurd hi2 (by have := hc37; simp only [Int32.lt_iff_toInt_lt, show (5 : Int32).toInt = 5 from by decide] at this; omega)
         ·obtain ⟨i, hi1, hi2, hi3⟩ := hwd
          exfalso
          match i, hi1 with
          | 0, _ => exact hc5 hi3
          | 1, _ => exact hc12 hi3
          | 2, _ => exact hc19 hi3
          | 3, _ => exact hc26 hi3
          | 4, _ => exact absurd hi2 (by have := hc30; simp only [Int32.lt_iff_toInt_lt, show (4 : Int32).toInt = 4 from by decide] at this; omega)
          | 5, _ => exact absurd hi2 (by have := hc30; simp only [Int32.lt_iff_toInt_lt, show (4 : Int32).toInt = 4 from by decide] at this; omega)
          | 6, _ => exact absurd hi2 (by have := hc30; simp only [Int32.lt_iff_toInt_lt, show (4 : Int32).toInt = 4 from by decide] at this; omega)
       ·obtain ⟨i, hi1, hi2, hi3⟩ := hwd
        exfalso
        match i, hi1 with
        | 0, _ => exact hc5 hi3
        | 1, _ => exact hc12 hi3
        | 2, _ => exact hc19 hi3
        | 3, _ => exact absurd hi2 (by have := hc23; simp only [Int32.lt_iff_toInt_lt, show (3 : Int32).toInt = 3 from by decide] at this; omega)
        | 4, _ => exact absurd hi2 (by have := hc23; simp only [Int32.lt_iff_toInt_lt, show (3 : Int32).toInt = 3 from by decide] at this; omega)
        | 5, _ => exact absurd hi2 (by have := hc23; simp only [Int32.lt_iff_toInt_lt, show (3 : Int32).toInt = 3 from by decide] at this; omega)
        | 6, _ => exact absurd hi2 (by have := hc23; simp only [Int32.lt_iff_toInt_lt, show (3 : Int32).toInt = 3 from by decide] at this; omega)
     ·obtain ⟨i, hi1, hi2, hi3⟩ := hwd
      exfalso
      match i, hi1 with
      | 0, _ => exact hc5 hi3
      | 1, _ => exact hc12 hi3
      | 2, _ => exact absurd hi2 (by have := hc16; simp only [Int32.lt_iff_toInt_lt, show (2 : Int32).toInt = 2 from by decide] at this; omega)
      | 3, _ => exact absurd hi2 (by have := hc16; simp only [Int32.lt_iff_toInt_lt, show (2 : Int32).toInt = 2 from by decide] at this; omega)
      | 4, _ => exact absurd hi2 (by have := hc16; simp only [Int32.lt_iff_toInt_lt, show (2 : Int32).toInt = 2 from by decide] at this; omega)
      | 5, _ => exact absurd hi2 (by have := hc16; simp only [Int32.lt_iff_toInt_lt, show (2 : Int32).toInt = 2 from by decide] at this; omega)
      | 6, _ => exact absurd hi2 (by have := hc16; simp only [Int32.lt_iff_toInt_lt, show (2 : Int32).toInt = 2 from by decide] at this; omega)
   ·obtain ⟨i, hi1, hi2, hi3⟩ := hwd
    exfalso
    match i, hi1 with
    | 0, _ => exact hc5 hi3
    | 1, _ => exact absurd hi2 (by have := hc9; simp only [Int32.lt_iff_toInt_lt, show (1 : Int32).toInt = 1 from by decide] at this; omega)
    | 2, _ => exact absurd hi2 (by have := hc9; simp only [Int32.lt_iff_toInt_lt, show (1 : Int32).toInt = 1 from by decide] at this; omega)
    | 3, _ => exact absurd hi2 (by have := hc9; simp only [Int32.lt_iff_toInt_lt, show (1 : Int32).toInt = 1 from by decide] at this; omega)
    | 4, _ => exact absurd hi2 (by have := hc9; simp only [Int32.lt_iff_toInt_lt, show (1 : Int32).toInt = 1 from by decide] at this; omega)
    | 5, _ => exact absurd hi2 (by have := hc9; simp only [Int32.lt_iff_toInt_lt, show (1 : Int32).toInt = 1 from by decide] at this; omega)
    | 6, _ => exact absurd hi2 (by have := hc9; simp only [Int32.lt_iff_toInt_lt, show (1 : Int32).toInt = 1 from by decide] at this; omega)
 ·obtain ⟨i, hi1, hi2, hi3⟩ := hwd
  exfalso
  match i, hi1 with
  | 0, _ => exact absurd hi2 (by have := hc2; simp only [Int32.lt_iff_toInt_lt, show (0 : Int32).toInt = 0 from by decide] at this; omega)
  | 1, _ => exact absurd hi2 (by have := hc2; simp only [Int32.lt_iff_toInt_lt, show (0 : Int32).toInt = 0 from by decide] at this; omega)
  | 2, _ => exact absurd hi2 (by have := hc2; simp only [Int32.lt_iff_toInt_lt, show (0 : Int32).toInt = 0 from by decide] at this; omega)
  | 3, _ => exact absurd hi2 (by have := hc2; simp only [Int32.lt_iff_toInt_lt, show (0 : Int32).toInt = 0 from by decide] at this; omega)
  | 4, _ => exact absurd hi2 (by have := hc2; simp only [Int32.lt_iff_toInt_lt, show (0 : Int32).toInt = 0 from by decide] at this; omega)
  | 5, _ => exact absurd hi2 (by have := hc2; simp only [Int32.lt_iff_toInt_lt, show (0 : Int32).toInt = 0 from by decide] at this; omega)
  | 6, _ => exact absurd hi2 (by have := hc2; simp only [Int32.lt_iff_toInt_lt, show (0 : Int32).toInt = 0 from by decide] at this; omega)
theorem d19_0 : decode jdk_52_method_3_code 0 = .ok (.iload_n 0, 1) := by decide +kernel
theorem d19_1 : decode jdk_52_method_3_code 1 = .ok (.ifCond .ge 11, 3) := by decide +kernel
theorem d19_12 : decode jdk_52_method_3_code 12 = .ok (.iload_n 0, 1) := by decide +kernel
theorem d19_13 : decode jdk_52_method_3_code 13 = .ok (.ldc 20, 2) := by decide +kernel
theorem d19_15 : decode jdk_52_method_3_code 15 = .ok (.if_icmp .lt 40, 3) := by decide +kernel
theorem d19_55 : decode jdk_52_method_3_code 55 = .ok (.iload_n 0, 1) := by decide +kernel
theorem d19_56 : decode jdk_52_method_3_code 56 = .ok (.iconst 1, 1) := by decide +kernel
theorem d19_57 : decode jdk_52_method_3_code 57 = .ok (.ishl, 1) := by decide +kernel
theorem d19_58 : decode jdk_52_method_3_code 58 = .ok (.ireturn, 1) := by decide +kernel
theorem efA1 (m : MethodId) (xi0_ : Int32) : entryFrame m #[(.int xi0_)] 1 = mkF m 0 #[.val (.int xi0_)] [] := by first | (simp [entryFrame, mkF, argsToLocals, Value.category]; done) | rfl
def QA1 (Z : State) (xi0_ : Int32) (h0 : Heap) (n0 : Nat) (v : Option Value) (h : Heap) (L : List Loc) : Prop := v = some (.int (xi0_ <<< ((1 : Int32) &&& 31))) ∧ Fr n0 L ∧ h = h0
set_option maxRecDepth 65536 in
set_option maxHeartbeats 40000000 in
theorem rmA1 (l : Launch) (Z : State) (a0 : Array Value) (hw : ∀ d ∈ tables_1, d.before a0 Z = true) (ws : List Jvm.Cond) (xi0_ : Int32) (h0 : Heap) (n0 : Nat) (Z0 : n0 ≤ h0.size) (hp0_ : ¬ (xi0_ < (0 : Int32))) (hp1_ : xi0_ < (1073741823 : Int32)) :
  MetFree l (⟨"java/lang/StringUTF16", "newBytesLength", "(I)I"⟩ : MethodName) (head1 (Jvm.Cond.code (⟨"java/lang/StringUTF16", "newBytesLength", "(I)I"⟩ : MethodName) jdk_52_method_3_code 1 (some .int) :: ws) ({ frames := 0, cells := 0, slots := 0, locals := 0 } : Room)) (fun av_ U => av_ = #[(.int xi0_)] ∧ Z.Warmed39 U.vm ∧ U.heap = h0) (fun _ _ _ _ _ => True) (fun _ U o U' => ∃ v L, o = .returned v ∧ QA1 Z xi0_ h0 n0 v U'.heap L ∧ FrameEnd U o U' L ({ frames := 0, cells := 0, slots := 0, locals := 0 } : Room).cells ({ frames := 0, cells := 0, slots := 0, locals := 0 } : Room).slots) := by
 refine MetFree.of_bodySF (plainFor_of_name own_pn0) hisR ?_
 intro p e s m args below meth c s₁ Bd hml0 hP hK
 obtain ⟨rfl, hZ, hh⟩ := hP
 have hx := Bd.exec
 have hby := Bd.bytes
 have hml : c.maxLocals = 1 := hml0
 have hown : s.vm.findClass "java/lang/StringUTF16" = some m.cls := findClass_of_methodNamed Bd.named
 have hnm := (name_of_methodNamed Bd.named Bd.method).1
 have X0 : Stand p l e ({ frames := 0, cells := 0, slots := 0, locals := 0 } : Room) s m #[(.int xi0_)] below meth c s₁ [] 0 0 := Stand.of_body Bd
 have e0 : s₁.heap = h0 := by rw [← hh, Bd.state]; rfl
 have N0 := Fr.nil n0
 have pre0 : ∀ t, Steps p.tables e below (s₁.setTop (mkF m 0 #[.val (.int xi0_)] [])) t → Steps p.tables e below (s₁.setTop (entryFrame m #[(.int xi0_)] 1)) t := fun t k => castTop (efA1 m xi0_) k
 obtain ⟨fs, hr, hrun, hended, hW, hsame⟩ := X0.leave (v := some (.int (xi0_ <<< ((1 : Int32) &&& 31)))) (fun h => by rw [Bd.returns] at h; cases h)
 refine ⟨_, _, (pre0 _ ?_), hrun, hended, _, _, rfl, ?_, ⟨_, rfl⟩, hW, hsame.mono (by decide) (by decide)⟩
 ·show Steps p.tables e below (s₁.setTop (mkF m 0 #[.val (.int xi0_)] [])) _
  refine XS.iloadN X0.here hx rfl (hb hby d19_0) rfl ?_
  refine XS.ifYes X0.here hx rfl (pc0 := 1) (pc' := 12) rfl (hb hby d19_1) rfl ((if0 _ _).trans (flt hp0_).2.1) (by decide) (by decide) ?_
  refine XS.iloadN X0.here hx rfl (hb hby d19_12) rfl ?_
  refine X0.ldcInt hx hown (mvT hZ (Wd hw 87 rfl)) (g := (mkF m 13 #[.val (.int xi0_)] [(.int xi0_)])) rfl (hb hby d19_13) _ ?_
  refine XS.icmpYes X0.here hx rfl (pc0 := 15) (pc' := 55) rfl (hb hby d19_15) rfl (tlt hp1_).1 (by decide) (by decide) ?_
  refine XS.iloadN X0.here hx rfl (hb hby d19_55) rfl ?_
  refine XS.iconst X0.here hx rfl (hb hby d19_56) ?_
  refine XS.ishl X0.here hx rfl (hb hby d19_57) rfl ?_
  exact retI X0 hx Bd.returns (hb hby d19_58) hr
 ·show QA1 Z xi0_ h0 n0 _ s₁.heap _
  rw [e0]
  exact ⟨rfl, N0, rfl⟩
theorem own_pd0 : parseMethodDescriptor "(I)I" = some ⟨[.int], some .int⟩ := by decide +kernel
theorem d18_0 : decode jdk_52_method_2_code 0 = .ok (.iload_n 0, 1) := by decide +kernel
theorem d18_1 : decode jdk_52_method_2_code 1 = .ok (.invokestatic 11, 3) := by decide +kernel
theorem d18_4 : decode jdk_52_method_2_code 4 = .ok (.newarray .byte, 2) := by decide +kernel
theorem d18_6 : decode jdk_52_method_2_code 6 = .ok (.areturn, 1) := by decide +kernel
theorem efA0 (m : MethodId) (xi0_ : Int32) : entryFrame m #[(.int xi0_)] 1 = mkF m 0 #[.val (.int xi0_)] [] := by first | (simp [entryFrame, mkF, argsToLocals, Value.category]; done) | rfl
def QA0 (Z : State) (xi0_ : Int32) (h0 : Heap) (n0 : Nat) (v : Option Value) (h : Heap) (L : List Loc) : Prop := ∃ fb2 : Addr, ∃ k_fb2 : ClassId, v = some (.ref fb2) ∧ Fr n0 L ∧ Keep h0 h [] ∧ n0 ≤ fb2 ∧ h0.size ≤ fb2 ∧ Arv Z h fb2 k_fb2 .byte (xi0_ <<< ((1 : Int32) &&& 31)) [(.int (0 : Int32)), (.int (0 : Int32)), (.int (0 : Int32)), (.int (0 : Int32)), (.int (0 : Int32)), (.int (0 : Int32)), (.int (0 : Int32)), (.int (0 : Int32)), (.int (0 : Int32)), (.int (0 : Int32)), (.int (0 : Int32)), (.int (0 : Int32)), (.int (0 : Int32)), (.int (0 : Int32))] (.int (0 : Int32))
set_option maxRecDepth 65536 in
set_option maxHeartbeats 40000000 in
theorem rmA0 (l : Launch) (Z : State) (a0 : Array Value) (hw : ∀ d ∈ tables_1, d.before a0 Z = true) (ws : List Jvm.Cond) (xi0_ : Int32) (h0 : Heap) (n0 : Nat) (Z0 : n0 ≤ h0.size) (hp0_ : ¬ (xi0_ < (0 : Int32))) (hp1_ : xi0_ < (1073741823 : Int32)) (hp2_ : own_sz (xi0_ <<< ((1 : Int32) &&& 31))) :
  MetFree l (⟨"java/lang/StringUTF16", "newBytesFor", "(I)[B"⟩ : MethodName) (head1 (Jvm.Cond.code (⟨"java/lang/StringUTF16", "newBytesFor", "(I)[B"⟩ : MethodName) jdk_52_method_2_code 1 (some (.array .byte)) :: ws) ({ frames := 1, cells := 1, slots := 14, locals := 12 } : Room)) (fun av_ U => av_ = #[(.int xi0_)] ∧ Z.Warmed39 U.vm ∧ U.heap = h0) (fun _ _ _ _ _ => True) (fun _ U o U' => ∃ v L, o = .returned v ∧ QA0 Z xi0_ h0 n0 v U'.heap L ∧ FrameEnd U o U' L ({ frames := 1, cells := 1, slots := 14, locals := 12 } : Room).cells ({ frames := 1, cells := 1, slots := 14, locals := 12 } : Room).slots) := by
 refine MetFree.of_bodySF (plainFor_of_name own_pn0) hisR ?_
 intro p e s m args below meth c s₁ Bd hml0 hP hK
 obtain ⟨rfl, hZ, hh⟩ := hP
 have hx := Bd.exec
 have hby := Bd.bytes
 have hml : c.maxLocals = 1 := hml0
 have hown : s.vm.findClass "java/lang/StringUTF16" = some m.cls := findClass_of_methodNamed Bd.named
 have hnm := (name_of_methodNamed Bd.named Bd.method).1
 have X0 : Stand p l e ({ frames := 1, cells := 1, slots := 14, locals := 12 } : Room) s m #[(.int xi0_)] below meth c s₁ [] 0 0 := Stand.of_body Bd
 have e0 : s₁.heap = h0 := by rw [← hh, Bd.state]; rfl
 have N0 := Fr.nil n0
 have pre0 : ∀ t, Steps p.tables e below (s₁.setTop (mkF m 0 #[.val (.int xi0_)] [])) t → Steps p.tables e below (s₁.setTop (entryFrame m #[(.int xi0_)] 1)) t := fun t k => castTop (efA0 m xi0_) k
 obtain ⟨_, _, ⟨T1, L1, k1, n1⟩, -, X1, ⟨Lc1, hQ1, l1, y1, z1⟩, st1⟩ := Jvm.LawKit.callS X0 hx (y := (⟨"java/lang/StringUTF16", "newBytesLength", "(I)I"⟩ : MethodName)) hown (mvT hZ (Wd hw 84 rfl)) (mvT hZ (Wd hw 85 rfl)) (mvT hZ (Wd hw 48 rfl)) (mvT hZ (Wd hw 86 rfl)) (by decide) (backOf (W := 0) (rmA1 l Z a0 hw [] xi0_ h0 n0 Z0 hp0_ hp1_) hZ (Wd hw 86 rfl) (Wd hw 48 rfl) (by decide) (by decide)) (g := (mkF m 1 #[.val (.int xi0_)] [(.int xi0_)])) rfl (by rw [hml]; rfl) (argsL := [(.int xi0_)]) (rest := []) (lenOf own_pd0 rfl) rfl (by show 2 * 0 + _ ≤ _; exact Nat.le_of_eq rfl) (hb hby d18_1) (fun _ _ => ⟨rfl, e0, (by decide : 0 + 0 ≤ _), (by decide : 0 + 0 ≤ _)⟩)
 dsimp only [Pt.U, Pt.locs, Pt.cells, Pt.slots] at X1 l1 y1 z1 st1 hQ1
 subst l1 y1 z1
 obtain ⟨rfl, Nq1, e1⟩ := hQ1
 have N1 := Fr.app N0 Nq1
 obtain ⟨T2, h2, k2, X2, e2, E2, A2, st2⟩ := newP X1 hx hZ (Wd hw 20 rfl) e1 (g := (mkF m 4 #[.val (.int xi0_)] [(.int (xi0_ <<< ((1 : Int32) &&& 31)))])) rfl (hb hby d18_4) rfl hp2_.1 (cap := 14) hp2_.2 (by decide) (by decide) (by decide)
 obtain ⟨b2, g2⟩ : ∃ z, z = h0.size := ⟨_, rfl⟩
 rw [← g2] at A2 st2
 have g_b2 : n0 ≤ b2 := Nat.le_trans Z0 (Nat.le_of_eq g2.symm)
 have sz_b2 : h0.size ≤ b2 := Nat.le_trans (Keep.refl h0 []).1 (Nat.le_of_eq g2.symm)
 have K2 : Keep h0 h2 [] := (Keep.refl h0 []).ext E2
 have Zs2 : n0 ≤ h2.size := Nat.le_trans Z0 E2.1
 have V2 : Arv Z h2 b2 k2 .byte (xi0_ <<< ((1 : Int32) &&& 31)) [(.int (0 : Int32)), (.int (0 : Int32)), (.int (0 : Int32)), (.int (0 : Int32)), (.int (0 : Int32)), (.int (0 : Int32)), (.int (0 : Int32)), (.int (0 : Int32)), (.int (0 : Int32)), (.int (0 : Int32)), (.int (0 : Int32)), (.int (0 : Int32)), (.int (0 : Int32)), (.int (0 : Int32))] (.int (0 : Int32)) := (Arv.new A2 hp2_.1).pad (pad_rep [] (.int (0 : Int32)) 14)
 obtain ⟨fs, hr, hrun, hended, hW, hsame⟩ := X2.leave (v := some (.ref b2)) (fun h => by rw [Bd.returns] at h; cases h)
 refine ⟨_, _, (pre0 _ ?_), hrun, hended, _, _, rfl, ?_, ⟨_, rfl⟩, hW, hsame.mono (by decide) (by decide)⟩
 ·show Steps p.tables e below (s₁.setTop (mkF m 0 #[.val (.int xi0_)] [])) _
  refine XS.iloadN X0.here hx rfl (hb hby d18_0) rfl ?_
  refine st1 _ ?_
  refine st2 _ ?_
  jvm_step X2.here [X2.here.top, hx, (hb hby d18_6), X2.method', Bd.returns, Value.isRef, FieldType.isReference]
  first | (intro acts; rw [hr _ acts rfl rfl rfl]) | rw [hr _ _ rfl rfl rfl]
  exact Steps.refl _
 ·show QA0 Z xi0_ h0 n0 _ T2.heap _
  rw [e2]
  exact ⟨b2, k2, rfl, N1, K2, g_b2, sz_b2, V2⟩
theorem own_pd1 : parseMethodDescriptor "(I)[B" = some ⟨[.int], some (.array .byte)⟩ := by decide +kernel
theorem d20_0 : decode jdk_52_method_4_code 0 = .ok (.getstatic 44, 3) := by decide +kernel
theorem d20_3 : decode jdk_52_method_4_code 3 = .ok (.ifCond .ne 25, 3) := by decide +kernel
theorem d20_28 : decode jdk_52_method_4_code 28 = .ok (.iload_n 1, 1) := by decide +kernel
theorem d20_29 : decode jdk_52_method_4_code 29 = .ok (.iconst 1, 1) := by decide +kernel
theorem d20_30 : decode jdk_52_method_4_code 30 = .ok (.ishl, 1) := by decide +kernel
theorem d20_31 : decode jdk_52_method_4_code 31 = .ok (.istore_n 1, 1) := by decide +kernel
theorem d20_32 : decode jdk_52_method_4_code 32 = .ok (.aload_n 0, 1) := by decide +kernel
theorem d20_33 : decode jdk_52_method_4_code 33 = .ok (.iload_n 1, 1) := by decide +kernel
theorem d20_34 : decode jdk_52_method_4_code 34 = .ok (.iinc 1 1, 3) := by decide +kernel
theorem d20_37 : decode jdk_52_method_4_code 37 = .ok (.iload_n 2, 1) := by decide +kernel
theorem d20_38 : decode jdk_52_method_4_code 38 = .ok (.getstatic 59, 3) := by decide +kernel
theorem d20_41 : decode jdk_52_method_4_code 41 = .ok (.ishr, 1) := by decide +kernel
theorem d20_42 : decode jdk_52_method_4_code 42 = .ok (.i2b, 1) := by decide +kernel
theorem d20_43 : decode jdk_52_method_4_code 43 = .ok (.bastore, 1) := by decide +kernel
theorem d20_44 : decode jdk_52_method_4_code 44 = .ok (.aload_n 0, 1) := by decide +kernel
theorem d20_45 : decode jdk_52_method_4_code 45 = .ok (.iload_n 1, 1) := by decide +kernel
theorem d20_46 : decode jdk_52_method_4_code 46 = .ok (.iload_n 2, 1) := by decide +kernel
theorem d20_47 : decode jdk_52_method_4_code 47 = .ok (.getstatic 63, 3) := by decide +kernel
theorem d20_50 : decode jdk_52_method_4_code 50 = .ok (.ishr, 1) := by decide +kernel
theorem d20_51 : decode jdk_52_method_4_code 51 = .ok (.i2b, 1) := by decide +kernel
theorem d20_52 : decode jdk_52_method_4_code 52 = .ok (.bastore, 1) := by decide +kernel
theorem d20_53 : decode jdk_52_method_4_code 53 = .ok (.return_, 1) := by decide +kernel
theorem efA2 (m : MethodId) (xo0_ : Addr) (xi2_ : Int32) : entryFrame m #[(.ref xo0_), (.int (0 : Int32)), (.int xi2_)] 3 = mkF m 0 #[.val (.ref xo0_), .val (.int (0 : Int32)), .val (.int xi2_)] [] := by first | (simp [entryFrame, mkF, argsToLocals, Value.category]; done) | rfl
def QA2 (Z : State) (xo0_ : Addr) (xi2_ : Int32) (ui1_ : Int32) (k_xo0_ : ClassId) (h0 : Heap) (n0 : Nat) (v : Option Value) (h : Heap) (L : List Loc) : Prop := v = none ∧ Fr n0 L ∧ Keep h0 h [xo0_] ∧ Arv Z h xo0_ k_xo0_ .byte ui1_ [(.int (((xi2_ >>> ((0 : Int32) &&& 31)).toInt8.toInt32)).toInt8.toInt32), (.int (((xi2_ >>> ((8 : Int32) &&& 31)).toInt8.toInt32)).toInt8.toInt32), (.int (0 : Int32)), (.int (0 : Int32)), (.int (0 : Int32)), (.int (0 : Int32)), (.int (0 : Int32)), (.int (0 : Int32)), (.int (0 : Int32)), (.int (0 : Int32)), (.int (0 : Int32)), (.int (0 : Int32)), (.int (0 : Int32)), (.int (0 : Int32))] (.int (0 : Int32))
set_option maxRecDepth 65536 in
set_option maxHeartbeats 40000000 in
theorem rmA2 (l : Launch) (Z : State) (a0 : Array Value) (hw : ∀ d ∈ tables_1, d.before a0 Z = true) (ws : List Jvm.Cond) (xo0_ : Addr) (xi2_ : Int32) (ui1_ : Int32) (k_xo0_ : ClassId) (h0 : Heap) (n0 : Nat) (Z0 : n0 ≤ h0.size) (X00 : Old Z n0 h0) (S__assertionsDisabled : Sta Z Z.heap "java/lang/StringUTF16" "$assertionsDisabled" "Z" (.int (1 : Int32))) (S_HI_BYTE_SHIFT : Sta Z Z.heap "java/lang/StringUTF16" "HI_BYTE_SHIFT" "I" (.int (0 : Int32))) (V_xo0_ : Arv Z h0 xo0_ k_xo0_ .byte ui1_ [(.int (0 : Int32)), (.int (0 : Int32)), (.int (0 : Int32)), (.int (0 : Int32)), (.int (0 : Int32)), (.int (0 : Int32)), (.int (0 : Int32)), (.int (0 : Int32)), (.int (0 : Int32)), (.int (0 : Int32)), (.int (0 : Int32)), (.int (0 : Int32)), (.int (0 : Int32)), (.int (0 : Int32))] (.int (0 : Int32))) (hp0_ : (0 : Int32) < ui1_) (g_xo0_ : n0 ≤ xo0_) (S_LO_BYTE_SHIFT : Sta Z Z.heap "java/lang/StringUTF16" "LO_BYTE_SHIFT" "I" (.int (8 : Int32))) (hp1_ : (1 : Int32) < ui1_) :
  MetFree l (⟨"java/lang/StringUTF16", "putChar", "([BII)V"⟩ : MethodName) (head1 (Jvm.Cond.code (⟨"java/lang/StringUTF16", "putChar", "([BII)V"⟩ : MethodName) jdk_52_method_4_code 3 none :: ws) ({ frames := 0, cells := 0, slots := 0, locals := 0 } : Room)) (fun av_ U => av_ = #[(.ref xo0_), (.int (0 : Int32)), (.int xi2_)] ∧ Z.Warmed39 U.vm ∧ U.heap = h0) (fun _ _ _ _ _ => True) (fun _ U o U' => ∃ v L, o = .returned v ∧ QA2 Z xo0_ xi2_ ui1_ k_xo0_ h0 n0 v U'.heap L ∧ FrameEnd U o U' L ({ frames := 0, cells := 0, slots := 0, locals := 0 } : Room).cells ({ frames := 0, cells := 0, slots := 0, locals := 0 } : Room).slots) := by
 refine MetFree.of_bodySF (plainFor_of_name own_pn0) hisR ?_
 intro p e s m args below meth c s₁ Bd hml0 hP hK
 obtain ⟨rfl, hZ, hh⟩ := hP
 have hx := Bd.exec
 have hby := Bd.bytes
 have hml : c.maxLocals = 3 := hml0
 have hown : s.vm.findClass "java/lang/StringUTF16" = some m.cls := findClass_of_methodNamed Bd.named
 have hnm := (name_of_methodNamed Bd.named Bd.method).1
 have X0 : Stand p l e ({ frames := 0, cells := 0, slots := 0, locals := 0 } : Room) s m #[(.ref xo0_), (.int (0 : Int32)), (.int xi2_)] below meth c s₁ [] 0 0 := Stand.of_body Bd
 have e0 : s₁.heap = h0 := by rw [← hh, Bd.state]; rfl
 have N0 := Fr.nil n0
 have pre0 : ∀ t, Steps p.tables e below (s₁.setTop (mkF m 0 #[.val (.ref xo0_), .val (.int (0 : Int32)), .val (.int xi2_)] [])) t → Steps p.tables e below (s₁.setTop (entryFrame m #[(.ref xo0_), (.int (0 : Int32)), (.int xi2_)] 3)) t := fun t k => castTop (efA2 m xo0_ xi2_) k
 obtain ⟨T1, X1, e1, st1⟩ := getS2 X0 hx hZ hown (host := "") (Or.inl (Wd hw 91 rfl)) Via.refl e0 (S__assertionsDisabled.ext X00.2) (g := (mkF m 0 #[.val (.ref xo0_), .val (.int (0 : Int32)), .val (.int xi2_)] [])) rfl (hb hby d20_0)
 obtain ⟨T2, X2, e2, st2⟩ := getS2 X1 hx hZ hown (host := "") (Or.inl (Wd hw 92 rfl)) Via.refl e1 (S_HI_BYTE_SHIFT.ext X00.2) (g := (mkF m 38 #[.val (.ref xo0_), .val (.int (1 : Int32)), .val (.int xi2_)] [(.int xi2_), (.int (0 : Int32)), (.ref xo0_)])) rfl (hb hby d20_38)
 obtain ⟨cl3, Ar3, q3, S3, M3, Hs3, G3⟩ := (id V_xo0_)
 have hin3 : ¬ ((0 : Int32) < 0 ∨ cl3.slots.size ≤ ((0 : Int32)).toNatClampNeg) := inb_of S3 ⟨by decide, hp0_⟩
 obtain ⟨T4, h4, X4, e4, W4, st4⟩ := stB X2 hx hZ e2 Ar3 (j := (0 : Int32)) hin3 (g := (mkF m 43 #[.val (.ref xo0_), .val (.int (1 : Int32)), .val (.int xi2_)] [(.int ((xi2_ >>> ((0 : Int32) &&& 31)).toInt8.toInt32)), (.int (0 : Int32)), (.ref xo0_)])) rfl rfl (hb hby d20_43)
 have V4 : Arv Z h4 xo0_ k_xo0_ .byte ui1_ [(.int (((xi2_ >>> ((0 : Int32) &&& 31)).toInt8.toInt32)).toInt8.toInt32), (.int (0 : Int32)), (.int (0 : Int32)), (.int (0 : Int32)), (.int (0 : Int32)), (.int (0 : Int32)), (.int (0 : Int32)), (.int (0 : Int32)), (.int (0 : Int32)), (.int (0 : Int32)), (.int (0 : Int32)), (.int (0 : Int32)), (.int (0 : Int32)), (.int (0 : Int32))] (.int (0 : Int32)) := Arv.set Ar3 q3 S3 M3 Hs3 G3 (fits_nar_byte _) W4 0 rfl (Nat.le_of_ble_eq_true rfl)
 have K4 : Keep h0 h4 [xo0_] := (Keep.refl h0 [xo0_]).wr W4 (Or.inl (List.mem_of_getElem? (i := 0) rfl))
 have Zs4 : n0 ≤ h4.size := Nat.le_trans Z0 (Keep.of_wr W4).1
 have N4 := Fr.snoc X4 N0 g_xo0_
 obtain ⟨T5, X5, e5, st5⟩ := getS2 X4 hx hZ hown (host := "") (Or.inl (Wd hw 93 rfl)) Via.refl e4 (S_LO_BYTE_SHIFT.ext (X00.keep K4 (allS g_xo0_ all0)).2) (g := (mkF m 47 #[.val (.ref xo0_), .val (.int (1 : Int32)), .val (.int xi2_)] [(.int xi2_), (.int (1 : Int32)), (.ref xo0_)])) rfl (hb hby d20_47)
 obtain ⟨cl6, Ar6, q6, S6, M6, Hs6, G6⟩ := (id V4)
 have hin6 : ¬ ((1 : Int32) < 0 ∨ cl6.slots.size ≤ ((1 : Int32)).toNatClampNeg) := inb_of S6 ⟨by decide, hp1_⟩
 obtain ⟨T7, h7, X7, e7, W7, st7⟩ := stB X5 hx hZ e5 Ar6 (j := (1 : Int32)) hin6 (g := (mkF m 52 #[.val (.ref xo0_), .val (.int (1 : Int32)), .val (.int xi2_)] [(.int ((xi2_ >>> ((8 : Int32) &&& 31)).toInt8.toInt32)), (.int (1 : Int32)), (.ref xo0_)])) rfl rfl (hb hby d20_52)
 have V7 : Arv Z h7 xo0_ k_xo0_ .byte ui1_ [(.int (((xi2_ >>> ((0 : Int32) &&& 31)).toInt8.toInt32)).toInt8.toInt32), (.int (((xi2_ >>> ((8 : Int32) &&& 31)).toInt8.toInt32)).toInt8.toInt32), (.int (0 : Int32)), (.int (0 : Int32)), (.int (0 : Int32)), (.int (0 : Int32)), (.int (0 : Int32)), (.int (0 : Int32)), (.int (0 : Int32)), (.int (0 : Int32)), (.int (0 : Int32)), (.int (0 : Int32)), (.int (0 : Int32)), (.int (0 : Int32))] (.int (0 : Int32)) := Arv.set Ar6 q6 S6 M6 Hs6 G6 (fits_nar_byte _) W7 1 rfl (Nat.le_of_ble_eq_true rfl)
 have K7 : Keep h0 h7 [xo0_] := K4.wr W7 (Or.inl (List.mem_of_getElem? (i := 0) rfl))
 have Zs7 : n0 ≤ h7.size := Nat.le_trans Zs4 (Keep.of_wr W7).1
 have N7 := Fr.snoc X7 N4 g_xo0_
 obtain ⟨fs, hr, hrun, hended, hW, hsame⟩ := X7.leave (v := none) (fun _ => rfl)
 refine ⟨_, _, (pre0 _ ?_), hrun, hended, _, _, rfl, ?_, ⟨_, rfl⟩, hW, hsame.mono (by decide) (by decide)⟩
 ·show Steps p.tables e below (s₁.setTop (mkF m 0 #[.val (.ref xo0_), .val (.int (0 : Int32)), .val (.int xi2_)] [])) _
  refine st1 _ ?_
  refine XS.ifYes X1.here hx rfl (pc0 := 3) (pc' := 28) rfl (hb hby d20_3) rfl ((if0 _ _).trans (feq (by decide : ¬ ((1 : Int32) = (0 : Int32)))).2) (by decide) (by decide) ?_
  refine XS.iloadN X1.here hx rfl (hb hby d20_28) rfl ?_
  refine XS.iconst X1.here hx rfl (hb hby d20_29) ?_
  show Steps p.tables e below (T1.setTop (mkF m 30 #[.val (.ref xo0_), .val (.int (0 : Int32)), .val (.int xi2_)] [(.int (1 : Int32)), (.int (0 : Int32))])) _
  refine XS.ishl X1.here hx rfl (hb hby d20_30) rfl ?_
  rw [show ((0 : Int32) <<< ((1 : Int32) &&& 31)) = (0 : Int32) from by decide]
  show Steps p.tables e below (T1.setTop (mkF m 31 #[.val (.ref xo0_), .val (.int (0 : Int32)), .val (.int xi2_)] [(.int (0 : Int32))])) _
  refine XS.istoreN X1.here hx rfl (hb hby d20_31) rfl (l' := #[.val (.ref xo0_), .val (.int (0 : Int32)), .val (.int xi2_)]) rfl ?_
  refine XS.aloadN X1.here hx rfl (hb hby d20_32) rfl rfl ?_
  refine XS.iloadN X1.here hx rfl (hb hby d20_33) rfl ?_
  refine XS.iinc X1.here hx rfl (hb hby d20_34) rfl (l' := #[.val (.ref xo0_), .val (.int (1 : Int32)), .val (.int xi2_)]) rfl ?_
  refine XS.iloadN X1.here hx rfl (hb hby d20_37) rfl ?_
  refine st2 _ ?_
  refine XS.ishr X2.here hx rfl (hb hby d20_41) rfl ?_
  refine XS.i2b X2.here hx rfl (hb hby d20_42) rfl ?_
  refine st4 _ ?_
  refine XS.aloadN X4.here hx rfl (hb hby d20_44) rfl rfl ?_
  refine XS.iloadN X4.here hx rfl (hb hby d20_45) rfl ?_
  refine XS.iloadN X4.here hx rfl (hb hby d20_46) rfl ?_
  refine st5 _ ?_
  refine XS.ishr X5.here hx rfl (hb hby d20_50) rfl ?_
  refine XS.i2b X5.here hx rfl (hb hby d20_51) rfl ?_
  refine st7 _ ?_
  exact X7.returnOut hx Bd.returns (hb hby d20_53) hr
 ·show QA2 Z xo0_ xi2_ ui1_ k_xo0_ h0 n0 _ T7.heap _
  rw [e7]
  exact ⟨rfl, N7, K7, V7⟩
theorem own_pd2 : parseMethodDescriptor "([BII)V" = some ⟨[(.array .byte), .int, .int], none⟩ := by decide +kernel
theorem efA3 (m : MethodId) (xo0_ : Addr) (xi2_ : Int32) : entryFrame m #[(.ref xo0_), (.int (1 : Int32)), (.int xi2_)] 3 = mkF m 0 #[.val (.ref xo0_), .val (.int (1 : Int32)), .val (.int xi2_)] [] := by first | (simp [entryFrame, mkF, argsToLocals, Value.category]; done) | rfl
def QA3 (Z : State) (xo0_ : Addr) (xi2_ : Int32) (ui1_ : Int32) (ui2_ : Int32) (ui3_ : Int32) (k_xo0_ : ClassId) (h0 : Heap) (n0 : Nat) (v : Option Value) (h : Heap) (L : List Loc) : Prop := v = none ∧ Fr n0 L ∧ Keep h0 h [xo0_] ∧ Arv Z h xo0_ k_xo0_ .byte ui1_ [(.int ui2_), (.int ui3_), (.int (((xi2_ >>> ((0 : Int32) &&& 31)).toInt8.toInt32)).toInt8.toInt32), (.int (((xi2_ >>> ((8 : Int32) &&& 31)).toInt8.toInt32)).toInt8.toInt32), (.int (0 : Int32)), (.int (0 : Int32)), (.int (0 : Int32)), (.int (0 : Int32)), (.int (0 : Int32)), (.int (0 : Int32)), (.int (0 : Int32)), (.int (0 : Int32)), (.int (0 : Int32)), (.int (0 : Int32))] (.int (0 : Int32))
set_option maxRecDepth 65536 in
set_option maxHeartbeats 40000000 in
theorem rmA3 (l : Launch) (Z : State) (a0 : Array Value) (hw : ∀ d ∈ tables_1, d.before a0 Z = true) (ws : List Jvm.Cond) (xo0_ : Addr) (xi2_ : Int32) (ui1_ : Int32) (ui2_ : Int32) (ui3_ : Int32) (k_xo0_ : ClassId) (h0 : Heap) (n0 : Nat) (Z0 : n0 ≤ h0.size) (X00 : Old Z n0 h0) (S__assertionsDisabled : Sta Z Z.heap "java/lang/StringUTF16" "$assertionsDisabled" "Z" (.int (1 : Int32))) (S_HI_BYTE_SHIFT : Sta Z Z.heap "java/lang/StringUTF16" "HI_BYTE_SHIFT" "I" (.int (0 : Int32))) (V_xo0_ : Arv Z h0 xo0_ k_xo0_ .byte ui1_ [(.int ui2_), (.int ui3_), (.int (0 : Int32)), (.int (0 : Int32)), (.int (0 : Int32)), (.int (0 : Int32)), (.int (0 : Int32)), (.int (0 : Int32)), (.int (0 : Int32)), (.int (0 : Int32)), (.int (0 : Int32)), (.int (0 : Int32)), (.int (0 : Int32)), (.int (0 : Int32))] (.int (0 : Int32))) (hp0_ : (2 : Int32) < ui1_) (g_xo0_ : n0 ≤ xo0_) (S_LO_BYTE_SHIFT : Sta Z Z.heap "java/lang/StringUTF16" "LO_BYTE_SHIFT" "I" (.int (8 : Int32))) (hp1_ : (3 : Int32) < ui1_) :
  MetFree l (⟨"java/lang/StringUTF16", "putChar", "([BII)V"⟩ : MethodName) (head1 (Jvm.Cond.code (⟨"java/lang/StringUTF16", "putChar", "([BII)V"⟩ : MethodName) jdk_52_method_4_code 3 none :: ws) ({ frames := 0, cells := 0, slots := 0, locals := 0 } : Room)) (fun av_ U => av_ = #[(.ref xo0_), (.int (1 : Int32)), (.int xi2_)] ∧ Z.Warmed39 U.vm ∧ U.heap = h0) (fun _ _ _ _ _ => True) (fun _ U o U' => ∃ v L, o = .returned v ∧ QA3 Z xo0_ xi2_ ui1_ ui2_ ui3_ k_xo0_ h0 n0 v U'.heap L ∧ FrameEnd U o U' L ({ frames := 0, cells := 0, slots := 0, locals := 0 } : Room).cells ({ frames := 0, cells := 0, slots := 0, locals := 0 } : Room).slots) := by
 refine MetFree.of_bodySF (plainFor_of_name own_pn0) hisR ?_
 intro p e s m args below meth c s₁ Bd hml0 hP hK
 obtain ⟨rfl, hZ, hh⟩ := hP
 have hx := Bd.exec
 have hby := Bd.bytes
 have hml : c.maxLocals = 3 := hml0
 have hown : s.vm.findClass "java/lang/StringUTF16" = some m.cls := findClass_of_methodNamed Bd.named
 have hnm := (name_of_methodNamed Bd.named Bd.method).1
 have X0 : Stand p l e ({ frames := 0, cells := 0, slots := 0, locals := 0 } : Room) s m #[(.ref xo0_), (.int (1 : Int32)), (.int xi2_)] below meth c s₁ [] 0 0 := Stand.of_body Bd
 have e0 : s₁.heap = h0 := by rw [← hh, Bd.state]; rfl
 have N0 := Fr.nil n0
 have pre0 : ∀ t, Steps p.tables e below (s₁.setTop (mkF m 0 #[.val (.ref xo0_), .val (.int (1 : Int32)), .val (.int xi2_)] [])) t → Steps p.tables e below (s₁.setTop (entryFrame m #[(.ref xo0_), (.int (1 : Int32)), (.int xi2_)] 3)) t := fun t k => castTop (efA3 m xo0_ xi2_) k
 obtain ⟨T1, X1, e1, st1⟩ := getS2 X0 hx hZ hown (host := "") (Or.inl (Wd hw 91 rfl)) Via.refl e0 (S__assertionsDisabled.ext X00.2) (g := (mkF m 0 #[.val (.ref xo0_), .val (.int (1 : Int32)), .val (.int xi2_)] [])) rfl (hb hby d20_0)
 obtain ⟨T2, X2, e2, st2⟩ := getS2 X1 hx hZ hown (host := "") (Or.inl (Wd hw 92 rfl)) Via.refl e1 (S_HI_BYTE_SHIFT.ext X00.2) (g := (mkF m 38 #[.val (.ref xo0_), .val (.int (3 : Int32)), .val (.int xi2_)] [(.int xi2_), (.int (2 : Int32)), (.ref xo0_)])) rfl (hb hby d20_38)
 obtain ⟨cl3, Ar3, q3, S3, M3, Hs3, G3⟩ := (id V_xo0_)
 have hin3 : ¬ ((2 : Int32) < 0 ∨ cl3.slots.size ≤ ((2 : Int32)).toNatClampNeg) := inb_of S3 ⟨by decide, hp0_⟩
 obtain ⟨T4, h4, X4, e4, W4, st4⟩ := stB X2 hx hZ e2 Ar3 (j := (2 : Int32)) hin3 (g := (mkF m 43 #[.val (.ref xo0_), .val (.int (3 : Int32)), .val (.int xi2_)] [(.int ((xi2_ >>> ((0 : Int32) &&& 31)).toInt8.toInt32)), (.int (2 : Int32)), (.ref xo0_)])) rfl rfl (hb hby d20_43)
 have V4 : Arv Z h4 xo0_ k_xo0_ .byte ui1_ [(.int ui2_), (.int ui3_), (.int (((xi2_ >>> ((0 : Int32) &&& 31)).toInt8.toInt32)).toInt8.toInt32), (.int (0 : Int32)), (.int (0 : Int32)), (.int (0 : Int32)), (.int (0 : Int32)), (.int (0 : Int32)), (.int (0 : Int32)), (.int (0 : Int32)), (.int (0 : Int32)), (.int (0 : Int32)), (.int (0 : Int32)), (.int (0 : Int32))] (.int (0 : Int32)) := Arv.set Ar3 q3 S3 M3 Hs3 G3 (fits_nar_byte _) W4 2 rfl (Nat.le_of_ble_eq_true rfl)
 have K4 : Keep h0 h4 [xo0_] := (Keep.refl h0 [xo0_]).wr W4 (Or.inl (List.mem_of_getElem? (i := 0) rfl))
 have Zs4 : n0 ≤ h4.size := Nat.le_trans Z0 (Keep.of_wr W4).1
 have N4 := Fr.snoc X4 N0 g_xo0_
 obtain ⟨T5, X5, e5, st5⟩ := getS2 X4 hx hZ hown (host := "") (Or.inl (Wd hw 93 rfl)) Via.refl e4 (S_LO_BYTE_SHIFT.ext (X00.keep K4 (allS g_xo0_ all0)).2) (g := (mkF m 47 #[.val (.ref xo0_), .val (.int (3 : Int32)), .val (.int xi2_)] [(.int xi2_), (.int (3 : Int32)), (.ref xo0_)])) rfl (hb hby d20_47)
 obtain ⟨cl6, Ar6, q6, S6, M6, Hs6, G6⟩ := (id V4)
 have hin6 : ¬ ((3 : Int32) < 0 ∨ cl6.slots.size ≤ ((3 : Int32)).toNatClampNeg) := inb_of S6 ⟨by decide, hp1_⟩
 obtain ⟨T7, h7, X7, e7, W7, st7⟩ := stB X5 hx hZ e5 Ar6 (j := (3 : Int32)) hin6 (g := (mkF m 52 #[.val (.ref xo0_), .val (.int (3 : Int32)), .val (.int xi2_)] [(.int ((xi2_ >>> ((8 : Int32) &&& 31)).toInt8.toInt32)), (.int (3 : Int32)), (.ref xo0_)])) rfl rfl (hb hby d20_52)
 have V7 : Arv Z h7 xo0_ k_xo0_ .byte ui1_ [(.int ui2_), (.int ui3_), (.int (((xi2_ >>> ((0 : Int32) &&& 31)).toInt8.toInt32)).toInt8.toInt32), (.int (((xi2_ >>> ((8 : Int32) &&& 31)).toInt8.toInt32)).toInt8.toInt32), (.int (0 : Int32)), (.int (0 : Int32)), (.int (0 : Int32)), (.int (0 : Int32)), (.int (0 : Int32)), (.int (0 : Int32)), (.int (0 : Int32)), (.int (0 : Int32)), (.int (0 : Int32)), (.int (0 : Int32))] (.int (0 : Int32)) := Arv.set Ar6 q6 S6 M6 Hs6 G6 (fits_nar_byte _) W7 3 rfl (Nat.le_of_ble_eq_true rfl)
 have K7 : Keep h0 h7 [xo0_] := K4.wr W7 (Or.inl (List.mem_of_getElem? (i := 0) rfl))
 have Zs7 : n0 ≤ h7.size := Nat.le_trans Zs4 (Keep.of_wr W7).1
 have N7 := Fr.snoc X7 N4 g_xo0_
 obtain ⟨fs, hr, hrun, hended, hW, hsame⟩ := X7.leave (v := none) (fun _ => rfl)
 refine ⟨_, _, (pre0 _ ?_), hrun, hended, _, _, rfl, ?_, ⟨_, rfl⟩, hW, hsame.mono (by decide) (by decide)⟩
 ·show Steps p.tables e below (s₁.setTop (mkF m 0 #[.val (.ref xo0_), .val (.int (1 : Int32)), .val (.int xi2_)] [])) _
  refine st1 _ ?_
  refine XS.ifYes X1.here hx rfl (pc0 := 3) (pc' := 28) rfl (hb hby d20_3) rfl ((if0 _ _).trans (feq (by decide : ¬ ((1 : Int32) = (0 : Int32)))).2) (by decide) (by decide) ?_
  refine XS.iloadN X1.here hx rfl (hb hby d20_28) rfl ?_
  refine XS.iconst X1.here hx rfl (hb hby d20_29) ?_
  show Steps p.tables e below (T1.setTop (mkF m 30 #[.val (.ref xo0_), .val (.int (1 : Int32)), .val (.int xi2_)] [(.int (1 : Int32)), (.int (1 : Int32))])) _
  refine XS.ishl X1.here hx rfl (hb hby d20_30) rfl ?_
  rw [show ((1 : Int32) <<< ((1 : Int32) &&& 31)) = (2 : Int32) from by decide]
  show Steps p.tables e below (T1.setTop (mkF m 31 #[.val (.ref xo0_), .val (.int (1 : Int32)), .val (.int xi2_)] [(.int (2 : Int32))])) _
  refine XS.istoreN X1.here hx rfl (hb hby d20_31) rfl (l' := #[.val (.ref xo0_), .val (.int (2 : Int32)), .val (.int xi2_)]) rfl ?_
  refine XS.aloadN X1.here hx rfl (hb hby d20_32) rfl rfl ?_
  refine XS.iloadN X1.here hx rfl (hb hby d20_33) rfl ?_
  refine XS.iinc X1.here hx rfl (hb hby d20_34) rfl (l' := #[.val (.ref xo0_), .val (.int (3 : Int32)), .val (.int xi2_)]) rfl ?_
  refine XS.iloadN X1.here hx rfl (hb hby d20_37) rfl ?_
  refine st2 _ ?_
  refine XS.ishr X2.here hx rfl (hb hby d20_41) rfl ?_
  refine XS.i2b X2.here hx rfl (hb hby d20_42) rfl ?_
  refine st4 _ ?_
  refine XS.aloadN X4.here hx rfl (hb hby d20_44) rfl rfl ?_
  refine XS.iloadN X4.here hx rfl (hb hby d20_45) rfl ?_
  refine XS.iloadN X4.here hx rfl (hb hby d20_46) rfl ?_
  refine st5 _ ?_
  refine XS.ishr X5.here hx rfl (hb hby d20_50) rfl ?_
  refine XS.i2b X5.here hx rfl (hb hby d20_51) rfl ?_
  refine st7 _ ?_
  exact X7.returnOut hx Bd.returns (hb hby d20_53) hr
 ·show QA3 Z xo0_ xi2_ ui1_ ui2_ ui3_ k_xo0_ h0 n0 _ T7.heap _
  rw [e7]
  exact ⟨rfl, N7, K7, V7⟩
theorem efA4 (m : MethodId) (xo0_ : Addr) (xi2_ : Int32) : entryFrame m #[(.ref xo0_), (.int (2 : Int32)), (.int xi2_)] 3 = mkF m 0 #[.val (.ref xo0_), .val (.int (2 : Int32)), .val (.int xi2_)] [] := by first | (simp [entryFrame, mkF, argsToLocals, Value.category]; done) | rfl
def QA4 (Z : State) (xo0_ : Addr) (xi2_ : Int32) (ui1_ : Int32) (ui2_ : Int32) (ui3_ : Int32) (ui4_ : Int32) (ui5_ : Int32) (k_xo0_ : ClassId) (h0 : Heap) (n0 : Nat) (v : Option Value) (h : Heap) (L : List Loc) : Prop := v = none ∧ Fr n0 L ∧ Keep h0 h [xo0_] ∧ Arv Z h xo0_ k_xo0_ .byte ui1_ [(.int ui2_), (.int ui3_), (.int ui4_), (.int ui5_), (.int (((xi2_ >>> ((0 : Int32) &&& 31)).toInt8.toInt32)).toInt8.toInt32), (.int (((xi2_ >>> ((8 : Int32) &&& 31)).toInt8.toInt32)).toInt8.toInt32), (.int (0 : Int32)), (.int (0 : Int32)), (.int (0 : Int32)), (.int (0 : Int32)), (.int (0 : Int32)), (.int (0 : Int32)), (.int (0 : Int32)), (.int (0 : Int32))] (.int (0 : Int32))
set_option maxRecDepth 65536 in
set_option maxHeartbeats 40000000 in
theorem rmA4 (l : Launch) (Z : State) (a0 : Array Value) (hw : ∀ d ∈ tables_1, d.before a0 Z = true) (ws : List Jvm.Cond) (xo0_ : Addr) (xi2_ : Int32) (ui1_ : Int32) (ui2_ : Int32) (ui3_ : Int32) (ui4_ : Int32) (ui5_ : Int32) (k_xo0_ : ClassId) (h0 : Heap) (n0 : Nat) (Z0 : n0 ≤ h0.size) (X00 : Old Z n0 h0) (S__assertionsDisabled : Sta Z Z.heap "java/lang/StringUTF16" "$assertionsDisabled" "Z" (.int (1 : Int32))) (S_HI_BYTE_SHIFT : Sta Z Z.heap "java/lang/StringUTF16" "HI_BYTE_SHIFT" "I" (.int (0 : Int32))) (V_xo0_ : Arv Z h0 xo0_ k_xo0_ .byte ui1_ [(.int ui2_), (.int ui3_), (.int ui4_), (.int ui5_), (.int (0 : Int32)), (.int (0 : Int32)), (.int (0 : Int32)), (.int (0 : Int32)), (.int (0 : Int32)), (.int (0 : Int32)), (.int (0 : Int32)), (.int (0 : Int32)), (.int (0 : Int32)), (.int (0 : Int32))] (.int (0 : Int32))) (hp0_ : (4 : Int32) < ui1_) (g_xo0_ : n0 ≤ xo0_) (S_LO_BYTE_SHIFT : Sta Z Z.heap "java/lang/StringUTF16" "LO_BYTE_SHIFT" "I" (.int (8 : Int32))) (hp1_ : (5 : Int32) < ui1_) :
  MetFree l (⟨"java/lang/StringUTF16", "putChar", "([BII)V"⟩ : MethodName) (head1 (Jvm.Cond.code (⟨"java/lang/StringUTF16", "putChar", "([BII)V"⟩ : MethodName) jdk_52_method_4_code 3 none :: ws) ({ frames := 0, cells := 0, slots := 0, locals := 0 } : Room)) (fun av_ U => av_ = #[(.ref xo0_), (.int (2 : Int32)), (.int xi2_)] ∧ Z.Warmed39 U.vm ∧ U.heap = h0) (fun _ _ _ _ _ => True) (fun _ U o U' => ∃ v L, o = .returned v ∧ QA4 Z xo0_ xi2_ ui1_ ui2_ ui3_ ui4_ ui5_ k_xo0_ h0 n0 v U'.heap L ∧ FrameEnd U o U' L ({ frames := 0, cells := 0, slots := 0, locals := 0 } : Room).cells ({ frames := 0, cells := 0, slots := 0, locals := 0 } : Room).slots) := by
 refine MetFree.of_bodySF (plainFor_of_name own_pn0) hisR ?_
 intro p e s m args below meth c s₁ Bd hml0 hP hK
 obtain ⟨rfl, hZ, hh⟩ := hP
 have hx := Bd.exec
 have hby := Bd.bytes
 have hml : c.maxLocals = 3 := hml0
 have hown : s.vm.findClass "java/lang/StringUTF16" = some m.cls := findClass_of_methodNamed Bd.named
 have hnm := (name_of_methodNamed Bd.named Bd.method).1
 have X0 : Stand p l e ({ frames := 0, cells := 0, slots := 0, locals := 0 } : Room) s m #[(.ref xo0_), (.int (2 : Int32)), (.int xi2_)] below meth c s₁ [] 0 0 := Stand.of_body Bd
 have e0 : s₁.heap = h0 := by rw [← hh, Bd.state]; rfl
 have N0 := Fr.nil n0
 have pre0 : ∀ t, Steps p.tables e below (s₁.setTop (mkF m 0 #[.val (.ref xo0_), .val (.int (2 : Int32)), .val (.int xi2_)] [])) t → Steps p.tables e below (s₁.setTop (entryFrame m #[(.ref xo0_), (.int (2 : Int32)), (.int xi2_)] 3)) t := fun t k => castTop (efA4 m xo0_ xi2_) k
 obtain ⟨T1, X1, e1, st1⟩ := getS2 X0 hx hZ hown (host := "") (Or.inl (Wd hw 91 rfl)) Via.refl e0 (S__assertionsDisabled.ext X00.2) (g := (mkF m 0 #[.val (.ref xo0_), .val (.int (2 : Int32)), .val (.int xi2_)] [])) rfl (hb hby d20_0)
 obtain ⟨T2, X2, e2, st2⟩ := getS2 X1 hx hZ hown (host := "") (Or.inl (Wd hw 92 rfl)) Via.refl e1 (S_HI_BYTE_SHIFT.ext X00.2) (g := (mkF m 38 #[.val (.ref xo0_), .val (.int (5 : Int32)), .val (.int xi2_)] [(.int xi2_), (.int (4 : Int32)), (.ref xo0_)])) rfl (hb hby d20_38)
 obtain ⟨cl3, Ar3, q3, S3, M3, Hs3, G3⟩ := (id V_xo0_)
 have hin3 : ¬ ((4 : Int32) < 0 ∨ cl3.slots.size ≤ ((4 : Int32)).toNatClampNeg) := inb_of S3 ⟨by decide, hp0_⟩
 obtain ⟨T4, h4, X4, e4, W4, st4⟩ := stB X2 hx hZ e2 Ar3 (j := (4 : Int32)) hin3 (g := (mkF m 43 #[.val (.ref xo0_), .val (.int (5 : Int32)), .val (.int xi2_)] [(.int ((xi2_ >>> ((0 : Int32) &&& 31)).toInt8.toInt32)), (.int (4 : Int32)), (.ref xo0_)])) rfl rfl (hb hby d20_43)
 have V4 : Arv Z h4 xo0_ k_xo0_ .byte ui1_ [(.int ui2_), (.int ui3_), (.int ui4_), (.int ui5_), (.int (((xi2_ >>> ((0 : Int32) &&& 31)).toInt8.toInt32)).toInt8.toInt32), (.int (0 : Int32)), (.int (0 : Int32)), (.int (0 : Int32)), (.int (0 : Int32)), (.int (0 : Int32)), (.int (0 : Int32)), (.int (0 : Int32)), (.int (0 : Int32)), (.int (0 : Int32))] (.int (0 : Int32)) := Arv.set Ar3 q3 S3 M3 Hs3 G3 (fits_nar_byte _) W4 4 rfl (Nat.le_of_ble_eq_true rfl)
 have K4 : Keep h0 h4 [xo0_] := (Keep.refl h0 [xo0_]).wr W4 (Or.inl (List.mem_of_getElem? (i := 0) rfl))
 have Zs4 : n0 ≤ h4.size := Nat.le_trans Z0 (Keep.of_wr W4).1
 have N4 := Fr.snoc X4 N0 g_xo0_
 obtain ⟨T5, X5, e5, st5⟩ := getS2 X4 hx hZ hown (host := "") (Or.inl (Wd hw 93 rfl)) Via.refl e4 (S_LO_BYTE_SHIFT.ext (X00.keep K4 (allS g_xo0_ all0)).2) (g := (mkF m 47 #[.val (.ref xo0_), .val (.int (5 : Int32)), .val (.int xi2_)] [(.int xi2_), (.int (5 : Int32)), (.ref xo0_)])) rfl (hb hby d20_47)
 obtain ⟨cl6, Ar6, q6, S6, M6, Hs6, G6⟩ := (id V4)
 have hin6 : ¬ ((5 : Int32) < 0 ∨ cl6.slots.size ≤ ((5 : Int32)).toNatClampNeg) := inb_of S6 ⟨by decide, hp1_⟩
 obtain ⟨T7, h7, X7, e7, W7, st7⟩ := stB X5 hx hZ e5 Ar6 (j := (5 : Int32)) hin6 (g := (mkF m 52 #[.val (.ref xo0_), .val (.int (5 : Int32)), .val (.int xi2_)] [(.int ((xi2_ >>> ((8 : Int32) &&& 31)).toInt8.toInt32)), (.int (5 : Int32)), (.ref xo0_)])) rfl rfl (hb hby d20_52)
 have V7 : Arv Z h7 xo0_ k_xo0_ .byte ui1_ [(.int ui2_), (.int ui3_), (.int ui4_), (.int ui5_), (.int (((xi2_ >>> ((0 : Int32) &&& 31)).toInt8.toInt32)).toInt8.toInt32), (.int (((xi2_ >>> ((8 : Int32) &&& 31)).toInt8.toInt32)).toInt8.toInt32), (.int (0 : Int32)), (.int (0 : Int32)), (.int (0 : Int32)), (.int (0 : Int32)), (.int (0 : Int32)), (.int (0 : Int32)), (.int (0 : Int32)), (.int (0 : Int32))] (.int (0 : Int32)) := Arv.set Ar6 q6 S6 M6 Hs6 G6 (fits_nar_byte _) W7 5 rfl (Nat.le_of_ble_eq_true rfl)
 have K7 : Keep h0 h7 [xo0_] := K4.wr W7 (Or.inl (List.mem_of_getElem? (i := 0) rfl))
 have Zs7 : n0 ≤ h7.size := Nat.le_trans Zs4 (Keep.of_wr W7).1
 have N7 := Fr.snoc X7 N4 g_xo0_
 obtain ⟨fs, hr, hrun, hended, hW, hsame⟩ := X7.leave (v := none) (fun _ => rfl)
 refine ⟨_, _, (pre0 _ ?_), hrun, hended, _, _, rfl, ?_, ⟨_, rfl⟩, hW, hsame.mono (by decide) (by decide)⟩
 ·show Steps p.tables e below (s₁.setTop (mkF m 0 #[.val (.ref xo0_), .val (.int (2 : Int32)), .val (.int xi2_)] [])) _
  refine st1 _ ?_
  refine XS.ifYes X1.here hx rfl (pc0 := 3) (pc' := 28) rfl (hb hby d20_3) rfl ((if0 _ _).trans (feq (by decide : ¬ ((1 : Int32) = (0 : Int32)))).2) (by decide) (by decide) ?_
  refine XS.iloadN X1.here hx rfl (hb hby d20_28) rfl ?_
  refine XS.iconst X1.here hx rfl (hb hby d20_29) ?_
  show Steps p.tables e below (T1.setTop (mkF m 30 #[.val (.ref xo0_), .val (.int (2 : Int32)), .val (.int xi2_)] [(.int (1 : Int32)), (.int (2 : Int32))])) _
  refine XS.ishl X1.here hx rfl (hb hby d20_30) rfl ?_
  rw [show ((2 : Int32) <<< ((1 : Int32) &&& 31)) = (4 : Int32) from by decide]
  show Steps p.tables e below (T1.setTop (mkF m 31 #[.val (.ref xo0_), .val (.int (2 : Int32)), .val (.int xi2_)] [(.int (4 : Int32))])) _
  refine XS.istoreN X1.here hx rfl (hb hby d20_31) rfl (l' := #[.val (.ref xo0_), .val (.int (4 : Int32)), .val (.int xi2_)]) rfl ?_
  refine XS.aloadN X1.here hx rfl (hb hby d20_32) rfl rfl ?_
  refine XS.iloadN X1.here hx rfl (hb hby d20_33) rfl ?_
  refine XS.iinc X1.here hx rfl (hb hby d20_34) rfl (l' := #[.val (.ref xo0_), .val (.int (5 : Int32)), .val (.int xi2_)]) rfl ?_
  refine XS.iloadN X1.here hx rfl (hb hby d20_37) rfl ?_
  refine st2 _ ?_
  refine XS.ishr X2.here hx rfl (hb hby d20_41) rfl ?_
  refine XS.i2b X2.here hx rfl (hb hby d20_42) rfl ?_
  refine st4 _ ?_
  refine XS.aloadN X4.here hx rfl (hb hby d20_44) rfl rfl ?_
  refine XS.iloadN X4.here hx rfl (hb hby d20_45) rfl ?_
  refine XS.iloadN X4.here hx rfl (hb hby d20_46) rfl ?_
  refine st5 _ ?_
  refine XS.ishr X5.here hx rfl (hb hby d20_50) rfl ?_
  refine XS.i2b X5.here hx rfl (hb hby d20_51) rfl ?_
  refine st7 _ ?_
  exact X7.returnOut hx Bd.returns (hb hby d20_53) hr
 ·show QA4 Z xo0_ xi2_ ui1_ ui2_ ui3_ ui4_ ui5_ k_xo0_ h0 n0 _ T7.heap _
  rw [e7]
  exact ⟨rfl, N7, K7, V7⟩
theorem efA5 (m : MethodId) (xo0_ : Addr) (xi2_ : Int32) : entryFrame m #[(.ref xo0_), (.int (3 : Int32)), (.int xi2_)] 3 = mkF m 0 #[.val (.ref xo0_), .val (.int (3 : Int32)), .val (.int xi2_)] [] := by first | (simp [entryFrame, mkF, argsToLocals, Value.category]; done) | rfl
def QA5 (Z : State) (xo0_ : Addr) (xi2_ : Int32) (ui1_ : Int32) (ui2_ : Int32) (ui3_ : Int32) (ui4_ : Int32) (ui5_ : Int32) (ui6_ : Int32) (ui7_ : Int32) (k_xo0_ : ClassId) (h0 : Heap) (n0 : Nat) (v : Option Value) (h : Heap) (L : List Loc) : Prop := v = none ∧ Fr n0 L ∧ Keep h0 h [xo0_] ∧ Arv Z h xo0_ k_xo0_ .byte ui1_ [(.int ui2_), (.int ui3_), (.int ui4_), (.int ui5_), (.int ui6_), (.int ui7_), (.int (((xi2_ >>> ((0 : Int32) &&& 31)).toInt8.toInt32)).toInt8.toInt32), (.int (((xi2_ >>> ((8 : Int32) &&& 31)).toInt8.toInt32)).toInt8.toInt32), (.int (0 : Int32)), (.int (0 : Int32)), (.int (0 : Int32)), (.int (0 : Int32)), (.int (0 : Int32)), (.int (0 : Int32))] (.int (0 : Int32))
set_option maxRecDepth 65536 in
set_option maxHeartbeats 40000000 in
theorem rmA5 (l : Launch) (Z : State) (a0 : Array Value) (hw : ∀ d ∈ tables_1, d.before a0 Z = true) (ws : List Jvm.Cond) (xo0_ : Addr) (xi2_ : Int32) (ui1_ : Int32) (ui2_ : Int32) (ui3_ : Int32) (ui4_ : Int32) (ui5_ : Int32) (ui6_ : Int32) (ui7_ : Int32) (k_xo0_ : ClassId) (h0 : Heap) (n0 : Nat) (Z0 : n0 ≤ h0.size) (X00 : Old Z n0 h0) (S__assertionsDisabled : Sta Z Z.heap "java/lang/StringUTF16" "$assertionsDisabled" "Z" (.int (1 : Int32))) (S_HI_BYTE_SHIFT : Sta Z Z.heap "java/lang/StringUTF16" "HI_BYTE_SHIFT" "I" (.int (0 : Int32))) (V_xo0_ : Arv Z h0 xo0_ k_xo0_ .byte ui1_ [(.int ui2_), (.int ui3_), (.int ui4_), (.int ui5_), (.int ui6_), (.int ui7_), (.int (0 : Int32)), (.int (0 : Int32)), (.int (0 : Int32)), (.int (0 : Int32)), (.int (0 : Int32)), (.int (0 : Int32)), (.int (0 : Int32)), (.int (0 : Int32))] (.int (0 : Int32))) (hp0_ : (6 : Int32) < ui1_) (g_xo0_ : n0 ≤ xo0_) (S_LO_BYTE_SHIFT : Sta Z Z.heap "java/lang/StringUTF16" "LO_BYTE_SHIFT" "I" (.int (8 : Int32))) (hp1_ : (7 : Int32) < ui1_) :
  MetFree l (⟨"java/lang/StringUTF16", "putChar", "([BII)V"⟩ : MethodName) (head1 (Jvm.Cond.code (⟨"java/lang/StringUTF16", "putChar", "([BII)V"⟩ : MethodName) jdk_52_method_4_code 3 none :: ws) ({ frames := 0, cells := 0, slots := 0, locals := 0 } : Room)) (fun av_ U => av_ = #[(.ref xo0_), (.int (3 : Int32)), (.int xi2_)] ∧ Z.Warmed39 U.vm ∧ U.heap = h0) (fun _ _ _ _ _ => True) (fun _ U o U' => ∃ v L, o = .returned v ∧ QA5 Z xo0_ xi2_ ui1_ ui2_ ui3_ ui4_ ui5_ ui6_ ui7_ k_xo0_ h0 n0 v U'.heap L ∧ FrameEnd U o U' L ({ frames := 0, cells := 0, slots := 0, locals := 0 } : Room).cells ({ frames := 0, cells := 0, slots := 0, locals := 0 } : Room).slots) := by
 refine MetFree.of_bodySF (plainFor_of_name own_pn0) hisR ?_
 intro p e s m args below meth c s₁ Bd hml0 hP hK
 obtain ⟨rfl, hZ, hh⟩ := hP
 have hx := Bd.exec
 have hby := Bd.bytes
 have hml : c.maxLocals = 3 := hml0
 have hown : s.vm.findClass "java/lang/StringUTF16" = some m.cls := findClass_of_methodNamed Bd.named
 have hnm := (name_of_methodNamed Bd.named Bd.method).1
 have X0 : Stand p l e ({ frames := 0, cells := 0, slots := 0, locals := 0 } : Room) s m #[(.ref xo0_), (.int (3 : Int32)), (.int xi2_)] below meth c s₁ [] 0 0 := Stand.of_body Bd
 have e0 : s₁.heap = h0 := by rw [← hh, Bd.state]; rfl
 have N0 := Fr.nil n0
 have pre0 : ∀ t, Steps p.tables e below (s₁.setTop (mkF m 0 #[.val (.ref xo0_), .val (.int (3 : Int32)), .val (.int xi2_)] [])) t → Steps p.tables e below (s₁.setTop (entryFrame m #[(.ref xo0_), (.int (3 : Int32)), (.int xi2_)] 3)) t := fun t k => castTop (efA5 m xo0_ xi2_) k
 obtain ⟨T1, X1, e1, st1⟩ := getS2 X0 hx hZ hown (host := "") (Or.inl (Wd hw 91 rfl)) Via.refl e0 (S__assertionsDisabled.ext X00.2) (g := (mkF m 0 #[.val (.ref xo0_), .val (.int (3 : Int32)), .val (.int xi2_)] [])) rfl (hb hby d20_0)
 obtain ⟨T2, X2, e2, st2⟩ := getS2 X1 hx hZ hown (host := "") (Or.inl (Wd hw 92 rfl)) Via.refl e1 (S_HI_BYTE_SHIFT.ext X00.2) (g := (mkF m 38 #[.val (.ref xo0_), .val (.int (7 : Int32)), .val (.int xi2_)] [(.int xi2_), (.int (6 : Int32)), (.ref xo0_)])) rfl (hb hby d20_38)
 obtain ⟨cl3, Ar3, q3, S3, M3, Hs3, G3⟩ := (id V_xo0_)
 have hin3 : ¬ ((6 : Int32) < 0 ∨ cl3.slots.size ≤ ((6 : Int32)).toNatClampNeg) := inb_of S3 ⟨by decide, hp0_⟩
 obtain ⟨T4, h4, X4, e4, W4, st4⟩ := stB X2 hx hZ e2 Ar3 (j := (6 : Int32)) hin3 (g := (mkF m 43 #[.val (.ref xo0_), .val (.int (7 : Int32)), .val (.int xi2_)] [(.int ((xi2_ >>> ((0 : Int32) &&& 31)).toInt8.toInt32)), (.int (6 : Int32)), (.ref xo0_)])) rfl rfl (hb hby d20_43)
 have V4 : Arv Z h4 xo0_ k_xo0_ .byte ui1_ [(.int ui2_), (.int ui3_), (.int ui4_), (.int ui5_), (.int ui6_), (.int ui7_), (.int (((xi2_ >>> ((0 : Int32) &&& 31)).toInt8.toInt32)).toInt8.toInt32), (.int (0 : Int32)), (.int (0 : Int32)), (.int (0 : Int32)), (.int (0 : Int32)), (.int (0 : Int32)), (.int (0 : Int32)), (.int (0 : Int32))] (.int (0 : Int32)) := Arv.set Ar3 q3 S3 M3 Hs3 G3 (fits_nar_byte _) W4 6 rfl (Nat.le_of_ble_eq_true rfl)
 have K4 : Keep h0 h4 [xo0_] := (Keep.refl h0 [xo0_]).wr W4 (Or.inl (List.mem_of_getElem? (i := 0) rfl))
 have Zs4 : n0 ≤ h4.size := Nat.le_trans Z0 (Keep.of_wr W4).1
 have N4 := Fr.snoc X4 N0 g_xo0_
 obtain ⟨T5, X5, e5, st5⟩ := getS2 X4 hx hZ hown (host := "") (Or.inl (Wd hw 93 rfl)) Via.refl e4 (S_LO_BYTE_SHIFT.ext (X00.keep K4 (allS g_xo0_ all0)).2) (g := (mkF m 47 #[.val (.ref xo0_), .val (.int (7 : Int32)), .val (.int xi2_)] [(.int xi2_), (.int (7 : Int32)), (.ref xo0_)])) rfl (hb hby d20_47)
 obtain ⟨cl6, Ar6, q6, S6, M6, Hs6, G6⟩ := (id V4)
 have hin6 : ¬ ((7 : Int32) < 0 ∨ cl6.slots.size ≤ ((7 : Int32)).toNatClampNeg) := inb_of S6 ⟨by decide, hp1_⟩
 obtain ⟨T7, h7, X7, e7, W7, st7⟩ := stB X5 hx hZ e5 Ar6 (j := (7 : Int32)) hin6 (g := (mkF m 52 #[.val (.ref xo0_), .val (.int (7 : Int32)), .val (.int xi2_)] [(.int ((xi2_ >>> ((8 : Int32) &&& 31)).toInt8.toInt32)), (.int (7 : Int32)), (.ref xo0_)])) rfl rfl (hb hby d20_52)
 have V7 : Arv Z h7 xo0_ k_xo0_ .byte ui1_ [(.int ui2_), (.int ui3_), (.int ui4_), (.int ui5_), (.int ui6_), (.int ui7_), (.int (((xi2_ >>> ((0 : Int32) &&& 31)).toInt8.toInt32)).toInt8.toInt32), (.int (((xi2_ >>> ((8 : Int32) &&& 31)).toInt8.toInt32)).toInt8.toInt32), (.int (0 : Int32)), (.int (0 : Int32)), (.int (0 : Int32)), (.int (0 : Int32)), (.int (0 : Int32)), (.int (0 : Int32))] (.int (0 : Int32)) := Arv.set Ar6 q6 S6 M6 Hs6 G6 (fits_nar_byte _) W7 7 rfl (Nat.le_of_ble_eq_true rfl)
 have K7 : Keep h0 h7 [xo0_] := K4.wr W7 (Or.inl (List.mem_of_getElem? (i := 0) rfl))
 have Zs7 : n0 ≤ h7.size := Nat.le_trans Zs4 (Keep.of_wr W7).1
 have N7 := Fr.snoc X7 N4 g_xo0_
 obtain ⟨fs, hr, hrun, hended, hW, hsame⟩ := X7.leave (v := none) (fun _ => rfl)
 refine ⟨_, _, (pre0 _ ?_), hrun, hended, _, _, rfl, ?_, ⟨_, rfl⟩, hW, hsame.mono (by decide) (by decide)⟩
 ·show Steps p.tables e below (s₁.setTop (mkF m 0 #[.val (.ref xo0_), .val (.int (3 : Int32)), .val (.int xi2_)] [])) _
  refine st1 _ ?_
  refine XS.ifYes X1.here hx rfl (pc0 := 3) (pc' := 28) rfl (hb hby d20_3) rfl ((if0 _ _).trans (feq (by decide : ¬ ((1 : Int32) = (0 : Int32)))).2) (by decide) (by decide) ?_
  refine XS.iloadN X1.here hx rfl (hb hby d20_28) rfl ?_
  refine XS.iconst X1.here hx rfl (hb hby d20_29) ?_
  show Steps p.tables e below (T1.setTop (mkF m 30 #[.val (.ref xo0_), .val (.int (3 : Int32)), .val (.int xi2_)] [(.int (1 : Int32)), (.int (3 : Int32))])) _
  refine XS.ishl X1.here hx rfl (hb hby d20_30) rfl ?_
  rw [show ((3 : Int32) <<< ((1 : Int32) &&& 31)) = (6 : Int32) from by decide]
  show Steps p.tables e below (T1.setTop (mkF m 31 #[.val (.ref xo0_), .val (.int (3 : Int32)), .val (.int xi2_)] [(.int (6 : Int32))])) _
  refine XS.istoreN X1.here hx rfl (hb hby d20_31) rfl (l' := #[.val (.ref xo0_), .val (.int (6 : Int32)), .val (.int xi2_)]) rfl ?_
  refine XS.aloadN X1.here hx rfl (hb hby d20_32) rfl rfl ?_
  refine XS.iloadN X1.here hx rfl (hb hby d20_33) rfl ?_
  refine XS.iinc X1.here hx rfl (hb hby d20_34) rfl (l' := #[.val (.ref xo0_), .val (.int (7 : Int32)), .val (.int xi2_)]) rfl ?_
  refine XS.iloadN X1.here hx rfl (hb hby d20_37) rfl ?_
  refine st2 _ ?_
  refine XS.ishr X2.here hx rfl (hb hby d20_41) rfl ?_
  refine XS.i2b X2.here hx rfl (hb hby d20_42) rfl ?_
  refine st4 _ ?_
  refine XS.aloadN X4.here hx rfl (hb hby d20_44) rfl rfl ?_
  refine XS.iloadN X4.here hx rfl (hb hby d20_45) rfl ?_
  refine XS.iloadN X4.here hx rfl (hb hby d20_46) rfl ?_
  refine st5 _ ?_
  refine XS.ishr X5.here hx rfl (hb hby d20_50) rfl ?_
  refine XS.i2b X5.here hx rfl (hb hby d20_51) rfl ?_
  refine st7 _ ?_
  exact X7.returnOut hx Bd.returns (hb hby d20_53) hr
 ·show QA5 Z xo0_ xi2_ ui1_ ui2_ ui3_ ui4_ ui5_ ui6_ ui7_ k_xo0_ h0 n0 _ T7.heap _
  rw [e7]
  exact ⟨rfl, N7, K7, V7⟩
theorem efA6 (m : MethodId) (xo0_ : Addr) (xi2_ : Int32) : entryFrame m #[(.ref xo0_), (.int (4 : Int32)), (.int xi2_)] 3 = mkF m 0 #[.val (.ref xo0_), .val (.int (4 : Int32)), .val (.int xi2_)] [] := by first | (simp [entryFrame, mkF, argsToLocals, Value.category]; done) | rfl
def QA6 (Z : State) (xo0_ : Addr) (xi2_ : Int32) (ui1_ : Int32) (ui2_ : Int32) (ui3_ : Int32) (ui4_ : Int32) (ui5_ : Int32) (ui6_ : Int32) (ui7_ : Int32) (ui8_ : Int32) (ui9_ : Int32) (k_xo0_ : ClassId) (h0 : Heap) (n0 : Nat) (v : Option Value) (h : Heap) (L : List Loc) : Prop := v = none ∧ Fr n0 L ∧ Keep h0 h [xo0_] ∧ Arv Z h xo0_ k_xo0_ .byte ui1_ [(.int ui2_), (.int ui3_), (.int ui4_), (.int ui5_), (.int ui6_), (.int ui7_), (.int ui8_), (.int ui9_), (.int (((xi2_ >>> ((0 : Int32) &&& 31)).toInt8.toInt32)).toInt8.toInt32), (.int (((xi2_ >>> ((8 : Int32) &&& 31)).toInt8.toInt32)).toInt8.toInt32), (.int (0 : Int32)), (.int (0 : Int32)), (.int (0 : Int32)), (.int (0 : Int32))] (.int (0 : Int32))
set_option maxRecDepth 65536 in
set_option maxHeartbeats 40000000 in
theorem rmA6 (l : Launch) (Z : State) (a0 : Array Value) (hw : ∀ d ∈ tables_1, d.before a0 Z = true) (ws : List Jvm.Cond) (xo0_ : Addr) (xi2_ : Int32) (ui1_ : Int32) (ui2_ : Int32) (ui3_ : Int32) (ui4_ : Int32) (ui5_ : Int32) (ui6_ : Int32) (ui7_ : Int32) (ui8_ : Int32) (ui9_ : Int32) (k_xo0_ : ClassId) (h0 : Heap) (n0 : Nat) (Z0 : n0 ≤ h0.size) (X00 : Old Z n0 h0) (S__assertionsDisabled : Sta Z Z.heap "java/lang/StringUTF16" "$assertionsDisabled" "Z" (.int (1 : Int32))) (S_HI_BYTE_SHIFT : Sta Z Z.heap "java/lang/StringUTF16" "HI_BYTE_SHIFT" "I" (.int (0 : Int32))) (V_xo0_ : Arv Z h0 xo0_ k_xo0_ .byte ui1_ [(.int ui2_), (.int ui3_), (.int ui4_), (.int ui5_), (.int ui6_), (.int ui7_), (.int ui8_), (.int ui9_), (.int (0 : Int32)), (.int (0 : Int32)), (.int (0 : Int32)), (.int (0 : Int32)), (.int (0 : Int32)), (.int (0 : Int32))] (.int (0 : Int32))) (hp0_ : (8 : Int32) < ui1_) (g_xo0_ : n0 ≤ xo0_) (S_LO_BYTE_SHIFT : Sta Z Z.heap "java/lang/StringUTF16" "LO_BYTE_SHIFT" "I" (.int (8 : Int32))) (hp1_ : (9 : Int32) < ui1_) :
  MetFree l (⟨"java/lang/StringUTF16", "putChar", "([BII)V"⟩ : MethodName) (head1 (Jvm.Cond.code (⟨"java/lang/StringUTF16", "putChar", "([BII)V"⟩ : MethodName) jdk_52_method_4_code 3 none :: ws) ({ frames := 0, cells := 0, slots := 0, locals := 0 } : Room)) (fun av_ U => av_ = #[(.ref xo0_), (.int (4 : Int32)), (.int xi2_)] ∧ Z.Warmed39 U.vm ∧ U.heap = h0) (fun _ _ _ _ _ => True) (fun _ U o U' => ∃ v L, o = .returned v ∧ QA6 Z xo0_ xi2_ ui1_ ui2_ ui3_ ui4_ ui5_ ui6_ ui7_ ui8_ ui9_ k_xo0_ h0 n0 v U'.heap L ∧ FrameEnd U o U' L ({ frames := 0, cells := 0, slots := 0, locals := 0 } : Room).cells ({ frames := 0, cells := 0, slots := 0, locals := 0 } : Room).slots) := by
 refine MetFree.of_bodySF (plainFor_of_name own_pn0) hisR ?_
 intro p e s m args below meth c s₁ Bd hml0 hP hK
 obtain ⟨rfl, hZ, hh⟩ := hP
 have hx := Bd.exec
 have hby := Bd.bytes
 have hml : c.maxLocals = 3 := hml0
 have hown : s.vm.findClass "java/lang/StringUTF16" = some m.cls := findClass_of_methodNamed Bd.named
 have hnm := (name_of_methodNamed Bd.named Bd.method).1
 have X0 : Stand p l e ({ frames := 0, cells := 0, slots := 0, locals := 0 } : Room) s m #[(.ref xo0_), (.int (4 : Int32)), (.int xi2_)] below meth c s₁ [] 0 0 := Stand.of_body Bd
 have e0 : s₁.heap = h0 := by rw [← hh, Bd.state]; rfl
 have N0 := Fr.nil n0
 have pre0 : ∀ t, Steps p.tables e below (s₁.setTop (mkF m 0 #[.val (.ref xo0_), .val (.int (4 : Int32)), .val (.int xi2_)] [])) t → Steps p.tables e below (s₁.setTop (entryFrame m #[(.ref xo0_), (.int (4 : Int32)), (.int xi2_)] 3)) t := fun t k => castTop (efA6 m xo0_ xi2_) k
 obtain ⟨T1, X1, e1, st1⟩ := getS2 X0 hx hZ hown (host := "") (Or.inl (Wd hw 91 rfl)) Via.refl e0 (S__assertionsDisabled.ext X00.2) (g := (mkF m 0 #[.val (.ref xo0_), .val (.int (4 : Int32)), .val (.int xi2_)] [])) rfl (hb hby d20_0)
 obtain ⟨T2, X2, e2, st2⟩ := getS2 X1 hx hZ hown (host := "") (Or.inl (Wd hw 92 rfl)) Via.refl e1 (S_HI_BYTE_SHIFT.ext X00.2) (g := (mkF m 38 #[.val (.ref xo0_), .val (.int (9 : Int32)), .val (.int xi2_)] [(.int xi2_), (.int (8 : Int32)), (.ref xo0_)])) rfl (hb hby d20_38)
 obtain ⟨cl3, Ar3, q3, S3, M3, Hs3, G3⟩ := (id V_xo0_)
 have hin3 : ¬ ((8 : Int32) < 0 ∨ cl3.slots.size ≤ ((8 : Int32)).toNatClampNeg) := inb_of S3 ⟨by decide, hp0_⟩
 obtain ⟨T4, h4, X4, e4, W4, st4⟩ := stB X2 hx hZ e2 Ar3 (j := (8 : Int32)) hin3 (g := (mkF m 43 #[.val (.ref xo0_), .val (.int (9 : Int32)), .val (.int xi2_)] [(.int ((xi2_ >>> ((0 : Int32) &&& 31)).toInt8.toInt32)), (.int (8 : Int32)), (.ref xo0_)])) rfl rfl (hb hby d20_43)
 have V4 : Arv Z h4 xo0_ k_xo0_ .byte ui1_ [(.int ui2_), (.int ui3_), (.int ui4_), (.int ui5_), (.int ui6_), (.int ui7_), (.int ui8_), (.int ui9_), (.int (((xi2_ >>> ((0 : Int32) &&& 31)).toInt8.toInt32)).toInt8.toInt32), (.int (0 : Int32)), (.int (0 : Int32)), (.int (0 : Int32)), (.int (0 : Int32)), (.int (0 : Int32))] (.int (0 : Int32)) := Arv.set Ar3 q3 S3 M3 Hs3 G3 (fits_nar_byte _) W4 8 rfl (Nat.le_of_ble_eq_true rfl)
 have K4 : Keep h0 h4 [xo0_] := (Keep.refl h0 [xo0_]).wr W4 (Or.inl (List.mem_of_getElem? (i := 0) rfl))
 have Zs4 : n0 ≤ h4.size := Nat.le_trans Z0 (Keep.of_wr W4).1
 have N4 := Fr.snoc X4 N0 g_xo0_
 obtain ⟨T5, X5, e5, st5⟩ := getS2 X4 hx hZ hown (host := "") (Or.inl (Wd hw 93 rfl)) Via.refl e4 (S_LO_BYTE_SHIFT.ext (X00.keep K4 (allS g_xo0_ all0)).2) (g := (mkF m 47 #[.val (.ref xo0_), .val (.int (9 : Int32)), .val (.int xi2_)] [(.int xi2_), (.int (9 : Int32)), (.ref xo0_)])) rfl (hb hby d20_47)
 obtain ⟨cl6, Ar6, q6, S6, M6, Hs6, G6⟩ := (id V4)
 have hin6 : ¬ ((9 : Int32) < 0 ∨ cl6.slots.size ≤ ((9 : Int32)).toNatClampNeg) := inb_of S6 ⟨by decide, hp1_⟩
 obtain ⟨T7, h7, X7, e7, W7, st7⟩ := stB X5 hx hZ e5 Ar6 (j := (9 : Int32)) hin6 (g := (mkF m 52 #[.val (.ref xo0_), .val (.int (9 : Int32)), .val (.int xi2_)] [(.int ((xi2_ >>> ((8 : Int32) &&& 31)).toInt8.toInt32)), (.int (9 : Int32)), (.ref xo0_)])) rfl rfl (hb hby d20_52)
 have V7 : Arv Z h7 xo0_ k_xo0_ .byte ui1_ [(.int ui2_), (.int ui3_), (.int ui4_), (.int ui5_), (.int ui6_), (.int ui7_), (.int ui8_), (.int ui9_), (.int (((xi2_ >>> ((0 : Int32) &&& 31)).toInt8.toInt32)).toInt8.toInt32), (.int (((xi2_ >>> ((8 : Int32) &&& 31)).toInt8.toInt32)).toInt8.toInt32), (.int (0 : Int32)), (.int (0 : Int32)), (.int (0 : Int32)), (.int (0 : Int32))] (.int (0 : Int32)) := Arv.set Ar6 q6 S6 M6 Hs6 G6 (fits_nar_byte _) W7 9 rfl (Nat.le_of_ble_eq_true rfl)
 have K7 : Keep h0 h7 [xo0_] := K4.wr W7 (Or.inl (List.mem_of_getElem? (i := 0) rfl))
 have Zs7 : n0 ≤ h7.size := Nat.le_trans Zs4 (Keep.of_wr W7).1
 have N7 := Fr.snoc X7 N4 g_xo0_
 obtain ⟨fs, hr, hrun, hended, hW, hsame⟩ := X7.leave (v := none) (fun _ => rfl)
 refine ⟨_, _, (pre0 _ ?_), hrun, hended, _, _, rfl, ?_, ⟨_, rfl⟩, hW, hsame.mono (by decide) (by decide)⟩
 ·show Steps p.tables e below (s₁.setTop (mkF m 0 #[.val (.ref xo0_), .val (.int (4 : Int32)), .val (.int xi2_)] [])) _
  refine st1 _ ?_
  refine XS.ifYes X1.here hx rfl (pc0 := 3) (pc' := 28) rfl (hb hby d20_3) rfl ((if0 _ _).trans (feq (by decide : ¬ ((1 : Int32) = (0 : Int32)))).2) (by decide) (by decide) ?_
  refine XS.iloadN X1.here hx rfl (hb hby d20_28) rfl ?_
  refine XS.iconst X1.here hx rfl (hb hby d20_29) ?_
  show Steps p.tables e below (T1.setTop (mkF m 30 #[.val (.ref xo0_), .val (.int (4 : Int32)), .val (.int xi2_)] [(.int (1 : Int32)), (.int (4 : Int32))])) _
  refine XS.ishl X1.here hx rfl (hb hby d20_30) rfl ?_
  rw [show ((4 : Int32) <<< ((1 : Int32) &&& 31)) = (8 : Int32) from by decide]
  show Steps p.tables e below (T1.setTop (mkF m 31 #[.val (.ref xo0_), .val (.int (4 : Int32)), .val (.int xi2_)] [(.int (8 : Int32))])) _
  refine XS.istoreN X1.here hx rfl (hb hby d20_31) rfl (l' := #[.val (.ref xo0_), .val (.int (8 : Int32)), .val (.int xi2_)]) rfl ?_
  refine XS.aloadN X1.here hx rfl (hb hby d20_32) rfl rfl ?_
  refine XS.iloadN X1.here hx rfl (hb hby d20_33) rfl ?_
  refine XS.iinc X1.here hx rfl (hb hby d20_34) rfl (l' := #[.val (.ref xo0_), .val (.int (9 : Int32)), .val (.int xi2_)]) rfl ?_
  refine XS.iloadN X1.here hx rfl (hb hby d20_37) rfl ?_
  refine st2 _ ?_
  refine XS.ishr X2.here hx rfl (hb hby d20_41) rfl ?_
  refine XS.i2b X2.here hx rfl (hb hby d20_42) rfl ?_
  refine st4 _ ?_
  refine XS.aloadN X4.here hx rfl (hb hby d20_44) rfl rfl ?_
  refine XS.iloadN X4.here hx rfl (hb hby d20_45) rfl ?_
  refine XS.iloadN X4.here hx rfl (hb hby d20_46) rfl ?_
  refine st5 _ ?_
  refine XS.ishr X5.here hx rfl (hb hby d20_50) rfl ?_
  refine XS.i2b X5.here hx rfl (hb hby d20_51) rfl ?_
  refine st7 _ ?_
  exact X7.returnOut hx Bd.returns (hb hby d20_53) hr
 ·show QA6 Z xo0_ xi2_ ui1_ ui2_ ui3_ ui4_ ui5_ ui6_ ui7_ ui8_ ui9_ k_xo0_ h0 n0 _ T7.heap _
  rw [e7]
  exact ⟨rfl, N7, K7, V7⟩
theorem efA7 (m : MethodId) (xo0_ : Addr) (xi2_ : Int32) : entryFrame m #[(.ref xo0_), (.int (5 : Int32)), (.int xi2_)] 3 = mkF m 0 #[.val (.ref xo0_), .val (.int (5 : Int32)), .val (.int xi2_)] [] := by first | (simp [entryFrame, mkF, argsToLocals, Value.category]; done) | rfl
def QA7 (Z : State) (xo0_ : Addr) (xi2_ : Int32) (ui1_ : Int32) (ui2_ : Int32) (ui3_ : Int32) (ui4_ : Int32) (ui5_ : Int32) (ui6_ : Int32) (ui7_ : Int32) (ui8_ : Int32) (ui9_ : Int32) (ui10_ : Int32) (ui11_ : Int32) (k_xo0_ : ClassId) (h0 : Heap) (n0 : Nat) (v : Option Value) (h : Heap) (L : List Loc) : Prop := v = none ∧ Fr n0 L ∧ Keep h0 h [xo0_] ∧ Arv Z h xo0_ k_xo0_ .byte ui1_ [(.int ui2_), (.int ui3_), (.int ui4_), (.int ui5_), (.int ui6_), (.int ui7_), (.int ui8_), (.int ui9_), (.int ui10_), (.int ui11_), (.int (((xi2_ >>> ((0 : Int32) &&& 31)).toInt8.toInt32)).toInt8.toInt32), (.int (((xi2_ >>> ((8 : Int32) &&& 31)).toInt8.toInt32)).toInt8.toInt32), (.int (0 : Int32)), (.int (0 : Int32))] (.int (0 : Int32))
set_option maxRecDepth 65536 in
set_option maxHeartbeats 40000000 in
theorem rmA7 (l : Launch) (Z : State) (a0 : Array Value) (hw : ∀ d ∈ tables_1, d.before a0 Z = true) (ws : List Jvm.Cond) (xo0_ : Addr) (xi2_ : Int32) (ui1_ : Int32) (ui2_ : Int32) (ui3_ : Int32) (ui4_ : Int32) (ui5_ : Int32) (ui6_ : Int32) (ui7_ : Int32) (ui8_ : Int32) (ui9_ : Int32) (ui10_ : Int32) (ui11_ : Int32) (k_xo0_ : ClassId) (h0 : Heap) (n0 : Nat) (Z0 : n0 ≤ h0.size) (X00 : Old Z n0 h0) (S__assertionsDisabled : Sta Z Z.heap "java/lang/StringUTF16" "$assertionsDisabled" "Z" (.int (1 : Int32))) (S_HI_BYTE_SHIFT : Sta Z Z.heap "java/lang/StringUTF16" "HI_BYTE_SHIFT" "I" (.int (0 : Int32))) (V_xo0_ : Arv Z h0 xo0_ k_xo0_ .byte ui1_ [(.int ui2_), (.int ui3_), (.int ui4_), (.int ui5_), (.int ui6_), (.int ui7_), (.int ui8_), (.int ui9_), (.int ui10_), (.int ui11_), (.int (0 : Int32)), (.int (0 : Int32)), (.int (0 : Int32)), (.int (0 : Int32))] (.int (0 : Int32))) (hp0_ : (10 : Int32) < ui1_) (g_xo0_ : n0 ≤ xo0_) (S_LO_BYTE_SHIFT : Sta Z Z.heap "java/lang/StringUTF16" "LO_BYTE_SHIFT" "I" (.int (8 : Int32))) (hp1_ : (11 : Int32) < ui1_) :
  MetFree l (⟨"java/lang/StringUTF16", "putChar", "([BII)V"⟩ : MethodName) (head1 (Jvm.Cond.code (⟨"java/lang/StringUTF16", "putChar", "([BII)V"⟩ : MethodName) jdk_52_method_4_code 3 none :: ws) ({ frames := 0, cells := 0, slots := 0, locals := 0 } : Room)) (fun av_ U => av_ = #[(.ref xo0_), (.int (5 : Int32)), (.int xi2_)] ∧ Z.Warmed39 U.vm ∧ U.heap = h0) (fun _ _ _ _ _ => True) (fun _ U o U' => ∃ v L, o = .returned v ∧ QA7 Z xo0_ xi2_ ui1_ ui2_ ui3_ ui4_ ui5_ ui6_ ui7_ ui8_ ui9_ ui10_ ui11_ k_xo0_ h0 n0 v U'.heap L ∧ FrameEnd U o U' L ({ frames := 0, cells := 0, slots := 0, locals := 0 } : Room).cells ({ frames := 0, cells := 0, slots := 0, locals := 0 } : Room).slots) := by
 refine MetFree.of_bodySF (plainFor_of_name own_pn0) hisR ?_
 intro p e s m args below meth c s₁ Bd hml0 hP hK
 obtain ⟨rfl, hZ, hh⟩ := hP
 have hx := Bd.exec
 have hby := Bd.bytes
 have hml : c.maxLocals = 3 := hml0
 have hown : s.vm.findClass "java/lang/StringUTF16" = some m.cls := findClass_of_methodNamed Bd.named
 have hnm := (name_of_methodNamed Bd.named Bd.method).1
 have X0 : Stand p l e ({ frames := 0, cells := 0, slots := 0, locals := 0 } : Room) s m #[(.ref xo0_), (.int (5 : Int32)), (.int xi2_)] below meth c s₁ [] 0 0 := Stand.of_body Bd
 have e0 : s₁.heap = h0 := by rw [← hh, Bd.state]; rfl
 have N0 := Fr.nil n0
 have pre0 : ∀ t, Steps p.tables e below (s₁.setTop (mkF m 0 #[.val (.ref xo0_), .val (.int (5 : Int32)), .val (.int xi2_)] [])) t → Steps p.tables e below (s₁.setTop (entryFrame m #[(.ref xo0_), (.int (5 : Int32)), (.int xi2_)] 3)) t := fun t k => castTop (efA7 m xo0_ xi2_) k
 obtain ⟨T1, X1, e1, st1⟩ := getS2 X0 hx hZ hown (host := "") (Or.inl (Wd hw 91 rfl)) Via.refl e0 (S__assertionsDisabled.ext X00.2) (g := (mkF m 0 #[.val (.ref xo0_), .val (.int (5 : Int32)), .val (.int xi2_)] [])) rfl (hb hby d20_0)
 obtain ⟨T2, X2, e2, st2⟩ := getS2 X1 hx hZ hown (host := "") (Or.inl (Wd hw 92 rfl)) Via.refl e1 (S_HI_BYTE_SHIFT.ext X00.2) (g := (mkF m 38 #[.val (.ref xo0_), .val (.int (11 : Int32)), .val (.int xi2_)] [(.int xi2_), (.int (10 : Int32)), (.ref xo0_)])) rfl (hb hby d20_38)
 obtain ⟨cl3, Ar3, q3, S3, M3, Hs3, G3⟩ := (id V_xo0_)
 have hin3 : ¬ ((10 : Int32) < 0 ∨ cl3.slots.size ≤ ((10 : Int32)).toNatClampNeg) := inb_of S3 ⟨by decide, hp0_⟩
 obtain ⟨T4, h4, X4, e4, W4, st4⟩ := stB X2 hx hZ e2 Ar3 (j := (10 : Int32)) hin3 (g := (mkF m 43 #[.val (.ref xo0_), .val (.int (11 : Int32)), .val (.int xi2_)] [(.int ((xi2_ >>> ((0 : Int32) &&& 31)).toInt8.toInt32)), (.int (10 : Int32)), (.ref xo0_)])) rfl rfl (hb hby d20_43)
 have V4 : Arv Z h4 xo0_ k_xo0_ .byte ui1_ [(.int ui2_), (.int ui3_), (.int ui4_), (.int ui5_), (.int ui6_), (.int ui7_), (.int ui8_), (.int ui9_), (.int ui10_), (.int ui11_), (.int (((xi2_ >>> ((0 : Int32) &&& 31)).toInt8.toInt32)).toInt8.toInt32), (.int (0 : Int32)), (.int (0 : Int32)), (.int (0 : Int32))] (.int (0 : Int32)) := Arv.set Ar3 q3 S3 M3 Hs3 G3 (fits_nar_byte _) W4 10 rfl (Nat.le_of_ble_eq_true rfl)
 have K4 : Keep h0 h4 [xo0_] := (Keep.refl h0 [xo0_]).wr W4 (Or.inl (List.mem_of_getElem? (i := 0) rfl))
 have Zs4 : n0 ≤ h4.size := Nat.le_trans Z0 (Keep.of_wr W4).1
 have N4 := Fr.snoc X4 N0 g_xo0_
 obtain ⟨T5, X5, e5, st5⟩ := getS2 X4 hx hZ hown (host := "") (Or.inl (Wd hw 93 rfl)) Via.refl e4 (S_LO_BYTE_SHIFT.ext (X00.keep K4 (allS g_xo0_ all0)).2) (g := (mkF m 47 #[.val (.ref xo0_), .val (.int (11 : Int32)), .val (.int xi2_)] [(.int xi2_), (.int (11 : Int32)), (.ref xo0_)])) rfl (hb hby d20_47)
 obtain ⟨cl6, Ar6, q6, S6, M6, Hs6, G6⟩ := (id V4)
 have hin6 : ¬ ((11 : Int32) < 0 ∨ cl6.slots.size ≤ ((11 : Int32)).toNatClampNeg) := inb_of S6 ⟨by decide, hp1_⟩
 obtain ⟨T7, h7, X7, e7, W7, st7⟩ := stB X5 hx hZ e5 Ar6 (j := (11 : Int32)) hin6 (g := (mkF m 52 #[.val (.ref xo0_), .val (.int (11 : Int32)), .val (.int xi2_)] [(.int ((xi2_ >>> ((8 : Int32) &&& 31)).toInt8.toInt32)), (.int (11 : Int32)), (.ref xo0_)])) rfl rfl (hb hby d20_52)
 have V7 : Arv Z h7 xo0_ k_xo0_ .byte ui1_ [(.int ui2_), (.int ui3_), (.int ui4_), (.int ui5_), (.int ui6_), (.int ui7_), (.int ui8_), (.int ui9_), (.int ui10_), (.int ui11_), (.int (((xi2_ >>> ((0 : Int32) &&& 31)).toInt8.toInt32)).toInt8.toInt32), (.int (((xi2_ >>> ((8 : Int32) &&& 31)).toInt8.toInt32)).toInt8.toInt32), (.int (0 : Int32)), (.int (0 : Int32))] (.int (0 : Int32)) := Arv.set Ar6 q6 S6 M6 Hs6 G6 (fits_nar_byte _) W7 11 rfl (Nat.le_of_ble_eq_true rfl)
 have K7 : Keep h0 h7 [xo0_] := K4.wr W7 (Or.inl (List.mem_of_getElem? (i := 0) rfl))
 have Zs7 : n0 ≤ h7.size := Nat.le_trans Zs4 (Keep.of_wr W7).1
 have N7 := Fr.snoc X7 N4 g_xo0_
 obtain ⟨fs, hr, hrun, hended, hW, hsame⟩ := X7.leave (v := none) (fun _ => rfl)
 refine ⟨_, _, (pre0 _ ?_), hrun, hended, _, _, rfl, ?_, ⟨_, rfl⟩, hW, hsame.mono (by decide) (by decide)⟩
 ·show Steps p.tables e below (s₁.setTop (mkF m 0 #[.val (.ref xo0_), .val (.int (5 : Int32)), .val (.int xi2_)] [])) _
  refine st1 _ ?_
  refine XS.ifYes X1.here hx rfl (pc0 := 3) (pc' := 28) rfl (hb hby d20_3) rfl ((if0 _ _).trans (feq (by decide : ¬ ((1 : Int32) = (0 : Int32)))).2) (by decide) (by decide) ?_
  refine XS.iloadN X1.here hx rfl (hb hby d20_28) rfl ?_
  refine XS.iconst X1.here hx rfl (hb hby d20_29) ?_
  show Steps p.tables e below (T1.setTop (mkF m 30 #[.val (.ref xo0_), .val (.int (5 : Int32)), .val (.int xi2_)] [(.int (1 : Int32)), (.int (5 : Int32))])) _
  refine XS.ishl X1.here hx rfl (hb hby d20_30) rfl ?_
  rw [show ((5 : Int32) <<< ((1 : Int32) &&& 31)) = (10 : Int32) from by decide]
  show Steps p.tables e below (T1.setTop (mkF m 31 #[.val (.ref xo0_), .val (.int (5 : Int32)), .val (.int xi2_)] [(.int (10 : Int32))])) _
  refine XS.istoreN X1.here hx rfl (hb hby d20_31) rfl (l' := #[.val (.ref xo0_), .val (.int (10 : Int32)), .val (.int xi2_)]) rfl ?_
  refine XS.aloadN X1.here hx rfl (hb hby d20_32) rfl rfl ?_
  refine XS.iloadN X1.here hx rfl (hb hby d20_33) rfl ?_
  refine XS.iinc X1.here hx rfl (hb hby d20_34) rfl (l' := #[.val (.ref xo0_), .val (.int (11 : Int32)), .val (.int xi2_)]) rfl ?_
  refine XS.iloadN X1.here hx rfl (hb hby d20_37) rfl ?_
  refine st2 _ ?_
  refine XS.ishr X2.here hx rfl (hb hby d20_41) rfl ?_
  refine XS.i2b X2.here hx rfl (hb hby d20_42) rfl ?_
  refine st4 _ ?_
  refine XS.aloadN X4.here hx rfl (hb hby d20_44) rfl rfl ?_
  refine XS.iloadN X4.here hx rfl (hb hby d20_45) rfl ?_
  refine XS.iloadN X4.here hx rfl (hb hby d20_46) rfl ?_
  refine st5 _ ?_
  refine XS.ishr X5.here hx rfl (hb hby d20_50) rfl ?_
  refine XS.i2b X5.here hx rfl (hb hby d20_51) rfl ?_
  refine st7 _ ?_
  exact X7.returnOut hx Bd.returns (hb hby d20_53) hr
 ·show QA7 Z xo0_ xi2_ ui1_ ui2_ ui3_ ui4_ ui5_ ui6_ ui7_ ui8_ ui9_ ui10_ ui11_ k_xo0_ h0 n0 _ T7.heap _
  rw [e7]
  exact ⟨rfl, N7, K7, V7⟩
theorem efA8 (m : MethodId) (xo0_ : Addr) (xi2_ : Int32) : entryFrame m #[(.ref xo0_), (.int (6 : Int32)), (.int xi2_)] 3 = mkF m 0 #[.val (.ref xo0_), .val (.int (6 : Int32)), .val (.int xi2_)] [] := by first | (simp [entryFrame, mkF, argsToLocals, Value.category]; done) | rfl
def QA8 (Z : State) (xo0_ : Addr) (xi2_ : Int32) (ui1_ : Int32) (ui2_ : Int32) (ui3_ : Int32) (ui4_ : Int32) (ui5_ : Int32) (ui6_ : Int32) (ui7_ : Int32) (ui8_ : Int32) (ui9_ : Int32) (ui10_ : Int32) (ui11_ : Int32) (ui12_ : Int32) (ui13_ : Int32) (k_xo0_ : ClassId) (h0 : Heap) (n0 : Nat) (v : Option Value) (h : Heap) (L : List Loc) : Prop := v = none ∧ Fr n0 L ∧ Keep h0 h [xo0_] ∧ Arv Z h xo0_ k_xo0_ .byte ui1_ [(.int ui2_), (.int ui3_), (.int ui4_), (.int ui5_), (.int ui6_), (.int ui7_), (.int ui8_), (.int ui9_), (.int ui10_), (.int ui11_), (.int ui12_), (.int ui13_), (.int (((xi2_ >>> ((0 : Int32) &&& 31)).toInt8.toInt32)).toInt8.toInt32), (.int (((xi2_ >>> ((8 : Int32) &&& 31)).toInt8.toInt32)).toInt8.toInt32)] (.int (0 : Int32))
set_option maxRecDepth 65536 in
set_option maxHeartbeats 40000000 in
theorem rmA8 (l : Launch) (Z : State) (a0 : Array Value) (hw : ∀ d ∈ tables_1, d.before a0 Z = true) (ws : List Jvm.Cond) (xo0_ : Addr) (xi2_ : Int32) (ui1_ : Int32) (ui2_ : Int32) (ui3_ : Int32) (ui4_ : Int32) (ui5_ : Int32) (ui6_ : Int32) (ui7_ : Int32) (ui8_ : Int32) (ui9_ : Int32) (ui10_ : Int32) (ui11_ : Int32) (ui12_ : Int32) (ui13_ : Int32) (k_xo0_ : ClassId) (h0 : Heap) (n0 : Nat) (Z0 : n0 ≤ h0.size) (X00 : Old Z n0 h0) (S__assertionsDisabled : Sta Z Z.heap "java/lang/StringUTF16" "$assertionsDisabled" "Z" (.int (1 : Int32))) (S_HI_BYTE_SHIFT : Sta Z Z.heap "java/lang/StringUTF16" "HI_BYTE_SHIFT" "I" (.int (0 : Int32))) (V_xo0_ : Arv Z h0 xo0_ k_xo0_ .byte ui1_ [(.int ui2_), (.int ui3_), (.int ui4_), (.int ui5_), (.int ui6_), (.int ui7_), (.int ui8_), (.int ui9_), (.int ui10_), (.int ui11_), (.int ui12_), (.int ui13_), (.int (0 : Int32)), (.int (0 : Int32))] (.int (0 : Int32))) (hp0_ : (12 : Int32) < ui1_) (g_xo0_ : n0 ≤ xo0_) (S_LO_BYTE_SHIFT : Sta Z Z.heap "java/lang/StringUTF16" "LO_BYTE_SHIFT" "I" (.int (8 : Int32))) (hp1_ : (13 : Int32) < ui1_) :
  MetFree l (⟨"java/lang/StringUTF16", "putChar", "([BII)V"⟩ : MethodName) (head1 (Jvm.Cond.code (⟨"java/lang/StringUTF16", "putChar", "([BII)V"⟩ : MethodName) jdk_52_method_4_code 3 none :: ws) ({ frames := 0, cells := 0, slots := 0, locals := 0 } : Room)) (fun av_ U => av_ = #[(.ref xo0_), (.int (6 : Int32)), (.int xi2_)] ∧ Z.Warmed39 U.vm ∧ U.heap = h0) (fun _ _ _ _ _ => True) (fun _ U o U' => ∃ v L, o = .returned v ∧ QA8 Z xo0_ xi2_ ui1_ ui2_ ui3_ ui4_ ui5_ ui6_ ui7_ ui8_ ui9_ ui10_ ui11_ ui12_ ui13_ k_xo0_ h0 n0 v U'.heap L ∧ FrameEnd U o U' L ({ frames := 0, cells := 0, slots := 0, locals := 0 } : Room).cells ({ frames := 0, cells := 0, slots := 0, locals := 0 } : Room).slots) := by
 refine MetFree.of_bodySF (plainFor_of_name own_pn0) hisR ?_
 intro p e s m args below meth c s₁ Bd hml0 hP hK
 obtain ⟨rfl, hZ, hh⟩ := hP
 have hx := Bd.exec
 have hby := Bd.bytes
 have hml : c.maxLocals = 3 := hml0
 have hown : s.vm.findClass "java/lang/StringUTF16" = some m.cls := findClass_of_methodNamed Bd.named
 have hnm := (name_of_methodNamed Bd.named Bd.method).1
 have X0 : Stand p l e ({ frames := 0, cells := 0, slots := 0, locals := 0 } : Room) s m #[(.ref xo0_), (.int (6 : Int32)), (.int xi2_)] below meth c s₁ [] 0 0 := Stand.of_body Bd
 have e0 : s₁.heap = h0 := by rw [← hh, Bd.state]; rfl
 have N0 := Fr.nil n0
 have pre0 : ∀ t, Steps p.tables e below (s₁.setTop (mkF m 0 #[.val (.ref xo0_), .val (.int (6 : Int32)), .val (.int xi2_)] [])) t → Steps p.tables e below (s₁.setTop (entryFrame m #[(.ref xo0_), (.int (6 : Int32)), (.int xi2_)] 3)) t := fun t k => castTop (efA8 m xo0_ xi2_) k
 obtain ⟨T1, X1, e1, st1⟩ := getS2 X0 hx hZ hown (host := "") (Or.inl (Wd hw 91 rfl)) Via.refl e0 (S__assertionsDisabled.ext X00.2) (g := (mkF m 0 #[.val (.ref xo0_), .val (.int (6 : Int32)), .val (.int xi2_)] [])) rfl (hb hby d20_0)
 obtain ⟨T2, X2, e2, st2⟩ := getS2 X1 hx hZ hown (host := "") (Or.inl (Wd hw 92 rfl)) Via.refl e1 (S_HI_BYTE_SHIFT.ext X00.2) (g := (mkF m 38 #[.val (.ref xo0_), .val (.int (13 : Int32)), .val (.int xi2_)] [(.int xi2_), (.int (12 : Int32)), (.ref xo0_)])) rfl (hb hby d20_38)
 obtain ⟨cl3, Ar3, q3, S3, M3, Hs3, G3⟩ := (id V_xo0_)
 have hin3 : ¬ ((12 : Int32) < 0 ∨ cl3.slots.size ≤ ((12 : Int32)).toNatClampNeg) := inb_of S3 ⟨by decide, hp0_⟩
 obtain ⟨T4, h4, X4, e4, W4, st4⟩ := stB X2 hx hZ e2 Ar3 (j := (12 : Int32)) hin3 (g := (mkF m 43 #[.val (.ref xo0_), .val (.int (13 : Int32)), .val (.int xi2_)] [(.int ((xi2_ >>> ((0 : Int32) &&& 31)).toInt8.toInt32)), (.int (12 : Int32)), (.ref xo0_)])) rfl rfl (hb hby d20_43)
 have V4 : Arv Z h4 xo0_ k_xo0_ .byte ui1_ [(.int ui2_), (.int ui3_), (.int ui4_), (.int ui5_), (.int ui6_), (.int ui7_), (.int ui8_), (.int ui9_), (.int ui10_), (.int ui11_), (.int ui12_), (.int ui13_), (.int (((xi2_ >>> ((0 : Int32) &&& 31)).toInt8.toInt32)).toInt8.toInt32), (.int (0 : Int32))] (.int (0 : Int32)) := Arv.set Ar3 q3 S3 M3 Hs3 G3 (fits_nar_byte _) W4 12 rfl (Nat.le_of_ble_eq_true rfl)
 have K4 : Keep h0 h4 [xo0_] := (Keep.refl h0 [xo0_]).wr W4 (Or.inl (List.mem_of_getElem? (i := 0) rfl))
 have Zs4 : n0 ≤ h4.size := Nat.le_trans Z0 (Keep.of_wr W4).1
 have N4 := Fr.snoc X4 N0 g_xo0_
 obtain ⟨T5, X5, e5, st5⟩ := getS2 X4 hx hZ hown (host := "") (Or.inl (Wd hw 93 rfl)) Via.refl e4 (S_LO_BYTE_SHIFT.ext (X00.keep K4 (allS g_xo0_ all0)).2) (g := (mkF m 47 #[.val (.ref xo0_), .val (.int (13 : Int32)), .val (.int xi2_)] [(.int xi2_), (.int (13 : Int32)), (.ref xo0_)])) rfl (hb hby d20_47)
 obtain ⟨cl6, Ar6, q6, S6, M6, Hs6, G6⟩ := (id V4)
 have hin6 : ¬ ((13 : Int32) < 0 ∨ cl6.slots.size ≤ ((13 : Int32)).toNatClampNeg) := inb_of S6 ⟨by decide, hp1_⟩
 obtain ⟨T7, h7, X7, e7, W7, st7⟩ := stB X5 hx hZ e5 Ar6 (j := (13 : Int32)) hin6 (g := (mkF m 52 #[.val (.ref xo0_), .val (.int (13 : Int32)), .val (.int xi2_)] [(.int ((xi2_ >>> ((8 : Int32) &&& 31)).toInt8.toInt32)), (.int (13 : Int32)), (.ref xo0_)])) rfl rfl (hb hby d20_52)
 have V7 : Arv Z h7 xo0_ k_xo0_ .byte ui1_ [(.int ui2_), (.int ui3_), (.int ui4_), (.int ui5_), (.int ui6_), (.int ui7_), (.int ui8_), (.int ui9_), (.int ui10_), (.int ui11_), (.int ui12_), (.int ui13_), (.int (((xi2_ >>> ((0 : Int32) &&& 31)).toInt8.toInt32)).toInt8.toInt32), (.int (((xi2_ >>> ((8 : Int32) &&& 31)).toInt8.toInt32)).toInt8.toInt32)] (.int (0 : Int32)) := Arv.set Ar6 q6 S6 M6 Hs6 G6 (fits_nar_byte _) W7 13 rfl (Nat.le_of_ble_eq_true rfl)
 have K7 : Keep h0 h7 [xo0_] := K4.wr W7 (Or.inl (List.mem_of_getElem? (i := 0) rfl))
 have Zs7 : n0 ≤ h7.size := Nat.le_trans Zs4 (Keep.of_wr W7).1
 have N7 := Fr.snoc X7 N4 g_xo0_
 obtain ⟨fs, hr, hrun, hended, hW, hsame⟩ := X7.leave (v := none) (fun _ => rfl)
 refine ⟨_, _, (pre0 _ ?_), hrun, hended, _, _, rfl, ?_, ⟨_, rfl⟩, hW, hsame.mono (by decide) (by decide)⟩
 ·show Steps p.tables e below (s₁.setTop (mkF m 0 #[.val (.ref xo0_), .val (.int (6 : Int32)), .val (.int xi2_)] [])) _
  refine st1 _ ?_
  refine XS.ifYes X1.here hx rfl (pc0 := 3) (pc' := 28) rfl (hb hby d20_3) rfl ((if0 _ _).trans (feq (by decide : ¬ ((1 : Int32) = (0 : Int32)))).2) (by decide) (by decide) ?_
  refine XS.iloadN X1.here hx rfl (hb hby d20_28) rfl ?_
  refine XS.iconst X1.here hx rfl (hb hby d20_29) ?_
  show Steps p.tables e below (T1.setTop (mkF m 30 #[.val (.ref xo0_), .val (.int (6 : Int32)), .val (.int xi2_)] [(.int (1 : Int32)), (.int (6 : Int32))])) _
  refine XS.ishl X1.here hx rfl (hb hby d20_30) rfl ?_
  rw [show ((6 : Int32) <<< ((1 : Int32) &&& 31)) = (12 : Int32) from by decide]
  show Steps p.tables e below (T1.setTop (mkF m 31 #[.val (.ref xo0_), .val (.int (6 : Int32)), .val (.int xi2_)] [(.int (12 : Int32))])) _
  refine XS.istoreN X1.here hx rfl (hb hby d20_31) rfl (l' := #[.val (.ref xo0_), .val (.int (12 : Int32)), .val (.int xi2_)]) rfl ?_
  refine XS.aloadN X1.here hx rfl (hb hby d20_32) rfl rfl ?_
  refine XS.iloadN X1.here hx rfl (hb hby d20_33) rfl ?_
  refine XS.iinc X1.here hx rfl (hb hby d20_34) rfl (l' := #[.val (.ref xo0_), .val (.int (13 : Int32)), .val (.int xi2_)]) rfl ?_
  refine XS.iloadN X1.here hx rfl (hb hby d20_37) rfl ?_
  refine st2 _ ?_
  refine XS.ishr X2.here hx rfl (hb hby d20_41) rfl ?_
  refine XS.i2b X2.here hx rfl (hb hby d20_42) rfl ?_
  refine st4 _ ?_
  refine XS.aloadN X4.here hx rfl (hb hby d20_44) rfl rfl ?_
  refine XS.iloadN X4.here hx rfl (hb hby d20_45) rfl ?_
  refine XS.iloadN X4.here hx rfl (hb hby d20_46) rfl ?_
  refine st5 _ ?_
  refine XS.ishr X5.here hx rfl (hb hby d20_50) rfl ?_
  refine XS.i2b X5.here hx rfl (hb hby d20_51) rfl ?_
  refine st7 _ ?_
  exact X7.returnOut hx Bd.returns (hb hby d20_53) hr
 ·show QA8 Z xo0_ xi2_ ui1_ ui2_ ui3_ ui4_ ui5_ ui6_ ui7_ ui8_ ui9_ ui10_ ui11_ ui12_ ui13_ k_xo0_ h0 n0 _ T7.heap _
  rw [e7]
  exact ⟨rfl, N7, K7, V7⟩
theorem d17_0 : decode jdk_52_method_14_code 0 = .ok (.iload_n 2, 1) := by decide +kernel
theorem d17_1 : decode jdk_52_method_14_code 1 = .ok (.invokestatic 107, 3) := by decide +kernel
theorem d17_4 : decode jdk_52_method_14_code 4 = .ok (.astore_n 3, 1) := by decide +kernel
theorem d17_5 : decode jdk_52_method_14_code 5 = .ok (.iconst 0, 1) := by decide +kernel
theorem d17_6 : decode jdk_52_method_14_code 6 = .ok (.istore 4, 2) := by decide +kernel
theorem d17_8 : decode jdk_52_method_14_code 8 = .ok (.iload 4, 2) := by decide +kernel
theorem d17_10 : decode jdk_52_method_14_code 10 = .ok (.iload_n 2, 1) := by decide +kernel
theorem d17_11 : decode jdk_52_method_14_code 11 = .ok (.if_icmp .ge 21, 3) := by decide +kernel
theorem d17_14 : decode jdk_52_method_14_code 14 = .ok (.aload_n 3, 1) := by decide +kernel
theorem d17_15 : decode jdk_52_method_14_code 15 = .ok (.iload 4, 2) := by decide +kernel
theorem d17_17 : decode jdk_52_method_14_code 17 = .ok (.aload_n 0, 1) := by decide +kernel
theorem d17_18 : decode jdk_52_method_14_code 18 = .ok (.iload_n 1, 1) := by decide +kernel
theorem d17_19 : decode jdk_52_method_14_code 19 = .ok (.caload, 1) := by decide +kernel
theorem d17_20 : decode jdk_52_method_14_code 20 = .ok (.invokestatic 111, 3) := by decide +kernel
theorem d17_23 : decode jdk_52_method_14_code 23 = .ok (.iinc 1 1, 3) := by decide +kernel
theorem d17_26 : decode jdk_52_method_14_code 26 = .ok (.iinc 4 1, 3) := by decide +kernel
theorem d17_29 : decode jdk_52_method_14_code 29 = .ok (.goto (-21), 3) := by decide +kernel
theorem d17_32 : decode jdk_52_method_14_code 32 = .ok (.aload_n 3, 1) := by decide +kernel
theorem d17_33 : decode jdk_52_method_14_code 33 = .ok (.areturn, 1) := by decide +kernel
theorem efTB (m : MethodId) (a : Addr) (nn : Int32) : entryFrame m #[(.ref a), (.int (0 : Int32)), (.int nn)] 5 = mkF m 0 #[.val (.ref a), .val (.int (0 : Int32)), .val (.int nn), .unset, .unset] [] := by first | (simp [entryFrame, mkF, argsToLocals, Value.category]; done) | rfl
def QTB (Z : State) (a : Addr) (nn : Int32) (qa : Int32) (qb : Int32) (qc : Int32) (qd : Int32) (qe : Int32) (qf : Int32) (qg : Int32) (k_a : ClassId) (h0 : Heap) (n0 : Nat) (v : Option Value) (h : Heap) (L : List Loc) : Prop := ∃ rt : Addr, ∃ k_rt : ClassId, v = some (.ref rt) ∧ Fr n0 L ∧ Keep h0 h [] ∧ n0 ≤ rt ∧ h0.size ≤ rt ∧ Arv Z h rt k_rt .byte (nn <<< ((1 : Int32) &&& 31)) [(.int (own_w0 qa)), (.int (own_w1 qa)), (.int (own_w0 qb)), (.int (own_w1 qb)), (.int (own_w0 qc)), (.int (own_w1 qc)), (.int (own_w0 qd)), (.int (own_w1 qd)), (.int (own_w0 qe)), (.int (own_w1 qe)), (.int (own_w0 qf)), (.int (own_w1 qf)), (.int (own_w0 qg)), (.int (own_w1 qg))] (.int (0 : Int32))
set_option maxRecDepth 65536 in
set_option maxHeartbeats 40000000 in
theorem rmTB (l : Launch) (Z : State) (a0 : Array Value) (hw : ∀ d ∈ tables_1, d.before a0 Z = true) (ws : List Jvm.Cond) (a : Addr) (nn : Int32) (qa : Int32) (qb : Int32) (qc : Int32) (qd : Int32) (qe : Int32) (qf : Int32) (qg : Int32) (k_a : ClassId) (h0 : Heap) (n0 : Nat) (Z0 : n0 ≤ h0.size) (X00 : Old Z n0 h0) (S__assertionsDisabled : Sta Z Z.heap "java/lang/StringUTF16" "$assertionsDisabled" "Z" (.int (1 : Int32))) (S_HI_BYTE_SHIFT : Sta Z Z.heap "java/lang/StringUTF16" "HI_BYTE_SHIFT" "I" (.int (0 : Int32))) (S_LO_BYTE_SHIFT : Sta Z Z.heap "java/lang/StringUTF16" "LO_BYTE_SHIFT" "I" (.int (8 : Int32))) (V_a : Arv Z h0 a k_a .char nn [(.int qa), (.int qb), (.int qc), (.int qd), (.int qe), (.int qf), (.int qg)] (.int (0 : Int32))) (hn : 0 ≤ nn.toInt ∧ nn.toInt ≤ 7) :
  MetFree l (⟨"java/lang/StringUTF16", "toBytes", "([CII)[B"⟩ : MethodName) (head1 (Jvm.Cond.code (⟨"java/lang/StringUTF16", "toBytes", "([CII)[B"⟩ : MethodName) jdk_52_method_14_code 5 (some (.array .byte)) :: ws) ({ frames := 2, cells := 1, slots := 14, locals := 40 } : Room)) (fun av_ U => av_ = #[(.ref a), (.int (0 : Int32)), (.int nn)] ∧ Z.Warmed39 U.vm ∧ U.heap = h0) (fun _ _ _ _ _ => True) (fun _ U o U' => ∃ v L, o = .returned v ∧ QTB Z a nn qa qb qc qd qe qf qg k_a h0 n0 v U'.heap L ∧ FrameEnd U o U' L ({ frames := 2, cells := 1, slots := 14, locals := 40 } : Room).cells ({ frames := 2, cells := 1, slots := 14, locals := 40 } : Room).slots) := by
 refine MetFree.of_bodySF (plainFor_of_name own_pn0) hisR ?_
 intro p e s m args below meth c s₁ Bd hml0 hP hK
 obtain ⟨rfl, hZ, hh⟩ := hP
 have hx := Bd.exec
 have hby := Bd.bytes
 have hml : c.maxLocals = 5 := hml0
 have hown : s.vm.findClass "java/lang/StringUTF16" = some m.cls := findClass_of_methodNamed Bd.named
 have hnm := (name_of_methodNamed Bd.named Bd.method).1
 have X0 : Stand p l e ({ frames := 2, cells := 1, slots := 14, locals := 40 } : Room) s m #[(.ref a), (.int (0 : Int32)), (.int nn)] below meth c s₁ [] 0 0 := Stand.of_body Bd
 have e0 : s₁.heap = h0 := by rw [← hh, Bd.state]; rfl
 have N0 := Fr.nil n0
 have pre0 : ∀ t, Steps p.tables e below (s₁.setTop (mkF m 0 #[.val (.ref a), .val (.int (0 : Int32)), .val (.int nn), .unset, .unset] [])) t → Steps p.tables e below (s₁.setTop (entryFrame m #[(.ref a), (.int (0 : Int32)), (.int nn)] 5)) t := fun t k => castTop (efTB m a nn) k
 obtain ⟨_, _, ⟨T1, L1, k1, n1⟩, -, X1, ⟨Lc1, hQ1, l1, y1, z1⟩, st1⟩ := Jvm.LawKit.callS X0 hx (y := (⟨"java/lang/StringUTF16", "newBytesFor", "(I)[B"⟩ : MethodName)) hown (mvT hZ (Wd hw 81 rfl)) (mvT hZ (Wd hw 82 rfl)) (mvT hZ (Wd hw 48 rfl)) (mvT hZ (Wd hw 83 rfl)) (by decide) (backOf (W := 0) (rmA0 l Z a0 hw [] nn h0 n0 Z0 (own_nn0 hn) (own_big hn) (own_sz14 hn)) hZ (Wd hw 83 rfl) (Wd hw 48 rfl) (by decide) (by decide)) (g := (mkF m 1 #[.val (.ref a), .val (.int (0 : Int32)), .val (.int nn), .unset, .unset] [(.int nn)])) rfl (by rw [hml]; rfl) (argsL := [(.int nn)]) (rest := []) (lenOf own_pd1 rfl) rfl (by show 2 * 0 + _ ≤ _; exact Nat.le_of_eq rfl) (hb hby d17_1) (fun _ _ => ⟨rfl, e0, (by decide : 0 + 1 ≤ _), (by decide : 0 + 14 ≤ _)⟩)
 dsimp only [Pt.U, Pt.locs, Pt.cells, Pt.slots] at X1 l1 y1 z1 st1 hQ1
 subst l1 y1 z1
 obtain ⟨fb2_1, k_fb2_1, rfl, Nq1, Kc1, g_fb2_1, zq_fb2_1, q1_0⟩ := hQ1
 have sz_fb2_1 : h0.size ≤ fb2_1 := Nat.le_trans (Keep.refl h0 []).1 zq_fb2_1
 have ne_a_fb2_1 : a ≠ fb2_1 := Nat.ne_of_lt (Nat.lt_of_lt_of_le V_a.lt zq_fb2_1)
 have K1 : Keep h0 T1.heap [] := Keep.trans (Keep.refl h0 []) Kc1 all0
 have Zs1 : n0 ≤ T1.heap.size := Nat.le_trans Z0 Kc1.1
 have N1 := Fr.app N0 Nq1
 have r2 : ∀ t, Steps p.tables e below (T1.setTop (mkF m 11 #[.val (.ref a), .val (.int (0 : Int32)), .val (.int nn), .val (.ref fb2_1), .val (.int (0 : Int32))] [(.int nn), (.int (0 : Int32))])) t → Steps p.tables e below (s₁.setTop (mkF m 0 #[.val (.ref a), .val (.int (0 : Int32)), .val (.int nn), .unset, .unset] [])) t := fun t kt => by
  refine XS.iloadN X0.here hx rfl (hb hby d17_0) rfl ?_
  refine st1 _ ?_
  refine XS.astoreN X1.here hx rfl (hb hby d17_4) rfl rfl (l' := #[.val (.ref a), .val (.int (0 : Int32)), .val (.int nn), .val (.ref fb2_1), .unset]) rfl ?_
  refine XS.iconst X1.here hx rfl (hb hby d17_5) ?_
  refine XS.istore X1.here hx rfl (hb hby d17_6) rfl (l' := #[.val (.ref a), .val (.int (0 : Int32)), .val (.int nn), .val (.ref fb2_1), .val (.int (0 : Int32))]) rfl ?_
  refine XS.iload X1.here hx rfl (hb hby d17_8) rfl ?_
  refine XS.iloadN X1.here hx rfl (hb hby d17_10) rfl ?_
  exact kt
 by_cases hc3 : (0 : Int32) < nn
 ·obtain ⟨cl4, Ar4, q4, S4, M4, Hs4, G4⟩ := (V_a.keep Kc1 nin0)
  have hin4 : ¬ ((0 : Int32) < 0 ∨ cl4.slots.size ≤ ((0 : Int32)).toNatClampNeg) := inb_of S4 ⟨by decide, hc3⟩
  have hat4 : cl4.slots[((0 : Int32)).toNatClampNeg]? = some (.int qa) := Hs4.at hin4 rfl
  obtain ⟨_, _, ⟨T5, L5, k5, n5⟩, -, X5, ⟨Lc5, hQ5, l5, y5, z5⟩, st5⟩ := Jvm.LawKit.callS X1 hx (y := (⟨"java/lang/StringUTF16", "putChar", "([BII)V"⟩ : MethodName)) hown (mvT hZ (Wd hw 88 rfl)) (mvT hZ (Wd hw 89 rfl)) (mvT hZ (Wd hw 48 rfl)) (mvT hZ (Wd hw 90 rfl)) (by decide) (backOf (W := 0) (rmA2 l Z a0 hw [] fb2_1 qa (nn <<< ((1 : Int32) &&& 31)) k_fb2_1 T1.heap n0 Zs1 (X00.keep K1 all0) S__assertionsDisabled S_HI_BYTE_SHIFT q1_0 (own_sh2 hn hc3 (i := 0) (by decide) (by decide)) g_fb2_1 S_LO_BYTE_SHIFT (own_sh2 hn hc3 (i := 0) (by decide) (by decide))) hZ (Wd hw 90 rfl) (Wd hw 48 rfl) (by decide) (by decide)) (g := (mkF m 20 #[.val (.ref a), .val (.int (0 : Int32)), .val (.int nn), .val (.ref fb2_1), .val (.int (0 : Int32))] [(.int qa), (.int (0 : Int32)), (.ref fb2_1)])) rfl (by rw [hml]; rfl) (argsL := [(.ref fb2_1), (.int (0 : Int32)), (.int qa)]) (rest := []) (lenOf own_pd2 rfl) rfl (by show 2 * 0 + _ ≤ _; exact Nat.le_of_eq rfl) (hb hby d17_20) (fun _ _ => ⟨rfl, rfl, (by decide : 1 + 0 ≤ _), (by decide : 14 + 0 ≤ _)⟩)
  dsimp only [Pt.U, Pt.locs, Pt.cells, Pt.slots] at X5 l5 y5 z5 st5 hQ5
  subst l5 y5 z5
  obtain ⟨rfl, Nq5, Kc5, q5_0⟩ := hQ5
  have K5 : Keep h0 T5.heap [] := Keep.trans K1 Kc5 (allS (Or.inr sz_fb2_1) all0)
  have Zs5 : n0 ≤ T5.heap.size := Nat.le_trans Zs1 Kc5.1
  have N5 := Fr.app N1 Nq5
  have r6 : ∀ t, Steps p.tables e below (T5.setTop (mkF m 11 #[.val (.ref a), .val (.int (1 : Int32)), .val (.int nn), .val (.ref fb2_1), .val (.int (1 : Int32))] [(.int nn), (.int (1 : Int32))])) t → Steps p.tables e below (T1.setTop (mkF m 11 #[.val (.ref a), .val (.int (0 : Int32)), .val (.int nn), .val (.ref fb2_1), .val (.int (0 : Int32))] [(.int nn), (.int (0 : Int32))])) t := fun t kt => by
   refine XS.icmpNo X1.here hx rfl (hb hby d17_11) rfl (tlt hc3).2.1 ?_
   refine XS.aloadN X1.here hx rfl (hb hby d17_14) rfl rfl ?_
   refine XS.iload X1.here hx rfl (hb hby d17_15) rfl ?_
   refine XS.aloadN X1.here hx rfl (hb hby d17_17) rfl rfl ?_
   refine XS.iloadN X1.here hx rfl (hb hby d17_18) rfl ?_
   refine X1.caload hx (j := (0 : Int32)) (v := (.int qa)) Ar4.1 (State.isArrayOf_alike hZ.alike Ar4.2.1) Ar4.2.2 hin4 hat4 (g := (mkF m 19 #[.val (.ref a), .val (.int (0 : Int32)), .val (.int nn), .val (.ref fb2_1), .val (.int (0 : Int32))] [(.int (0 : Int32)), (.ref a), (.int (0 : Int32)), (.ref fb2_1)])) rfl rfl (hb hby d17_19) _ ?_
   refine st5 _ ?_
   refine XS.iinc X5.here hx rfl (hb hby d17_23) rfl (l' := #[.val (.ref a), .val (.int (1 : Int32)), .val (.int nn), .val (.ref fb2_1), .val (.int (0 : Int32))]) rfl ?_
   refine XS.iinc X5.here hx rfl (hb hby d17_26) rfl (l' := #[.val (.ref a), .val (.int (1 : Int32)), .val (.int nn), .val (.ref fb2_1), .val (.int (1 : Int32))]) rfl ?_
   refine XS.goto X5.here hx rfl (pc0 := 29) (pc' := 8) rfl (hb hby d17_29) (by decide) (by decide) ?_
   refine XS.iload X5.here hx rfl (hb hby d17_8) rfl ?_
   refine XS.iloadN X5.here hx rfl (hb hby d17_10) rfl ?_
   exact kt
  by_cases hc7 : (1 : Int32) < nn
  ·obtain ⟨cl8, Ar8, q8, S8, M8, Hs8, G8⟩ := ((V_a.keep Kc1 nin0).keep Kc5 (ninS ne_a_fb2_1 nin0))
   have hin8 : ¬ ((1 : Int32) < 0 ∨ cl8.slots.size ≤ ((1 : Int32)).toNatClampNeg) := inb_of S8 ⟨by decide, hc7⟩
   have hat8 : cl8.slots[((1 : Int32)).toNatClampNeg]? = some (.int qb) := Hs8.at hin8 rfl
   obtain ⟨_, _, ⟨T9, L9, k9, n9⟩, -, X9, ⟨Lc9, hQ9, l9, y9, z9⟩, st9⟩ := Jvm.LawKit.callS X5 hx (y := (⟨"java/lang/StringUTF16", "putChar", "([BII)V"⟩ : MethodName)) hown (mvT hZ (Wd hw 88 rfl)) (mvT hZ (Wd hw 89 rfl)) (mvT hZ (Wd hw 48 rfl)) (mvT hZ (Wd hw 90 rfl)) (by decide) (backOf (W := 0) (rmA3 l Z a0 hw [] fb2_1 qb (nn <<< ((1 : Int32) &&& 31)) ((((qa >>> ((0 : Int32) &&& 31)).toInt8.toInt32)).toInt8.toInt32) ((((qa >>> ((8 : Int32) &&& 31)).toInt8.toInt32)).toInt8.toInt32) k_fb2_1 T5.heap n0 Zs5 (X00.keep K5 all0) S__assertionsDisabled S_HI_BYTE_SHIFT q5_0 (own_sh2 hn hc7 (i := 1) (by decide) (by decide)) g_fb2_1 S_LO_BYTE_SHIFT (own_sh2 hn hc7 (i := 1) (by decide) (by decide))) hZ (Wd hw 90 rfl) (Wd hw 48 rfl) (by decide) (by decide)) (g := (mkF m 20 #[.val (.ref a), .val (.int (1 : Int32)), .val (.int nn), .val (.ref fb2_1), .val (.int (1 : Int32))] [(.int qb), (.int (1 : Int32)), (.ref fb2_1)])) rfl (by rw [hml]; rfl) (argsL := [(.ref fb2_1), (.int (1 : Int32)), (.int qb)]) (rest := []) (lenOf own_pd2 rfl) rfl (by show 2 * 0 + _ ≤ _; exact Nat.le_of_eq rfl) (hb hby d17_20) (fun _ _ => ⟨rfl, rfl, (by decide : 1 + 0 ≤ _), (by decide : 14 + 0 ≤ _)⟩)
   dsimp only [Pt.U, Pt.locs, Pt.cells, Pt.slots] at X9 l9 y9 z9 st9 hQ9
   subst l9 y9 z9
   obtain ⟨rfl, Nq9, Kc9, q9_0⟩ := hQ9
   have K9 : Keep h0 T9.heap [] := Keep.trans K5 Kc9 (allS (Or.inr sz_fb2_1) all0)
   have Zs9 : n0 ≤ T9.heap.size := Nat.le_trans Zs5 Kc9.1
   have N9 := Fr.app N5 Nq9
   have r10 : ∀ t, Steps p.tables e below (T9.setTop (mkF m 11 #[.val (.ref a), .val (.int (2 : Int32)), .val (.int nn), .val (.ref fb2_1), .val (.int (2 : Int32))] [(.int nn), (.int (2 : Int32))])) t → Steps p.tables e below (T5.setTop (mkF m 11 #[.val (.ref a), .val (.int (1 : Int32)), .val (.int nn), .val (.ref fb2_1), .val (.int (1 : Int32))] [(.int nn), (.int (1 : Int32))])) t := fun t kt => by
    refine XS.icmpNo X5.here hx rfl (hb hby d17_11) rfl (tlt hc7).2.1 ?_
    refine XS.aloadN X5.here hx rfl (hb hby d17_14) rfl rfl ?_
    refine XS.iload X5.here hx rfl (hb hby d17_15) rfl ?_
    refine XS.aloadN X5.here hx rfl (hb hby d17_17) rfl rfl ?_
    refine XS.iloadN X5.here hx rfl (hb hby d17_18) rfl ?_
    refine X5.caload hx (j := (1 : Int32)) (v := (.int qb)) Ar8.1 (State.isArrayOf_alike hZ.alike Ar8.2.1) Ar8.2.2 hin8 hat8 (g := (mkF m 19 #[.val (.ref a), .val (.int (1 : Int32)), .val (.int nn), .val (.ref fb2_1), .val (.int (1 : Int32))] [(.int (1 : Int32)), (.ref a), (.int (1 : Int32)), (.ref fb2_1)])) rfl rfl (hb hby d17_19) _ ?_
    refine st9 _ ?_
    refine XS.iinc X9.here hx rfl (hb hby d17_23) rfl (l' := #[.val (.ref a), .val (.int (2 : Int32)), .val (.int nn), .val (.ref fb2_1), .val (.int (1 : Int32))]) rfl ?_
    refine XS.iinc X9.here hx rfl (hb hby d17_26) rfl (l' := #[.val (.ref a), .val (.int (2 : Int32)), .val (.int nn), .val (.ref fb2_1), .val (.int (2 : Int32))]) rfl ?_
    refine XS.goto X9.here hx rfl (pc0 := 29) (pc' := 8) rfl (hb hby d17_29) (by decide) (by decide) ?_
    refine XS.iload X9.here hx rfl (hb hby d17_8) rfl ?_
    refine XS.iloadN X9.here hx rfl (hb hby d17_10) rfl ?_
    exact kt
   by_cases hc11 : (2 : Int32) < nn
   ·obtain ⟨cl12, Ar12, q12, S12, M12, Hs12, G12⟩ := (((V_a.keep Kc1 nin0).keep Kc5 (ninS ne_a_fb2_1 nin0)).keep Kc9 (ninS ne_a_fb2_1 nin0))
    have hin12 : ¬ ((2 : Int32) < 0 ∨ cl12.slots.size ≤ ((2 : Int32)).toNatClampNeg) := inb_of S12 ⟨by decide, hc11⟩
    have hat12 : cl12.slots[((2 : Int32)).toNatClampNeg]? = some (.int qc) := Hs12.at hin12 rfl
    obtain ⟨_, _, ⟨T13, L13, k13, n13⟩, -, X13, ⟨Lc13, hQ13, l13, y13, z13⟩, st13⟩ := Jvm.LawKit.callS X9 hx (y := (⟨"java/lang/StringUTF16", "putChar", "([BII)V"⟩ : MethodName)) hown (mvT hZ (Wd hw 88 rfl)) (mvT hZ (Wd hw 89 rfl)) (mvT hZ (Wd hw 48 rfl)) (mvT hZ (Wd hw 90 rfl)) (by decide) (backOf (W := 0) (rmA4 l Z a0 hw [] fb2_1 qc (nn <<< ((1 : Int32) &&& 31)) ((((qa >>> ((0 : Int32) &&& 31)).toInt8.toInt32)).toInt8.toInt32) ((((qa >>> ((8 : Int32) &&& 31)).toInt8.toInt32)).toInt8.toInt32) ((((qb >>> ((0 : Int32) &&& 31)).toInt8.toInt32)).toInt8.toInt32) ((((qb >>> ((8 : Int32) &&& 31)).toInt8.toInt32)).toInt8.toInt32) k_fb2_1 T9.heap n0 Zs9 (X00.keep K9 all0) S__assertionsDisabled S_HI_BYTE_SHIFT q9_0 (own_sh2 hn hc11 (i := 2) (by decide) (by decide)) g_fb2_1 S_LO_BYTE_SHIFT (own_sh2 hn hc11 (i := 2) (by decide) (by decide))) hZ (Wd hw 90 rfl) (Wd hw 48 rfl) (by decide) (by decide)) (g := (mkF m 20 #[.val (.ref a), .val (.int (2 : Int32)), .val (.int nn), .val (.ref fb2_1), .val (.int (2 : Int32))] [(.int qc), (.int (2 : Int32)), (.ref fb2_1)])) rfl (by rw [hml]; rfl) (argsL := [(.ref fb2_1), (.int (2 : Int32)), (.int qc)]) (rest := []) (lenOf own_pd2 rfl) rfl (by show 2 * 0 + _ ≤ _; exact Nat.le_of_eq rfl) (hb hby d17_20) (fun _ _ => ⟨rfl, rfl, (by decide : 1 + 0 ≤ _), (by decide : 14 + 0 ≤ _)⟩)
    dsimp only [Pt.U, Pt.locs, Pt.cells, Pt.slots] at X13 l13 y13 z13 st13 hQ13
    subst l13 y13 z13
    obtain ⟨rfl, Nq13, Kc13, q13_0⟩ := hQ13
    have K13 : Keep h0 T13.heap [] := Keep.trans K9 Kc13 (allS (Or.inr sz_fb2_1) all0)
    have Zs13 : n0 ≤ T13.heap.size := Nat.le_trans Zs9 Kc13.1
    have N13 := Fr.app N9 Nq13
    have r14 : ∀ t, Steps p.tables e below (T13.setTop (mkF m 11 #[.val (.ref a), .val (.int (3 : Int32)), .val (.int nn), .val (.ref fb2_1), .val (.int (3 : Int32))] [(.int nn), (.int (3 : Int32))])) t → Steps p.tables e below (T9.setTop (mkF m 11 #[.val (.ref a), .val (.int (2 : Int32)), .val (.int nn), .val (.ref fb2_1), .val (.int (2 : Int32))] [(.int nn), (.int (2 : Int32))])) t := fun t kt => by
     refine XS.icmpNo X9.here hx rfl (hb hby d17_11) rfl (tlt hc11).2.1 ?_
     refine XS.aloadN X9.here hx rfl (hb hby d17_14) rfl rfl ?_
     refine XS.iload X9.here hx rfl (hb hby d17_15) rfl ?_
     refine XS.aloadN X9.here hx rfl (hb hby d17_17) rfl rfl ?_
     refine XS.iloadN X9.here hx rfl (hb hby d17_18) rfl ?_
     refine X9.caload hx (j := (2 : Int32)) (v := (.int qc)) Ar12.1 (State.isArrayOf_alike hZ.alike Ar12.2.1) Ar12.2.2 hin12 hat12 (g := (mkF m 19 #[.val (.ref a), .val (.int (2 : Int32)), .val (.int nn), .val (.ref fb2_1), .val (.int (2 : Int32))] [(.int (2 : Int32)), (.ref a), (.int (2 : Int32)), (.ref fb2_1)])) rfl rfl (hb hby d17_19) _ ?_
     refine st13 _ ?_
     refine XS.iinc X13.here hx rfl (hb hby d17_23) rfl (l' := #[.val (.ref a), .val (.int (3 : Int32)), .val (.int nn), .val (.ref fb2_1), .val (.int (2 : Int32))]) rfl ?_
     refine XS.iinc X13.here hx rfl (hb hby d17_26) rfl (l' := #[.val (.ref a), .val (.int (3 : Int32)), .val (.int nn), .val (.ref fb2_1), .val (.int (3 : Int32))]) rfl ?_
     refine XS.goto X13.here hx rfl (pc0 := 29) (pc' := 8) rfl (hb hby d17_29) (by decide) (by decide) ?_
     refine XS.iload X13.here hx rfl (hb hby d17_8) rfl ?_
     refine XS.iloadN X13.here hx rfl (hb hby d17_10) rfl ?_
     exact kt
    by_cases hc15 : (3 : Int32) < nn
    ·obtain ⟨cl16, Ar16, q16, S16, M16, Hs16, G16⟩ := ((((V_a.keep Kc1 nin0).keep Kc5 (ninS ne_a_fb2_1 nin0)).keep Kc9 (ninS ne_a_fb2_1 nin0)).keep Kc13 (ninS ne_a_fb2_1 nin0))
     have hin16 : ¬ ((3 : Int32) < 0 ∨ cl16.slots.size ≤ ((3 : Int32)).toNatClampNeg) := inb_of S16 ⟨by decide, hc15⟩
     have hat16 : cl16.slots[((3 : Int32)).toNatClampNeg]? = some (.int qd) := Hs16.at hin16 rfl
     obtain ⟨_, _, ⟨T17, L17, k17, n17⟩, -, X17, ⟨Lc17, hQ17, l17, y17, z17⟩, st17⟩ := Jvm.LawKit.callS X13 hx (y := (⟨"java/lang/StringUTF16", "putChar", "([BII)V"⟩ : MethodName)) hown (mvT hZ (Wd hw 88 rfl)) (mvT hZ (Wd hw 89 rfl)) (mvT hZ (Wd hw 48 rfl)) (mvT hZ (Wd hw 90 rfl)) (by decide) (backOf (W := 0) (rmA5 l Z a0 hw [] fb2_1 qd (nn <<< ((1 : Int32) &&& 31)) ((((qa >>> ((0 : Int32) &&& 31)).toInt8.toInt32)).toInt8.toInt32) ((((qa >>> ((8 : Int32) &&& 31)).toInt8.toInt32)).toInt8.toInt32) ((((qb >>> ((0 : Int32) &&& 31)).toInt8.toInt32)).toInt8.toInt32) ((((qb >>> ((8 : Int32) &&& 31)).toInt8.toInt32)).toInt8.toInt32) ((((qc >>> ((0 : Int32) &&& 31)).toInt8.toInt32)).toInt8.toInt32) ((((qc >>> ((8 : Int32) &&& 31)).toInt8.toInt32)).toInt8.toInt32) k_fb2_1 T13.heap n0 Zs13 (X00.keep K13 all0) S__assertionsDisabled S_HI_BYTE_SHIFT q13_0 (own_sh2 hn hc15 (i := 3) (by decide) (by decide)) g_fb2_1 S_LO_BYTE_SHIFT (own_sh2 hn hc15 (i := 3) (by decide) (by decide))) hZ (Wd hw 90 rfl) (Wd hw 48 rfl) (by decide) (by decide)) (g := (mkF m 20 #[.val (.ref a), .val (.int (3 : Int32)), .val (.int nn), .val (.ref fb2_1), .val (.int (3 : Int32))] [(.int qd), (.int (3 : Int32)), (.ref fb2_1)])) rfl (by rw [hml]; rfl) (argsL := [(.ref fb2_1), (.int (3 : Int32)), (.int qd)]) (rest := []) (lenOf own_pd2 rfl) rfl (by show 2 * 0 + _ ≤ _; exact Nat.le_of_eq rfl) (hb hby d17_20) (fun _ _ => ⟨rfl, rfl, (by decide : 1 + 0 ≤ _), (by decide : 14 + 0 ≤ _)⟩)
     dsimp only [Pt.U, Pt.locs, Pt.cells, Pt.slots] at X17 l17 y17 z17 st17 hQ17
     subst l17 y17 z17
     obtain ⟨rfl, Nq17, Kc17, q17_0⟩ := hQ17
     have K17 : Keep h0 T17.heap [] := Keep.trans K13 Kc17 (allS (Or.inr sz_fb2_1) all0)
     have Zs17 : n0 ≤ T17.heap.size := Nat.le_trans Zs13 Kc17.1
     have N17 := Fr.app N13 Nq17
     have r18 : ∀ t, Steps p.tables e below (T17.setTop (mkF m 11 #[.val (.ref a), .val (.int (4 : Int32)), .val (.int nn), .val (.ref fb2_1), .val (.int (4 : Int32))] [(.int nn), (.int (4 : Int32))])) t → Steps p.tables e below (T13.setTop (mkF m 11 #[.val (.ref a), .val (.int (3 : Int32)), .val (.int nn), .val (.ref fb2_1), .val (.int (3 : Int32))] [(.int nn), (.int (3 : Int32))])) t := fun t kt => by
      refine XS.icmpNo X13.here hx rfl (hb hby d17_11) rfl (tlt hc15).2.1 ?_
      refine XS.aloadN X13.here hx rfl (hb hby d17_14) rfl rfl ?_
      refine XS.iload X13.here hx rfl (hb hby d17_15) rfl ?_
      refine XS.aloadN X13.here hx rfl (hb hby d17_17) rfl rfl ?_
      refine XS.iloadN X13.here hx rfl (hb hby d17_18) rfl ?_
      refine X13.caload hx (j := (3 : Int32)) (v := (.int qd)) Ar16.1 (State.isArrayOf_alike hZ.alike Ar16.2.1) Ar16.2.2 hin16 hat16 (g := (mkF m 19 #[.val (.ref a), .val (.int (3 : Int32)), .val (.int nn), .val (.ref fb2_1), .val (.int (3 : Int32))] [(.int (3 : Int32)), (.ref a), (.int (3 : Int32)), (.ref fb2_1)])) rfl rfl (hb hby d17_19) _ ?_
      refine st17 _ ?_
      refine XS.iinc X17.here hx rfl (hb hby d17_23) rfl (l' := #[.val (.ref a), .val (.int (4 : Int32)), .val (.int nn), .val (.ref fb2_1), .val (.int (3 : Int32))]) rfl ?_
      refine XS.iinc X17.here hx rfl (hb hby d17_26) rfl (l' := #[.val (.ref a), .val (.int (4 : Int32)), .val (.int nn), .val (.ref fb2_1), .val (.int (4 : Int32))]) rfl ?_
      refine XS.goto X17.here hx rfl (pc0 := 29) (pc' := 8) rfl (hb hby d17_29) (by decide) (by decide) ?_
      refine XS.iload X17.here hx rfl (hb hby d17_8) rfl ?_
      refine XS.iloadN X17.here hx rfl (hb hby d17_10) rfl ?_
      exact kt
     by_cases hc19 : (4 : Int32) < nn
     ·obtain ⟨cl20, Ar20, q20, S20, M20, Hs20, G20⟩ := (((((V_a.keep Kc1 nin0).keep Kc5 (ninS ne_a_fb2_1 nin0)).keep Kc9 (ninS ne_a_fb2_1 nin0)).keep Kc13 (ninS ne_a_fb2_1 nin0)).keep Kc17 (ninS ne_a_fb2_1 nin0))
      have hin20 : ¬ ((4 : Int32) < 0 ∨ cl20.slots.size ≤ ((4 : Int32)).toNatClampNeg) := inb_of S20 ⟨by decide, hc19⟩
      have hat20 : cl20.slots[((4 : Int32)).toNatClampNeg]? = some (.int qe) := Hs20.at hin20 rfl
      obtain ⟨_, _, ⟨T21, L21, k21, n21⟩, -, X21, ⟨Lc21, hQ21, l21, y21, z21⟩, st21⟩ := Jvm.LawKit.callS X17 hx (y := (⟨"java/lang/StringUTF16", "putChar", "([BII)V"⟩ : MethodName)) hown (mvT hZ (Wd hw 88 rfl)) (mvT hZ (Wd hw 89 rfl)) (mvT hZ (Wd hw 48 rfl)) (mvT hZ (Wd hw 90 rfl)) (by decide) (backOf (W := 0) (rmA6 l Z a0 hw [] fb2_1 qe (nn <<< ((1 : Int32) &&& 31)) ((((qa >>> ((0 : Int32) &&& 31)).toInt8.toInt32)).toInt8.toInt32) ((((qa >>> ((8 : Int32) &&& 31)).toInt8.toInt32)).toInt8.toInt32) ((((qb >>> ((0 : Int32) &&& 31)).toInt8.toInt32)).toInt8.toInt32) ((((qb >>> ((8 : Int32) &&& 31)).toInt8.toInt32)).toInt8.toInt32) ((((qc >>> ((0 : Int32) &&& 31)).toInt8.toInt32)).toInt8.toInt32) ((((qc >>> ((8 : Int32) &&& 31)).toInt8.toInt32)).toInt8.toInt32) ((((qd >>> ((0 : Int32) &&& 31)).toInt8.toInt32)).toInt8.toInt32) ((((qd >>> ((8 : Int32) &&& 31)).toInt8.toInt32)).toInt8.toInt32) k_fb2_1 T17.heap n0 Zs17 (X00.keep K17 all0) S__assertionsDisabled S_HI_BYTE_SHIFT q17_0 (own_sh2 hn hc19 (i := 4) (by decide) (by decide)) g_fb2_1 S_LO_BYTE_SHIFT (own_sh2 hn hc19 (i := 4) (by decide) (by decide))) hZ (Wd hw 90 rfl) (Wd hw 48 rfl) (by decide) (by decide)) (g := (mkF m 20 #[.val (.ref a), .val (.int (4 : Int32)), .val (.int nn), .val (.ref fb2_1), .val (.int (4 : Int32))] [(.int qe), (.int (4 : Int32)), (.ref fb2_1)])) rfl (by rw [hml]; rfl) (argsL := [(.ref fb2_1), (.int (4 : Int32)), (.int qe)]) (rest := []) (lenOf own_pd2 rfl) rfl (by show 2 * 0 + _ ≤ _; exact Nat.le_of_eq rfl) (hb hby d17_20) (fun _ _ => ⟨rfl, rfl, (by decide : 1 + 0 ≤ _), (by decide : 14 + 0 ≤ _)⟩)
      dsimp only [Pt.U, Pt.locs, Pt.cells, Pt.slots] at X21 l21 y21 z21 st21 hQ21
      subst l21 y21 z21
      obtain ⟨rfl, Nq21, Kc21, q21_0⟩ := hQ21
      have K21 : Keep h0 T21.heap [] := Keep.trans K17 Kc21 (allS (Or.inr sz_fb2_1) all0)
      have Zs21 : n0 ≤ T21.heap.size := Nat.le_trans Zs17 Kc21.1
      have N21 := Fr.app N17 Nq21
      have r22 : ∀ t, Steps p.tables e below (T21.setTop (mkF m 11 #[.val (.ref a), .val (.int (5 : Int32)), .val (.int nn), .val (.ref fb2_1), .val (.int (5 : Int32))] [(.int nn), (.int (5 : Int32))])) t → Steps p.tables e below (T17.setTop (mkF m 11 #[.val (.ref a), .val (.int (4 : Int32)), .val (.int nn), .val (.ref fb2_1), .val (.int (4 : Int32))] [(.int nn), (.int (4 : Int32))])) t := fun t kt => by
       refine XS.icmpNo X17.here hx rfl (hb hby d17_11) rfl (tlt hc19).2.1 ?_
       refine XS.aloadN X17.here hx rfl (hb hby d17_14) rfl rfl ?_
       refine XS.iload X17.here hx rfl (hb hby d17_15) rfl ?_
       refine XS.aloadN X17.here hx rfl (hb hby d17_17) rfl rfl ?_
       refine XS.iloadN X17.here hx rfl (hb hby d17_18) rfl ?_
       refine X17.caload hx (j := (4 : Int32)) (v := (.int qe)) Ar20.1 (State.isArrayOf_alike hZ.alike Ar20.2.1) Ar20.2.2 hin20 hat20 (g := (mkF m 19 #[.val (.ref a), .val (.int (4 : Int32)), .val (.int nn), .val (.ref fb2_1), .val (.int (4 : Int32))] [(.int (4 : Int32)), (.ref a), (.int (4 : Int32)), (.ref fb2_1)])) rfl rfl (hb hby d17_19) _ ?_
       refine st21 _ ?_
       refine XS.iinc X21.here hx rfl (hb hby d17_23) rfl (l' := #[.val (.ref a), .val (.int (5 : Int32)), .val (.int nn), .val (.ref fb2_1), .val (.int (4 : Int32))]) rfl ?_
       refine XS.iinc X21.here hx rfl (hb hby d17_26) rfl (l' := #[.val (.ref a), .val (.int (5 : Int32)), .val (.int nn), .val (.ref fb2_1), .val (.int (5 : Int32))]) rfl ?_
       refine XS.goto X21.here hx rfl (pc0 := 29) (pc' := 8) rfl (hb hby d17_29) (by decide) (by decide) ?_
       refine XS.iload X21.here hx rfl (hb hby d17_8) rfl ?_
       refine XS.iloadN X21.here hx rfl (hb hby d17_10) rfl ?_
       exact kt
      by_cases hc23 : (5 : Int32) < nn
      ·obtain ⟨cl24, Ar24, q24, S24, M24, Hs24, G24⟩ := ((((((V_a.keep Kc1 nin0).keep Kc5 (ninS ne_a_fb2_1 nin0)).keep Kc9 (ninS ne_a_fb2_1 nin0)).keep Kc13 (ninS ne_a_fb2_1 nin0)).keep Kc17 (ninS ne_a_fb2_1 nin0)).keep Kc21 (ninS ne_a_fb2_1 nin0))
       have hin24 : ¬ ((5 : Int32) < 0 ∨ cl24.slots.size ≤ ((5 : Int32)).toNatClampNeg) := inb_of S24 ⟨by decide, hc23⟩
       have hat24 : cl24.slots[((5 : Int32)).toNatClampNeg]? = some (.int qf) := Hs24.at hin24 rfl
       obtain ⟨_, _, ⟨T25, L25, k25, n25⟩, -, X25, ⟨Lc25, hQ25, l25, y25, z25⟩, st25⟩ := Jvm.LawKit.callS X21 hx (y := (⟨"java/lang/StringUTF16", "putChar", "([BII)V"⟩ : MethodName)) hown (mvT hZ (Wd hw 88 rfl)) (mvT hZ (Wd hw 89 rfl)) (mvT hZ (Wd hw 48 rfl)) (mvT hZ (Wd hw 90 rfl)) (by decide) (backOf (W := 0) (rmA7 l Z a0 hw [] fb2_1 qf (nn <<< ((1 : Int32) &&& 31)) ((((qa >>> ((0 : Int32) &&& 31)).toInt8.toInt32)).toInt8.toInt32) ((((qa >>> ((8 : Int32) &&& 31)).toInt8.toInt32)).toInt8.toInt32) ((((qb >>> ((0 : Int32) &&& 31)).toInt8.toInt32)).toInt8.toInt32) ((((qb >>> ((8 : Int32) &&& 31)).toInt8.toInt32)).toInt8.toInt32) ((((qc >>> ((0 : Int32) &&& 31)).toInt8.toInt32)).toInt8.toInt32) ((((qc >>> ((8 : Int32) &&& 31)).toInt8.toInt32)).toInt8.toInt32) ((((qd >>> ((0 : Int32) &&& 31)).toInt8.toInt32)).toInt8.toInt32) ((((qd >>> ((8 : Int32) &&& 31)).toInt8.toInt32)).toInt8.toInt32) ((((qe >>> ((0 : Int32) &&& 31)).toInt8.toInt32)).toInt8.toInt32) ((((qe >>> ((8 : Int32) &&& 31)).toInt8.toInt32)).toInt8.toInt32) k_fb2_1 T21.heap n0 Zs21 (X00.keep K21 all0) S__assertionsDisabled S_HI_BYTE_SHIFT q21_0 (own_sh2 hn hc23 (i := 5) (by decide) (by decide)) g_fb2_1 S_LO_BYTE_SHIFT (own_sh2 hn hc23 (i := 5) (by decide) (by decide))) hZ (Wd hw 90 rfl) (Wd hw 48 rfl) (by decide) (by decide)) (g := (mkF m 20 #[.val (.ref a), .val (.int (5 : Int32)), .val (.int nn), .val (.ref fb2_1), .val (.int (5 : Int32))] [(.int qf), (.int (5 : Int32)), (.ref fb2_1)])) rfl (by rw [hml]; rfl) (argsL := [(.ref fb2_1), (.int (5 : Int32)), (.int qf)]) (rest := []) (lenOf own_pd2 rfl) rfl (by show 2 * 0 + _ ≤ _; exact Nat.le_of_eq rfl) (hb hby d17_20) (fun _ _ => ⟨rfl, rfl, (by decide : 1 + 0 ≤ _), (by decide : 14 + 0 ≤ _)⟩)
       dsimp only [Pt.U, Pt.locs, Pt.cells, Pt.slots] at X25 l25 y25 z25 st25 hQ25
       subst l25 y25 z25
       obtain ⟨rfl, Nq25, Kc25, q25_0⟩ := hQ25
       have K25 : Keep h0 T25.heap [] := Keep.trans K21 Kc25 (allS (Or.inr sz_fb2_1) all0)
       have Zs25 : n0 ≤ T25.heap.size := Nat.le_trans Zs21 Kc25.1
       have N25 := Fr.app N21 Nq25
       have r26 : ∀ t, Steps p.tables e below (T25.setTop (mkF m 11 #[.val (.ref a), .val (.int (6 : Int32)), .val (.int nn), .val (.ref fb2_1), .val (.int (6 : Int32))] [(.int nn), (.int (6 : Int32))])) t → Steps p.tables e below (T21.setTop (mkF m 11 #[.val (.ref a), .val (.int (5 : Int32)), .val (.int nn), .val (.ref fb2_1), .val (.int (5 : Int32))] [(.int nn), (.int (5 : Int32))])) t := fun t kt => by
        refine XS.icmpNo X21.here hx rfl (hb hby d17_11) rfl (tlt hc23).2.1 ?_
        refine XS.aloadN X21.here hx rfl (hb hby d17_14) rfl rfl ?_
        refine XS.iload X21.here hx rfl (hb hby d17_15) rfl ?_
        refine XS.aloadN X21.here hx rfl (hb hby d17_17) rfl rfl ?_
        refine XS.iloadN X21.here hx rfl (hb hby d17_18) rfl ?_
        refine X21.caload hx (j := (5 : Int32)) (v := (.int qf)) Ar24.1 (State.isArrayOf_alike hZ.alike Ar24.2.1) Ar24.2.2 hin24 hat24 (g := (mkF m 19 #[.val (.ref a), .val (.int (5 : Int32)), .val (.int nn), .val (.ref fb2_1), .val (.int (5 : Int32))] [(.int (5 : Int32)), (.ref a), (.int (5 : Int32)), (.ref fb2_1)])) rfl rfl (hb hby d17_19) _ ?_
        refine st25 _ ?_
        refine XS.iinc X25.here hx rfl (hb hby d17_23) rfl (l' := #[.val (.ref a), .val (.int (6 : Int32)), .val (.int nn), .val (.ref fb2_1), .val (.int (5 : Int32))]) rfl ?_
        refine XS.iinc X25.here hx rfl (hb hby d17_26) rfl (l' := #[.val (.ref a), .val (.int (6 : Int32)), .val (.int nn), .val (.ref fb2_1), .val (.int (6 : Int32))]) rfl ?_
        refine XS.goto X25.here hx rfl (pc0 := 29) (pc' := 8) rfl (hb hby d17_29) (by decide) (by decide) ?_
        refine XS.iload X25.here hx rfl (hb hby d17_8) rfl ?_
        refine XS.iloadN X25.here hx rfl (hb hby d17_10) rfl ?_
        exact kt
       by_cases hc27 : (6 : Int32) < nn
       ·obtain ⟨cl28, Ar28, q28, S28, M28, Hs28, G28⟩ := (((((((V_a.keep Kc1 nin0).keep Kc5 (ninS ne_a_fb2_1 nin0)).keep Kc9 (ninS ne_a_fb2_1 nin0)).keep Kc13 (ninS ne_a_fb2_1 nin0)).keep Kc17 (ninS ne_a_fb2_1 nin0)).keep Kc21 (ninS ne_a_fb2_1 nin0)).keep Kc25 (ninS ne_a_fb2_1 nin0))
        have hin28 : ¬ ((6 : Int32) < 0 ∨ cl28.slots.size ≤ ((6 : Int32)).toNatClampNeg) := inb_of S28 ⟨by decide, hc27⟩
        have hat28 : cl28.slots[((6 : Int32)).toNatClampNeg]? = some (.int qg) := Hs28.at hin28 rfl
        obtain ⟨_, _, ⟨T29, L29, k29, n29⟩, -, X29, ⟨Lc29, hQ29, l29, y29, z29⟩, st29⟩ := Jvm.LawKit.callS X25 hx (y := (⟨"java/lang/StringUTF16", "putChar", "([BII)V"⟩ : MethodName)) hown (mvT hZ (Wd hw 88 rfl)) (mvT hZ (Wd hw 89 rfl)) (mvT hZ (Wd hw 48 rfl)) (mvT hZ (Wd hw 90 rfl)) (by decide) (backOf (W := 0) (rmA8 l Z a0 hw [] fb2_1 qg (nn <<< ((1 : Int32) &&& 31)) ((((qa >>> ((0 : Int32) &&& 31)).toInt8.toInt32)).toInt8.toInt32) ((((qa >>> ((8 : Int32) &&& 31)).toInt8.toInt32)).toInt8.toInt32) ((((qb >>> ((0 : Int32) &&& 31)).toInt8.toInt32)).toInt8.toInt32) ((((qb >>> ((8 : Int32) &&& 31)).toInt8.toInt32)).toInt8.toInt32) ((((qc >>> ((0 : Int32) &&& 31)).toInt8.toInt32)).toInt8.toInt32) ((((qc >>> ((8 : Int32) &&& 31)).toInt8.toInt32)).toInt8.toInt32) ((((qd >>> ((0 : Int32) &&& 31)).toInt8.toInt32)).toInt8.toInt32) ((((qd >>> ((8 : Int32) &&& 31)).toInt8.toInt32)).toInt8.toInt32) ((((qe >>> ((0 : Int32) &&& 31)).toInt8.toInt32)).toInt8.toInt32) ((((qe >>> ((8 : Int32) &&& 31)).toInt8.toInt32)).toInt8.toInt32) ((((qf >>> ((0 : Int32) &&& 31)).toInt8.toInt32)).toInt8.toInt32) ((((qf >>> ((8 : Int32) &&& 31)).toInt8.toInt32)).toInt8.toInt32) k_fb2_1 T25.heap n0 Zs25 (X00.keep K25 all0) S__assertionsDisabled S_HI_BYTE_SHIFT q25_0 (own_sh2 hn hc27 (i := 6) (by decide) (by decide)) g_fb2_1 S_LO_BYTE_SHIFT (own_sh2 hn hc27 (i := 6) (by decide) (by decide))) hZ (Wd hw 90 rfl) (Wd hw 48 rfl) (by decide) (by decide)) (g := (mkF m 20 #[.val (.ref a), .val (.int (6 : Int32)), .val (.int nn), .val (.ref fb2_1), .val (.int (6 : Int32))] [(.int qg), (.int (6 : Int32)), (.ref fb2_1)])) rfl (by rw [hml]; rfl) (argsL := [(.ref fb2_1), (.int (6 : Int32)), (.int qg)]) (rest := []) (lenOf own_pd2 rfl) rfl (by show 2 * 0 + _ ≤ _; exact Nat.le_of_eq rfl) (hb hby d17_20) (fun _ _ => ⟨rfl, rfl, (by decide : 1 + 0 ≤ _), (by decide : 14 + 0 ≤ _)⟩)
        dsimp only [Pt.U, Pt.locs, Pt.cells, Pt.slots] at X29 l29 y29 z29 st29 hQ29
        subst l29 y29 z29
        obtain ⟨rfl, Nq29, Kc29, q29_0⟩ := hQ29
        have K29 : Keep h0 T29.heap [] := Keep.trans K25 Kc29 (allS (Or.inr sz_fb2_1) all0)
        have Zs29 : n0 ≤ T29.heap.size := Nat.le_trans Zs25 Kc29.1
        have N29 := Fr.app N25 Nq29
        have Vq : Arv Z T29.heap fb2_1 k_fb2_1 .byte (nn <<< ((1 : Int32) &&& 31)) [(.int (own_w0 qa)), (.int (own_w1 qa)), (.int (own_w0 qb)), (.int (own_w1 qb)), (.int (own_w0 qc)), (.int (own_w1 qc)), (.int (own_w0 qd)), (.int (own_w1 qd)), (.int (own_w0 qe)), (.int (own_w1 qe)), (.int (own_w0 qf)), (.int (own_w1 qf)), (.int (own_w0 qg)), (.int (own_w1 qg))] (.int (0 : Int32)) := q29_0
        have Vt : Arv Z T29.heap fb2_1 k_fb2_1 .byte (nn <<< ((1 : Int32) &&& 31)) [(.int (own_w0 qa)), (.int (own_w1 qa)), (.int (own_w0 qb)), (.int (own_w1 qb)), (.int (own_w0 qc)), (.int (own_w1 qc)), (.int (own_w0 qd)), (.int (own_w1 qd)), (.int (own_w0 qe)), (.int (own_w1 qe)), (.int (own_w0 qf)), (.int (own_w1 qf)), (.int (own_w0 qg)), (.int (own_w1 qg))] (.int (0 : Int32)) := Vq
        obtain ⟨fs, hr, hrun, hended, hW, hsame⟩ := X29.leave (v := some (.ref fb2_1)) (fun h => by rw [Bd.returns] at h; cases h)
        refine ⟨_, _, (pre0 _ (r2 _ (r6 _ (r10 _ (r14 _ (r18 _ (r22 _ (r26 _ ?_)))))))), hrun, hended, _, _, rfl, ?_, ⟨_, rfl⟩, hW, hsame.mono (by decide) (by decide)⟩
        ·show Steps p.tables e below (T25.setTop (mkF m 11 #[.val (.ref a), .val (.int (6 : Int32)), .val (.int nn), .val (.ref fb2_1), .val (.int (6 : Int32))] [(.int nn), (.int (6 : Int32))])) _
         refine XS.icmpNo X25.here hx rfl (hb hby d17_11) rfl (tlt hc27).2.1 ?_
         refine XS.aloadN X25.here hx rfl (hb hby d17_14) rfl rfl ?_
         refine XS.iload X25.here hx rfl (hb hby d17_15) rfl ?_
         refine XS.aloadN X25.here hx rfl (hb hby d17_17) rfl rfl ?_
         refine XS.iloadN X25.here hx rfl (hb hby d17_18) rfl ?_
         refine X25.caload hx (j := (6 : Int32)) (v := (.int qg)) Ar28.1 (State.isArrayOf_alike hZ.alike Ar28.2.1) Ar28.2.2 hin28 hat28 (g := (mkF m 19 #[.val (.ref a), .val (.int (6 : Int32)), .val (.int nn), .val (.ref fb2_1), .val (.int (6 : Int32))] [(.int (6 : Int32)), (.ref a), (.int (6 : Int32)), (.ref fb2_1)])) rfl rfl (hb hby d17_19) _ ?_
         refine st29 _ ?_
         refine XS.iinc X29.here hx rfl (hb hby d17_23) rfl (l' := #[.val (.ref a), .val (.int (7 : Int32)), .val (.int nn), .val (.ref fb2_1), .val (.int (6 : Int32))]) rfl ?_
         refine XS.iinc X29.here hx rfl (hb hby d17_26) rfl (l' := #[.val (.ref a), .val (.int (7 : Int32)), .val (.int nn), .val (.ref fb2_1), .val (.int (7 : Int32))]) rfl ?_
         refine XS.goto X29.here hx rfl (pc0 := 29) (pc' := 8) rfl (hb hby d17_29) (by decide) (by decide) ?_
         refine XS.iload X29.here hx rfl (hb hby d17_8) rfl ?_
         refine XS.iloadN X29.here hx rfl (hb hby d17_10) rfl ?_
         refine XS.icmpYes X29.here hx rfl (pc0 := 11) (pc' := 32) rfl (hb hby d17_11) rfl (flt (own_le7 hn)).2.1 (by decide) (by decide) ?_
         refine XS.aloadN X29.here hx rfl (hb hby d17_32) rfl rfl ?_
         jvm_step X29.here [X29.here.top, hx, (hb hby d17_33), X29.method', Bd.returns, Value.isRef, FieldType.isReference]
         first | (intro acts; rw [hr _ acts rfl rfl rfl]) | rw [hr _ _ rfl rfl rfl]
         exact Steps.refl _
        ·show QTB Z a nn qa qb qc qd qe qf qg k_a h0 n0 _ T29.heap _
         exact ⟨fb2_1, k_fb2_1, rfl, N29, K29, g_fb2_1, sz_fb2_1, Vt⟩
       ·have Vq : Arv Z T25.heap fb2_1 k_fb2_1 .byte (nn <<< ((1 : Int32) &&& 31)) [(.int (own_w0 qa)), (.int (own_w1 qa)), (.int (own_w0 qb)), (.int (own_w1 qb)), (.int (own_w0 qc)), (.int (own_w1 qc)), (.int (own_w0 qd)), (.int (own_w1 qd)), (.int (own_w0 qe)), (.int (own_w1 qe)), (.int (own_w0 qf)), (.int (own_w1 qf)), (.int (0 : Int32)), (.int (0 : Int32))] (.int (0 : Int32)) := q25_0
        have Vt : Arv Z T25.heap fb2_1 k_fb2_1 .byte (nn <<< ((1 : Int32) &&& 31)) [(.int (own_w0 qa)), (.int (own_w1 qa)), (.int (own_w0 qb)), (.int (own_w1 qb)), (.int (own_w0 qc)), (.int (own_w1 qc)), (.int (own_w0 qd)), (.int (own_w1 qd)), (.int (own_w0 qe)), (.int (own_w1 qe)), (.int (own_w0 qf)), (.int (own_w1 qf)), (.int (own_w0 qg)), (.int (own_w1 qg))] (.int (0 : Int32)) := own_irr Vq (fun i hi => by have q : i < 12 := Nat.lt_of_lt_of_le hi (own_shortS hn hc27 (n := 6) (by decide)); match i, q with | 0, _ => rfl | 1, _ => rfl | 2, _ => rfl | 3, _ => rfl | 4, _ => rfl | 5, _ => rfl | 6, _ => rfl | 7, _ => rfl | 8, _ => rfl | 9, _ => rfl | 10, _ => rfl | 11, _ => rfl)
        obtain ⟨fs, hr, hrun, hended, hW, hsame⟩ := X25.leave (v := some (.ref fb2_1)) (fun h => by rw [Bd.returns] at h; cases h)
        refine ⟨_, _, (pre0 _ (r2 _ (r6 _ (r10 _ (r14 _ (r18 _ (r22 _ (r26 _ ?_)))))))), hrun, hended, _, _, rfl, ?_, ⟨_, rfl⟩, hW, hsame.mono (by decide) (by decide)⟩
        ·show Steps p.tables e below (T25.setTop (mkF m 11 #[.val (.ref a), .val (.int (6 : Int32)), .val (.int nn), .val (.ref fb2_1), .val (.int (6 : Int32))] [(.int nn), (.int (6 : Int32))])) _
         refine XS.icmpYes X25.here hx rfl (pc0 := 11) (pc' := 32) rfl (hb hby d17_11) rfl (flt hc27).2.1 (by decide) (by decide) ?_
         refine XS.aloadN X25.here hx rfl (hb hby d17_32) rfl rfl ?_
         jvm_step X25.here [X25.here.top, hx, (hb hby d17_33), X25.method', Bd.returns, Value.isRef, FieldType.isReference]
         first | (intro acts; rw [hr _ acts rfl rfl rfl]) | rw [hr _ _ rfl rfl rfl]
         exact Steps.refl _
        ·show QTB Z a nn qa qb qc qd qe qf qg k_a h0 n0 _ T25.heap _
         exact ⟨fb2_1, k_fb2_1, rfl, N25, K25, g_fb2_1, sz_fb2_1, Vt⟩
      ·have Vq : Arv Z T21.heap fb2_1 k_fb2_1 .byte (nn <<< ((1 : Int32) &&& 31)) [(.int (own_w0 qa)), (.int (own_w1 qa)), (.int (own_w0 qb)), (.int (own_w1 qb)), (.int (own_w0 qc)), (.int (own_w1 qc)), (.int (own_w0 qd)), (.int (own_w1 qd)), (.int (own_w0 qe)), (.int (own_w1 qe)), (.int (0 : Int32)), (.int (0 : Int32)), (.int (0 : Int32)), (.int (0 : Int32))] (.int (0 : Int32)) := q21_0
       have Vt : Arv Z T21.heap fb2_1 k_fb2_1 .byte (nn <<< ((1 : Int32) &&& 31)) [(.int (own_w0 qa)), (.int (own_w1 qa)), (.int (own_w0 qb)), (.int (own_w1 qb)), (.int (own_w0 qc)), (.int (own_w1 qc)), (.int (own_w0 qd)), (.int (own_w1 qd)), (.int (own_w0 qe)), (.int (own_w1 qe)), (.int (own_w0 qf)), (.int (own_w1 qf)), (.int (own_w0 qg)), (.int (own_w1 qg))] (.int (0 : Int32)) := own_irr Vq (fun i hi => by have q : i < 10 := Nat.lt_of_lt_of_le hi (own_shortS hn hc23 (n := 5) (by decide)); match i, q with | 0, _ => rfl | 1, _ => rfl | 2, _ => rfl | 3, _ => rfl | 4, _ => rfl | 5, _ => rfl | 6, _ => rfl | 7, _ => rfl | 8, _ => rfl | 9, _ => rfl)
       obtain ⟨fs, hr, hrun, hended, hW, hsame⟩ := X21.leave (v := some (.ref fb2_1)) (fun h => by rw [Bd.returns] at h; cases h)
       refine ⟨_, _, (pre0 _ (r2 _ (r6 _ (r10 _ (r14 _ (r18 _ (r22 _ ?_))))))), hrun, hended, _, _, rfl, ?_, ⟨_, rfl⟩, hW, hsame.mono (by decide) (by decide)⟩
       ·show Steps p.tables e below (T21.setTop (mkF m 11 #[.val (.ref a), .val (.int (5 : Int32)), .val (.int nn), .val (.ref fb2_1), .val (.int (5 : Int32))] [(.int nn), (.int (5 : Int32))])) _
        refine XS.icmpYes X21.here hx rfl (pc0 := 11) (pc' := 32) rfl (hb hby d17_11) rfl (flt hc23).2.1 (by decide) (by decide) ?_
        refine XS.aloadN X21.here hx rfl (hb hby d17_32) rfl rfl ?_
        jvm_step X21.here [X21.here.top, hx, (hb hby d17_33), X21.method', Bd.returns, Value.isRef, FieldType.isReference]
        first | (intro acts; rw [hr _ acts rfl rfl rfl]) | rw [hr _ _ rfl rfl rfl]
        exact Steps.refl _
       ·show QTB Z a nn qa qb qc qd qe qf qg k_a h0 n0 _ T21.heap _
        exact ⟨fb2_1, k_fb2_1, rfl, N21, K21, g_fb2_1, sz_fb2_1, Vt⟩
     ·have Vq : Arv Z T17.heap fb2_1 k_fb2_1 .byte (nn <<< ((1 : Int32) &&& 31)) [(.int (own_w0 qa)), (.int (own_w1 qa)), (.int (own_w0 qb)), (.int (own_w1 qb)), (.int (own_w0 qc)), (.int (own_w1 qc)), (.int (own_w0 qd)), (.int (own_w1 qd)), (.int (0 : Int32)), (.int (0 : Int32)), (.int (0 : Int32)), (.int (0 : Int32)), (.int (0 : Int32)), (.int (0 : Int32))] (.int (0 : Int32)) := q17_0
      have Vt : Arv Z T17.heap fb2_1 k_fb2_1 .byte (nn <<< ((1 : Int32) &&& 31)) [(.int (own_w0 qa)), (.int (own_w1 qa)), (.int (own_w0 qb)), (.int (own_w1 qb)), (.int (own_w0 qc)), (.int (own_w1 qc)), (.int (own_w0 qd)), (.int (own_w1 qd)), (.int (own_w0 qe)), (.int (own_w1 qe)), (.int (own_w0 qf)), (.int (own_w1 qf)), (.int (own_w0 qg)), (.int (own_w1 qg))] (.int (0 : Int32)) := own_irr Vq (fun i hi => by have q : i < 8 := Nat.lt_of_lt_of_le hi (own_shortS hn hc19 (n := 4) (by decide)); match i, q with | 0, _ => rfl | 1, _ => rfl | 2, _ => rfl | 3, _ => rfl | 4, _ => rfl | 5, _ => rfl | 6, _ => rfl | 7, _ => rfl)
      obtain ⟨fs, hr, hrun, hended, hW, hsame⟩ := X17.leave (v := some (.ref fb2_1)) (fun h => by rw [Bd.returns] at h; cases h)
      refine ⟨_, _, (pre0 _ (r2 _ (r6 _ (r10 _ (r14 _ (r18 _ ?_)))))), hrun, hended, _, _, rfl, ?_, ⟨_, rfl⟩, hW, hsame.mono (by decide) (by decide)⟩
      ·show Steps p.tables e below (T17.setTop (mkF m 11 #[.val (.ref a), .val (.int (4 : Int32)), .val (.int nn), .val (.ref fb2_1), .val (.int (4 : Int32))] [(.int nn), (.int (4 : Int32))])) _
       refine XS.icmpYes X17.here hx rfl (pc0 := 11) (pc' := 32) rfl (hb hby d17_11) rfl (flt hc19).2.1 (by decide) (by decide) ?_
       refine XS.aloadN X17.here hx rfl (hb hby d17_32) rfl rfl ?_
       jvm_step X17.here [X17.here.top, hx, (hb hby d17_33), X17.method', Bd.returns, Value.isRef, FieldType.isReference]
       first | (intro acts; rw [hr _ acts rfl rfl rfl]) | rw [hr _ _ rfl rfl rfl]
       exact Steps.refl _
      ·show QTB Z a nn qa qb qc qd qe qf qg k_a h0 n0 _ T17.heap _
       exact ⟨fb2_1, k_fb2_1, rfl, N17, K17, g_fb2_1, sz_fb2_1, Vt⟩
    ·have Vq : Arv Z T13.heap fb2_1 k_fb2_1 .byte (nn <<< ((1 : Int32) &&& 31)) [(.int (own_w0 qa)), (.int (own_w1 qa)), (.int (own_w0 qb)), (.int (own_w1 qb)), (.int (own_w0 qc)), (.int (own_w1 qc)), (.int (0 : Int32)), (.int (0 : Int32)), (.int (0 : Int32)), (.int (0 : Int32)), (.int (0 : Int32)), (.int (0 : Int32)), (.int (0 : Int32)), (.int (0 : Int32))] (.int (0 : Int32)) := q13_0
     have Vt : Arv Z T13.heap fb2_1 k_fb2_1 .byte (nn <<< ((1 : Int32) &&& 31)) [(.int (own_w0 qa)), (.int (own_w1 qa)), (.int (own_w0 qb)), (.int (own_w1 qb)), (.int (own_w0 qc)), (.int (own_w1 qc)), (.int (own_w0 qd)), (.int (own_w1 qd)), (.int (own_w0 qe)), (.int (own_w1 qe)), (.int (own_w0 qf)), (.int (own_w1 qf)), (.int (own_w0 qg)), (.int (own_w1 qg))] (.int (0 : Int32)) := own_irr Vq (fun i hi => by have q : i < 6 := Nat.lt_of_lt_of_le hi (own_shortS hn hc15 (n := 3) (by decide)); match i, q with | 0, _ => rfl | 1, _ => rfl | 2, _ => rfl | 3, _ => rfl | 4, _ => rfl | 5, _ => rfl)
     obtain ⟨fs, hr, hrun, hended, hW, hsame⟩ := X13.leave (v := some (.ref fb2_1)) (fun h => by rw [Bd.returns] at h; cases h)
     refine ⟨_, _, (pre0 _ (r2 _ (r6 _ (r10 _ (r14 _ ?_))))), hrun, hended, _, _, rfl, ?_, ⟨_, rfl⟩, hW, hsame.mono (by decide) (by decide)⟩
     ·show Steps p.tables e below (T13.setTop (mkF m 11 #[.val (.ref a), .val (.int (3 : Int32)), .val (.int nn), .val (.ref fb2_1), .val (.int (3 : Int32))] [(.int nn), (.int (3 : Int32))])) _
      refine XS.icmpYes X13.here hx rfl (pc0 := 11) (pc' := 32) rfl (hb hby d17_11) rfl (flt hc15).2.1 (by decide) (by decide) ?_
      refine XS.aloadN X13.here hx rfl (hb hby d17_32) rfl rfl ?_
      jvm_step X13.here [X13.here.top, hx, (hb hby d17_33), X13.method', Bd.returns, Value.isRef, FieldType.isReference]
      first | (intro acts; rw [hr _ acts rfl rfl rfl]) | rw [hr _ _ rfl rfl rfl]
      exact Steps.refl _
     ·show QTB Z a nn qa qb qc qd qe qf qg k_a h0 n0 _ T13.heap _
      exact ⟨fb2_1, k_fb2_1, rfl, N13, K13, g_fb2_1, sz_fb2_1, Vt⟩
   ·have Vq : Arv Z T9.heap fb2_1 k_fb2_1 .byte (nn <<< ((1 : Int32) &&& 31)) [(.int (own_w0 qa)), (.int (own_w1 qa)), (.int (own_w0 qb)), (.int (own_w1 qb)), (.int (0 : Int32)), (.int (0 : Int32)), (.int (0 : Int32)), (.int (0 : Int32)), (.int (0 : Int32)), (.int (0 : Int32)), (.int (0 : Int32)), (.int (0 : Int32)), (.int (0 : Int32)), (.int (0 : Int32))] (.int (0 : Int32)) := q9_0
    have Vt : Arv Z T9.heap fb2_1 k_fb2_1 .byte (nn <<< ((1 : Int32) &&& 31)) [(.int (own_w0 qa)), (.int (own_w1 qa)), (.int (own_w0 qb)), (.int (own_w1 qb)), (.int (own_w0 qc)), (.int (own_w1 qc)), (.int (own_w0 qd)), (.int (own_w1 qd)), (.int (own_w0 qe)), (.int (own_w1 qe)), (.int (own_w0 qf)), (.int (own_w1 qf)), (.int (own_w0 qg)), (.int (own_w1 qg))] (.int (0 : Int32)) := own_irr Vq (fun i hi => by have q : i < 4 := Nat.lt_of_lt_of_le hi (own_shortS hn hc11 (n := 2) (by decide)); match i, q with | 0, _ => rfl | 1, _ => rfl | 2, _ => rfl | 3, _ => rfl)
    obtain ⟨fs, hr, hrun, hended, hW, hsame⟩ := X9.leave (v := some (.ref fb2_1)) (fun h => by rw [Bd.returns] at h; cases h)
    refine ⟨_, _, (pre0 _ (r2 _ (r6 _ (r10 _ ?_)))), hrun, hended, _, _, rfl, ?_, ⟨_, rfl⟩, hW, hsame.mono (by decide) (by decide)⟩
    ·show Steps p.tables e below (T9.setTop (mkF m 11 #[.val (.ref a), .val (.int (2 : Int32)), .val (.int nn), .val (.ref fb2_1), .val (.int (2 : Int32))] [(.int nn), (.int (2 : Int32))])) _
     refine XS.icmpYes X9.here hx rfl (pc0 := 11) (pc' := 32) rfl (hb hby d17_11) rfl (flt hc11).2.1 (by decide) (by decide) ?_
     refine XS.aloadN X9.here hx rfl (hb hby d17_32) rfl rfl ?_
     jvm_step X9.here [X9.here.top, hx, (hb hby d17_33), X9.method', Bd.returns, Value.isRef, FieldType.isReference]
     first | (intro acts; rw [hr _ acts rfl rfl rfl]) | rw [hr _ _ rfl rfl rfl]
     exact Steps.refl _
    ·show QTB Z a nn qa qb qc qd qe qf qg k_a h0 n0 _ T9.heap _
     exact ⟨fb2_1, k_fb2_1, rfl, N9, K9, g_fb2_1, sz_fb2_1, Vt⟩
  ·have Vq : Arv Z T5.heap fb2_1 k_fb2_1 .byte (nn <<< ((1 : Int32) &&& 31)) [(.int (own_w0 qa)), (.int (own_w1 qa)), (.int (0 : Int32)), (.int (0 : Int32)), (.int (0 : Int32)), (.int (0 : Int32)), (.int (0 : Int32)), (.int (0 : Int32)), (.int (0 : Int32)), (.int (0 : Int32)), (.int (0 : Int32)), (.int (0 : Int32)), (.int (0 : Int32)), (.int (0 : Int32))] (.int (0 : Int32)) := q5_0
   have Vt : Arv Z T5.heap fb2_1 k_fb2_1 .byte (nn <<< ((1 : Int32) &&& 31)) [(.int (own_w0 qa)), (.int (own_w1 qa)), (.int (own_w0 qb)), (.int (own_w1 qb)), (.int (own_w0 qc)), (.int (own_w1 qc)), (.int (own_w0 qd)), (.int (own_w1 qd)), (.int (own_w0 qe)), (.int (own_w1 qe)), (.int (own_w0 qf)), (.int (own_w1 qf)), (.int (own_w0 qg)), (.int (own_w1 qg))] (.int (0 : Int32)) := own_irr Vq (fun i hi => by have q : i < 2 := Nat.lt_of_lt_of_le hi (own_shortS hn hc7 (n := 1) (by decide)); match i, q with | 0, _ => rfl | 1, _ => rfl)
   obtain ⟨fs, hr, hrun, hended, hW, hsame⟩ := X5.leave (v := some (.ref fb2_1)) (fun h => by rw [Bd.returns] at h; cases h)
   refine ⟨_, _, (pre0 _ (r2 _ (r6 _ ?_))), hrun, hended, _, _, rfl, ?_, ⟨_, rfl⟩, hW, hsame.mono (by decide) (by decide)⟩
   ·show Steps p.tables e below (T5.setTop (mkF m 11 #[.val (.ref a), .val (.int (1 : Int32)), .val (.int nn), .val (.ref fb2_1), .val (.int (1 : Int32))] [(.int nn), (.int (1 : Int32))])) _
    refine XS.icmpYes X5.here hx rfl (pc0 := 11) (pc' := 32) rfl (hb hby d17_11) rfl (flt hc7).2.1 (by decide) (by decide) ?_
    refine XS.aloadN X5.here hx rfl (hb hby d17_32) rfl rfl ?_
    jvm_step X5.here [X5.here.top, hx, (hb hby d17_33), X5.method', Bd.returns, Value.isRef, FieldType.isReference]
    first | (intro acts; rw [hr _ acts rfl rfl rfl]) | rw [hr _ _ rfl rfl rfl]
    exact Steps.refl _
   ·show QTB Z a nn qa qb qc qd qe qf qg k_a h0 n0 _ T5.heap _
    exact ⟨fb2_1, k_fb2_1, rfl, N5, K5, g_fb2_1, sz_fb2_1, Vt⟩
 ·have Vq : Arv Z T1.heap fb2_1 k_fb2_1 .byte (nn <<< ((1 : Int32) &&& 31)) [(.int (0 : Int32)), (.int (0 : Int32)), (.int (0 : Int32)), (.int (0 : Int32)), (.int (0 : Int32)), (.int (0 : Int32)), (.int (0 : Int32)), (.int (0 : Int32)), (.int (0 : Int32)), (.int (0 : Int32)), (.int (0 : Int32)), (.int (0 : Int32)), (.int (0 : Int32)), (.int (0 : Int32))] (.int (0 : Int32)) := q1_0
  have Vt : Arv Z T1.heap fb2_1 k_fb2_1 .byte (nn <<< ((1 : Int32) &&& 31)) [(.int (own_w0 qa)), (.int (own_w1 qa)), (.int (own_w0 qb)), (.int (own_w1 qb)), (.int (own_w0 qc)), (.int (own_w1 qc)), (.int (own_w0 qd)), (.int (own_w1 qd)), (.int (own_w0 qe)), (.int (own_w1 qe)), (.int (own_w0 qf)), (.int (own_w1 qf)), (.int (own_w0 qg)), (.int (own_w1 qg))] (.int (0 : Int32)) := own_irr Vq (fun i hi => by have q : i < 0 := Nat.lt_of_lt_of_le hi (own_shortS hn hc3 (n := 0) (by decide)); exact absurd q (Nat.not_lt_zero _))
  obtain ⟨fs, hr, hrun, hended, hW, hsame⟩ := X1.leave (v := some (.ref fb2_1)) (fun h => by rw [Bd.returns] at h; cases h)
  refine ⟨_, _, (pre0 _ (r2 _ ?_)), hrun, hended, _, _, rfl, ?_, ⟨_, rfl⟩, hW, hsame.mono (by decide) (by decide)⟩
  ·show Steps p.tables e below (T1.setTop (mkF m 11 #[.val (.ref a), .val (.int (0 : Int32)), .val (.int nn), .val (.ref fb2_1), .val (.int (0 : Int32))] [(.int nn), (.int (0 : Int32))])) _
   refine XS.icmpYes X1.here hx rfl (pc0 := 11) (pc' := 32) rfl (hb hby d17_11) rfl (flt hc3).2.1 (by decide) (by decide) ?_
   refine XS.aloadN X1.here hx rfl (hb hby d17_32) rfl rfl ?_
   jvm_step X1.here [X1.here.top, hx, (hb hby d17_33), X1.method', Bd.returns, Value.isRef, FieldType.isReference]
   first | (intro acts; rw [hr _ acts rfl rfl rfl]) | rw [hr _ _ rfl rfl rfl]
   exact Steps.refl _
  ·show QTB Z a nn qa qb qc qd qe qf qg k_a h0 n0 _ T1.heap _
   exact ⟨fb2_1, k_fb2_1, rfl, N1, K1, g_fb2_1, sz_fb2_1, Vt⟩
theorem own_pd3 : parseMethodDescriptor "([CI[BII)I" = some ⟨[(.array .char), .int, (.array .byte), .int, .int], some .int⟩ := by decide +kernel
theorem d9_0 : decode jdk_52_method_16_code 0 = .ok (.iload_n 2, 1) := by decide +kernel
theorem d9_1 : decode jdk_52_method_16_code 1 = .ok (.newarray .byte, 2) := by decide +kernel
theorem d9_3 : decode jdk_52_method_16_code 3 = .ok (.astore_n 3, 1) := by decide +kernel
theorem d9_4 : decode jdk_52_method_16_code 4 = .ok (.aload_n 0, 1) := by decide +kernel
theorem d9_5 : decode jdk_52_method_16_code 5 = .ok (.iload_n 1, 1) := by decide +kernel
theorem d9_6 : decode jdk_52_method_16_code 6 = .ok (.aload_n 3, 1) := by decide +kernel
theorem d9_7 : decode jdk_52_method_16_code 7 = .ok (.iconst 0, 1) := by decide +kernel
theorem d9_8 : decode jdk_52_method_16_code 8 = .ok (.iload_n 2, 1) := by decide +kernel
theorem d9_9 : decode jdk_52_method_16_code 9 = .ok (.invokestatic 115, 3) := by decide +kernel
theorem d9_12 : decode jdk_52_method_16_code 12 = .ok (.istore 4, 2) := by decide +kernel
theorem d9_14 : decode jdk_52_method_16_code 14 = .ok (.iload 4, 2) := by decide +kernel
theorem d9_16 : decode jdk_52_method_16_code 16 = .ok (.iload_n 2, 1) := by decide +kernel
theorem d9_17 : decode jdk_52_method_16_code 17 = .ok (.if_icmp .eq 40, 3) := by decide +kernel
theorem d9_57 : decode jdk_52_method_16_code 57 = .ok (.aload_n 3, 1) := by decide +kernel
theorem d9_58 : decode jdk_52_method_16_code 58 = .ok (.areturn, 1) := by decide +kernel
theorem efC3L (m : MethodId) (a : Addr) (nn : Int32) : entryFrame m #[(.ref a), (.int (0 : Int32)), (.int nn)] 6 = mkF m 0 #[.val (.ref a), .val (.int (0 : Int32)), .val (.int nn), .unset, .unset, .unset] [] := by first | (simp [entryFrame, mkF, argsToLocals, Value.category]; done) | rfl
def QC3L (Z : State) (a : Addr) (nn : Int32) (qa : Int32) (qb : Int32) (qc : Int32) (qd : Int32) (qe : Int32) (qf : Int32) (qg : Int32) (k_a : ClassId) (h0 : Heap) (n0 : Nat) (v : Option Value) (h : Heap) (L : List Loc) : Prop := ∃ rt : Addr, ∃ k_rt : ClassId, v = some (.ref rt) ∧ Fr n0 L ∧ Keep h0 h [] ∧ n0 ≤ rt ∧ h0.size ≤ rt ∧ Arv Z h rt k_rt .byte nn [(.int qa.toInt8.toInt32), (.int qb.toInt8.toInt32), (.int qc.toInt8.toInt32), (.int qd.toInt8.toInt32), (.int qe.toInt8.toInt32), (.int qf.toInt8.toInt32), (.int qg.toInt8.toInt32)] (.int (0 : Int32))
set_option maxRecDepth 65536 in
set_option maxHeartbeats 40000000 in
theorem rmC3L (l : Launch) (Z : State) (a0 : Array Value) (hw : ∀ d ∈ tables_1, d.before a0 Z = true) (ws : List Jvm.Cond) (a : Addr) (nn : Int32) (qa : Int32) (qb : Int32) (qc : Int32) (qd : Int32) (qe : Int32) (qf : Int32) (qg : Int32) (k_a : ClassId) (h0 : Heap) (n0 : Nat) (Z0 : n0 ≤ h0.size) (V_a : Arv Z h0 a k_a .char nn [(.int qa), (.int qb), (.int qc), (.int qd), (.int qe), (.int qf), (.int qg)] (.int (0 : Int32))) (hn : 0 ≤ nn.toInt ∧ nn.toInt ≤ 7) (hl : own_lat nn [qa, qb, qc, qd, qe, qf, qg]) :
  MetFree l (⟨"java/lang/StringUTF16", "compress", "([CII)[B"⟩ : MethodName) (head1 (Jvm.Cond.code (⟨"java/lang/StringUTF16", "compress", "([CII)[B"⟩ : MethodName) jdk_52_method_16_code 6 (some (.array .byte)) :: ws) ({ frames := 3, cells := 1, slots := 7, locals := 70 } : Room)) (fun av_ U => av_ = #[(.ref a), (.int (0 : Int32)), (.int nn)] ∧ Z.Warmed39 U.vm ∧ U.heap = h0) (fun _ _ _ _ _ => True) (fun _ U o U' => ∃ v L, o = .returned v ∧ QC3L Z a nn qa qb qc qd qe qf qg k_a h0 n0 v U'.heap L ∧ FrameEnd U o U' L ({ frames := 3, cells := 1, slots := 7, locals := 70 } : Room).cells ({ frames := 3, cells := 1, slots := 7, locals := 70 } : Room).slots) := by
 refine MetFree.of_bodySF (plainFor_of_name own_pn0) hisR ?_
 intro p e s m args below meth c s₁ Bd hml0 hP hK
 obtain ⟨rfl, hZ, hh⟩ := hP
 have hx := Bd.exec
 have hby := Bd.bytes
 have hml : c.maxLocals = 6 := hml0
 have hown : s.vm.findClass "java/lang/StringUTF16" = some m.cls := findClass_of_methodNamed Bd.named
 have hnm := (name_of_methodNamed Bd.named Bd.method).1
 have X0 : Stand p l e ({ frames := 3, cells := 1, slots := 7, locals := 70 } : Room) s m #[(.ref a), (.int (0 : Int32)), (.int nn)] below meth c s₁ [] 0 0 := Stand.of_body Bd
 have e0 : s₁.heap = h0 := by rw [← hh, Bd.state]; rfl
 have N0 := Fr.nil n0
 have pre0 : ∀ t, Steps p.tables e below (s₁.setTop (mkF m 0 #[.val (.ref a), .val (.int (0 : Int32)), .val (.int nn), .unset, .unset, .unset] [])) t → Steps p.tables e below (s₁.setTop (entryFrame m #[(.ref a), (.int (0 : Int32)), (.int nn)] 6)) t := fun t k => castTop (efC3L m a nn) k
 obtain ⟨T1, h1, k1, X1, e1, E1, A1, st1⟩ := newP X0 hx hZ (Wd hw 20 rfl) e0 (g := (mkF m 1 #[.val (.ref a), .val (.int (0 : Int32)), .val (.int nn), .unset, .unset, .unset] [(.int nn)])) rfl (hb hby d9_1) rfl (own_neg7 hn).1 (cap := 7) (own_neg7 hn).2 (by decide) (by decide) (by decide)
 obtain ⟨b1, g1⟩ : ∃ z, z = h0.size := ⟨_, rfl⟩
 rw [← g1] at A1 st1
 have ne_a_b1 : a ≠ b1 := Nat.ne_of_lt (Nat.lt_of_lt_of_le V_a.lt (Nat.le_of_eq g1.symm))
 have g_b1 : n0 ≤ b1 := Nat.le_trans Z0 (Nat.le_of_eq g1.symm)
 have sz_b1 : h0.size ≤ b1 := Nat.le_trans (Keep.refl h0 []).1 (Nat.le_of_eq g1.symm)
 have K1 : Keep h0 h1 [] := (Keep.refl h0 []).ext E1
 have Zs1 : n0 ≤ h1.size := Nat.le_trans Z0 E1.1
 have V1 : Arv Z h1 b1 k1 .byte nn [(.int (0 : Int32)), (.int (0 : Int32)), (.int (0 : Int32)), (.int (0 : Int32)), (.int (0 : Int32)), (.int (0 : Int32)), (.int (0 : Int32))] (.int (0 : Int32)) := (Arv.new A1 (own_neg7 hn).1).pad (pad_rep [] (.int (0 : Int32)) 7)
 obtain ⟨_, _, ⟨T2, L2, k2, n2⟩, -, X2, ⟨Lc2, hQ2, l2, y2, z2⟩, st2⟩ := Jvm.LawKit.callS X1 hx (y := (⟨"java/lang/StringUTF16", "compress", "([CI[BII)I"⟩ : MethodName)) hown (mvT hZ (Wd hw 50 rfl)) (mvT hZ (Wd hw 51 rfl)) (mvT hZ (Wd hw 48 rfl)) (mvT hZ (Wd hw 52 rfl)) (by decide) (backOf (W := 0) (rmC5L l Z a0 hw [] a b1 nn qa qb qc qd qe qf qg k_a k1 h1 n0 Zs1 (V_a.ext E1) V1 g_b1 ne_a_b1 hn hl) hZ (Wd hw 52 rfl) (Wd hw 48 rfl) (by decide) (by decide)) (g := (mkF m 9 #[.val (.ref a), .val (.int (0 : Int32)), .val (.int nn), .val (.ref b1), .unset, .unset] [(.int nn), (.int (0 : Int32)), (.ref b1), (.int (0 : Int32)), (.ref a)])) rfl (by rw [hml]; rfl) (argsL := [(.ref a), (.int (0 : Int32)), (.ref b1), (.int (0 : Int32)), (.int nn)]) (rest := []) (lenOf own_pd3 rfl) rfl (by show 2 * 0 + _ ≤ _; exact Nat.le_of_eq rfl) (hb hby d9_9) (fun _ _ => ⟨rfl, e1, (by decide : 1 + 0 ≤ _), (by decide : 7 + 0 ≤ _)⟩)
 dsimp only [Pt.U, Pt.locs, Pt.cells, Pt.slots] at X2 l2 y2 z2 st2 hQ2
 subst l2 y2 z2
 obtain ⟨rfl, Nq2, Kc2, q2_0⟩ := hQ2
 have K2 : Keep h0 T2.heap [] := Keep.trans K1 Kc2 (allS (Or.inr sz_b1) all0)
 have Zs2 : n0 ≤ T2.heap.size := Nat.le_trans Zs1 Kc2.1
 have N2 := Fr.app N0 Nq2
 obtain ⟨fs, hr, hrun, hended, hW, hsame⟩ := X2.leave (v := some (.ref b1)) (fun h => by rw [Bd.returns] at h; cases h)
 refine ⟨_, _, (pre0 _ ?_), hrun, hended, _, _, rfl, ?_, ⟨_, rfl⟩, hW, hsame.mono (by decide) (by decide)⟩
 ·show Steps p.tables e below (s₁.setTop (mkF m 0 #[.val (.ref a), .val (.int (0 : Int32)), .val (.int nn), .unset, .unset, .unset] [])) _
  refine XS.iloadN X0.here hx rfl (hb hby d9_0) rfl ?_
  refine st1 _ ?_
  refine XS.astoreN X1.here hx rfl (hb hby d9_3) rfl rfl (l' := #[.val (.ref a), .val (.int (0 : Int32)), .val (.int nn), .val (.ref b1), .unset, .unset]) rfl ?_
  refine XS.aloadN X1.here hx rfl (hb hby d9_4) rfl rfl ?_
  refine XS.iloadN X1.here hx rfl (hb hby d9_5) rfl ?_
  refine XS.aloadN X1.here hx rfl (hb hby d9_6) rfl rfl ?_
  refine XS.iconst X1.here hx rfl (hb hby d9_7) ?_
  refine XS.iloadN X1.here hx rfl (hb hby d9_8) rfl ?_
  refine st2 _ ?_
  refine XS.istore X2.here hx rfl (hb hby d9_12) rfl (l' := #[.val (.ref a), .val (.int (0 : Int32)), .val (.int nn), .val (.ref b1), .val (.int nn), .unset]) rfl ?_
  refine XS.iload X2.here hx rfl (hb hby d9_14) rfl ?_
  refine XS.iloadN X2.here hx rfl (hb hby d9_16) rfl ?_
  refine XS.icmpYes X2.here hx rfl (pc0 := 17) (pc' := 57) rfl (hb hby d9_17) rfl (teq (rfl : nn = nn)).1 (by decide) (by decide) ?_
  refine XS.aloadN X2.here hx rfl (hb hby d9_57) rfl rfl ?_
  jvm_step X2.here [X2.here.top, hx, (hb hby d9_58), X2.method', Bd.returns, Value.isRef, FieldType.isReference]
  first | (intro acts; rw [hr _ acts rfl rfl rfl]) | rw [hr _ _ rfl rfl rfl]
  exact Steps.refl _
 ·show QC3L Z a nn qa qb qc qd qe qf qg k_a h0 n0 _ T2.heap _
  exact ⟨b1, k1, rfl, N2, K2, g_b1, sz_b1, q2_0⟩
theorem own_pd4 : parseMethodDescriptor "([CII)[B" = some ⟨[(.array .char), .int, .int], some (.array .byte)⟩ := by decide +kernel
theorem d21_0 : decode jdk_52_method_5_code 0 = .ok (.getstatic 44, 3) := by decide +kernel
theorem d21_3 : decode jdk_52_method_5_code 3 = .ok (.ifCond .ne 25, 3) := by decide +kernel
theorem d21_28 : decode jdk_52_method_5_code 28 = .ok (.iload_n 1, 1) := by decide +kernel
theorem d21_29 : decode jdk_52_method_5_code 29 = .ok (.iconst 1, 1) := by decide +kernel
theorem d21_30 : decode jdk_52_method_5_code 30 = .ok (.ishl, 1) := by decide +kernel
theorem d21_31 : decode jdk_52_method_5_code 31 = .ok (.istore_n 1, 1) := by decide +kernel
theorem d21_32 : decode jdk_52_method_5_code 32 = .ok (.aload_n 0, 1) := by decide +kernel
theorem d21_33 : decode jdk_52_method_5_code 33 = .ok (.iload_n 1, 1) := by decide +kernel
theorem d21_34 : decode jdk_52_method_5_code 34 = .ok (.iinc 1 1, 3) := by decide +kernel
theorem d21_37 : decode jdk_52_method_5_code 37 = .ok (.baload, 1) := by decide +kernel
theorem d21_38 : decode jdk_52_method_5_code 38 = .ok (.sipush 255, 3) := by decide +kernel
theorem d21_41 : decode jdk_52_method_5_code 41 = .ok (.iand, 1) := by decide +kernel
theorem d21_42 : decode jdk_52_method_5_code 42 = .ok (.getstatic 59, 3) := by decide +kernel
theorem d21_45 : decode jdk_52_method_5_code 45 = .ok (.ishl, 1) := by decide +kernel
theorem d21_46 : decode jdk_52_method_5_code 46 = .ok (.aload_n 0, 1) := by decide +kernel
theorem d21_47 : decode jdk_52_method_5_code 47 = .ok (.iload_n 1, 1) := by decide +kernel
theorem d21_48 : decode jdk_52_method_5_code 48 = .ok (.baload, 1) := by decide +kernel
theorem d21_49 : decode jdk_52_method_5_code 49 = .ok (.sipush 255, 3) := by decide +kernel
theorem d21_52 : decode jdk_52_method_5_code 52 = .ok (.iand, 1) := by decide +kernel
theorem d21_53 : decode jdk_52_method_5_code 53 = .ok (.getstatic 63, 3) := by decide +kernel
theorem d21_56 : decode jdk_52_method_5_code 56 = .ok (.ishl, 1) := by decide +kernel
theorem d21_57 : decode jdk_52_method_5_code 57 = .ok (.ior, 1) := by decide +kernel
theorem d21_58 : decode jdk_52_method_5_code 58 = .ok (.i2c, 1) := by decide +kernel
theorem d21_59 : decode jdk_52_method_5_code 59 = .ok (.ireturn, 1) := by decide +kernel
theorem efA9 (m : MethodId) (xo0_ : Addr) : entryFrame m #[(.ref xo0_), (.int (0 : Int32))] 2 = mkF m 0 #[.val (.ref xo0_), .val (.int (0 : Int32))] [] := by first | (simp [entryFrame, mkF, argsToLocals, Value.category]; done) | rfl
def QA9 (Z : State) (xo0_ : Addr) (ui1_ : Int32) (ui2_ : Int32) (ui3_ : Int32) (ui4_ : Int32) (ui5_ : Int32) (ui6_ : Int32) (ui7_ : Int32) (ui8_ : Int32) (ui9_ : Int32) (ui10_ : Int32) (ui11_ : Int32) (ui12_ : Int32) (ui13_ : Int32) (ui14_ : Int32) (ui15_ : Int32) (k_xo0_ : ClassId) (h0 : Heap) (n0 : Nat) (v : Option Value) (h : Heap) (L : List Loc) : Prop := v = some (.int ((((ui2_ &&& (255 : Int32)) <<< ((0 : Int32) &&& 31)) ||| ((ui3_ &&& (255 : Int32)) <<< ((8 : Int32) &&& 31))).toUInt32.toUInt16.toUInt32.toInt32)) ∧ Fr n0 L ∧ h = h0
set_option maxRecDepth 65536 in
set_option maxHeartbeats 40000000 in
theorem rmA9 (l : Launch) (Z : State) (a0 : Array Value) (hw : ∀ d ∈ tables_1, d.before a0 Z = true) (ws : List Jvm.Cond) (xo0_ : Addr) (ui1_ : Int32) (ui2_ : Int32) (ui3_ : Int32) (ui4_ : Int32) (ui5_ : Int32) (ui6_ : Int32) (ui7_ : Int32) (ui8_ : Int32) (ui9_ : Int32) (ui10_ : Int32) (ui11_ : Int32) (ui12_ : Int32) (ui13_ : Int32) (ui14_ : Int32) (ui15_ : Int32) (k_xo0_ : ClassId) (h0 : Heap) (n0 : Nat) (Z0 : n0 ≤ h0.size) (X00 : Old Z n0 h0) (S__assertionsDisabled : Sta Z Z.heap "java/lang/StringUTF16" "$assertionsDisabled" "Z" (.int (1 : Int32))) (V_xo0_ : Arv Z h0 xo0_ k_xo0_ .byte ui1_ [(.int ui2_), (.int ui3_), (.int ui4_), (.int ui5_), (.int ui6_), (.int ui7_), (.int ui8_), (.int ui9_), (.int ui10_), (.int ui11_), (.int ui12_), (.int ui13_), (.int ui14_), (.int ui15_)] (.int (0 : Int32))) (hp0_ : (0 : Int32) < ui1_) (S_HI_BYTE_SHIFT : Sta Z Z.heap "java/lang/StringUTF16" "HI_BYTE_SHIFT" "I" (.int (0 : Int32))) (hp1_ : (1 : Int32) < ui1_) (S_LO_BYTE_SHIFT : Sta Z Z.heap "java/lang/StringUTF16" "LO_BYTE_SHIFT" "I" (.int (8 : Int32))) :
  MetFree l (⟨"java/lang/StringUTF16", "getChar", "([BI)C"⟩ : MethodName) (head1 (Jvm.Cond.code (⟨"java/lang/StringUTF16", "getChar", "([BI)C"⟩ : MethodName) jdk_52_method_5_code 2 (some .char) :: ws) ({ frames := 0, cells := 0, slots := 0, locals := 0 } : Room)) (fun av_ U => av_ = #[(.ref xo0_), (.int (0 : Int32))] ∧ Z.Warmed39 U.vm ∧ U.heap = h0) (fun _ _ _ _ _ => True) (fun _ U o U' => ∃ v L, o = .returned v ∧ QA9 Z xo0_ ui1_ ui2_ ui3_ ui4_ ui5_ ui6_ ui7_ ui8_ ui9_ ui10_ ui11_ ui12_ ui13_ ui14_ ui15_ k_xo0_ h0 n0 v U'.heap L ∧ FrameEnd U o U' L ({ frames := 0, cells := 0, slots := 0, locals := 0 } : Room).cells ({ frames := 0, cells := 0, slots := 0, locals := 0 } : Room).slots) := by
 refine MetFree.of_bodySF (plainFor_of_name own_pn0) hisR ?_
 intro p e s m args below meth c s₁ Bd hml0 hP hK
 obtain ⟨rfl, hZ, hh⟩ := hP
 have hx := Bd.exec
 have hby := Bd.bytes
 have hml : c.maxLocals = 2 := hml0
 have hown : s.vm.findClass "java/lang/StringUTF16" = some m.cls := findClass_of_methodNamed Bd.named
 have hnm := (name_of_methodNamed Bd.named Bd.method).1
 have X0 : Stand p l e ({ frames := 0, cells := 0, slots := 0, locals := 0 } : Room) s m #[(.ref xo0_), (.int (0 : Int32))] below meth c s₁ [] 0 0 := Stand.of_body Bd
 have e0 : s₁.heap = h0 := by rw [← hh, Bd.state]; rfl
 have N0 := Fr.nil n0
 have pre0 : ∀ t, Steps p.tables e below (s₁.setTop (mkF m 0 #[.val (.ref xo0_), .val (.int (0 : Int32))] [])) t → Steps p.tables e below (s₁.setTop (entryFrame m #[(.ref xo0_), (.int (0 : Int32))] 2)) t := fun t k => castTop (efA9 m xo0_) k
 obtain ⟨T1, X1, e1, st1⟩ := getS2 X0 hx hZ hown (host := "") (Or.inl (Wd hw 91 rfl)) Via.refl e0 (S__assertionsDisabled.ext X00.2) (g := (mkF m 0 #[.val (.ref xo0_), .val (.int (0 : Int32))] [])) rfl (hb hby d21_0)
 obtain ⟨cl2, Ar2, q2, S2, M2, Hs2, G2⟩ := (id V_xo0_)
 have hin2 : ¬ ((0 : Int32) < 0 ∨ cl2.slots.size ≤ ((0 : Int32)).toNatClampNeg) := inb_of S2 ⟨by decide, hp0_⟩
 have hat2 : cl2.slots[((0 : Int32)).toNatClampNeg]? = some (.int ui2_) := Hs2.at hin2 rfl
 obtain ⟨T3, X3, e3, st3⟩ := getS2 X1 hx hZ hown (host := "") (Or.inl (Wd hw 92 rfl)) Via.refl e1 (S_HI_BYTE_SHIFT.ext X00.2) (g := (mkF m 42 #[.val (.ref xo0_), .val (.int (1 : Int32))] [(.int (ui2_ &&& (255 : Int32)))])) rfl (hb hby d21_42)
 obtain ⟨cl4, Ar4, q4, S4, M4, Hs4, G4⟩ := (id V_xo0_)
 have hin4 : ¬ ((1 : Int32) < 0 ∨ cl4.slots.size ≤ ((1 : Int32)).toNatClampNeg) := inb_of S4 ⟨by decide, hp1_⟩
 have hat4 : cl4.slots[((1 : Int32)).toNatClampNeg]? = some (.int ui3_) := Hs4.at hin4 rfl
 obtain ⟨T5, X5, e5, st5⟩ := getS2 X3 hx hZ hown (host := "") (Or.inl (Wd hw 93 rfl)) Via.refl e3 (S_LO_BYTE_SHIFT.ext X00.2) (g := (mkF m 53 #[.val (.ref xo0_), .val (.int (1 : Int32))] [(.int (ui3_ &&& (255 : Int32))), (.int ((ui2_ &&& (255 : Int32)) <<< ((0 : Int32) &&& 31)))])) rfl (hb hby d21_53)
 obtain ⟨fs, hr, hrun, hended, hW, hsame⟩ := X5.leave (v := some (.int (nar .char ((((ui2_ &&& (255 : Int32)) <<< ((0 : Int32) &&& 31)) ||| ((ui3_ &&& (255 : Int32)) <<< ((8 : Int32) &&& 31))).toUInt32.toUInt16.toUInt32.toInt32)))) (fun h => by rw [Bd.returns] at h; cases h)
 refine ⟨_, _, (pre0 _ ?_), hrun, hended, _, _, rfl, ?_, ⟨_, rfl⟩, hW, hsame.mono (by decide) (by decide)⟩
 ·show Steps p.tables e below (s₁.setTop (mkF m 0 #[.val (.ref xo0_), .val (.int (0 : Int32))] [])) _
  refine st1 _ ?_
  refine XS.ifYes X1.here hx rfl (pc0 := 3) (pc' := 28) rfl (hb hby d21_3) rfl ((if0 _ _).trans (feq (by decide : ¬ ((1 : Int32) = (0 : Int32)))).2) (by decide) (by decide) ?_
  refine XS.iloadN X1.here hx rfl (hb hby d21_28) rfl ?_
  refine XS.iconst X1.here hx rfl (hb hby d21_29) ?_
  show Steps p.tables e below (T1.setTop (mkF m 30 #[.val (.ref xo0_), .val (.int (0 : Int32))] [(.int (1 : Int32)), (.int (0 : Int32))])) _
  refine XS.ishl X1.here hx rfl (hb hby d21_30) rfl ?_
  rw [show ((0 : Int32) <<< ((1 : Int32) &&& 31)) = (0 : Int32) from by decide]
  show Steps p.tables e below (T1.setTop (mkF m 31 #[.val (.ref xo0_), .val (.int (0 : Int32))] [(.int (0 : Int32))])) _
  refine XS.istoreN X1.here hx rfl (hb hby d21_31) rfl (l' := #[.val (.ref xo0_), .val (.int (0 : Int32))]) rfl ?_
  refine XS.aloadN X1.here hx rfl (hb hby d21_32) rfl rfl ?_
  refine XS.iloadN X1.here hx rfl (hb hby d21_33) rfl ?_
  refine XS.iinc X1.here hx rfl (hb hby d21_34) rfl (l' := #[.val (.ref xo0_), .val (.int (1 : Int32))]) rfl ?_
  refine X1.baloadBytes hx (j := (0 : Int32)) (v := (.int ui2_)) (by rw [e1]; exact Ar2.1) (State.isArrayOf_alike hZ.alike Ar2.2.1) Ar2.2.2 hin2 hat2 (g := (mkF m 37 #[.val (.ref xo0_), .val (.int (1 : Int32))] [(.int (0 : Int32)), (.ref xo0_)])) rfl rfl (hb hby d21_37) _ ?_
  refine XS.sipush X1.here hx rfl (hb hby d21_38) ?_
  refine XS.iand X1.here hx rfl (hb hby d21_41) rfl ?_
  refine st3 _ ?_
  refine XS.ishl X3.here hx rfl (hb hby d21_45) rfl ?_
  refine XS.aloadN X3.here hx rfl (hb hby d21_46) rfl rfl ?_
  refine XS.iloadN X3.here hx rfl (hb hby d21_47) rfl ?_
  refine X3.baloadBytes hx (j := (1 : Int32)) (v := (.int ui3_)) (by rw [e3]; exact Ar4.1) (State.isArrayOf_alike hZ.alike Ar4.2.1) Ar4.2.2 hin4 hat4 (g := (mkF m 48 #[.val (.ref xo0_), .val (.int (1 : Int32))] [(.int (1 : Int32)), (.ref xo0_), (.int ((ui2_ &&& (255 : Int32)) <<< ((0 : Int32) &&& 31)))])) rfl rfl (hb hby d21_48) _ ?_
  refine XS.sipush X3.here hx rfl (hb hby d21_49) ?_
  refine XS.iand X3.here hx rfl (hb hby d21_52) rfl ?_
  refine st5 _ ?_
  refine XS.ishl X5.here hx rfl (hb hby d21_56) rfl ?_
  refine XS.ior X5.here hx rfl (hb hby d21_57) rfl ?_
  refine XS.i2c X5.here hx rfl (hb hby d21_58) rfl ?_
  exact retN X5 hx (t := .char) Bd.returns (by simp) (hb hby d21_59) hr
 ·show QA9 Z xo0_ ui1_ ui2_ ui3_ ui4_ ui5_ ui6_ ui7_ ui8_ ui9_ ui10_ ui11_ ui12_ ui13_ ui14_ ui15_ k_xo0_ h0 n0 _ T5.heap _
  rw [e5]
  exact ⟨(congrArg (fun w => some (Value.int w)) (own_narc _)), N0, rfl⟩
theorem own_pd5 : parseMethodDescriptor "([BI)C" = some ⟨[(.array .byte), .int], some .char⟩ := by decide +kernel
theorem efA10 (m : MethodId) (xo0_ : Addr) : entryFrame m #[(.ref xo0_), (.int (1 : Int32))] 2 = mkF m 0 #[.val (.ref xo0_), .val (.int (1 : Int32))] [] := by first | (simp [entryFrame, mkF, argsToLocals, Value.category]; done) | rfl
def QA10 (Z : State) (xo0_ : Addr) (ui1_ : Int32) (ui2_ : Int32) (ui3_ : Int32) (ui4_ : Int32) (ui5_ : Int32) (ui6_ : Int32) (ui7_ : Int32) (ui8_ : Int32) (ui9_ : Int32) (ui10_ : Int32) (ui11_ : Int32) (ui12_ : Int32) (ui13_ : Int32) (ui14_ : Int32) (ui15_ : Int32) (k_xo0_ : ClassId) (h0 : Heap) (n0 : Nat) (v : Option Value) (h : Heap) (L : List Loc) : Prop := v = some (.int ((((ui4_ &&& (255 : Int32)) <<< ((0 : Int32) &&& 31)) ||| ((ui5_ &&& (255 : Int32)) <<< ((8 : Int32) &&& 31))).toUInt32.toUInt16.toUInt32.toInt32)) ∧ Fr n0 L ∧ h = h0
set_option maxRecDepth 65536 in
set_option maxHeartbeats 40000000 in
theorem rmA10 (l : Launch) (Z : State) (a0 : Array Value) (hw : ∀ d ∈ tables_1, d.before a0 Z = true) (ws : List Jvm.Cond) (xo0_ : Addr) (ui1_ : Int32) (ui2_ : Int32) (ui3_ : Int32) (ui4_ : Int32) (ui5_ : Int32) (ui6_ : Int32) (ui7_ : Int32) (ui8_ : Int32) (ui9_ : Int32) (ui10_ : Int32) (ui11_ : Int32) (ui12_ : Int32) (ui13_ : Int32) (ui14_ : Int32) (ui15_ : Int32) (k_xo0_ : ClassId) (h0 : Heap) (n0 : Nat) (Z0 : n0 ≤ h0.size) (X00 : Old Z n0 h0) (S__assertionsDisabled : Sta Z Z.heap "java/lang/StringUTF16" "$assertionsDisabled" "Z" (.int (1 : Int32))) (V_xo0_ : Arv Z h0 xo0_ k_xo0_ .byte ui1_ [(.int ui2_), (.int ui3_), (.int ui4_), (.int ui5_), (.int ui6_), (.int ui7_), (.int ui8_), (.int ui9_), (.int ui10_), (.int ui11_), (.int ui12_), (.int ui13_), (.int ui14_), (.int ui15_)] (.int (0 : Int32))) (hp0_ : (2 : Int32) < ui1_) (S_HI_BYTE_SHIFT : Sta Z Z.heap "java/lang/StringUTF16" "HI_BYTE_SHIFT" "I" (.int (0 : Int32))) (hp1_ : (3 : Int32) < ui1_) (S_LO_BYTE_SHIFT : Sta Z Z.heap "java/lang/StringUTF16" "LO_BYTE_SHIFT" "I" (.int (8 : Int32))) :
  MetFree l (⟨"java/lang/StringUTF16", "getChar", "([BI)C"⟩ : MethodName) (head1 (Jvm.Cond.code (⟨"java/lang/StringUTF16", "getChar", "([BI)C"⟩ : MethodName) jdk_52_method_5_code 2 (some .char) :: ws) ({ frames := 0, cells := 0, slots := 0, locals := 0 } : Room)) (fun av_ U => av_ = #[(.ref xo0_), (.int (1 : Int32))] ∧ Z.Warmed39 U.vm ∧ U.heap = h0) (fun _ _ _ _ _ => True) (fun _ U o U' => ∃ v L, o = .returned v ∧ QA10 Z xo0_ ui1_ ui2_ ui3_ ui4_ ui5_ ui6_ ui7_ ui8_ ui9_ ui10_ ui11_ ui12_ ui13_ ui14_ ui15_ k_xo0_ h0 n0 v U'.heap L ∧ FrameEnd U o U' L ({ frames := 0, cells := 0, slots := 0, locals := 0 } : Room).cells ({ frames := 0, cells := 0, slots := 0, locals := 0 } : Room).slots) := by
 refine MetFree.of_bodySF (plainFor_of_name own_pn0) hisR ?_
 intro p e s m args below meth c s₁ Bd hml0 hP hK
 obtain ⟨rfl, hZ, hh⟩ := hP
 have hx := Bd.exec
 have hby := Bd.bytes
 have hml : c.maxLocals = 2 := hml0
 have hown : s.vm.findClass "java/lang/StringUTF16" = some m.cls := findClass_of_methodNamed Bd.named
 have hnm := (name_of_methodNamed Bd.named Bd.method).1
 have X0 : Stand p l e ({ frames := 0, cells := 0, slots := 0, locals := 0 } : Room) s m #[(.ref xo0_), (.int (1 : Int32))] below meth c s₁ [] 0 0 := Stand.of_body Bd
 have e0 : s₁.heap = h0 := by rw [← hh, Bd.state]; rfl
 have N0 := Fr.nil n0
 have pre0 : ∀ t, Steps p.tables e below (s₁.setTop (mkF m 0 #[.val (.ref xo0_), .val (.int (1 : Int32))] [])) t → Steps p.tables e below (s₁.setTop (entryFrame m #[(.ref xo0_), (.int (1 : Int32))] 2)) t := fun t k => castTop (efA10 m xo0_) k
 obtain ⟨T1, X1, e1, st1⟩ := getS2 X0 hx hZ hown (host := "") (Or.inl (Wd hw 91 rfl)) Via.refl e0 (S__assertionsDisabled.ext X00.2) (g := (mkF m 0 #[.val (.ref xo0_), .val (.int (1 : Int32))] [])) rfl (hb hby d21_0)
 obtain ⟨cl2, Ar2, q2, S2, M2, Hs2, G2⟩ := (id V_xo0_)
 have hin2 : ¬ ((2 : Int32) < 0 ∨ cl2.slots.size ≤ ((2 : Int32)).toNatClampNeg) := inb_of S2 ⟨by decide, hp0_⟩
 have hat2 : cl2.slots[((2 : Int32)).toNatClampNeg]? = some (.int ui4_) := Hs2.at hin2 rfl
 obtain ⟨T3, X3, e3, st3⟩ := getS2 X1 hx hZ hown (host := "") (Or.inl (Wd hw 92 rfl)) Via.refl e1 (S_HI_BYTE_SHIFT.ext X00.2) (g := (mkF m 42 #[.val (.ref xo0_), .val (.int (3 : Int32))] [(.int (ui4_ &&& (255 : Int32)))])) rfl (hb hby d21_42)
 obtain ⟨cl4, Ar4, q4, S4, M4, Hs4, G4⟩ := (id V_xo0_)
 have hin4 : ¬ ((3 : Int32) < 0 ∨ cl4.slots.size ≤ ((3 : Int32)).toNatClampNeg) := inb_of S4 ⟨by decide, hp1_⟩
 have hat4 : cl4.slots[((3 : Int32)).toNatClampNeg]? = some (.int ui5_) := Hs4.at hin4 rfl
 obtain ⟨T5, X5, e5, st5⟩ := getS2 X3 hx hZ hown (host := "") (Or.inl (Wd hw 93 rfl)) Via.refl e3 (S_LO_BYTE_SHIFT.ext X00.2) (g := (mkF m 53 #[.val (.ref xo0_), .val (.int (3 : Int32))] [(.int (ui5_ &&& (255 : Int32))), (.int ((ui4_ &&& (255 : Int32)) <<< ((0 : Int32) &&& 31)))])) rfl (hb hby d21_53)
 obtain ⟨fs, hr, hrun, hended, hW, hsame⟩ := X5.leave (v := some (.int (nar .char ((((ui4_ &&& (255 : Int32)) <<< ((0 : Int32) &&& 31)) ||| ((ui5_ &&& (255 : Int32)) <<< ((8 : Int32) &&& 31))).toUInt32.toUInt16.toUInt32.toInt32)))) (fun h => by rw [Bd.returns] at h; cases h)
 refine ⟨_, _, (pre0 _ ?_), hrun, hended, _, _, rfl, ?_, ⟨_, rfl⟩, hW, hsame.mono (by decide) (by decide)⟩
 ·show Steps p.tables e below (s₁.setTop (mkF m 0 #[.val (.ref xo0_), .val (.int (1 : Int32))] [])) _
  refine st1 _ ?_
  refine XS.ifYes X1.here hx rfl (pc0 := 3) (pc' := 28) rfl (hb hby d21_3) rfl ((if0 _ _).trans (feq (by decide : ¬ ((1 : Int32) = (0 : Int32)))).2) (by decide) (by decide) ?_
  refine XS.iloadN X1.here hx rfl (hb hby d21_28) rfl ?_
  refine XS.iconst X1.here hx rfl (hb hby d21_29) ?_
  show Steps p.tables e below (T1.setTop (mkF m 30 #[.val (.ref xo0_), .val (.int (1 : Int32))] [(.int (1 : Int32)), (.int (1 : Int32))])) _
  refine XS.ishl X1.here hx rfl (hb hby d21_30) rfl ?_
  rw [show ((1 : Int32) <<< ((1 : Int32) &&& 31)) = (2 : Int32) from by decide]
  show Steps p.tables e below (T1.setTop (mkF m 31 #[.val (.ref xo0_), .val (.int (1 : Int32))] [(.int (2 : Int32))])) _
  refine XS.istoreN X1.here hx rfl (hb hby d21_31) rfl (l' := #[.val (.ref xo0_), .val (.int (2 : Int32))]) rfl ?_
  refine XS.aloadN X1.here hx rfl (hb hby d21_32) rfl rfl ?_
  refine XS.iloadN X1.here hx rfl (hb hby d21_33) rfl ?_
  refine XS.iinc X1.here hx rfl (hb hby d21_34) rfl (l' := #[.val (.ref xo0_), .val (.int (3 : Int32))]) rfl ?_
  refine X1.baloadBytes hx (j := (2 : Int32)) (v := (.int ui4_)) (by rw [e1]; exact Ar2.1) (State.isArrayOf_alike hZ.alike Ar2.2.1) Ar2.2.2 hin2 hat2 (g := (mkF m 37 #[.val (.ref xo0_), .val (.int (3 : Int32))] [(.int (2 : Int32)), (.ref xo0_)])) rfl rfl (hb hby d21_37) _ ?_
  refine XS.sipush X1.here hx rfl (hb hby d21_38) ?_
  refine XS.iand X1.here hx rfl (hb hby d21_41) rfl ?_
  refine st3 _ ?_
  refine XS.ishl X3.here hx rfl (hb hby d21_45) rfl ?_
  refine XS.aloadN X3.here hx rfl (hb hby d21_46) rfl rfl ?_
  refine XS.iloadN X3.here hx rfl (hb hby d21_47) rfl ?_
  refine X3.baloadBytes hx (j := (3 : Int32)) (v := (.int ui5_)) (by rw [e3]; exact Ar4.1) (State.isArrayOf_alike hZ.alike Ar4.2.1) Ar4.2.2 hin4 hat4 (g := (mkF m 48 #[.val (.ref xo0_), .val (.int (3 : Int32))] [(.int (3 : Int32)), (.ref xo0_), (.int ((ui4_ &&& (255 : Int32)) <<< ((0 : Int32) &&& 31)))])) rfl rfl (hb hby d21_48) _ ?_
  refine XS.sipush X3.here hx rfl (hb hby d21_49) ?_
  refine XS.iand X3.here hx rfl (hb hby d21_52) rfl ?_
  refine st5 _ ?_
  refine XS.ishl X5.here hx rfl (hb hby d21_56) rfl ?_
  refine XS.ior X5.here hx rfl (hb hby d21_57) rfl ?_
  refine XS.i2c X5.here hx rfl (hb hby d21_58) rfl ?_
  exact retN X5 hx (t := .char) Bd.returns (by simp) (hb hby d21_59) hr
 ·show QA10 Z xo0_ ui1_ ui2_ ui3_ ui4_ ui5_ ui6_ ui7_ ui8_ ui9_ ui10_ ui11_ ui12_ ui13_ ui14_ ui15_ k_xo0_ h0 n0 _ T5.heap _
  rw [e5]
  exact ⟨(congrArg (fun w => some (Value.int w)) (own_narc _)), N0, rfl⟩
theorem efA11 (m : MethodId) (xo0_ : Addr) : entryFrame m #[(.ref xo0_), (.int (2 : Int32))] 2 = mkF m 0 #[.val (.ref xo0_), .val (.int (2 : Int32))] [] := by first | (simp [entryFrame, mkF, argsToLocals, Value.category]; done) | rfl
def QA11 (Z : State) (xo0_ : Addr) (ui1_ : Int32) (ui2_ : Int32) (ui3_ : Int32) (ui4_ : Int32) (ui5_ : Int32) (ui6_ : Int32) (ui7_ : Int32) (ui8_ : Int32) (ui9_ : Int32) (ui10_ : Int32) (ui11_ : Int32) (ui12_ : Int32) (ui13_ : Int32) (ui14_ : Int32) (ui15_ : Int32) (k_xo0_ : ClassId) (h0 : Heap) (n0 : Nat) (v : Option Value) (h : Heap) (L : List Loc) : Prop := v = some (.int ((((ui6_ &&& (255 : Int32)) <<< ((0 : Int32) &&& 31)) ||| ((ui7_ &&& (255 : Int32)) <<< ((8 : Int32) &&& 31))).toUInt32.toUInt16.toUInt32.toInt32)) ∧ Fr n0 L ∧ h = h0
set_option maxRecDepth 65536 in
set_option maxHeartbeats 40000000 in
theorem rmA11 (l : Launch) (Z : State) (a0 : Array Value) (hw : ∀ d ∈ tables_1, d.before a0 Z = true) (ws : List Jvm.Cond) (xo0_ : Addr) (ui1_ : Int32) (ui2_ : Int32) (ui3_ : Int32) (ui4_ : Int32) (ui5_ : Int32) (ui6_ : Int32) (ui7_ : Int32) (ui8_ : Int32) (ui9_ : Int32) (ui10_ : Int32) (ui11_ : Int32) (ui12_ : Int32) (ui13_ : Int32) (ui14_ : Int32) (ui15_ : Int32) (k_xo0_ : ClassId) (h0 : Heap) (n0 : Nat) (Z0 : n0 ≤ h0.size) (X00 : Old Z n0 h0) (S__assertionsDisabled : Sta Z Z.heap "java/lang/StringUTF16" "$assertionsDisabled" "Z" (.int (1 : Int32))) (V_xo0_ : Arv Z h0 xo0_ k_xo0_ .byte ui1_ [(.int ui2_), (.int ui3_), (.int ui4_), (.int ui5_), (.int ui6_), (.int ui7_), (.int ui8_), (.int ui9_), (.int ui10_), (.int ui11_), (.int ui12_), (.int ui13_), (.int ui14_), (.int ui15_)] (.int (0 : Int32))) (hp0_ : (4 : Int32) < ui1_) (S_HI_BYTE_SHIFT : Sta Z Z.heap "java/lang/StringUTF16" "HI_BYTE_SHIFT" "I" (.int (0 : Int32))) (hp1_ : (5 : Int32) < ui1_) (S_LO_BYTE_SHIFT : Sta Z Z.heap "java/lang/StringUTF16" "LO_BYTE_SHIFT" "I" (.int (8 : Int32))) :
  MetFree l (⟨"java/lang/StringUTF16", "getChar", "([BI)C"⟩ : MethodName) (head1 (Jvm.Cond.code (⟨"java/lang/StringUTF16", "getChar", "([BI)C"⟩ : MethodName) jdk_52_method_5_code 2 (some .char) :: ws) ({ frames := 0, cells := 0, slots := 0, locals := 0 } : Room)) (fun av_ U => av_ = #[(.ref xo0_), (.int (2 : Int32))] ∧ Z.Warmed39 U.vm ∧ U.heap = h0) (fun _ _ _ _ _ => True) (fun _ U o U' => ∃ v L, o = .returned v ∧ QA11 Z xo0_ ui1_ ui2_ ui3_ ui4_ ui5_ ui6_ ui7_ ui8_ ui9_ ui10_ ui11_ ui12_ ui13_ ui14_ ui15_ k_xo0_ h0 n0 v U'.heap L ∧ FrameEnd U o U' L ({ frames := 0, cells := 0, slots := 0, locals := 0 } : Room).cells ({ frames := 0, cells := 0, slots := 0, locals := 0 } : Room).slots) := by
 refine MetFree.of_bodySF (plainFor_of_name own_pn0) hisR ?_
 intro p e s m args below meth c s₁ Bd hml0 hP hK
 obtain ⟨rfl, hZ, hh⟩ := hP
 have hx := Bd.exec
 have hby := Bd.bytes
 have hml : c.maxLocals = 2 := hml0
 have hown : s.vm.findClass "java/lang/StringUTF16" = some m.cls := findClass_of_methodNamed Bd.named
 have hnm := (name_of_methodNamed Bd.named Bd.method).1
 have X0 : Stand p l e ({ frames := 0, cells := 0, slots := 0, locals := 0 } : Room) s m #[(.ref xo0_), (.int (2 : Int32))] below meth c s₁ [] 0 0 := Stand.of_body Bd
 have e0 : s₁.heap = h0 := by rw [← hh, Bd.state]; rfl
 have N0 := Fr.nil n0
 have pre0 : ∀ t, Steps p.tables e below (s₁.setTop (mkF m 0 #[.val (.ref xo0_), .val (.int (2 : Int32))] [])) t → Steps p.tables e below (s₁.setTop (entryFrame m #[(.ref xo0_), (.int (2 : Int32))] 2)) t := fun t k => castTop (efA11 m xo0_) k
 obtain ⟨T1, X1, e1, st1⟩ := getS2 X0 hx hZ hown (host := "") (Or.inl (Wd hw 91 rfl)) Via.refl e0 (S__assertionsDisabled.ext X00.2) (g := (mkF m 0 #[.val (.ref xo0_), .val (.int (2 : Int32))] [])) rfl (hb hby d21_0)
 obtain ⟨cl2, Ar2, q2, S2, M2, Hs2, G2⟩ := (id V_xo0_)
 have hin2 : ¬ ((4 : Int32) < 0 ∨ cl2.slots.size ≤ ((4 : Int32)).toNatClampNeg) := inb_of S2 ⟨by decide, hp0_⟩
 have hat2 : cl2.slots[((4 : Int32)).toNatClampNeg]? = some (.int ui6_) := Hs2.at hin2 rfl
 obtain ⟨T3, X3, e3, st3⟩ := getS2 X1 hx hZ hown (host := "") (Or.inl (Wd hw 92 rfl)) Via.refl e1 (S_HI_BYTE_SHIFT.ext X00.2) (g := (mkF m 42 #[.val (.ref xo0_), .val (.int (5 : Int32))] [(.int (ui6_ &&& (255 : Int32)))])) rfl (hb hby d21_42)
 obtain ⟨cl4, Ar4, q4, S4, M4, Hs4, G4⟩ := (id V_xo0_)
 have hin4 : ¬ ((5 : Int32) < 0 ∨ cl4.slots.size ≤ ((5 : Int32)).toNatClampNeg) := inb_of S4 ⟨by decide, hp1_⟩
 have hat4 : cl4.slots[((5 : Int32)).toNatClampNeg]? = some (.int ui7_) := Hs4.at hin4 rfl
 obtain ⟨T5, X5, e5, st5⟩ := getS2 X3 hx hZ hown (host := "") (Or.inl (Wd hw 93 rfl)) Via.refl e3 (S_LO_BYTE_SHIFT.ext X00.2) (g := (mkF m 53 #[.val (.ref xo0_), .val (.int (5 : Int32))] [(.int (ui7_ &&& (255 : Int32))), (.int ((ui6_ &&& (255 : Int32)) <<< ((0 : Int32) &&& 31)))])) rfl (hb hby d21_53)
 obtain ⟨fs, hr, hrun, hended, hW, hsame⟩ := X5.leave (v := some (.int (nar .char ((((ui6_ &&& (255 : Int32)) <<< ((0 : Int32) &&& 31)) ||| ((ui7_ &&& (255 : Int32)) <<< ((8 : Int32) &&& 31))).toUInt32.toUInt16.toUInt32.toInt32)))) (fun h => by rw [Bd.returns] at h; cases h)
 refine ⟨_, _, (pre0 _ ?_), hrun, hended, _, _, rfl, ?_, ⟨_, rfl⟩, hW, hsame.mono (by decide) (by decide)⟩
 ·show Steps p.tables e below (s₁.setTop (mkF m 0 #[.val (.ref xo0_), .val (.int (2 : Int32))] [])) _
  refine st1 _ ?_
  refine XS.ifYes X1.here hx rfl (pc0 := 3) (pc' := 28) rfl (hb hby d21_3) rfl ((if0 _ _).trans (feq (by decide : ¬ ((1 : Int32) = (0 : Int32)))).2) (by decide) (by decide) ?_
  refine XS.iloadN X1.here hx rfl (hb hby d21_28) rfl ?_
  refine XS.iconst X1.here hx rfl (hb hby d21_29) ?_
  show Steps p.tables e below (T1.setTop (mkF m 30 #[.val (.ref xo0_), .val (.int (2 : Int32))] [(.int (1 : Int32)), (.int (2 : Int32))])) _
  refine XS.ishl X1.here hx rfl (hb hby d21_30) rfl ?_
  rw [show ((2 : Int32) <<< ((1 : Int32) &&& 31)) = (4 : Int32) from by decide]
  show Steps p.tables e below (T1.setTop (mkF m 31 #[.val (.ref xo0_), .val (.int (2 : Int32))] [(.int (4 : Int32))])) _
  refine XS.istoreN X1.here hx rfl (hb hby d21_31) rfl (l' := #[.val (.ref xo0_), .val (.int (4 : Int32))]) rfl ?_
  refine XS.aloadN X1.here hx rfl (hb hby d21_32) rfl rfl ?_
  refine XS.iloadN X1.here hx rfl (hb hby d21_33) rfl ?_
  refine XS.iinc X1.here hx rfl (hb hby d21_34) rfl (l' := #[.val (.ref xo0_), .val (.int (5 : Int32))]) rfl ?_
  refine X1.baloadBytes hx (j := (4 : Int32)) (v := (.int ui6_)) (by rw [e1]; exact Ar2.1) (State.isArrayOf_alike hZ.alike Ar2.2.1) Ar2.2.2 hin2 hat2 (g := (mkF m 37 #[.val (.ref xo0_), .val (.int (5 : Int32))] [(.int (4 : Int32)), (.ref xo0_)])) rfl rfl (hb hby d21_37) _ ?_
  refine XS.sipush X1.here hx rfl (hb hby d21_38) ?_
  refine XS.iand X1.here hx rfl (hb hby d21_41) rfl ?_
  refine st3 _ ?_
  refine XS.ishl X3.here hx rfl (hb hby d21_45) rfl ?_
  refine XS.aloadN X3.here hx rfl (hb hby d21_46) rfl rfl ?_
  refine XS.iloadN X3.here hx rfl (hb hby d21_47) rfl ?_
  refine X3.baloadBytes hx (j := (5 : Int32)) (v := (.int ui7_)) (by rw [e3]; exact Ar4.1) (State.isArrayOf_alike hZ.alike Ar4.2.1) Ar4.2.2 hin4 hat4 (g := (mkF m 48 #[.val (.ref xo0_), .val (.int (5 : Int32))] [(.int (5 : Int32)), (.ref xo0_), (.int ((ui6_ &&& (255 : Int32)) <<< ((0 : Int32) &&& 31)))])) rfl rfl (hb hby d21_48) _ ?_
  refine XS.sipush X3.here hx rfl (hb hby d21_49) ?_
  refine XS.iand X3.here hx rfl (hb hby d21_52) rfl ?_
  refine st5 _ ?_
  refine XS.ishl X5.here hx rfl (hb hby d21_56) rfl ?_
  refine XS.ior X5.here hx rfl (hb hby d21_57) rfl ?_
  refine XS.i2c X5.here hx rfl (hb hby d21_58) rfl ?_
  exact retN X5 hx (t := .char) Bd.returns (by simp) (hb hby d21_59) hr
 ·show QA11 Z xo0_ ui1_ ui2_ ui3_ ui4_ ui5_ ui6_ ui7_ ui8_ ui9_ ui10_ ui11_ ui12_ ui13_ ui14_ ui15_ k_xo0_ h0 n0 _ T5.heap _
  rw [e5]
  exact ⟨(congrArg (fun w => some (Value.int w)) (own_narc _)), N0, rfl⟩
theorem efA12 (m : MethodId) (xo0_ : Addr) : entryFrame m #[(.ref xo0_), (.int (3 : Int32))] 2 = mkF m 0 #[.val (.ref xo0_), .val (.int (3 : Int32))] [] := by first | (simp [entryFrame, mkF, argsToLocals, Value.category]; done) | rfl
def QA12 (Z : State) (xo0_ : Addr) (ui1_ : Int32) (ui2_ : Int32) (ui3_ : Int32) (ui4_ : Int32) (ui5_ : Int32) (ui6_ : Int32) (ui7_ : Int32) (ui8_ : Int32) (ui9_ : Int32) (ui10_ : Int32) (ui11_ : Int32) (ui12_ : Int32) (ui13_ : Int32) (ui14_ : Int32) (ui15_ : Int32) (k_xo0_ : ClassId) (h0 : Heap) (n0 : Nat) (v : Option Value) (h : Heap) (L : List Loc) : Prop := v = some (.int ((((ui8_ &&& (255 : Int32)) <<< ((0 : Int32) &&& 31)) ||| ((ui9_ &&& (255 : Int32)) <<< ((8 : Int32) &&& 31))).toUInt32.toUInt16.toUInt32.toInt32)) ∧ Fr n0 L ∧ h = h0
set_option maxRecDepth 65536 in
set_option maxHeartbeats 40000000 in
theorem rmA12 (l : Launch) (Z : State) (a0 : Array Value) (hw : ∀ d ∈ tables_1, d.before a0 Z = true) (ws : List Jvm.Cond) (xo0_ : Addr) (ui1_ : Int32) (ui2_ : Int32) (ui3_ : Int32) (ui4_ : Int32) (ui5_ : Int32) (ui6_ : Int32) (ui7_ : Int32) (ui8_ : Int32) (ui9_ : Int32) (ui10_ : Int32) (ui11_ : Int32) (ui12_ : Int32) (ui13_ : Int32) (ui14_ : Int32) (ui15_ : Int32) (k_xo0_ : ClassId) (h0 : Heap) (n0 : Nat) (Z0 : n0 ≤ h0.size) (X00 : Old Z n0 h0) (S__assertionsDisabled : Sta Z Z.heap "java/lang/StringUTF16" "$assertionsDisabled" "Z" (.int (1 : Int32))) (V_xo0_ : Arv Z h0 xo0_ k_xo0_ .byte ui1_ [(.int ui2_), (.int ui3_), (.int ui4_), (.int ui5_), (.int ui6_), (.int ui7_), (.int ui8_), (.int ui9_), (.int ui10_), (.int ui11_), (.int ui12_), (.int ui13_), (.int ui14_), (.int ui15_)] (.int (0 : Int32))) (hp0_ : (6 : Int32) < ui1_) (S_HI_BYTE_SHIFT : Sta Z Z.heap "java/lang/StringUTF16" "HI_BYTE_SHIFT" "I" (.int (0 : Int32))) (hp1_ : (7 : Int32) < ui1_) (S_LO_BYTE_SHIFT : Sta Z Z.heap "java/lang/StringUTF16" "LO_BYTE_SHIFT" "I" (.int (8 : Int32))) :
  MetFree l (⟨"java/lang/StringUTF16", "getChar", "([BI)C"⟩ : MethodName) (head1 (Jvm.Cond.code (⟨"java/lang/StringUTF16", "getChar", "([BI)C"⟩ : MethodName) jdk_52_method_5_code 2 (some .char) :: ws) ({ frames := 0, cells := 0, slots := 0, locals := 0 } : Room)) (fun av_ U => av_ = #[(.ref xo0_), (.int (3 : Int32))] ∧ Z.Warmed39 U.vm ∧ U.heap = h0) (fun _ _ _ _ _ => True) (fun _ U o U' => ∃ v L, o = .returned v ∧ QA12 Z xo0_ ui1_ ui2_ ui3_ ui4_ ui5_ ui6_ ui7_ ui8_ ui9_ ui10_ ui11_ ui12_ ui13_ ui14_ ui15_ k_xo0_ h0 n0 v U'.heap L ∧ FrameEnd U o U' L ({ frames := 0, cells := 0, slots := 0, locals := 0 } : Room).cells ({ frames := 0, cells := 0, slots := 0, locals := 0 } : Room).slots) := by
 refine MetFree.of_bodySF (plainFor_of_name own_pn0) hisR ?_
 intro p e s m args below meth c s₁ Bd hml0 hP hK
 obtain ⟨rfl, hZ, hh⟩ := hP
 have hx := Bd.exec
 have hby := Bd.bytes
 have hml : c.maxLocals = 2 := hml0
 have hown : s.vm.findClass "java/lang/StringUTF16" = some m.cls := findClass_of_methodNamed Bd.named
 have hnm := (name_of_methodNamed Bd.named Bd.method).1
 have X0 : Stand p l e ({ frames := 0, cells := 0, slots := 0, locals := 0 } : Room) s m #[(.ref xo0_), (.int (3 : Int32))] below meth c s₁ [] 0 0 := Stand.of_body Bd
 have e0 : s₁.heap = h0 := by rw [← hh, Bd.state]; rfl
 have N0 := Fr.nil n0
 have pre0 : ∀ t, Steps p.tables e below (s₁.setTop (mkF m 0 #[.val (.ref xo0_), .val (.int (3 : Int32))] [])) t → Steps p.tables e below (s₁.setTop (entryFrame m #[(.ref xo0_), (.int (3 : Int32))] 2)) t := fun t k => castTop (efA12 m xo0_) k
 obtain ⟨T1, X1, e1, st1⟩ := getS2 X0 hx hZ hown (host := "") (Or.inl (Wd hw 91 rfl)) Via.refl e0 (S__assertionsDisabled.ext X00.2) (g := (mkF m 0 #[.val (.ref xo0_), .val (.int (3 : Int32))] [])) rfl (hb hby d21_0)
 obtain ⟨cl2, Ar2, q2, S2, M2, Hs2, G2⟩ := (id V_xo0_)
 have hin2 : ¬ ((6 : Int32) < 0 ∨ cl2.slots.size ≤ ((6 : Int32)).toNatClampNeg) := inb_of S2 ⟨by decide, hp0_⟩
 have hat2 : cl2.slots[((6 : Int32)).toNatClampNeg]? = some (.int ui8_) := Hs2.at hin2 rfl
 obtain ⟨T3, X3, e3, st3⟩ := getS2 X1 hx hZ hown (host := "") (Or.inl (Wd hw 92 rfl)) Via.refl e1 (S_HI_BYTE_SHIFT.ext X00.2) (g := (mkF m 42 #[.val (.ref xo0_), .val (.int (7 : Int32))] [(.int (ui8_ &&& (255 : Int32)))])) rfl (hb hby d21_42)
 obtain ⟨cl4, Ar4, q4, S4, M4, Hs4, G4⟩ := (id V_xo0_)
 have hin4 : ¬ ((7 : Int32) < 0 ∨ cl4.slots.size ≤ ((7 : Int32)).toNatClampNeg) := inb_of S4 ⟨by decide, hp1_⟩
 have hat4 : cl4.slots[((7 : Int32)).toNatClampNeg]? = some (.int ui9_) := Hs4.at hin4 rfl
 obtain ⟨T5, X5, e5, st5⟩ := getS2 X3 hx hZ hown (host := "") (Or.inl (Wd hw 93 rfl)) Via.refl e3 (S_LO_BYTE_SHIFT.ext X00.2) (g := (mkF m 53 #[.val (.ref xo0_), .val (.int (7 : Int32))] [(.int (ui9_ &&& (255 : Int32))), (.int ((ui8_ &&& (255 : Int32)) <<< ((0 : Int32) &&& 31)))])) rfl (hb hby d21_53)
 obtain ⟨fs, hr, hrun, hended, hW, hsame⟩ := X5.leave (v := some (.int (nar .char ((((ui8_ &&& (255 : Int32)) <<< ((0 : Int32) &&& 31)) ||| ((ui9_ &&& (255 : Int32)) <<< ((8 : Int32) &&& 31))).toUInt32.toUInt16.toUInt32.toInt32)))) (fun h => by rw [Bd.returns] at h; cases h)
 refine ⟨_, _, (pre0 _ ?_), hrun, hended, _, _, rfl, ?_, ⟨_, rfl⟩, hW, hsame.mono (by decide) (by decide)⟩
 ·show Steps p.tables e below (s₁.setTop (mkF m 0 #[.val (.ref xo0_), .val (.int (3 : Int32))] [])) _
  refine st1 _ ?_
  refine XS.ifYes X1.here hx rfl (pc0 := 3) (pc' := 28) rfl (hb hby d21_3) rfl ((if0 _ _).trans (feq (by decide : ¬ ((1 : Int32) = (0 : Int32)))).2) (by decide) (by decide) ?_
  refine XS.iloadN X1.here hx rfl (hb hby d21_28) rfl ?_
  refine XS.iconst X1.here hx rfl (hb hby d21_29) ?_
  show Steps p.tables e below (T1.setTop (mkF m 30 #[.val (.ref xo0_), .val (.int (3 : Int32))] [(.int (1 : Int32)), (.int (3 : Int32))])) _
  refine XS.ishl X1.here hx rfl (hb hby d21_30) rfl ?_
  rw [show ((3 : Int32) <<< ((1 : Int32) &&& 31)) = (6 : Int32) from by decide]
  show Steps p.tables e below (T1.setTop (mkF m 31 #[.val (.ref xo0_), .val (.int (3 : Int32))] [(.int (6 : Int32))])) _
  refine XS.istoreN X1.here hx rfl (hb hby d21_31) rfl (l' := #[.val (.ref xo0_), .val (.int (6 : Int32))]) rfl ?_
  refine XS.aloadN X1.here hx rfl (hb hby d21_32) rfl rfl ?_
  refine XS.iloadN X1.here hx rfl (hb hby d21_33) rfl ?_
  refine XS.iinc X1.here hx rfl (hb hby d21_34) rfl (l' := #[.val (.ref xo0_), .val (.int (7 : Int32))]) rfl ?_
  refine X1.baloadBytes hx (j := (6 : Int32)) (v := (.int ui8_)) (by rw [e1]; exact Ar2.1) (State.isArrayOf_alike hZ.alike Ar2.2.1) Ar2.2.2 hin2 hat2 (g := (mkF m 37 #[.val (.ref xo0_), .val (.int (7 : Int32))] [(.int (6 : Int32)), (.ref xo0_)])) rfl rfl (hb hby d21_37) _ ?_
  refine XS.sipush X1.here hx rfl (hb hby d21_38) ?_
  refine XS.iand X1.here hx rfl (hb hby d21_41) rfl ?_
  refine st3 _ ?_
  refine XS.ishl X3.here hx rfl (hb hby d21_45) rfl ?_
  refine XS.aloadN X3.here hx rfl (hb hby d21_46) rfl rfl ?_
  refine XS.iloadN X3.here hx rfl (hb hby d21_47) rfl ?_
  refine X3.baloadBytes hx (j := (7 : Int32)) (v := (.int ui9_)) (by rw [e3]; exact Ar4.1) (State.isArrayOf_alike hZ.alike Ar4.2.1) Ar4.2.2 hin4 hat4 (g := (mkF m 48 #[.val (.ref xo0_), .val (.int (7 : Int32))] [(.int (7 : Int32)), (.ref xo0_), (.int ((ui8_ &&& (255 : Int32)) <<< ((0 : Int32) &&& 31)))])) rfl rfl (hb hby d21_48) _ ?_
  refine XS.sipush X3.here hx rfl (hb hby d21_49) ?_
  refine XS.iand X3.here hx rfl (hb hby d21_52) rfl ?_
  refine st5 _ ?_
  refine XS.ishl X5.here hx rfl (hb hby d21_56) rfl ?_
  refine XS.ior X5.here hx rfl (hb hby d21_57) rfl ?_
  refine XS.i2c X5.here hx rfl (hb hby d21_58) rfl ?_
  exact retN X5 hx (t := .char) Bd.returns (by simp) (hb hby d21_59) hr
 ·show QA12 Z xo0_ ui1_ ui2_ ui3_ ui4_ ui5_ ui6_ ui7_ ui8_ ui9_ ui10_ ui11_ ui12_ ui13_ ui14_ ui15_ k_xo0_ h0 n0 _ T5.heap _
  rw [e5]
  exact ⟨(congrArg (fun w => some (Value.int w)) (own_narc _)), N0, rfl⟩
theorem efA13 (m : MethodId) (xo0_ : Addr) : entryFrame m #[(.ref xo0_), (.int (4 : Int32))] 2 = mkF m 0 #[.val (.ref xo0_), .val (.int (4 : Int32))] [] := by first | (simp [entryFrame, mkF, argsToLocals, Value.category]; done) | rfl
def QA13 (Z : State) (xo0_ : Addr) (ui1_ : Int32) (ui2_ : Int32) (ui3_ : Int32) (ui4_ : Int32) (ui5_ : Int32) (ui6_ : Int32) (ui7_ : Int32) (ui8_ : Int32) (ui9_ : Int32) (ui10_ : Int32) (ui11_ : Int32) (ui12_ : Int32) (ui13_ : Int32) (ui14_ : Int32) (ui15_ : Int32) (k_xo0_ : ClassId) (h0 : Heap) (n0 : Nat) (v : Option Value) (h : Heap) (L : List Loc) : Prop := v = some (.int ((((ui10_ &&& (255 : Int32)) <<< ((0 : Int32) &&& 31)) ||| ((ui11_ &&& (255 : Int32)) <<< ((8 : Int32) &&& 31))).toUInt32.toUInt16.toUInt32.toInt32)) ∧ Fr n0 L ∧ h = h0
set_option maxRecDepth 65536 in
set_option maxHeartbeats 40000000 in
theorem rmA13 (l : Launch) (Z : State) (a0 : Array Value) (hw : ∀ d ∈ tables_1, d.before a0 Z = true) (ws : List Jvm.Cond) (xo0_ : Addr) (ui1_ : Int32) (ui2_ : Int32) (ui3_ : Int32) (ui4_ : Int32) (ui5_ : Int32) (ui6_ : Int32) (ui7_ : Int32) (ui8_ : Int32) (ui9_ : Int32) (ui10_ : Int32) (ui11_ : Int32) (ui12_ : Int32) (ui13_ : Int32) (ui14_ : Int32) (ui15_ : Int32) (k_xo0_ : ClassId) (h0 : Heap) (n0 : Nat) (Z0 : n0 ≤ h0.size) (X00 : Old Z n0 h0) (S__assertionsDisabled : Sta Z Z.heap "java/lang/StringUTF16" "$assertionsDisabled" "Z" (.int (1 : Int32))) (V_xo0_ : Arv Z h0 xo0_ k_xo0_ .byte ui1_ [(.int ui2_), (.int ui3_), (.int ui4_), (.int ui5_), (.int ui6_), (.int ui7_), (.int ui8_), (.int ui9_), (.int ui10_), (.int ui11_), (.int ui12_), (.int ui13_), (.int ui14_), (.int ui15_)] (.int (0 : Int32))) (hp0_ : (8 : Int32) < ui1_) (S_HI_BYTE_SHIFT : Sta Z Z.heap "java/lang/StringUTF16" "HI_BYTE_SHIFT" "I" (.int (0 : Int32))) (hp1_ : (9 : Int32) < ui1_) (S_LO_BYTE_SHIFT : Sta Z Z.heap "java/lang/StringUTF16" "LO_BYTE_SHIFT" "I" (.int (8 : Int32))) :
  MetFree l (⟨"java/lang/StringUTF16", "getChar", "([BI)C"⟩ : MethodName) (head1 (Jvm.Cond.code (⟨"java/lang/StringUTF16", "getChar", "([BI)C"⟩ : MethodName) jdk_52_method_5_code 2 (some .char) :: ws) ({ frames := 0, cells := 0, slots := 0, locals := 0 } : Room)) (fun av_ U => av_ = #[(.ref xo0_), (.int (4 : Int32))] ∧ Z.Warmed39 U.vm ∧ U.heap = h0) (fun _ _ _ _ _ => True) (fun _ U o U' => ∃ v L, o = .returned v ∧ QA13 Z xo0_ ui1_ ui2_ ui3_ ui4_ ui5_ ui6_ ui7_ ui8_ ui9_ ui10_ ui11_ ui12_ ui13_ ui14_ ui15_ k_xo0_ h0 n0 v U'.heap L ∧ FrameEnd U o U' L ({ frames := 0, cells := 0, slots := 0, locals := 0 } : Room).cells ({ frames := 0, cells := 0, slots := 0, locals := 0 } : Room).slots) := by
 refine MetFree.of_bodySF (plainFor_of_name own_pn0) hisR ?_
 intro p e s m args below meth c s₁ Bd hml0 hP hK
 obtain ⟨rfl, hZ, hh⟩ := hP
 have hx := Bd.exec
 have hby := Bd.bytes
 have hml : c.maxLocals = 2 := hml0
 have hown : s.vm.findClass "java/lang/StringUTF16" = some m.cls := findClass_of_methodNamed Bd.named
 have hnm := (name_of_methodNamed Bd.named Bd.method).1
 have X0 : Stand p l e ({ frames := 0, cells := 0, slots := 0, locals := 0 } : Room) s m #[(.ref xo0_), (.int (4 : Int32))] below meth c s₁ [] 0 0 := Stand.of_body Bd
 have e0 : s₁.heap = h0 := by rw [← hh, Bd.state]; rfl
 have N0 := Fr.nil n0
 have pre0 : ∀ t, Steps p.tables e below (s₁.setTop (mkF m 0 #[.val (.ref xo0_), .val (.int (4 : Int32))] [])) t → Steps p.tables e below (s₁.setTop (entryFrame m #[(.ref xo0_), (.int (4 : Int32))] 2)) t := fun t k => castTop (efA13 m xo0_) k
 obtain ⟨T1, X1, e1, st1⟩ := getS2 X0 hx hZ hown (host := "") (Or.inl (Wd hw 91 rfl)) Via.refl e0 (S__assertionsDisabled.ext X00.2) (g := (mkF m 0 #[.val (.ref xo0_), .val (.int (4 : Int32))] [])) rfl (hb hby d21_0)
 obtain ⟨cl2, Ar2, q2, S2, M2, Hs2, G2⟩ := (id V_xo0_)
 have hin2 : ¬ ((8 : Int32) < 0 ∨ cl2.slots.size ≤ ((8 : Int32)).toNatClampNeg) := inb_of S2 ⟨by decide, hp0_⟩
 have hat2 : cl2.slots[((8 : Int32)).toNatClampNeg]? = some (.int ui10_) := Hs2.at hin2 rfl
 obtain ⟨T3, X3, e3, st3⟩ := getS2 X1 hx hZ hown (host := "") (Or.inl (Wd hw 92 rfl)) Via.refl e1 (S_HI_BYTE_SHIFT.ext X00.2) (g := (mkF m 42 #[.val (.ref xo0_), .val (.int (9 : Int32))] [(.int (ui10_ &&& (255 : Int32)))])) rfl (hb hby d21_42)
 obtain ⟨cl4, Ar4, q4, S4, M4, Hs4, G4⟩ := (id V_xo0_)
 have hin4 : ¬ ((9 : Int32) < 0 ∨ cl4.slots.size ≤ ((9 : Int32)).toNatClampNeg) := inb_of S4 ⟨by decide, hp1_⟩
 have hat4 : cl4.slots[((9 : Int32)).toNatClampNeg]? = some (.int ui11_) := Hs4.at hin4 rfl
 obtain ⟨T5, X5, e5, st5⟩ := getS2 X3 hx hZ hown (host := "") (Or.inl (Wd hw 93 rfl)) Via.refl e3 (S_LO_BYTE_SHIFT.ext X00.2) (g := (mkF m 53 #[.val (.ref xo0_), .val (.int (9 : Int32))] [(.int (ui11_ &&& (255 : Int32))), (.int ((ui10_ &&& (255 : Int32)) <<< ((0 : Int32) &&& 31)))])) rfl (hb hby d21_53)
 obtain ⟨fs, hr, hrun, hended, hW, hsame⟩ := X5.leave (v := some (.int (nar .char ((((ui10_ &&& (255 : Int32)) <<< ((0 : Int32) &&& 31)) ||| ((ui11_ &&& (255 : Int32)) <<< ((8 : Int32) &&& 31))).toUInt32.toUInt16.toUInt32.toInt32)))) (fun h => by rw [Bd.returns] at h; cases h)
 refine ⟨_, _, (pre0 _ ?_), hrun, hended, _, _, rfl, ?_, ⟨_, rfl⟩, hW, hsame.mono (by decide) (by decide)⟩
 ·show Steps p.tables e below (s₁.setTop (mkF m 0 #[.val (.ref xo0_), .val (.int (4 : Int32))] [])) _
  refine st1 _ ?_
  refine XS.ifYes X1.here hx rfl (pc0 := 3) (pc' := 28) rfl (hb hby d21_3) rfl ((if0 _ _).trans (feq (by decide : ¬ ((1 : Int32) = (0 : Int32)))).2) (by decide) (by decide) ?_
  refine XS.iloadN X1.here hx rfl (hb hby d21_28) rfl ?_
  refine XS.iconst X1.here hx rfl (hb hby d21_29) ?_
  show Steps p.tables e below (T1.setTop (mkF m 30 #[.val (.ref xo0_), .val (.int (4 : Int32))] [(.int (1 : Int32)), (.int (4 : Int32))])) _
  refine XS.ishl X1.here hx rfl (hb hby d21_30) rfl ?_
  rw [show ((4 : Int32) <<< ((1 : Int32) &&& 31)) = (8 : Int32) from by decide]
  show Steps p.tables e below (T1.setTop (mkF m 31 #[.val (.ref xo0_), .val (.int (4 : Int32))] [(.int (8 : Int32))])) _
  refine XS.istoreN X1.here hx rfl (hb hby d21_31) rfl (l' := #[.val (.ref xo0_), .val (.int (8 : Int32))]) rfl ?_
  refine XS.aloadN X1.here hx rfl (hb hby d21_32) rfl rfl ?_
  refine XS.iloadN X1.here hx rfl (hb hby d21_33) rfl ?_
  refine XS.iinc X1.here hx rfl (hb hby d21_34) rfl (l' := #[.val (.ref xo0_), .val (.int (9 : Int32))]) rfl ?_
  refine X1.baloadBytes hx (j := (8 : Int32)) (v := (.int ui10_)) (by rw [e1]; exact Ar2.1) (State.isArrayOf_alike hZ.alike Ar2.2.1) Ar2.2.2 hin2 hat2 (g := (mkF m 37 #[.val (.ref xo0_), .val (.int (9 : Int32))] [(.int (8 : Int32)), (.ref xo0_)])) rfl rfl (hb hby d21_37) _ ?_
  refine XS.sipush X1.here hx rfl (hb hby d21_38) ?_
  refine XS.iand X1.here hx rfl (hb hby d21_41) rfl ?_
  refine st3 _ ?_
  refine XS.ishl X3.here hx rfl (hb hby d21_45) rfl ?_
  refine XS.aloadN X3.here hx rfl (hb hby d21_46) rfl rfl ?_
  refine XS.iloadN X3.here hx rfl (hb hby d21_47) rfl ?_
  refine X3.baloadBytes hx (j := (9 : Int32)) (v := (.int ui11_)) (by rw [e3]; exact Ar4.1) (State.isArrayOf_alike hZ.alike Ar4.2.1) Ar4.2.2 hin4 hat4 (g := (mkF m 48 #[.val (.ref xo0_), .val (.int (9 : Int32))] [(.int (9 : Int32)), (.ref xo0_), (.int ((ui10_ &&& (255 : Int32)) <<< ((0 : Int32) &&& 31)))])) rfl rfl (hb hby d21_48) _ ?_
  refine XS.sipush X3.here hx rfl (hb hby d21_49) ?_
  refine XS.iand X3.here hx rfl (hb hby d21_52) rfl ?_
  refine st5 _ ?_
  refine XS.ishl X5.here hx rfl (hb hby d21_56) rfl ?_
  refine XS.ior X5.here hx rfl (hb hby d21_57) rfl ?_
  refine XS.i2c X5.here hx rfl (hb hby d21_58) rfl ?_
  exact retN X5 hx (t := .char) Bd.returns (by simp) (hb hby d21_59) hr
 ·show QA13 Z xo0_ ui1_ ui2_ ui3_ ui4_ ui5_ ui6_ ui7_ ui8_ ui9_ ui10_ ui11_ ui12_ ui13_ ui14_ ui15_ k_xo0_ h0 n0 _ T5.heap _
  rw [e5]
  exact ⟨(congrArg (fun w => some (Value.int w)) (own_narc _)), N0, rfl⟩
theorem efA14 (m : MethodId) (xo0_ : Addr) : entryFrame m #[(.ref xo0_), (.int (5 : Int32))] 2 = mkF m 0 #[.val (.ref xo0_), .val (.int (5 : Int32))] [] := by first | (simp [entryFrame, mkF, argsToLocals, Value.category]; done) | rfl
def QA14 (Z : State) (xo0_ : Addr) (ui1_ : Int32) (ui2_ : Int32) (ui3_ : Int32) (ui4_ : Int32) (ui5_ : Int32) (ui6_ : Int32) (ui7_ : Int32) (ui8_ : Int32) (ui9_ : Int32) (ui10_ : Int32) (ui11_ : Int32) (ui12_ : Int32) (ui13_ : Int32) (ui14_ : Int32) (ui15_ : Int32) (k_xo0_ : ClassId) (h0 : Heap) (n0 : Nat) (v : Option Value) (h : Heap) (L : List Loc) : Prop := v = some (.int ((((ui12_ &&& (255 : Int32)) <<< ((0 : Int32) &&& 31)) ||| ((ui13_ &&& (255 : Int32)) <<< ((8 : Int32) &&& 31))).toUInt32.toUInt16.toUInt32.toInt32)) ∧ Fr n0 L ∧ h = h0
set_option maxRecDepth 65536 in
set_option maxHeartbeats 40000000 in
theorem rmA14 (l : Launch) (Z : State) (a0 : Array Value) (hw : ∀ d ∈ tables_1, d.before a0 Z = true) (ws : List Jvm.Cond) (xo0_ : Addr) (ui1_ : Int32) (ui2_ : Int32) (ui3_ : Int32) (ui4_ : Int32) (ui5_ : Int32) (ui6_ : Int32) (ui7_ : Int32) (ui8_ : Int32) (ui9_ : Int32) (ui10_ : Int32) (ui11_ : Int32) (ui12_ : Int32) (ui13_ : Int32) (ui14_ : Int32) (ui15_ : Int32) (k_xo0_ : ClassId) (h0 : Heap) (n0 : Nat) (Z0 : n0 ≤ h0.size) (X00 : Old Z n0 h0) (S__assertionsDisabled : Sta Z Z.heap "java/lang/StringUTF16" "$assertionsDisabled" "Z" (.int (1 : Int32))) (V_xo0_ : Arv Z h0 xo0_ k_xo0_ .byte ui1_ [(.int ui2_), (.int ui3_), (.int ui4_), (.int ui5_), (.int ui6_), (.int ui7_), (.int ui8_), (.int ui9_), (.int ui10_), (.int ui11_), (.int ui12_), (.int ui13_), (.int ui14_), (.int ui15_)] (.int (0 : Int32))) (hp0_ : (10 : Int32) < ui1_) (S_HI_BYTE_SHIFT : Sta Z Z.heap "java/lang/StringUTF16" "HI_BYTE_SHIFT" "I" (.int (0 : Int32))) (hp1_ : (11 : Int32) < ui1_) (S_LO_BYTE_SHIFT : Sta Z Z.heap "java/lang/StringUTF16" "LO_BYTE_SHIFT" "I" (.int (8 : Int32))) :
  MetFree l (⟨"java/lang/StringUTF16", "getChar", "([BI)C"⟩ : MethodName) (head1 (Jvm.Cond.code (⟨"java/lang/StringUTF16", "getChar", "([BI)C"⟩ : MethodName) jdk_52_method_5_code 2 (some .char) :: ws) ({ frames := 0, cells := 0, slots := 0, locals := 0 } : Room)) (fun av_ U => av_ = #[(.ref xo0_), (.int (5 : Int32))] ∧ Z.Warmed39 U.vm ∧ U.heap = h0) (fun _ _ _ _ _ => True) (fun _ U o U' => ∃ v L, o = .returned v ∧ QA14 Z xo0_ ui1_ ui2_ ui3_ ui4_ ui5_ ui6_ ui7_ ui8_ ui9_ ui10_ ui11_ ui12_ ui13_ ui14_ ui15_ k_xo0_ h0 n0 v U'.heap L ∧ FrameEnd U o U' L ({ frames := 0, cells := 0, slots := 0, locals := 0 } : Room).cells ({ frames := 0, cells := 0, slots := 0, locals := 0 } : Room).slots) := by
 refine MetFree.of_bodySF (plainFor_of_name own_pn0) hisR ?_
 intro p e s m args below meth c s₁ Bd hml0 hP hK
 obtain ⟨rfl, hZ, hh⟩ := hP
 have hx := Bd.exec
 have hby := Bd.bytes
 have hml : c.maxLocals = 2 := hml0
 have hown : s.vm.findClass "java/lang/StringUTF16" = some m.cls := findClass_of_methodNamed Bd.named
 have hnm := (name_of_methodNamed Bd.named Bd.method).1
 have X0 : Stand p l e ({ frames := 0, cells := 0, slots := 0, locals := 0 } : Room) s m #[(.ref xo0_), (.int (5 : Int32))] below meth c s₁ [] 0 0 := Stand.of_body Bd
 have e0 : s₁.heap = h0 := by rw [← hh, Bd.state]; rfl
 have N0 := Fr.nil n0
 have pre0 : ∀ t, Steps p.tables e below (s₁.setTop (mkF m 0 #[.val (.ref xo0_), .val (.int (5 : Int32))] [])) t → Steps p.tables e below (s₁.setTop (entryFrame m #[(.ref xo0_), (.int (5 : Int32))] 2)) t := fun t k => castTop (efA14 m xo0_) k
 obtain ⟨T1, X1, e1, st1⟩ := getS2 X0 hx hZ hown (host := "") (Or.inl (Wd hw 91 rfl)) Via.refl e0 (S__assertionsDisabled.ext X00.2) (g := (mkF m 0 #[.val (.ref xo0_), .val (.int (5 : Int32))] [])) rfl (hb hby d21_0)
 obtain ⟨cl2, Ar2, q2, S2, M2, Hs2, G2⟩ := (id V_xo0_)
 have hin2 : ¬ ((10 : Int32) < 0 ∨ cl2.slots.size ≤ ((10 : Int32)).toNatClampNeg) := inb_of S2 ⟨by decide, hp0_⟩
 have hat2 : cl2.slots[((10 : Int32)).toNatClampNeg]? = some (.int ui12_) := Hs2.at hin2 rfl
 obtain ⟨T3, X3, e3, st3⟩ := getS2 X1 hx hZ hown (host := "") (Or.inl (Wd hw 92 rfl)) Via.refl e1 (S_HI_BYTE_SHIFT.ext X00.2) (g := (mkF m 42 #[.val (.ref xo0_), .val (.int (11 : Int32))] [(.int (ui12_ &&& (255 : Int32)))])) rfl (hb hby d21_42)
 obtain ⟨cl4, Ar4, q4, S4, M4, Hs4, G4⟩ := (id V_xo0_)
 have hin4 : ¬ ((11 : Int32) < 0 ∨ cl4.slots.size ≤ ((11 : Int32)).toNatClampNeg) := inb_of S4 ⟨by decide, hp1_⟩
 have hat4 : cl4.slots[((11 : Int32)).toNatClampNeg]? = some (.int ui13_) := Hs4.at hin4 rfl
 obtain ⟨T5, X5, e5, st5⟩ := getS2 X3 hx hZ hown (host := "") (Or.inl (Wd hw 93 rfl)) Via.refl e3 (S_LO_BYTE_SHIFT.ext X00.2) (g := (mkF m 53 #[.val (.ref xo0_), .val (.int (11 : Int32))] [(.int (ui13_ &&& (255 : Int32))), (.int ((ui12_ &&& (255 : Int32)) <<< ((0 : Int32) &&& 31)))])) rfl (hb hby d21_53)
 obtain ⟨fs, hr, hrun, hended, hW, hsame⟩ := X5.leave (v := some (.int (nar .char ((((ui12_ &&& (255 : Int32)) <<< ((0 : Int32) &&& 31)) ||| ((ui13_ &&& (255 : Int32)) <<< ((8 : Int32) &&& 31))).toUInt32.toUInt16.toUInt32.toInt32)))) (fun h => by rw [Bd.returns] at h; cases h)
 refine ⟨_, _, (pre0 _ ?_), hrun, hended, _, _, rfl, ?_, ⟨_, rfl⟩, hW, hsame.mono (by decide) (by decide)⟩
 ·show Steps p.tables e below (s₁.setTop (mkF m 0 #[.val (.ref xo0_), .val (.int (5 : Int32))] [])) _
  refine st1 _ ?_
  refine XS.ifYes X1.here hx rfl (pc0 := 3) (pc' := 28) rfl (hb hby d21_3) rfl ((if0 _ _).trans (feq (by decide : ¬ ((1 : Int32) = (0 : Int32)))).2) (by decide) (by decide) ?_
  refine XS.iloadN X1.here hx rfl (hb hby d21_28) rfl ?_
  refine XS.iconst X1.here hx rfl (hb hby d21_29) ?_
  show Steps p.tables e below (T1.setTop (mkF m 30 #[.val (.ref xo0_), .val (.int (5 : Int32))] [(.int (1 : Int32)), (.int (5 : Int32))])) _
  refine XS.ishl X1.here hx rfl (hb hby d21_30) rfl ?_
  rw [show ((5 : Int32) <<< ((1 : Int32) &&& 31)) = (10 : Int32) from by decide]
  show Steps p.tables e below (T1.setTop (mkF m 31 #[.val (.ref xo0_), .val (.int (5 : Int32))] [(.int (10 : Int32))])) _
  refine XS.istoreN X1.here hx rfl (hb hby d21_31) rfl (l' := #[.val (.ref xo0_), .val (.int (10 : Int32))]) rfl ?_
  refine XS.aloadN X1.here hx rfl (hb hby d21_32) rfl rfl ?_
  refine XS.iloadN X1.here hx rfl (hb hby d21_33) rfl ?_
  refine XS.iinc X1.here hx rfl (hb hby d21_34) rfl (l' := #[.val (.ref xo0_), .val (.int (11 : Int32))]) rfl ?_
  refine X1.baloadBytes hx (j := (10 : Int32)) (v := (.int ui12_)) (by rw [e1]; exact Ar2.1) (State.isArrayOf_alike hZ.alike Ar2.2.1) Ar2.2.2 hin2 hat2 (g := (mkF m 37 #[.val (.ref xo0_), .val (.int (11 : Int32))] [(.int (10 : Int32)), (.ref xo0_)])) rfl rfl (hb hby d21_37) _ ?_
  refine XS.sipush X1.here hx rfl (hb hby d21_38) ?_
  refine XS.iand X1.here hx rfl (hb hby d21_41) rfl ?_
  refine st3 _ ?_
  refine XS.ishl X3.here hx rfl (hb hby d21_45) rfl ?_
  refine XS.aloadN X3.here hx rfl (hb hby d21_46) rfl rfl ?_
  refine XS.iloadN X3.here hx rfl (hb hby d21_47) rfl ?_
  refine X3.baloadBytes hx (j := (11 : Int32)) (v := (.int ui13_)) (by rw [e3]; exact Ar4.1) (State.isArrayOf_alike hZ.alike Ar4.2.1) Ar4.2.2 hin4 hat4 (g := (mkF m 48 #[.val (.ref xo0_), .val (.int (11 : Int32))] [(.int (11 : Int32)), (.ref xo0_), (.int ((ui12_ &&& (255 : Int32)) <<< ((0 : Int32) &&& 31)))])) rfl rfl (hb hby d21_48) _ ?_
  refine XS.sipush X3.here hx rfl (hb hby d21_49) ?_
  refine XS.iand X3.here hx rfl (hb hby d21_52) rfl ?_
  refine st5 _ ?_
  refine XS.ishl X5.here hx rfl (hb hby d21_56) rfl ?_
  refine XS.ior X5.here hx rfl (hb hby d21_57) rfl ?_
  refine XS.i2c X5.here hx rfl (hb hby d21_58) rfl ?_
  exact retN X5 hx (t := .char) Bd.returns (by simp) (hb hby d21_59) hr
 ·show QA14 Z xo0_ ui1_ ui2_ ui3_ ui4_ ui5_ ui6_ ui7_ ui8_ ui9_ ui10_ ui11_ ui12_ ui13_ ui14_ ui15_ k_xo0_ h0 n0 _ T5.heap _
  rw [e5]
  exact ⟨(congrArg (fun w => some (Value.int w)) (own_narc _)), N0, rfl⟩
theorem efA15 (m : MethodId) (xo0_ : Addr) : entryFrame m #[(.ref xo0_), (.int (6 : Int32))] 2 = mkF m 0 #[.val (.ref xo0_), .val (.int (6 : Int32))] [] := by first | (simp [entryFrame, mkF, argsToLocals, Value.category]; done) | rfl
def QA15 (Z : State) (xo0_ : Addr) (ui1_ : Int32) (ui2_ : Int32) (ui3_ : Int32) (ui4_ : Int32) (ui5_ : Int32) (ui6_ : Int32) (ui7_ : Int32) (ui8_ : Int32) (ui9_ : Int32) (ui10_ : Int32) (ui11_ : Int32) (ui12_ : Int32) (ui13_ : Int32) (ui14_ : Int32) (ui15_ : Int32) (k_xo0_ : ClassId) (h0 : Heap) (n0 : Nat) (v : Option Value) (h : Heap) (L : List Loc) : Prop := v = some (.int ((((ui14_ &&& (255 : Int32)) <<< ((0 : Int32) &&& 31)) ||| ((ui15_ &&& (255 : Int32)) <<< ((8 : Int32) &&& 31))).toUInt32.toUInt16.toUInt32.toInt32)) ∧ Fr n0 L ∧ h = h0
set_option maxRecDepth 65536 in
set_option maxHeartbeats 40000000 in
theorem rmA15 (l : Launch) (Z : State) (a0 : Array Value) (hw : ∀ d ∈ tables_1, d.before a0 Z = true) (ws : List Jvm.Cond) (xo0_ : Addr) (ui1_ : Int32) (ui2_ : Int32) (ui3_ : Int32) (ui4_ : Int32) (ui5_ : Int32) (ui6_ : Int32) (ui7_ : Int32) (ui8_ : Int32) (ui9_ : Int32) (ui10_ : Int32) (ui11_ : Int32) (ui12_ : Int32) (ui13_ : Int32) (ui14_ : Int32) (ui15_ : Int32) (k_xo0_ : ClassId) (h0 : Heap) (n0 : Nat) (Z0 : n0 ≤ h0.size) (X00 : Old Z n0 h0) (S__assertionsDisabled : Sta Z Z.heap "java/lang/StringUTF16" "$assertionsDisabled" "Z" (.int (1 : Int32))) (V_xo0_ : Arv Z h0 xo0_ k_xo0_ .byte ui1_ [(.int ui2_), (.int ui3_), (.int ui4_), (.int ui5_), (.int ui6_), (.int ui7_), (.int ui8_), (.int ui9_), (.int ui10_), (.int ui11_), (.int ui12_), (.int ui13_), (.int ui14_), (.int ui15_)] (.int (0 : Int32))) (hp0_ : (12 : Int32) < ui1_) (S_HI_BYTE_SHIFT : Sta Z Z.heap "java/lang/StringUTF16" "HI_BYTE_SHIFT" "I" (.int (0 : Int32))) (hp1_ : (13 : Int32) < ui1_) (S_LO_BYTE_SHIFT : Sta Z Z.heap "java/lang/StringUTF16" "LO_BYTE_SHIFT" "I" (.int (8 : Int32))) :
  MetFree l (⟨"java/lang/StringUTF16", "getChar", "([BI)C"⟩ : MethodName) (head1 (Jvm.Cond.code (⟨"java/lang/StringUTF16", "getChar", "([BI)C"⟩ : MethodName) jdk_52_method_5_code 2 (some .char) :: ws) ({ frames := 0, cells := 0, slots := 0, locals := 0 } : Room)) (fun av_ U => av_ = #[(.ref xo0_), (.int (6 : Int32))] ∧ Z.Warmed39 U.vm ∧ U.heap = h0) (fun _ _ _ _ _ => True) (fun _ U o U' => ∃ v L, o = .returned v ∧ QA15 Z xo0_ ui1_ ui2_ ui3_ ui4_ ui5_ ui6_ ui7_ ui8_ ui9_ ui10_ ui11_ ui12_ ui13_ ui14_ ui15_ k_xo0_ h0 n0 v U'.heap L ∧ FrameEnd U o U' L ({ frames := 0, cells := 0, slots := 0, locals := 0 } : Room).cells ({ frames := 0, cells := 0, slots := 0, locals := 0 } : Room).slots) := by
 refine MetFree.of_bodySF (plainFor_of_name own_pn0) hisR ?_
 intro p e s m args below meth c s₁ Bd hml0 hP hK
 obtain ⟨rfl, hZ, hh⟩ := hP
 have hx := Bd.exec
 have hby := Bd.bytes
 have hml : c.maxLocals = 2 := hml0
 have hown : s.vm.findClass "java/lang/StringUTF16" = some m.cls := findClass_of_methodNamed Bd.named
 have hnm := (name_of_methodNamed Bd.named Bd.method).1
 have X0 : Stand p l e ({ frames := 0, cells := 0, slots := 0, locals := 0 } : Room) s m #[(.ref xo0_), (.int (6 : Int32))] below meth c s₁ [] 0 0 := Stand.of_body Bd
 have e0 : s₁.heap = h0 := by rw [← hh, Bd.state]; rfl
 have N0 := Fr.nil n0
 have pre0 : ∀ t, Steps p.tables e below (s₁.setTop (mkF m 0 #[.val (.ref xo0_), .val (.int (6 : Int32))] [])) t → Steps p.tables e below (s₁.setTop (entryFrame m #[(.ref xo0_), (.int (6 : Int32))] 2)) t := fun t k => castTop (efA15 m xo0_) k
 obtain ⟨T1, X1, e1, st1⟩ := getS2 X0 hx hZ hown (host := "") (Or.inl (Wd hw 91 rfl)) Via.refl e0 (S__assertionsDisabled.ext X00.2) (g := (mkF m 0 #[.val (.ref xo0_), .val (.int (6 : Int32))] [])) rfl (hb hby d21_0)
 obtain ⟨cl2, Ar2, q2, S2, M2, Hs2, G2⟩ := (id V_xo0_)
 have hin2 : ¬ ((12 : Int32) < 0 ∨ cl2.slots.size ≤ ((12 : Int32)).toNatClampNeg) := inb_of S2 ⟨by decide, hp0_⟩
 have hat2 : cl2.slots[((12 : Int32)).toNatClampNeg]? = some (.int ui14_) := Hs2.at hin2 rfl
 obtain ⟨T3, X3, e3, st3⟩ := getS2 X1 hx hZ hown (host := "") (Or.inl (Wd hw 92 rfl)) Via.refl e1 (S_HI_BYTE_SHIFT.ext X00.2) (g := (mkF m 42 #[.val (.ref xo0_), .val (.int (13 : Int32))] [(.int (ui14_ &&& (255 : Int32)))])) rfl (hb hby d21_42)
 obtain ⟨cl4, Ar4, q4, S4, M4, Hs4, G4⟩ := (id V_xo0_)
 have hin4 : ¬ ((13 : Int32) < 0 ∨ cl4.slots.size ≤ ((13 : Int32)).toNatClampNeg) := inb_of S4 ⟨by decide, hp1_⟩
 have hat4 : cl4.slots[((13 : Int32)).toNatClampNeg]? = some (.int ui15_) := Hs4.at hin4 rfl
 obtain ⟨T5, X5, e5, st5⟩ := getS2 X3 hx hZ hown (host := "") (Or.inl (Wd hw 93 rfl)) Via.refl e3 (S_LO_BYTE_SHIFT.ext X00.2) (g := (mkF m 53 #[.val (.ref xo0_), .val (.int (13 : Int32))] [(.int (ui15_ &&& (255 : Int32))), (.int ((ui14_ &&& (255 : Int32)) <<< ((0 : Int32) &&& 31)))])) rfl (hb hby d21_53)
 obtain ⟨fs, hr, hrun, hended, hW, hsame⟩ := X5.leave (v := some (.int (nar .char ((((ui14_ &&& (255 : Int32)) <<< ((0 : Int32) &&& 31)) ||| ((ui15_ &&& (255 : Int32)) <<< ((8 : Int32) &&& 31))).toUInt32.toUInt16.toUInt32.toInt32)))) (fun h => by rw [Bd.returns] at h; cases h)
 refine ⟨_, _, (pre0 _ ?_), hrun, hended, _, _, rfl, ?_, ⟨_, rfl⟩, hW, hsame.mono (by decide) (by decide)⟩
 ·show Steps p.tables e below (s₁.setTop (mkF m 0 #[.val (.ref xo0_), .val (.int (6 : Int32))] [])) _
  refine st1 _ ?_
  refine XS.ifYes X1.here hx rfl (pc0 := 3) (pc' := 28) rfl (hb hby d21_3) rfl ((if0 _ _).trans (feq (by decide : ¬ ((1 : Int32) = (0 : Int32)))).2) (by decide) (by decide) ?_
  refine XS.iloadN X1.here hx rfl (hb hby d21_28) rfl ?_
  refine XS.iconst X1.here hx rfl (hb hby d21_29) ?_
  show Steps p.tables e below (T1.setTop (mkF m 30 #[.val (.ref xo0_), .val (.int (6 : Int32))] [(.int (1 : Int32)), (.int (6 : Int32))])) _
  refine XS.ishl X1.here hx rfl (hb hby d21_30) rfl ?_
  rw [show ((6 : Int32) <<< ((1 : Int32) &&& 31)) = (12 : Int32) from by decide]
  show Steps p.tables e below (T1.setTop (mkF m 31 #[.val (.ref xo0_), .val (.int (6 : Int32))] [(.int (12 : Int32))])) _
  refine XS.istoreN X1.here hx rfl (hb hby d21_31) rfl (l' := #[.val (.ref xo0_), .val (.int (12 : Int32))]) rfl ?_
  refine XS.aloadN X1.here hx rfl (hb hby d21_32) rfl rfl ?_
  refine XS.iloadN X1.here hx rfl (hb hby d21_33) rfl ?_
  refine XS.iinc X1.here hx rfl (hb hby d21_34) rfl (l' := #[.val (.ref xo0_), .val (.int (13 : Int32))]) rfl ?_
  refine X1.baloadBytes hx (j := (12 : Int32)) (v := (.int ui14_)) (by rw [e1]; exact Ar2.1) (State.isArrayOf_alike hZ.alike Ar2.2.1) Ar2.2.2 hin2 hat2 (g := (mkF m 37 #[.val (.ref xo0_), .val (.int (13 : Int32))] [(.int (12 : Int32)), (.ref xo0_)])) rfl rfl (hb hby d21_37) _ ?_
  refine XS.sipush X1.here hx rfl (hb hby d21_38) ?_
  refine XS.iand X1.here hx rfl (hb hby d21_41) rfl ?_
  refine st3 _ ?_
  refine XS.ishl X3.here hx rfl (hb hby d21_45) rfl ?_
  refine XS.aloadN X3.here hx rfl (hb hby d21_46) rfl rfl ?_
  refine XS.iloadN X3.here hx rfl (hb hby d21_47) rfl ?_
  refine X3.baloadBytes hx (j := (13 : Int32)) (v := (.int ui15_)) (by rw [e3]; exact Ar4.1) (State.isArrayOf_alike hZ.alike Ar4.2.1) Ar4.2.2 hin4 hat4 (g := (mkF m 48 #[.val (.ref xo0_), .val (.int (13 : Int32))] [(.int (13 : Int32)), (.ref xo0_), (.int ((ui14_ &&& (255 : Int32)) <<< ((0 : Int32) &&& 31)))])) rfl rfl (hb hby d21_48) _ ?_
  refine XS.sipush X3.here hx rfl (hb hby d21_49) ?_
  refine XS.iand X3.here hx rfl (hb hby d21_52) rfl ?_
  refine st5 _ ?_
  refine XS.ishl X5.here hx rfl (hb hby d21_56) rfl ?_
  refine XS.ior X5.here hx rfl (hb hby d21_57) rfl ?_
  refine XS.i2c X5.here hx rfl (hb hby d21_58) rfl ?_
  exact retN X5 hx (t := .char) Bd.returns (by simp) (hb hby d21_59) hr
 ·show QA15 Z xo0_ ui1_ ui2_ ui3_ ui4_ ui5_ ui6_ ui7_ ui8_ ui9_ ui10_ ui11_ ui12_ ui13_ ui14_ ui15_ k_xo0_ h0 n0 _ T5.heap _
  rw [e5]
  exact ⟨(congrArg (fun w => some (Value.int w)) (own_narc _)), N0, rfl⟩
theorem d9_20 : decode jdk_52_method_16_code 20 = .ok (.aload_n 0, 1) := by decide +kernel
theorem d9_21 : decode jdk_52_method_16_code 21 = .ok (.iload_n 1, 1) := by decide +kernel
theorem d9_22 : decode jdk_52_method_16_code 22 = .ok (.iload_n 2, 1) := by decide +kernel
theorem d9_23 : decode jdk_52_method_16_code 23 = .ok (.invokestatic 119, 3) := by decide +kernel
theorem d9_26 : decode jdk_52_method_16_code 26 = .ok (.astore 5, 2) := by decide +kernel
theorem d9_28 : decode jdk_52_method_16_code 28 = .ok (.aload 5, 2) := by decide +kernel
theorem d9_30 : decode jdk_52_method_16_code 30 = .ok (.iload 4, 2) := by decide +kernel
theorem d9_32 : decode jdk_52_method_16_code 32 = .ok (.invokestatic 71, 3) := by decide +kernel
theorem d9_35 : decode jdk_52_method_16_code 35 = .ok (.sipush 255, 3) := by decide +kernel
theorem d9_38 : decode jdk_52_method_16_code 38 = .ok (.if_icmp .gt 16, 3) := by decide +kernel
theorem d9_54 : decode jdk_52_method_16_code 54 = .ok (.aload 5, 2) := by decide +kernel
theorem d9_56 : decode jdk_52_method_16_code 56 = .ok (.areturn, 1) := by decide +kernel
theorem efC3W (m : MethodId) (a : Addr) (nn : Int32) : entryFrame m #[(.ref a), (.int (0 : Int32)), (.int nn)] 6 = mkF m 0 #[.val (.ref a), .val (.int (0 : Int32)), .val (.int nn), .unset, .unset, .unset] [] := by first | (simp [entryFrame, mkF, argsToLocals, Value.category]; done) | rfl
def QC3W (Z : State) (a : Addr) (nn : Int32) (qa : Int32) (qb : Int32) (qc : Int32) (qd : Int32) (qe : Int32) (qf : Int32) (qg : Int32) (k_a : ClassId) (h0 : Heap) (n0 : Nat) (v : Option Value) (h : Heap) (L : List Loc) : Prop := ∃ rt : Addr, ∃ k_rt : ClassId, v = some (.ref rt) ∧ Fr n0 L ∧ Keep h0 h [] ∧ n0 ≤ rt ∧ h0.size ≤ rt ∧ Arv Z h rt k_rt .byte (nn <<< ((1 : Int32) &&& 31)) [(.int (own_w0 qa)), (.int (own_w1 qa)), (.int (own_w0 qb)), (.int (own_w1 qb)), (.int (own_w0 qc)), (.int (own_w1 qc)), (.int (own_w0 qd)), (.int (own_w1 qd)), (.int (own_w0 qe)), (.int (own_w1 qe)), (.int (own_w0 qf)), (.int (own_w1 qf)), (.int (own_w0 qg)), (.int (own_w1 qg))] (.int (0 : Int32))
set_option maxRecDepth 65536 in
set_option maxHeartbeats 40000000 in
theorem rmC3W (l : Launch) (Z : State) (a0 : Array Value) (hw : ∀ d ∈ tables_1, d.before a0 Z = true) (ws : List Jvm.Cond) (a : Addr) (nn : Int32) (qa : Int32) (qb : Int32) (qc : Int32) (qd : Int32) (qe : Int32) (qf : Int32) (qg : Int32) (k_a : ClassId) (h0 : Heap) (n0 : Nat) (Z0 : n0 ≤ h0.size) (X00 : Old Z n0 h0) (S__assertionsDisabled : Sta Z Z.heap "java/lang/StringUTF16" "$assertionsDisabled" "Z" (.int (1 : Int32))) (S_HI_BYTE_SHIFT : Sta Z Z.heap "java/lang/StringUTF16" "HI_BYTE_SHIFT" "I" (.int (0 : Int32))) (S_LO_BYTE_SHIFT : Sta Z Z.heap "java/lang/StringUTF16" "LO_BYTE_SHIFT" "I" (.int (8 : Int32))) (V_a : Arv Z h0 a k_a .char nn [(.int qa), (.int qb), (.int qc), (.int qd), (.int qe), (.int qf), (.int qg)] (.int (0 : Int32))) (hn : 0 ≤ nn.toInt ∧ nn.toInt ≤ 7) (hwd : own_wide nn [qa, qb, qc, qd, qe, qf, qg]) (hqa : own_c16 qa) (hqb : own_c16 qb) (hqc : own_c16 qc) (hqd : own_c16 qd) (hqe : own_c16 qe) (hqf : own_c16 qf) (hqg : own_c16 qg) :
  MetFree l (⟨"java/lang/StringUTF16", "compress", "([CII)[B"⟩ : MethodName) (head1 (Jvm.Cond.code (⟨"java/lang/StringUTF16", "compress", "([CII)[B"⟩ : MethodName) jdk_52_method_16_code 6 (some (.array .byte)) :: ws) ({ frames := 3, cells := 2, slots := 21, locals := 70 } : Room)) (fun av_ U => av_ = #[(.ref a), (.int (0 : Int32)), (.int nn)] ∧ Z.Warmed39 U.vm ∧ U.heap = h0) (fun _ _ _ _ _ => True) (fun _ U o U' => ∃ v L, o = .returned v ∧ QC3W Z a nn qa qb qc qd qe qf qg k_a h0 n0 v U'.heap L ∧ FrameEnd U o U' L ({ frames := 3, cells := 2, slots := 21, locals := 70 } : Room).cells ({ frames := 3, cells := 2, slots := 21, locals := 70 } : Room).slots) := by
 refine MetFree.of_bodySF (plainFor_of_name own_pn0) hisR ?_
 intro p e s m args below meth c s₁ Bd hml0 hP hK
 obtain ⟨rfl, hZ, hh⟩ := hP
 have hx := Bd.exec
 have hby := Bd.bytes
 have hml : c.maxLocals = 6 := hml0
 have hown : s.vm.findClass "java/lang/StringUTF16" = some m.cls := findClass_of_methodNamed Bd.named
 have hnm := (name_of_methodNamed Bd.named Bd.method).1
 have X0 : Stand p l e ({ frames := 3, cells := 2, slots := 21, locals := 70 } : Room) s m #[(.ref a), (.int (0 : Int32)), (.int nn)] below meth c s₁ [] 0 0 := Stand.of_body Bd
 have e0 : s₁.heap = h0 := by rw [← hh, Bd.state]; rfl
 have N0 := Fr.nil n0
 have pre0 : ∀ t, Steps p.tables e below (s₁.setTop (mkF m 0 #[.val (.ref a), .val (.int (0 : Int32)), .val (.int nn), .unset, .unset, .unset] [])) t → Steps p.tables e below (s₁.setTop (entryFrame m #[(.ref a), (.int (0 : Int32)), (.int nn)] 6)) t := fun t k => castTop (efC3W m a nn) k
 obtain ⟨T1, h1, k1, X1, e1, E1, A1, st1⟩ := newP X0 hx hZ (Wd hw 20 rfl) e0 (g := (mkF m 1 #[.val (.ref a), .val (.int (0 : Int32)), .val (.int nn), .unset, .unset, .unset] [(.int nn)])) rfl (hb hby d9_1) rfl (own_neg7 hn).1 (cap := 7) (own_neg7 hn).2 (by decide) (by decide) (by decide)
 obtain ⟨b1, g1⟩ : ∃ z, z = h0.size := ⟨_, rfl⟩
 rw [← g1] at A1 st1
 have ne_a_b1 : a ≠ b1 := Nat.ne_of_lt (Nat.lt_of_lt_of_le V_a.lt (Nat.le_of_eq g1.symm))
 have g_b1 : n0 ≤ b1 := Nat.le_trans Z0 (Nat.le_of_eq g1.symm)
 have sz_b1 : h0.size ≤ b1 := Nat.le_trans (Keep.refl h0 []).1 (Nat.le_of_eq g1.symm)
 have K1 : Keep h0 h1 [] := (Keep.refl h0 []).ext E1
 have Zs1 : n0 ≤ h1.size := Nat.le_trans Z0 E1.1
 have V1 : Arv Z h1 b1 k1 .byte nn [(.int (0 : Int32)), (.int (0 : Int32)), (.int (0 : Int32)), (.int (0 : Int32)), (.int (0 : Int32)), (.int (0 : Int32)), (.int (0 : Int32))] (.int (0 : Int32)) := (Arv.new A1 (own_neg7 hn).1).pad (pad_rep [] (.int (0 : Int32)) 7)
 obtain ⟨_, _, ⟨T2, L2, k2, n2⟩, -, X2, ⟨Lc2, hQ2, l2, y2, z2⟩, st2⟩ := Jvm.LawKit.callS X1 hx (y := (⟨"java/lang/StringUTF16", "compress", "([CI[BII)I"⟩ : MethodName)) hown (mvT hZ (Wd hw 50 rfl)) (mvT hZ (Wd hw 51 rfl)) (mvT hZ (Wd hw 48 rfl)) (mvT hZ (Wd hw 52 rfl)) (by decide) (backOf (W := 0) (rmC5W l Z a0 hw [] a b1 nn qa qb qc qd qe qf qg k_a k1 h1 n0 Zs1 (V_a.ext E1) V1 g_b1 ne_a_b1 hn hwd) hZ (Wd hw 52 rfl) (Wd hw 48 rfl) (by decide) (by decide)) (g := (mkF m 9 #[.val (.ref a), .val (.int (0 : Int32)), .val (.int nn), .val (.ref b1), .unset, .unset] [(.int nn), (.int (0 : Int32)), (.ref b1), (.int (0 : Int32)), (.ref a)])) rfl (by rw [hml]; rfl) (argsL := [(.ref a), (.int (0 : Int32)), (.ref b1), (.int (0 : Int32)), (.int nn)]) (rest := []) (lenOf own_pd3 rfl) rfl (by show 2 * 0 + _ ≤ _; exact Nat.le_of_eq rfl) (hb hby d9_9) (fun _ _ => ⟨rfl, e1, (by decide : 1 + 0 ≤ _), (by decide : 7 + 0 ≤ _)⟩)
 dsimp only [Pt.U, Pt.locs, Pt.cells, Pt.slots] at X2 l2 y2 z2 st2 hQ2
 subst l2 y2 z2
 obtain ⟨jv_2, rfl, Nq2, Kc2, q2_0⟩ := hQ2
 have K2 : Keep h0 T2.heap [] := Keep.trans K1 Kc2 (allS (Or.inr sz_b1) all0)
 have Zs2 : n0 ≤ T2.heap.size := Nat.le_trans Zs1 Kc2.1
 have hj := q2_0
 have N2 := Fr.app N0 Nq2
 obtain ⟨_, _, ⟨T3, L3, k3, n3⟩, -, X3, ⟨Lc3, hQ3, l3, y3, z3⟩, st3⟩ := Jvm.LawKit.callS X2 hx (y := (⟨"java/lang/StringUTF16", "toBytes", "([CII)[B"⟩ : MethodName)) hown (mvT hZ (Wd hw 78 rfl)) (mvT hZ (Wd hw 79 rfl)) (mvT hZ (Wd hw 48 rfl)) (mvT hZ (Wd hw 80 rfl)) (by decide) (backOf (W := 0) (rmTB l Z a0 hw [] a nn qa qb qc qd qe qf qg k_a T2.heap n0 Zs2 (X00.keep K2 all0) S__assertionsDisabled S_HI_BYTE_SHIFT S_LO_BYTE_SHIFT ((V_a.ext E1).keep Kc2 (ninS ne_a_b1 nin0)) hn) hZ (Wd hw 80 rfl) (Wd hw 48 rfl) (by decide) (by decide)) (g := (mkF m 23 #[.val (.ref a), .val (.int (0 : Int32)), .val (.int nn), .val (.ref b1), .val (.int jv_2), .unset] [(.int nn), (.int (0 : Int32)), (.ref a)])) rfl (by rw [hml]; rfl) (argsL := [(.ref a), (.int (0 : Int32)), (.int nn)]) (rest := []) (lenOf own_pd4 rfl) rfl (by show 2 * 0 + _ ≤ _; exact Nat.le_of_eq rfl) (hb hby d9_23) (fun _ _ => ⟨rfl, rfl, (by decide : 1 + 1 ≤ _), (by decide : 7 + 14 ≤ _)⟩)
 dsimp only [Pt.U, Pt.locs, Pt.cells, Pt.slots] at X3 l3 y3 z3 st3 hQ3
 subst l3 y3 z3
 obtain ⟨rt_3, k_rt_3, rfl, Nq3, Kc3, g_rt_3, zq_rt_3, q3_0⟩ := hQ3
 have sz_rt_3 : h0.size ≤ rt_3 := Nat.le_trans K2.1 zq_rt_3
 have ne_a_rt_3 : a ≠ rt_3 := Nat.ne_of_lt (Nat.lt_of_lt_of_le ((V_a.ext E1).keep Kc2 (ninS ne_a_b1 nin0)).lt zq_rt_3)
 have K3 : Keep h0 T3.heap [] := Keep.trans K2 Kc3 all0
 have Zs3 : n0 ≤ T3.heap.size := Nat.le_trans Zs2 Kc3.1
 have N3 := Fr.app N2 Nq3
 have r4 : ∀ t, Steps p.tables e below (T3.setTop (mkF m 28 #[.val (.ref a), .val (.int (0 : Int32)), .val (.int nn), .val (.ref b1), .val (.int jv_2), .val (.ref rt_3)] [])) t → Steps p.tables e below (s₁.setTop (mkF m 0 #[.val (.ref a), .val (.int (0 : Int32)), .val (.int nn), .unset, .unset, .unset] [])) t := fun t kt => by
  refine XS.iloadN X0.here hx rfl (hb hby d9_0) rfl ?_
  refine st1 _ ?_
  refine XS.astoreN X1.here hx rfl (hb hby d9_3) rfl rfl (l' := #[.val (.ref a), .val (.int (0 : Int32)), .val (.int nn), .val (.ref b1), .unset, .unset]) rfl ?_
  refine XS.aloadN X1.here hx rfl (hb hby d9_4) rfl rfl ?_
  refine XS.iloadN X1.here hx rfl (hb hby d9_5) rfl ?_
  refine XS.aloadN X1.here hx rfl (hb hby d9_6) rfl rfl ?_
  refine XS.iconst X1.here hx rfl (hb hby d9_7) ?_
  refine XS.iloadN X1.here hx rfl (hb hby d9_8) rfl ?_
  refine st2 _ ?_
  refine XS.istore X2.here hx rfl (hb hby d9_12) rfl (l' := #[.val (.ref a), .val (.int (0 : Int32)), .val (.int nn), .val (.ref b1), .val (.int jv_2), .unset]) rfl ?_
  refine XS.iload X2.here hx rfl (hb hby d9_14) rfl ?_
  refine XS.iloadN X2.here hx rfl (hb hby d9_16) rfl ?_
  refine XS.icmpNo X2.here hx rfl (hb hby d9_17) rfl (feq (own_jne hj)).1 ?_
  refine XS.aloadN X2.here hx rfl (hb hby d9_20) rfl rfl ?_
  refine XS.iloadN X2.here hx rfl (hb hby d9_21) rfl ?_
  refine XS.iloadN X2.here hx rfl (hb hby d9_22) rfl ?_
  refine st3 _ ?_
  refine XS.astore X3.here hx rfl (hb hby d9_26) rfl rfl (l' := #[.val (.ref a), .val (.int (0 : Int32)), .val (.int nn), .val (.ref b1), .val (.int jv_2), .val (.ref rt_3)]) rfl ?_
  exact kt
 rcases own_seven hj with hk5 | hk5 | hk5 | hk5 | hk5 | hk5 | hk5
 ·have r6 : ∀ t, Steps p.tables e below (T3.setTop (mkF m 28 #[.val (.ref a), .val (.int (0 : Int32)), .val (.int nn), .val (.ref b1), .val (.int (0 : Int32)), .val (.ref rt_3)] [])) t → Steps p.tables e below (T3.setTop (mkF m 28 #[.val (.ref a), .val (.int (0 : Int32)), .val (.int nn), .val (.ref b1), .val (.int jv_2), .val (.ref rt_3)] [])) t := fun t kt => by
   rw [hk5]
   exact kt
  obtain ⟨_, _, ⟨T7, L7, k7, n7⟩, -, X7, ⟨Lc7, hQ7, l7, y7, z7⟩, st7⟩ := Jvm.LawKit.callS X3 hx (y := (⟨"java/lang/StringUTF16", "getChar", "([BI)C"⟩ : MethodName)) hown (mvT hZ (Wd hw 94 rfl)) (mvT hZ (Wd hw 95 rfl)) (mvT hZ (Wd hw 48 rfl)) (mvT hZ (Wd hw 96 rfl)) (by decide) (backOf (W := 0) (rmA9 l Z a0 hw [] rt_3 (nn <<< ((1 : Int32) &&& 31)) (own_w0 qa) (own_w1 qa) (own_w0 qb) (own_w1 qb) (own_w0 qc) (own_w1 qc) (own_w0 qd) (own_w1 qd) (own_w0 qe) (own_w1 qe) (own_w0 qf) (own_w1 qf) (own_w0 qg) (own_w1 qg) k_rt_3 T3.heap n0 Zs3 (X00.keep K3 all0) S__assertionsDisabled q3_0 (own_sh3 hn (own_pick hj hk5 (i := 0) (by decide)).1 (by decide)) S_HI_BYTE_SHIFT (own_sh3 hn (own_pick hj hk5 (i := 0) (by decide)).1 (by decide)) S_LO_BYTE_SHIFT) hZ (Wd hw 96 rfl) (Wd hw 48 rfl) (by decide) (by decide)) (g := (mkF m 32 #[.val (.ref a), .val (.int (0 : Int32)), .val (.int nn), .val (.ref b1), .val (.int (0 : Int32)), .val (.ref rt_3)] [(.int (0 : Int32)), (.ref rt_3)])) rfl (by rw [hml]; rfl) (argsL := [(.ref rt_3), (.int (0 : Int32))]) (rest := []) (lenOf own_pd5 rfl) rfl (by show 2 * 0 + _ ≤ _; exact Nat.le_of_eq rfl) (hb hby d9_32) (fun _ _ => ⟨rfl, rfl, (by decide : 2 + 0 ≤ _), (by decide : 21 + 0 ≤ _)⟩)
  dsimp only [Pt.U, Pt.locs, Pt.cells, Pt.slots] at X7 l7 y7 z7 st7 hQ7
  subst l7 y7 z7
  obtain ⟨rfl, Nq7, e7⟩ := hQ7
  have N7 := Fr.app N3 Nq7
  obtain ⟨fs, hr, hrun, hended, hW, hsame⟩ := X7.leave (v := some (.ref rt_3)) (fun h => by rw [Bd.returns] at h; cases h)
  refine ⟨_, _, (pre0 _ (r4 _ (r6 _ ?_))), hrun, hended, _, _, rfl, ?_, ⟨_, rfl⟩, hW, hsame.mono (by decide) (by decide)⟩
  ·show Steps p.tables e below (T3.setTop (mkF m 28 #[.val (.ref a), .val (.int (0 : Int32)), .val (.int nn), .val (.ref b1), .val (.int (0 : Int32)), .val (.ref rt_3)] [])) _
   refine XS.aload X3.here hx rfl (hb hby d9_28) rfl rfl ?_
   refine XS.iload X3.here hx rfl (hb hby d9_30) rfl ?_
   refine st7 _ ?_
   refine XS.sipush X7.here hx rfl (hb hby d9_35) ?_
   refine XS.icmpYes X7.here hx rfl (pc0 := 38) (pc' := 54) rfl (hb hby d9_38) rfl (tlt (own_rd255 hqa (own_pick hj hk5 (i := 0) (by decide)).2)).2.2.1 (by decide) (by decide) ?_
   refine XS.aload X7.here hx rfl (hb hby d9_54) rfl rfl ?_
   jvm_step X7.here [X7.here.top, hx, (hb hby d9_56), X7.method', Bd.returns, Value.isRef, FieldType.isReference]
   first | (intro acts; rw [hr _ acts rfl rfl rfl]) | rw [hr _ _ rfl rfl rfl]
   exact Steps.refl _
  ·show QC3W Z a nn qa qb qc qd qe qf qg k_a h0 n0 _ T7.heap _
   rw [e7]
   exact ⟨rt_3, k_rt_3, rfl, N7, K3, g_rt_3, sz_rt_3, q3_0⟩
 ·have r8 : ∀ t, Steps p.tables e below (T3.setTop (mkF m 28 #[.val (.ref a), .val (.int (0 : Int32)), .val (.int nn), .val (.ref b1), .val (.int (1 : Int32)), .val (.ref rt_3)] [])) t → Steps p.tables e below (T3.setTop (mkF m 28 #[.val (.ref a), .val (.int (0 : Int32)), .val (.int nn), .val (.ref b1), .val (.int jv_2), .val (.ref rt_3)] [])) t := fun t kt => by
   rw [hk5]
   exact kt
  obtain ⟨_, _, ⟨T9, L9, k9, n9⟩, -, X9, ⟨Lc9, hQ9, l9, y9, z9⟩, st9⟩ := Jvm.LawKit.callS X3 hx (y := (⟨"java/lang/StringUTF16", "getChar", "([BI)C"⟩ : MethodName)) hown (mvT hZ (Wd hw 94 rfl)) (mvT hZ (Wd hw 95 rfl)) (mvT hZ (Wd hw 48 rfl)) (mvT hZ (Wd hw 96 rfl)) (by decide) (backOf (W := 0) (rmA10 l Z a0 hw [] rt_3 (nn <<< ((1 : Int32) &&& 31)) (own_w0 qa) (own_w1 qa) (own_w0 qb) (own_w1 qb) (own_w0 qc) (own_w1 qc) (own_w0 qd) (own_w1 qd) (own_w0 qe) (own_w1 qe) (own_w0 qf) (own_w1 qf) (own_w0 qg) (own_w1 qg) k_rt_3 T3.heap n0 Zs3 (X00.keep K3 all0) S__assertionsDisabled q3_0 (own_sh3 hn (own_pick hj hk5 (i := 1) (by decide)).1 (by decide)) S_HI_BYTE_SHIFT (own_sh3 hn (own_pick hj hk5 (i := 1) (by decide)).1 (by decide)) S_LO_BYTE_SHIFT) hZ (Wd hw 96 rfl) (Wd hw 48 rfl) (by decide) (by decide)) (g := (mkF m 32 #[.val (.ref a), .val (.int (0 : Int32)), .val (.int nn), .val (.ref b1), .val (.int (1 : Int32)), .val (.ref rt_3)] [(.int (1 : Int32)), (.ref rt_3)])) rfl (by rw [hml]; rfl) (argsL := [(.ref rt_3), (.int (1 : Int32))]) (rest := []) (lenOf own_pd5 rfl) rfl (by show 2 * 0 + _ ≤ _; exact Nat.le_of_eq rfl) (hb hby d9_32) (fun _ _ => ⟨rfl, rfl, (by decide : 2 + 0 ≤ _), (by decide : 21 + 0 ≤ _)⟩)
  dsimp only [Pt.U, Pt.locs, Pt.cells, Pt.slots] at X9 l9 y9 z9 st9 hQ9
  subst l9 y9 z9
  obtain ⟨rfl, Nq9, e9⟩ := hQ9
  have N9 := Fr.app N3 Nq9
  obtain ⟨fs, hr, hrun, hended, hW, hsame⟩ := X9.leave (v := some (.ref rt_3)) (fun h => by rw [Bd.returns] at h; cases h)
  refine ⟨_, _, (pre0 _ (r4 _ (r8 _ ?_))), hrun, hended, _, _, rfl, ?_, ⟨_, rfl⟩, hW, hsame.mono (by decide) (by decide)⟩
  ·show Steps p.tables e below (T3.setTop (mkF m 28 #[.val (.ref a), .val (.int (0 : Int32)), .val (.int nn), .val (.ref b1), .val (.int (1 : Int32)), .val (.ref rt_3)] [])) _
   refine XS.aload X3.here hx rfl (hb hby d9_28) rfl rfl ?_
   refine XS.iload X3.here hx rfl (hb hby d9_30) rfl ?_
   refine st9 _ ?_
   refine XS.sipush X9.here hx rfl (hb hby d9_35) ?_
   refine XS.icmpYes X9.here hx rfl (pc0 := 38) (pc' := 54) rfl (hb hby d9_38) rfl (tlt (own_rd255 hqb (own_pick hj hk5 (i := 1) (by decide)).2)).2.2.1 (by decide) (by decide) ?_
   refine XS.aload X9.here hx rfl (hb hby d9_54) rfl rfl ?_
   jvm_step X9.here [X9.here.top, hx, (hb hby d9_56), X9.method', Bd.returns, Value.isRef, FieldType.isReference]
   first | (intro acts; rw [hr _ acts rfl rfl rfl]) | rw [hr _ _ rfl rfl rfl]
   exact Steps.refl _
  ·show QC3W Z a nn qa qb qc qd qe qf qg k_a h0 n0 _ T9.heap _
   rw [e9]
   exact ⟨rt_3, k_rt_3, rfl, N9, K3, g_rt_3, sz_rt_3, q3_0⟩
 ·have r10 : ∀ t, Steps p.tables e below (T3.setTop (mkF m 28 #[.val (.ref a), .val (.int (0 : Int32)), .val (.int nn), .val (.ref b1), .val (.int (2 : Int32)), .val (.ref rt_3)] [])) t → Steps p.tables e below (T3.setTop (mkF m 28 #[.val (.ref a), .val (.int (0 : Int32)), .val (.int nn), .val (.ref b1), .val (.int jv_2), .val (.ref rt_3)] [])) t := fun t kt => by
   rw [hk5]
   exact kt
  obtain ⟨_, _, ⟨T11, L11, k11, n11⟩, -, X11, ⟨Lc11, hQ11, l11, y11, z11⟩, st11⟩ := Jvm.LawKit.callS X3 hx (y := (⟨"java/lang/StringUTF16", "getChar", "([BI)C"⟩ : MethodName)) hown (mvT hZ (Wd hw 94 rfl)) (mvT hZ (Wd hw 95 rfl)) (mvT hZ (Wd hw 48 rfl)) (mvT hZ (Wd hw 96 rfl)) (by decide) (backOf (W := 0) (rmA11 l Z a0 hw [] rt_3 (nn <<< ((1 : Int32) &&& 31)) (own_w0 qa) (own_w1 qa) (own_w0 qb) (own_w1 qb) (own_w0 qc) (own_w1 qc) (own_w0 qd) (own_w1 qd) (own_w0 qe) (own_w1 qe) (own_w0 qf) (own_w1 qf) (own_w0 qg) (own_w1 qg) k_rt_3 T3.heap n0 Zs3 (X00.keep K3 all0) S__assertionsDisabled q3_0 (own_sh3 hn (own_pick hj hk5 (i := 2) (by decide)).1 (by decide)) S_HI_BYTE_SHIFT (own_sh3 hn (own_pick hj hk5 (i := 2) (by decide)).1 (by decide)) S_LO_BYTE_SHIFT) hZ (Wd hw 96 rfl) (Wd hw 48 rfl) (by decide) (by decide)) (g := (mkF m 32 #[.val (.ref a), .val (.int (0 : Int32)), .val (.int nn), .val (.ref b1), .val (.int (2 : Int32)), .val (.ref rt_3)] [(.int (2 : Int32)), (.ref rt_3)])) rfl (by rw [hml]; rfl) (argsL := [(.ref rt_3), (.int (2 : Int32))]) (rest := []) (lenOf own_pd5 rfl) rfl (by show 2 * 0 + _ ≤ _; exact Nat.le_of_eq rfl) (hb hby d9_32) (fun _ _ => ⟨rfl, rfl, (by decide : 2 + 0 ≤ _), (by decide : 21 + 0 ≤ _)⟩)
  dsimp only [Pt.U, Pt.locs, Pt.cells, Pt.slots] at X11 l11 y11 z11 st11 hQ11
  subst l11 y11 z11
  obtain ⟨rfl, Nq11, e11⟩ := hQ11
  have N11 := Fr.app N3 Nq11
  obtain ⟨fs, hr, hrun, hended, hW, hsame⟩ := X11.leave (v := some (.ref rt_3)) (fun h => by rw [Bd.returns] at h; cases h)
  refine ⟨_, _, (pre0 _ (r4 _ (r10 _ ?_))), hrun, hended, _, _, rfl, ?_, ⟨_, rfl⟩, hW, hsame.mono (by decide) (by decide)⟩
  ·show Steps p.tables e below (T3.setTop (mkF m 28 #[.val (.ref a), .val (.int (0 : Int32)), .val (.int nn), .val (.ref b1), .val (.int (2 : Int32)), .val (.ref rt_3)] [])) _
   refine XS.aload X3.here hx rfl (hb hby d9_28) rfl rfl ?_
   refine XS.iload X3.here hx rfl (hb hby d9_30) rfl ?_
   refine st11 _ ?_
   refine XS.sipush X11.here hx rfl (hb hby d9_35) ?_
   refine XS.icmpYes X11.here hx rfl (pc0 := 38) (pc' := 54) rfl (hb hby d9_38) rfl (tlt (own_rd255 hqc (own_pick hj hk5 (i := 2) (by decide)).2)).2.2.1 (by decide) (by decide) ?_
   refine XS.aload X11.here hx rfl (hb hby d9_54) rfl rfl ?_
   jvm_step X11.here [X11.here.top, hx, (hb hby d9_56), X11.method', Bd.returns, Value.isRef, FieldType.isReference]
   first | (intro acts; rw [hr _ acts rfl rfl rfl]) | rw [hr _ _ rfl rfl rfl]
   exact Steps.refl _
  ·show QC3W Z a nn qa qb qc qd qe qf qg k_a h0 n0 _ T11.heap _
   rw [e11]
   exact ⟨rt_3, k_rt_3, rfl, N11, K3, g_rt_3, sz_rt_3, q3_0⟩
 ·have r12 : ∀ t, Steps p.tables e below (T3.setTop (mkF m 28 #[.val (.ref a), .val (.int (0 : Int32)), .val (.int nn), .val (.ref b1), .val (.int (3 : Int32)), .val (.ref rt_3)] [])) t → Steps p.tables e below (T3.setTop (mkF m 28 #[.val (.ref a), .val (.int (0 : Int32)), .val (.int nn), .val (.ref b1), .val (.int jv_2), .val (.ref rt_3)] [])) t := fun t kt => by
   rw [hk5]
   exact kt
  obtain ⟨_, _, ⟨T13, L13, k13, n13⟩, -, X13, ⟨Lc13, hQ13, l13, y13, z13⟩, st13⟩ := Jvm.LawKit.callS X3 hx (y := (⟨"java/lang/StringUTF16", "getChar", "([BI)C"⟩ : MethodName)) hown (mvT hZ (Wd hw 94 rfl)) (mvT hZ (Wd hw 95 rfl)) (mvT hZ (Wd hw 48 rfl)) (mvT hZ (Wd hw 96 rfl)) (by decide) (backOf (W := 0) (rmA12 l Z a0 hw [] rt_3 (nn <<< ((1 : Int32) &&& 31)) (own_w0 qa) (own_w1 qa) (own_w0 qb) (own_w1 qb) (own_w0 qc) (own_w1 qc) (own_w0 qd) (own_w1 qd) (own_w0 qe) (own_w1 qe) (own_w0 qf) (own_w1 qf) (own_w0 qg) (own_w1 qg) k_rt_3 T3.heap n0 Zs3 (X00.keep K3 all0) S__assertionsDisabled q3_0 (own_sh3 hn (own_pick hj hk5 (i := 3) (by decide)).1 (by decide)) S_HI_BYTE_SHIFT (own_sh3 hn (own_pick hj hk5 (i := 3) (by decide)).1 (by decide)) S_LO_BYTE_SHIFT) hZ (Wd hw 96 rfl) (Wd hw 48 rfl) (by decide) (by decide)) (g := (mkF m 32 #[.val (.ref a), .val (.int (0 : Int32)), .val (.int nn), .val (.ref b1), .val (.int (3 : Int32)), .val (.ref rt_3)] [(.int (3 : Int32)), (.ref rt_3)])) rfl (by rw [hml]; rfl) (argsL := [(.ref rt_3), (.int (3 : Int32))]) (rest := []) (lenOf own_pd5 rfl) rfl (by show 2 * 0 + _ ≤ _; exact Nat.le_of_eq rfl) (hb hby d9_32) (fun _ _ => ⟨rfl, rfl, (by decide : 2 + 0 ≤ _), (by decide : 21 + 0 ≤ _)⟩)
  dsimp only [Pt.U, Pt.locs, Pt.cells, Pt.slots] at X13 l13 y13 z13 st13 hQ13
  subst l13 y13 z13
  obtain ⟨rfl, Nq13, e13⟩ := hQ13
  have N13 := Fr.app N3 Nq13
  obtain ⟨fs, hr, hrun, hended, hW, hsame⟩ := X13.leave (v := some (.ref rt_3)) (fun h => by rw [Bd.returns] at h; cases h)
  refine ⟨_, _, (pre0 _ (r4 _ (r12 _ ?_))), hrun, hended, _, _, rfl, ?_, ⟨_, rfl⟩, hW, hsame.mono (by decide) (by decide)⟩
  ·show Steps p.tables e below (T3.setTop (mkF m 28 #[.val (.ref a), .val (.int (0 : Int32)), .val (.int nn), .val (.ref b1), .val (.int (3 : Int32)), .val (.ref rt_3)] [])) _
   refine XS.aload X3.here hx rfl (hb hby d9_28) rfl rfl ?_
   refine XS.iload X3.here hx rfl (hb hby d9_30) rfl ?_
   refine st13 _ ?_
   refine XS.sipush X13.here hx rfl (hb hby d9_35) ?_
   refine XS.icmpYes X13.here hx rfl (pc0 := 38) (pc' := 54) rfl (hb hby d9_38) rfl (tlt (own_rd255 hqd (own_pick hj hk5 (i := 3) (by decide)).2)).2.2.1 (by decide) (by decide) ?_
   refine XS.aload X13.here hx rfl (hb hby d9_54) rfl rfl ?_
   jvm_step X13.here [X13.here.top, hx, (hb hby d9_56), X13.method', Bd.returns, Value.isRef, FieldType.isReference]
   first | (intro acts; rw [hr _ acts rfl rfl rfl]) | rw [hr _ _ rfl rfl rfl]
   exact Steps.refl _
  ·show QC3W Z a nn qa qb qc qd qe qf qg k_a h0 n0 _ T13.heap _
   rw [e13]
   exact ⟨rt_3, k_rt_3, rfl, N13, K3, g_rt_3, sz_rt_3, q3_0⟩
 ·have r14 : ∀ t, Steps p.tables e below (T3.setTop (mkF m 28 #[.val (.ref a), .val (.int (0 : Int32)), .val (.int nn), .val (.ref b1), .val (.int (4 : Int32)), .val (.ref rt_3)] [])) t → Steps p.tables e below (T3.setTop (mkF m 28 #[.val (.ref a), .val (.int (0 : Int32)), .val (.int nn), .val (.ref b1), .val (.int jv_2), .val (.ref rt_3)] [])) t := fun t kt => by
   rw [hk5]
   exact kt
  obtain ⟨_, _, ⟨T15, L15, k15, n15⟩, -, X15, ⟨Lc15, hQ15, l15, y15, z15⟩, st15⟩ := Jvm.LawKit.callS X3 hx (y := (⟨"java/lang/StringUTF16", "getChar", "([BI)C"⟩ : MethodName)) hown (mvT hZ (Wd hw 94 rfl)) (mvT hZ (Wd hw 95 rfl)) (mvT hZ (Wd hw 48 rfl)) (mvT hZ (Wd hw 96 rfl)) (by decide) (backOf (W := 0) (rmA13 l Z a0 hw [] rt_3 (nn <<< ((1 : Int32) &&& 31)) (own_w0 qa) (own_w1 qa) (own_w0 qb) (own_w1 qb) (own_w0 qc) (own_w1 qc) (own_w0 qd) (own_w1 qd) (own_w0 qe) (own_w1 qe) (own_w0 qf) (own_w1 qf) (own_w0 qg) (own_w1 qg) k_rt_3 T3.heap n0 Zs3 (X00.keep K3 all0) S__assertionsDisabled q3_0 (own_sh3 hn (own_pick hj hk5 (i := 4) (by decide)).1 (by decide)) S_HI_BYTE_SHIFT (own_sh3 hn (own_pick hj hk5 (i := 4) (by decide)).1 (by decide)) S_LO_BYTE_SHIFT) hZ (Wd hw 96 rfl) (Wd hw 48 rfl) (by decide) (by decide)) (g := (mkF m 32 #[.val (.ref a), .val (.int (0 : Int32)), .val (.int nn), .val (.ref b1), .val (.int (4 : Int32)), .val (.ref rt_3)] [(.int (4 : Int32)), (.ref rt_3)])) rfl (by rw [hml]; rfl) (argsL := [(.ref rt_3), (.int (4 : Int32))]) (rest := []) (lenOf own_pd5 rfl) rfl (by show 2 * 0 + _ ≤ _; exact Nat.le_of_eq rfl) (hb hby d9_32) (fun _ _ => ⟨rfl, rfl, (by decide : 2 + 0 ≤ _), (by decide : 21 + 0 ≤ _)⟩)
  dsimp only [Pt.U, Pt.locs, Pt.cells, Pt.slots] at X15 l15 y15 z15 st15 hQ15
  subst l15 y15 z15
  obtain ⟨rfl, Nq15, e15⟩ := hQ15
  have N15 := Fr.app N3 Nq15
  obtain ⟨fs, hr, hrun, hended, hW, hsame⟩ := X15.leave (v := some (.ref rt_3)) (fun h => by rw [Bd.returns] at h; cases h)
  refine ⟨_, _, (pre0 _ (r4 _ (r14 _ ?_))), hrun, hended, _, _, rfl, ?_, ⟨_, rfl⟩, hW, hsame.mono (by decide) (by decide)⟩
  ·show Steps p.tables e below (T3.setTop (mkF m 28 #[.val (.ref a), .val (.int (0 : Int32)), .val (.int nn), .val (.ref b1), .val (.int (4 : Int32)), .val (.ref rt_3)] [])) _
   refine XS.aload X3.here hx rfl (hb hby d9_28) rfl rfl ?_
   refine XS.iload X3.here hx rfl (hb hby d9_30) rfl ?_
   refine st15 _ ?_
   refine XS.sipush X15.here hx rfl (hb hby d9_35) ?_
   refine XS.icmpYes X15.here hx rfl (pc0 := 38) (pc' := 54) rfl (hb hby d9_38) rfl (tlt (own_rd255 hqe (own_pick hj hk5 (i := 4) (by decide)).2)).2.2.1 (by decide) (by decide) ?_
   refine XS.aload X15.here hx rfl (hb hby d9_54) rfl rfl ?_
   jvm_step X15.here [X15.here.top, hx, (hb hby d9_56), X15.method', Bd.returns, Value.isRef, FieldType.isReference]
   first | (intro acts; rw [hr _ acts rfl rfl rfl]) | rw [hr _ _ rfl rfl rfl]
   exact Steps.refl _
  ·show QC3W Z a nn qa qb qc qd qe qf qg k_a h0 n0 _ T15.heap _
   rw [e15]
   exact ⟨rt_3, k_rt_3, rfl, N15, K3, g_rt_3, sz_rt_3, q3_0⟩
 ·have r16 : ∀ t, Steps p.tables e below (T3.setTop (mkF m 28 #[.val (.ref a), .val (.int (0 : Int32)), .val (.int nn), .val (.ref b1), .val (.int (5 : Int32)), .val (.ref rt_3)] [])) t → Steps p.tables e below (T3.setTop (mkF m 28 #[.val (.ref a), .val (.int (0 : Int32)), .val (.int nn), .val (.ref b1), .val (.int jv_2), .val (.ref rt_3)] [])) t := fun t kt => by
   rw [hk5]
   exact kt
  obtain ⟨_, _, ⟨T17, L17, k17, n17⟩, -, X17, ⟨Lc17, hQ17, l17, y17, z17⟩, st17⟩ := Jvm.LawKit.callS X3 hx (y := (⟨"java/lang/StringUTF16", "getChar", "([BI)C"⟩ : MethodName)) hown (mvT hZ (Wd hw 94 rfl)) (mvT hZ (Wd hw 95 rfl)) (mvT hZ (Wd hw 48 rfl)) (mvT hZ (Wd hw 96 rfl)) (by decide) (backOf (W := 0) (rmA14 l Z a0 hw [] rt_3 (nn <<< ((1 : Int32) &&& 31)) (own_w0 qa) (own_w1 qa) (own_w0 qb) (own_w1 qb) (own_w0 qc) (own_w1 qc) (own_w0 qd) (own_w1 qd) (own_w0 qe) (own_w1 qe) (own_w0 qf) (own_w1 qf) (own_w0 qg) (own_w1 qg) k_rt_3 T3.heap n0 Zs3 (X00.keep K3 all0) S__assertionsDisabled q3_0 (own_sh3 hn (own_pick hj hk5 (i := 5) (by decide)).1 (by decide)) S_HI_BYTE_SHIFT (own_sh3 hn (own_pick hj hk5 (i := 5) (by decide)).1 (by decide)) S_LO_BYTE_SHIFT) hZ (Wd hw 96 rfl) (Wd hw 48 rfl) (by decide) (by decide)) (g := (mkF m 32 #[.val (.ref a), .val (.int (0 : Int32)), .val (.int nn), .val (.ref b1), .val (.int (5 : Int32)), .val (.ref rt_3)] [(.int (5 : Int32)), (.ref rt_3)])) rfl (by rw [hml]; rfl) (argsL := [(.ref rt_3), (.int (5 : Int32))]) (rest := []) (lenOf own_pd5 rfl) rfl (by show 2 * 0 + _ ≤ _; exact Nat.le_of_eq rfl) (hb hby d9_32) (fun _ _ => ⟨rfl, rfl, (by decide : 2 + 0 ≤ _), (by decide : 21 + 0 ≤ _)⟩)
  dsimp only [Pt.U, Pt.locs, Pt.cells, Pt.slots] at X17 l17 y17 z17 st17 hQ17
  subst l17 y17 z17
  obtain ⟨rfl, Nq17, e17⟩ := hQ17
  have N17 := Fr.app N3 Nq17
  obtain ⟨fs, hr, hrun, hended, hW, hsame⟩ := X17.leave (v := some (.ref rt_3)) (fun h => by rw [Bd.returns] at h; cases h)
  refine ⟨_, _, (pre0 _ (r4 _ (r16 _ ?_))), hrun, hended, _, _, rfl, ?_, ⟨_, rfl⟩, hW, hsame.mono (by decide) (by decide)⟩
  ·show Steps p.tables e below (T3.setTop (mkF m 28 #[.val (.ref a), .val (.int (0 : Int32)), .val (.int nn), .val (.ref b1), .val (.int (5 : Int32)), .val (.ref rt_3)] [])) _
   refine XS.aload X3.here hx rfl (hb hby d9_28) rfl rfl ?_
   refine XS.iload X3.here hx rfl (hb hby d9_30) rfl ?_
   refine st17 _ ?_
   refine XS.sipush X17.here hx rfl (hb hby d9_35) ?_
   refine XS.icmpYes X17.here hx rfl (pc0 := 38) (pc' := 54) rfl (hb hby d9_38) rfl (tlt (own_rd255 hqf (own_pick hj hk5 (i := 5) (by decide)).2)).2.2.1 (by decide) (by decide) ?_
   refine XS.aload X17.here hx rfl (hb hby d9_54) rfl rfl ?_
   jvm_step X17.here [X17.here.top, hx, (hb hby d9_56), X17.method', Bd.returns, Value.isRef, FieldType.isReference]
   first | (intro acts; rw [hr _ acts rfl rfl rfl]) | rw [hr _ _ rfl rfl rfl]
   exact Steps.refl _
  ·show QC3W Z a nn qa qb qc qd qe qf qg k_a h0 n0 _ T17.heap _
   rw [e17]
   exact ⟨rt_3, k_rt_3, rfl, N17, K3, g_rt_3, sz_rt_3, q3_0⟩
 ·have r18 : ∀ t, Steps p.tables e below (T3.setTop (mkF m 28 #[.val (.ref a), .val (.int (0 : Int32)), .val (.int nn), .val (.ref b1), .val (.int (6 : Int32)), .val (.ref rt_3)] [])) t → Steps p.tables e below (T3.setTop (mkF m 28 #[.val (.ref a), .val (.int (0 : Int32)), .val (.int nn), .val (.ref b1), .val (.int jv_2), .val (.ref rt_3)] [])) t := fun t kt => by
   rw [hk5]
   exact kt
  obtain ⟨_, _, ⟨T19, L19, k19, n19⟩, -, X19, ⟨Lc19, hQ19, l19, y19, z19⟩, st19⟩ := Jvm.LawKit.callS X3 hx (y := (⟨"java/lang/StringUTF16", "getChar", "([BI)C"⟩ : MethodName)) hown (mvT hZ (Wd hw 94 rfl)) (mvT hZ (Wd hw 95 rfl)) (mvT hZ (Wd hw 48 rfl)) (mvT hZ (Wd hw 96 rfl)) (by decide) (backOf (W := 0) (rmA15 l Z a0 hw [] rt_3 (nn <<< ((1 : Int32) &&& 31)) (own_w0 qa) (own_w1 qa) (own_w0 qb) (own_w1 qb) (own_w0 qc) (own_w1 qc) (own_w0 qd) (own_w1 qd) (own_w0 qe) (own_w1 qe) (own_w0 qf) (own_w1 qf) (own_w0 qg) (own_w1 qg) k_rt_3 T3.heap n0 Zs3 (X00.keep K3 all0) S__assertionsDisabled q3_0 (own_sh3 hn (own_pick hj hk5 (i := 6) (by decide)).1 (by decide)) S_HI_BYTE_SHIFT (own_sh3 hn (own_pick hj hk5 (i := 6) (by decide)).1 (by decide)) S_LO_BYTE_SHIFT) hZ (Wd hw 96 rfl) (Wd hw 48 rfl) (by decide) (by decide)) (g := (mkF m 32 #[.val (.ref a), .val (.int (0 : Int32)), .val (.int nn), .val (.ref b1), .val (.int (6 : Int32)), .val (.ref rt_3)] [(.int (6 : Int32)), (.ref rt_3)])) rfl (by rw [hml]; rfl) (argsL := [(.ref rt_3), (.int (6 : Int32))]) (rest := []) (lenOf own_pd5 rfl) rfl (by show 2 * 0 + _ ≤ _; exact Nat.le_of_eq rfl) (hb hby d9_32) (fun _ _ => ⟨rfl, rfl, (by decide : 2 + 0 ≤ _), (by decide : 21 + 0 ≤ _)⟩)
  dsimp only [Pt.U, Pt.locs, Pt.cells, Pt.slots] at X19 l19 y19 z19 st19 hQ19
  subst l19 y19 z19
  obtain ⟨rfl, Nq19, e19⟩ := hQ19
  have N19 := Fr.app N3 Nq19
  obtain ⟨fs, hr, hrun, hended, hW, hsame⟩ := X19.leave (v := some (.ref rt_3)) (fun h => by rw [Bd.returns] at h; cases h)
  refine ⟨_, _, (pre0 _ (r4 _ (r18 _ ?_))), hrun, hended, _, _, rfl, ?_, ⟨_, rfl⟩, hW, hsame.mono (by decide) (by decide)⟩
  ·show Steps p.tables e below (T3.setTop (mkF m 28 #[.val (.ref a), .val (.int (0 : Int32)), .val (.int nn), .val (.ref b1), .val (.int (6 : Int32)), .val (.ref rt_3)] [])) _
   refine XS.aload X3.here hx rfl (hb hby d9_28) rfl rfl ?_
   refine XS.iload X3.here hx rfl (hb hby d9_30) rfl ?_
   refine st19 _ ?_
   refine XS.sipush X19.here hx rfl (hb hby d9_35) ?_
   refine XS.icmpYes X19.here hx rfl (pc0 := 38) (pc' := 54) rfl (hb hby d9_38) rfl (tlt (own_rd255 hqg (own_pick hj hk5 (i := 6) (by decide)).2)).2.2.1 (by decide) (by decide) ?_
   refine XS.aload X19.here hx rfl (hb hby d9_54) rfl rfl ?_
   jvm_step X19.here [X19.here.top, hx, (hb hby d9_56), X19.method', Bd.returns, Value.isRef, FieldType.isReference]
   first | (intro acts; rw [hr _ acts rfl rfl rfl]) | rw [hr _ _ rfl rfl rfl]
   exact Steps.refl _
  ·show QC3W Z a nn qa qb qc qd qe qf qg k_a h0 n0 _ T19.heap _
   rw [e19]
   exact ⟨rt_3, k_rt_3, rfl, N19, K3, g_rt_3, sz_rt_3, q3_0⟩
theorem d11_0 : decode jdk_52_method_15_code 0 = .ok (.iload_n 1, 1) := by decide +kernel
theorem d11_1 : decode jdk_52_method_15_code 1 = .ok (.aload_n 0, 1) := by decide +kernel
theorem d11_2 : decode jdk_52_method_15_code 2 = .ok (.arraylength, 1) := by decide +kernel
theorem d11_3 : decode jdk_52_method_15_code 3 = .ok (.isub, 1) := by decide +kernel
theorem d11_4 : decode jdk_52_method_15_code 4 = .ok (.bipush 31, 2) := by decide +kernel
theorem d11_6 : decode jdk_52_method_15_code 6 = .ok (.iushr, 1) := by decide +kernel
theorem d11_7 : decode jdk_52_method_15_code 7 = .ok (.i2b, 1) := by decide +kernel
theorem d11_8 : decode jdk_52_method_15_code 8 = .ok (.ireturn, 1) := by decide +kernel
theorem efCFL (m : MethodId) (b : Addr) (nn : Int32) : entryFrame m #[(.ref b), (.int nn)] 2 = mkF m 0 #[.val (.ref b), .val (.int nn)] [] := by first | (simp [entryFrame, mkF, argsToLocals, Value.category]; done) | rfl
def QCFL (Z : State) (b : Addr) (nn : Int32) (lb : List Value) (k_b : ClassId) (h0 : Heap) (n0 : Nat) (v : Option Value) (h : Heap) (L : List Loc) : Prop := v = some (.int (0 : Int32)) ∧ Fr n0 L ∧ h = h0
set_option maxRecDepth 65536 in
set_option maxHeartbeats 40000000 in
theorem rmCFL (l : Launch) (Z : State) (a0 : Array Value) (hw : ∀ d ∈ tables_1, d.before a0 Z = true) (ws : List Jvm.Cond) (b : Addr) (nn : Int32) (lb : List Value) (k_b : ClassId) (h0 : Heap) (n0 : Nat) (Z0 : n0 ≤ h0.size) (V_b : Arv Z h0 b k_b .byte nn lb (.int (0 : Int32))) (hp : 1 ≤ nn.toInt ∧ nn.toInt ≤ 7) :
  MetFree l (⟨"java/lang/StringUTF16", "coderFromArrayLen", "([BI)B"⟩ : MethodName) (head1 (Jvm.Cond.code (⟨"java/lang/StringUTF16", "coderFromArrayLen", "([BI)B"⟩ : MethodName) jdk_52_method_15_code 2 (some .byte) :: ws) ({ frames := 0, cells := 0, slots := 0, locals := 0 } : Room)) (fun av_ U => av_ = #[(.ref b), (.int nn)] ∧ Z.Warmed39 U.vm ∧ U.heap = h0) (fun _ _ _ _ _ => True) (fun _ U o U' => ∃ v L, o = .returned v ∧ QCFL Z b nn lb k_b h0 n0 v U'.heap L ∧ FrameEnd U o U' L ({ frames := 0, cells := 0, slots := 0, locals := 0 } : Room).cells ({ frames := 0, cells := 0, slots := 0, locals := 0 } : Room).slots) := by
 refine MetFree.of_bodySF (plainFor_of_name own_pn0) hisR ?_
 intro p e s m args below meth c s₁ Bd hml0 hP hK
 obtain ⟨rfl, hZ, hh⟩ := hP
 have hx := Bd.exec
 have hby := Bd.bytes
 have hml : c.maxLocals = 2 := hml0
 have hown : s.vm.findClass "java/lang/StringUTF16" = some m.cls := findClass_of_methodNamed Bd.named
 have hnm := (name_of_methodNamed Bd.named Bd.method).1
 have X0 : Stand p l e ({ frames := 0, cells := 0, slots := 0, locals := 0 } : Room) s m #[(.ref b), (.int nn)] below meth c s₁ [] 0 0 := Stand.of_body Bd
 have e0 : s₁.heap = h0 := by rw [← hh, Bd.state]; rfl
 have N0 := Fr.nil n0
 have pre0 : ∀ t, Steps p.tables e below (s₁.setTop (mkF m 0 #[.val (.ref b), .val (.int nn)] [])) t → Steps p.tables e below (s₁.setTop (entryFrame m #[(.ref b), (.int nn)] 2)) t := fun t k => castTop (efCFL m b nn) k
 obtain ⟨cl1, Ar1, q1, S1, M1, Hs1, G1⟩ := (id V_b)
 obtain ⟨fs, hr, hrun, hended, hW, hsame⟩ := X0.leave (v := some (.int (nar .byte ((((nn - nn).toUInt32 >>> ((31 : Int32) &&& 31).toUInt32).toInt32).toInt8.toInt32)))) (fun h => by rw [Bd.returns] at h; cases h)
 refine ⟨_, _, (pre0 _ ?_), hrun, hended, _, _, rfl, ?_, ⟨_, rfl⟩, hW, hsame.mono (by decide) (by decide)⟩
 ·show Steps p.tables e below (s₁.setTop (mkF m 0 #[.val (.ref b), .val (.int nn)] [])) _
  refine XS.iloadN X0.here hx rfl (hb hby d11_0) rfl ?_
  refine XS.aloadN X0.here hx rfl (hb hby d11_1) rfl rfl ?_
  refine X0.arraylength hx (by rw [e0]; exact Ar1.1) (State.isArrayOf_alike hZ.alike Ar1.2.1) (g := (mkF m 2 #[.val (.ref b), .val (.int nn)] [(.ref b), (.int nn)])) rfl rfl (hb hby d11_2) _ ?_
  rw [len_of S1 M1]
  refine XS.isub X0.here hx rfl (hb hby d11_3) rfl ?_
  refine XS.bipush X0.here hx rfl (hb hby d11_4) ?_
  refine XS.iushr X0.here hx rfl (hb hby d11_6) rfl ?_
  refine XS.i2b X0.here hx rfl (hb hby d11_7) rfl ?_
  exact retN X0 hx (t := .byte) Bd.returns (by simp) (hb hby d11_8) hr
 ·show QCFL Z b nn lb k_b h0 n0 _ s₁.heap _
  rw [e0]
  exact ⟨(congrArg (fun w => some (Value.int w)) (own_cfL _)), N0, rfl⟩
theorem efCFW (m : MethodId) (b : Addr) (nn : Int32) : entryFrame m #[(.ref b), (.int nn)] 2 = mkF m 0 #[.val (.ref b), .val (.int nn)] [] := by first | (simp [entryFrame, mkF, argsToLocals, Value.category]; done) | rfl
def QCFW (Z : State) (b : Addr) (nn : Int32) (lb : List Value) (k_b : ClassId) (h0 : Heap) (n0 : Nat) (v : Option Value) (h : Heap) (L : List Loc) : Prop := v = some (.int (1 : Int32)) ∧ Fr n0 L ∧ h = h0
set_option maxRecDepth 65536 in
set_option maxHeartbeats 40000000 in
theorem rmCFW (l : Launch) (Z : State) (a0 : Array Value) (hw : ∀ d ∈ tables_1, d.before a0 Z = true) (ws : List Jvm.Cond) (b : Addr) (nn : Int32) (lb : List Value) (k_b : ClassId) (h0 : Heap) (n0 : Nat) (Z0 : n0 ≤ h0.size) (V_b : Arv Z h0 b k_b .byte (nn <<< ((1 : Int32) &&& 31)) lb (.int (0 : Int32))) (hp : 1 ≤ nn.toInt ∧ nn.toInt ≤ 7) :
  MetFree l (⟨"java/lang/StringUTF16", "coderFromArrayLen", "([BI)B"⟩ : MethodName) (head1 (Jvm.Cond.code (⟨"java/lang/StringUTF16", "coderFromArrayLen", "([BI)B"⟩ : MethodName) jdk_52_method_15_code 2 (some .byte) :: ws) ({ frames := 0, cells := 0, slots := 0, locals := 0 } : Room)) (fun av_ U => av_ = #[(.ref b), (.int nn)] ∧ Z.Warmed39 U.vm ∧ U.heap = h0) (fun _ _ _ _ _ => True) (fun _ U o U' => ∃ v L, o = .returned v ∧ QCFW Z b nn lb k_b h0 n0 v U'.heap L ∧ FrameEnd U o U' L ({ frames := 0, cells := 0, slots := 0, locals := 0 } : Room).cells ({ frames := 0, cells := 0, slots := 0, locals := 0 } : Room).slots) := by
 refine MetFree.of_bodySF (plainFor_of_name own_pn0) hisR ?_
 intro p e s m args below meth c s₁ Bd hml0 hP hK
 obtain ⟨rfl, hZ, hh⟩ := hP
 have hx := Bd.exec
 have hby := Bd.bytes
 have hml : c.maxLocals = 2 := hml0
 have hown : s.vm.findClass "java/lang/StringUTF16" = some m.cls := findClass_of_methodNamed Bd.named
 have hnm := (name_of_methodNamed Bd.named Bd.method).1
 have X0 : Stand p l e ({ frames := 0, cells := 0, slots := 0, locals := 0 } : Room) s m #[(.ref b), (.int nn)] below meth c s₁ [] 0 0 := Stand.of_body Bd
 have e0 : s₁.heap = h0 := by rw [← hh, Bd.state]; rfl
 have N0 := Fr.nil n0
 have pre0 : ∀ t, Steps p.tables e below (s₁.setTop (mkF m 0 #[.val (.ref b), .val (.int nn)] [])) t → Steps p.tables e below (s₁.setTop (entryFrame m #[(.ref b), (.int nn)] 2)) t := fun t k => castTop (efCFW m b nn) k
 obtain ⟨cl1, Ar1, q1, S1, M1, Hs1, G1⟩ := (id V_b)
 obtain ⟨fs, hr, hrun, hended, hW, hsame⟩ := X0.leave (v := some (.int (nar .byte ((((nn - (nn <<< ((1 : Int32) &&& 31))).toUInt32 >>> ((31 : Int32) &&& 31).toUInt32).toInt32).toInt8.toInt32)))) (fun h => by rw [Bd.returns] at h; cases h)
 refine ⟨_, _, (pre0 _ ?_), hrun, hended, _, _, rfl, ?_, ⟨_, rfl⟩, hW, hsame.mono (by decide) (by decide)⟩
 ·show Steps p.tables e below (s₁.setTop (mkF m 0 #[.val (.ref b), .val (.int nn)] [])) _
  refine XS.iloadN X0.here hx rfl (hb hby d11_0) rfl ?_
  refine XS.aloadN X0.here hx rfl (hb hby d11_1) rfl rfl ?_
  refine X0.arraylength hx (by rw [e0]; exact Ar1.1) (State.isArrayOf_alike hZ.alike Ar1.2.1) (g := (mkF m 2 #[.val (.ref b), .val (.int nn)] [(.ref b), (.int nn)])) rfl rfl (hb hby d11_2) _ ?_
  rw [len_of S1 M1]
  refine XS.isub X0.here hx rfl (hb hby d11_3) rfl ?_
  refine XS.bipush X0.here hx rfl (hb hby d11_4) ?_
  refine XS.iushr X0.here hx rfl (hb hby d11_6) rfl ?_
  refine XS.i2b X0.here hx rfl (hb hby d11_7) rfl ?_
  exact retN X0 hx (t := .byte) Bd.returns (by simp) (hb hby d11_8) hr
 ·show QCFW Z b nn lb k_b h0 n0 _ s₁.heap _
  rw [e0]
  exact ⟨(congrArg (fun w => some (Value.int w)) (own_cfW hp)), N0, rfl⟩
theorem own_pd6 : parseMethodDescriptor "([BI)B" = some ⟨[(.array .byte), .int], some .byte⟩ := by decide +kernel
theorem own_pn1 : plainName "java/lang/String" = true := by first | (simp [plainName, overriddenIn]; done) | decide +kernel
theorem d3_0 : decode jdk_42_method_149_code 0 = .ok (.aload_n 0, 1) := by decide +kernel
theorem d3_1 : decode jdk_42_method_149_code 1 = .ok (.invokespecial 1, 3) := by decide +kernel
theorem d3_4 : decode jdk_42_method_149_code 4 = .ok (.iload_n 3, 1) := by decide +kernel
theorem d3_5 : decode jdk_42_method_149_code 5 = .ok (.ifCond .ne 22, 3) := by decide +kernel
theorem d3_27 : decode jdk_42_method_149_code 27 = .ok (.getstatic 38, 3) := by decide +kernel
theorem d3_30 : decode jdk_42_method_149_code 30 = .ok (.ifCond .eq 28, 3) := by decide +kernel
theorem d3_33 : decode jdk_42_method_149_code 33 = .ok (.aload_n 1, 1) := by decide +kernel
theorem d3_34 : decode jdk_42_method_149_code 34 = .ok (.iload_n 2, 1) := by decide +kernel
theorem d3_35 : decode jdk_42_method_149_code 35 = .ok (.iload_n 3, 1) := by decide +kernel
theorem d3_36 : decode jdk_42_method_149_code 36 = .ok (.invokestatic 177, 3) := by decide +kernel
theorem d3_39 : decode jdk_42_method_149_code 39 = .ok (.astore 5, 2) := by decide +kernel
theorem d3_41 : decode jdk_42_method_149_code 41 = .ok (.aload_n 0, 1) := by decide +kernel
theorem d3_42 : decode jdk_42_method_149_code 42 = .ok (.aload 5, 2) := by decide +kernel
theorem d3_44 : decode jdk_42_method_149_code 44 = .ok (.iload_n 3, 1) := by decide +kernel
theorem d3_45 : decode jdk_42_method_149_code 45 = .ok (.invokestatic 47, 3) := by decide +kernel
theorem d3_48 : decode jdk_42_method_149_code 48 = .ok (.putfield 15, 3) := by decide +kernel
theorem d3_51 : decode jdk_42_method_149_code 51 = .ok (.aload_n 0, 1) := by decide +kernel
theorem d3_52 : decode jdk_42_method_149_code 52 = .ok (.aload 5, 2) := by decide +kernel
theorem d3_54 : decode jdk_42_method_149_code 54 = .ok (.putfield 9, 3) := by decide +kernel
theorem d3_57 : decode jdk_42_method_149_code 57 = .ok (.return_, 1) := by decide +kernel
theorem efI4L (m : MethodId) (x : Addr) (a : Addr) (nn : Int32) : entryFrame m #[(.ref x), (.ref a), (.int (0 : Int32)), (.int nn), .null] 6 = mkF m 0 #[.val (.ref x), .val (.ref a), .val (.int (0 : Int32)), .val (.int nn), .val .null, .unset] [] := by first | (simp [entryFrame, mkF, argsToLocals, Value.category]; done) | rfl
def QI4L (Z : State) (x : Addr) (a : Addr) (nn : Int32) (cst : Int32) (qa : Int32) (qb : Int32) (qc : Int32) (qd : Int32) (qe : Int32) (qf : Int32) (qg : Int32) (k_a : ClassId) (h0 : Heap) (n0 : Nat) (v : Option Value) (h : Heap) (L : List Loc) : Prop := ∃ rt : Addr, ∃ k_rt : ClassId, v = none ∧ Fr n0 L ∧ Keep h0 h [x] ∧ n0 ≤ rt ∧ h0.size ≤ rt ∧ Exa Z h x "java/lang/String" ∧ Fld Z h x "java/lang/String" "value" "[B" (.ref rt) ∧ Fld Z h x "java/lang/String" "coder" "B" (.int (0 : Int32)) ∧ Arv Z h rt k_rt .byte nn [(.int qa.toInt8.toInt32), (.int qb.toInt8.toInt32), (.int qc.toInt8.toInt32), (.int qd.toInt8.toInt32), (.int qe.toInt8.toInt32), (.int qf.toInt8.toInt32), (.int qg.toInt8.toInt32)] (.int (0 : Int32))
set_option maxRecDepth 65536 in
set_option maxHeartbeats 40000000 in
theorem rmI4L (l : Launch) (Z : State) (a0 : Array Value) (hw : ∀ d ∈ tables_1, d.before a0 Z = true) (ws : List Jvm.Cond) (x : Addr) (a : Addr) (nn : Int32) (cst : Int32) (qa : Int32) (qb : Int32) (qc : Int32) (qd : Int32) (qe : Int32) (qf : Int32) (qg : Int32) (k_a : ClassId) (h0 : Heap) (n0 : Nat) (Z0 : n0 ≤ h0.size) (E_x : Exa Z h0 x "java/lang/String") (F_value_x : Fld Z h0 x "java/lang/String" "value" "[B" .null) (F_coder_x : Fld Z h0 x "java/lang/String" "coder" "B" (.int (0 : Int32))) (g_x : n0 ≤ x) (X00 : Old Z n0 h0) (S_COMPACT_STRINGS : Sta Z Z.heap "java/lang/String" "COMPACT_STRINGS" "Z" (.int cst)) (hcs : ¬ cst = (0 : Int32)) (V_a : Arv Z h0 a k_a .char nn [(.int qa), (.int qb), (.int qc), (.int qd), (.int qe), (.int qf), (.int qg)] (.int (0 : Int32))) (hp : 1 ≤ nn.toInt ∧ nn.toInt ≤ 7) (hl : own_lat nn [qa, qb, qc, qd, qe, qf, qg]) :
  MetFree l (⟨"java/lang/String", "<init>", "([CIILjava/lang/Void;)V"⟩ : MethodName) (head1 (Jvm.Cond.code (⟨"java/lang/String", "<init>", "([CIILjava/lang/Void;)V"⟩ : MethodName) jdk_42_method_149_code 6 none :: ws) ({ frames := 4, cells := 1, slots := 7, locals := 90 } : Room)) (fun av_ U => av_ = #[(.ref x), (.ref a), (.int (0 : Int32)), (.int nn), .null] ∧ Z.Warmed39 U.vm ∧ U.heap = h0) (fun _ _ _ _ _ => True) (fun _ U o U' => ∃ v L, o = .returned v ∧ QI4L Z x a nn cst qa qb qc qd qe qf qg k_a h0 n0 v U'.heap L ∧ FrameEnd U o U' L ({ frames := 4, cells := 1, slots := 7, locals := 90 } : Room).cells ({ frames := 4, cells := 1, slots := 7, locals := 90 } : Room).slots) := by
 refine MetFree.of_bodySF (plainFor_of_name own_pn1) hisR ?_
 intro p e s m args below meth c s₁ Bd hml0 hP hK
 obtain ⟨rfl, hZ, hh⟩ := hP
 have hx := Bd.exec
 have hby := Bd.bytes
 have hml : c.maxLocals = 6 := hml0
 have hown : s.vm.findClass "java/lang/String" = some m.cls := findClass_of_methodNamed Bd.named
 have hnm := (name_of_methodNamed Bd.named Bd.method).1
 have X0 : Stand p l e ({ frames := 4, cells := 1, slots := 7, locals := 90 } : Room) s m #[(.ref x), (.ref a), (.int (0 : Int32)), (.int nn), .null] below meth c s₁ [] 0 0 := Stand.of_body Bd
 have e0 : s₁.heap = h0 := by rw [← hh, Bd.state]; rfl
 have N0 := Fr.nil n0
 have pre0 : ∀ t, Steps p.tables e below (s₁.setTop (mkF m 0 #[.val (.ref x), .val (.ref a), .val (.int (0 : Int32)), .val (.int nn), .val .null, .unset] [])) t → Steps p.tables e below (s₁.setTop (entryFrame m #[(.ref x), (.ref a), (.int (0 : Int32)), (.int nn), .null] 6)) t := fun t k => castTop (efI4L m x a nn) k
 have hn := own_pos hp
 obtain ⟨T1, X1, e1, st1⟩ := initO X0 hx hZ hown (Wd hw 16 rfl) (Wd hw 17 rfl) (Wd hw 18 rfl) e0 (g := (mkF m 1 #[.val (.ref x), .val (.ref a), .val (.int (0 : Int32)), .val (.int nn), .val .null, .unset] [(.ref x)])) rfl (by rw [hml]; rfl) rfl (hb hby d3_1) (by decide) (W := 0) (by show 2 * 0 + _ ≤ _; exact Nat.le_of_eq rfl) (by decide)
 obtain ⟨T2, X2, e2, st2⟩ := getS2 X1 hx hZ hown (host := "") (Or.inl (Wd hw 41 rfl)) Via.refl e1 (S_COMPACT_STRINGS.ext X00.2) (g := (mkF m 27 #[.val (.ref x), .val (.ref a), .val (.int (0 : Int32)), .val (.int nn), .val .null, .unset] [])) rfl (hb hby d3_27)
 obtain ⟨_, _, ⟨T3, L3, k3, n3⟩, -, X3, ⟨Lc3, hQ3, l3, y3, z3⟩, st3⟩ := Jvm.LawKit.callS X2 hx (y := (⟨"java/lang/StringUTF16", "compress", "([CII)[B"⟩ : MethodName)) hown (mvT hZ (Wd hw 46 rfl)) (mvT hZ (Wd hw 47 rfl)) (mvT hZ (Wd hw 48 rfl)) (mvT hZ (Wd hw 49 rfl)) (by decide) (backOf (W := 0) (rmC3L l Z a0 hw [] a nn qa qb qc qd qe qf qg k_a h0 n0 Z0 V_a hn hl) hZ (Wd hw 49 rfl) (Wd hw 48 rfl) (by decide) (by decide)) (g := (mkF m 36 #[.val (.ref x), .val (.ref a), .val (.int (0 : Int32)), .val (.int nn), .val .null, .unset] [(.int nn), (.int (0 : Int32)), (.ref a)])) rfl (by rw [hml]; rfl) (argsL := [(.ref a), (.int (0 : Int32)), (.int nn)]) (rest := []) (lenOf own_pd4 rfl) rfl (by show 2 * 0 + _ ≤ _; exact Nat.le_of_eq rfl) (hb hby d3_36) (fun _ _ => ⟨rfl, e2, (by decide : 0 + 1 ≤ _), (by decide : 0 + 7 ≤ _)⟩)
 dsimp only [Pt.U, Pt.locs, Pt.cells, Pt.slots] at X3 l3 y3 z3 st3 hQ3
 subst l3 y3 z3
 obtain ⟨rt_3, k_rt_3, rfl, Nq3, Kc3, g_rt_3, zq_rt_3, q3_0⟩ := hQ3
 have sz_rt_3 : h0.size ≤ rt_3 := Nat.le_trans (Keep.refl h0 [x]).1 zq_rt_3
 have ne_x_rt_3 : x ≠ rt_3 := Nat.ne_of_lt (Nat.lt_of_lt_of_le E_x.lt zq_rt_3)
 have ne_a_rt_3 : a ≠ rt_3 := Nat.ne_of_lt (Nat.lt_of_lt_of_le V_a.lt zq_rt_3)
 have K3 : Keep h0 T3.heap [x] := Keep.trans (Keep.refl h0 [x]) Kc3 all0
 have Zs3 : n0 ≤ T3.heap.size := Nat.le_trans Z0 Kc3.1
 have N3 := Fr.app N0 Nq3
 obtain ⟨_, _, ⟨T4, L4, k4, n4⟩, -, X4, ⟨Lc4, hQ4, l4, y4, z4⟩, st4⟩ := Jvm.LawKit.callS X3 hx (y := (⟨"java/lang/StringUTF16", "coderFromArrayLen", "([BI)B"⟩ : MethodName)) hown (mvT hZ (Wd hw 53 rfl)) (mvT hZ (Wd hw 54 rfl)) (mvT hZ (Wd hw 48 rfl)) (mvT hZ (Wd hw 55 rfl)) (by decide) (backOf (W := 1) (rmCFL l Z a0 hw [] rt_3 nn ([(.int qa.toInt8.toInt32), (.int qb.toInt8.toInt32), (.int qc.toInt8.toInt32), (.int qd.toInt8.toInt32), (.int qe.toInt8.toInt32), (.int qf.toInt8.toInt32), (.int qg.toInt8.toInt32)]) k_rt_3 T3.heap n0 Zs3 q3_0 hp) hZ (Wd hw 55 rfl) (Wd hw 48 rfl) (by decide) (by decide)) (g := (mkF m 45 #[.val (.ref x), .val (.ref a), .val (.int (0 : Int32)), .val (.int nn), .val .null, .val (.ref rt_3)] [(.int nn), (.ref rt_3), (.ref x)])) rfl (by rw [hml]; rfl) (argsL := [(.ref rt_3), (.int nn)]) (rest := [(.ref x)]) (lenOf own_pd6 rfl) rfl (by show 2 * 0 + _ ≤ _; exact Nat.le_of_eq rfl) (hb hby d3_45) (fun _ _ => ⟨rfl, rfl, (by decide : 1 + 0 ≤ _), (by decide : 7 + 0 ≤ _)⟩)
 dsimp only [Pt.U, Pt.locs, Pt.cells, Pt.slots] at X4 l4 y4 z4 st4 hQ4
 subst l4 y4 z4
 obtain ⟨rfl, Nq4, e4⟩ := hQ4
 have N4 := Fr.app N3 Nq4
 obtain ⟨T5, h5, X5, e5, W5, st5⟩ := putFN X4 hx hZ hown (Wd hw 26 rfl) Via.refl e4 (F_coder_x.keep Kc3 nin0) (E_x.keep Kc3) (Or.inr ⟨(Wd hw 22 rfl), rfl, hnm⟩) (Wd hw 7 rfl) (ty := .byte) (v := (.int (0 : Int32))) (v' := (.int (nar .byte (0 : Int32)))) (by decide) rfl (fits_nar_byte _) (g := (mkF m 48 #[.val (.ref x), .val (.ref a), .val (.int (0 : Int32)), .val (.int nn), .val .null, .val (.ref rt_3)] [(.int (0 : Int32)), (.ref x)])) rfl rfl (hb hby d3_48)
 have F5 : Fld Z h5 x "java/lang/String" "coder" "B" (.int (nar .byte (0 : Int32))) := Fld.same W5 (F_coder_x.keep Kc3 nin0)
 have K5 : Keep h0 h5 [x] := K3.wr W5 (Or.inl (List.mem_of_getElem? (i := 0) rfl))
 have Zs5 : n0 ≤ h5.size := Nat.le_trans Zs3 (Keep.of_wr W5).1
 have N5 := Fr.snoc X5 N4 g_x
 obtain ⟨T6, h6, X6, e6, W6, st6⟩ := putF X5 hx hZ hown (host := "") (Or.inl (Wd hw 25 rfl)) Via.refl e5 (Fld.other W5 (F_value_x.keep Kc3 nin0) (Or.inr (slot_ne (Or.inr (Wd hw 21 rfl)) (Or.inr (Wd hw 22 rfl)) (by decide) (t := (.array .byte)) (t' := .byte) (by decide) (by decide)))) ((E_x.keep Kc3).wr W5) (Or.inr ⟨(Wd hw 21 rfl), rfl, hnm⟩) (Wd hw 7 rfl) (ty := (.array .byte)) (by decide) rfl rfl (g := (mkF m 54 #[.val (.ref x), .val (.ref a), .val (.int (0 : Int32)), .val (.int nn), .val .null, .val (.ref rt_3)] [(.ref rt_3), (.ref x)])) rfl rfl (hb hby d3_54)
 have F6 : Fld Z h6 x "java/lang/String" "value" "[B" (.ref rt_3) := Fld.same W6 (Fld.other W5 (F_value_x.keep Kc3 nin0) (Or.inr (slot_ne (Or.inr (Wd hw 21 rfl)) (Or.inr (Wd hw 22 rfl)) (by decide) (t := (.array .byte)) (t' := .byte) (by decide) (by decide))))
 have K6 : Keep h0 h6 [x] := K5.wr W6 (Or.inl (List.mem_of_getElem? (i := 0) rfl))
 have Zs6 : n0 ≤ h6.size := Nat.le_trans Zs5 (Keep.of_wr W6).1
 have N6 := Fr.snoc X6 N5 g_x
 obtain ⟨fs, hr, hrun, hended, hW, hsame⟩ := X6.leave (v := none) (fun _ => rfl)
 refine ⟨_, _, (pre0 _ ?_), hrun, hended, _, _, rfl, ?_, ⟨_, rfl⟩, hW, hsame.mono (by decide) (by decide)⟩
 ·show Steps p.tables e below (s₁.setTop (mkF m 0 #[.val (.ref x), .val (.ref a), .val (.int (0 : Int32)), .val (.int nn), .val .null, .unset] [])) _
  refine XS.aloadN X0.here hx rfl (hb hby d3_0) rfl rfl ?_
  refine st1 _ ?_
  refine XS.iloadN X1.here hx rfl (hb hby d3_4) rfl ?_
  refine XS.ifYes X1.here hx rfl (pc0 := 5) (pc' := 27) rfl (hb hby d3_5) rfl ((if0 _ _).trans (feq (own_ne0 hp)).2) (by decide) (by decide) ?_
  refine st2 _ ?_
  refine XS.ifNo X2.here hx rfl (hb hby d3_30) rfl ((if0 _ _).trans (feq hcs).1) ?_
  refine XS.aloadN X2.here hx rfl (hb hby d3_33) rfl rfl ?_
  refine XS.iloadN X2.here hx rfl (hb hby d3_34) rfl ?_
  refine XS.iloadN X2.here hx rfl (hb hby d3_35) rfl ?_
  refine st3 _ ?_
  refine XS.astore X3.here hx rfl (hb hby d3_39) rfl rfl (l' := #[.val (.ref x), .val (.ref a), .val (.int (0 : Int32)), .val (.int nn), .val .null, .val (.ref rt_3)]) rfl ?_
  refine XS.aloadN X3.here hx rfl (hb hby d3_41) rfl rfl ?_
  refine XS.aload X3.here hx rfl (hb hby d3_42) rfl rfl ?_
  refine XS.iloadN X3.here hx rfl (hb hby d3_44) rfl ?_
  refine st4 _ ?_
  refine st5 _ ?_
  refine XS.aloadN X5.here hx rfl (hb hby d3_51) rfl rfl ?_
  refine XS.aload X5.here hx rfl (hb hby d3_52) rfl rfl ?_
  refine st6 _ ?_
  exact X6.returnOut hx Bd.returns (hb hby d3_57) hr
 ·show QI4L Z x a nn cst qa qb qc qd qe qf qg k_a h0 n0 _ T6.heap _
  rw [e6]
  exact ⟨rt_3, k_rt_3, rfl, N6, K6, g_rt_3, sz_rt_3, (((E_x.keep Kc3).wr W5).wr W6), F6, (Fld.other W6 F5 (Or.inr (slot_ne (Or.inr (Wd hw 22 rfl)) (Or.inr (Wd hw 21 rfl)) (by decide) (t := .byte) (t' := (.array .byte)) (by decide) (by decide)))), ((q3_0.other W5 (Ne.symm ne_x_rt_3)).other W6 (Ne.symm ne_x_rt_3))⟩
theorem own_pd7 : parseMethodDescriptor "([CIILjava/lang/Void;)V" = some ⟨[(.array .char), .int, .int, (.object "java/lang/Void")], none⟩ := by decide +kernel
theorem d2_0 : decode jdk_42_method_3_code 0 = .ok (.aload_n 0, 1) := by decide +kernel
theorem d2_1 : decode jdk_42_method_3_code 1 = .ok (.aload_n 1, 1) := by decide +kernel
theorem d2_2 : decode jdk_42_method_3_code 2 = .ok (.iconst 0, 1) := by decide +kernel
theorem d2_3 : decode jdk_42_method_3_code 3 = .ok (.aload_n 1, 1) := by decide +kernel
theorem d2_4 : decode jdk_42_method_3_code 4 = .ok (.arraylength, 1) := by decide +kernel
theorem d2_5 : decode jdk_42_method_3_code 5 = .ok (.aconst_null, 1) := by decide +kernel
theorem d2_6 : decode jdk_42_method_3_code 6 = .ok (.invokespecial 27, 3) := by decide +kernel
theorem d2_9 : decode jdk_42_method_3_code 9 = .ok (.return_, 1) := by decide +kernel
theorem efI1L (m : MethodId) (x : Addr) (a : Addr) : entryFrame m #[(.ref x), (.ref a)] 2 = mkF m 0 #[.val (.ref x), .val (.ref a)] [] := by first | (simp [entryFrame, mkF, argsToLocals, Value.category]; done) | rfl
def QI1L (Z : State) (x : Addr) (a : Addr) (nn : Int32) (cst : Int32) (qa : Int32) (qb : Int32) (qc : Int32) (qd : Int32) (qe : Int32) (qf : Int32) (qg : Int32) (k_a : ClassId) (h0 : Heap) (n0 : Nat) (v : Option Value) (h : Heap) (L : List Loc) : Prop := ∃ rt : Addr, ∃ k_rt : ClassId, v = none ∧ Fr n0 L ∧ Keep h0 h [x] ∧ n0 ≤ rt ∧ h0.size ≤ rt ∧ Exa Z h x "java/lang/String" ∧ Fld Z h x "java/lang/String" "value" "[B" (.ref rt) ∧ Fld Z h x "java/lang/String" "coder" "B" (.int (0 : Int32)) ∧ Arv Z h rt k_rt .byte nn [(.int qa.toInt8.toInt32), (.int qb.toInt8.toInt32), (.int qc.toInt8.toInt32), (.int qd.toInt8.toInt32), (.int qe.toInt8.toInt32), (.int qf.toInt8.toInt32), (.int qg.toInt8.toInt32)] (.int (0 : Int32))
set_option maxRecDepth 65536 in
set_option maxHeartbeats 40000000 in
theorem rmI1L (l : Launch) (Z : State) (a0 : Array Value) (hw : ∀ d ∈ tables_1, d.before a0 Z = true) (ws : List Jvm.Cond) (x : Addr) (a : Addr) (nn : Int32) (cst : Int32) (qa : Int32) (qb : Int32) (qc : Int32) (qd : Int32) (qe : Int32) (qf : Int32) (qg : Int32) (k_a : ClassId) (h0 : Heap) (n0 : Nat) (Z0 : n0 ≤ h0.size) (E_x : Exa Z h0 x "java/lang/String") (F_value_x : Fld Z h0 x "java/lang/String" "value" "[B" .null) (F_coder_x : Fld Z h0 x "java/lang/String" "coder" "B" (.int (0 : Int32))) (g_x : n0 ≤ x) (X00 : Old Z n0 h0) (S_COMPACT_STRINGS : Sta Z Z.heap "java/lang/String" "COMPACT_STRINGS" "Z" (.int cst)) (hcs : ¬ cst = (0 : Int32)) (V_a : Arv Z h0 a k_a .char nn [(.int qa), (.int qb), (.int qc), (.int qd), (.int qe), (.int qf), (.int qg)] (.int (0 : Int32))) (hp : 1 ≤ nn.toInt ∧ nn.toInt ≤ 7) (hl : own_lat nn [qa, qb, qc, qd, qe, qf, qg]) :
  MetFree l (⟨"java/lang/String", "<init>", "([C)V"⟩ : MethodName) (head1 (Jvm.Cond.code (⟨"java/lang/String", "<init>", "([C)V"⟩ : MethodName) jdk_42_method_3_code 2 none :: ws) ({ frames := 5, cells := 1, slots := 7, locals := 110 } : Room)) (fun av_ U => av_ = #[(.ref x), (.ref a)] ∧ Z.Warmed39 U.vm ∧ U.heap = h0) (fun _ _ _ _ _ => True) (fun _ U o U' => ∃ v L, o = .returned v ∧ QI1L Z x a nn cst qa qb qc qd qe qf qg k_a h0 n0 v U'.heap L ∧ FrameEnd U o U' L ({ frames := 5, cells := 1, slots := 7, locals := 110 } : Room).cells ({ frames := 5, cells := 1, slots := 7, locals := 110 } : Room).slots) := by
 refine MetFree.of_bodySF (plainFor_of_name own_pn1) hisR ?_
 intro p e s m args below meth c s₁ Bd hml0 hP hK
 obtain ⟨rfl, hZ, hh⟩ := hP
 have hx := Bd.exec
 have hby := Bd.bytes
 have hml : c.maxLocals = 2 := hml0
 have hown : s.vm.findClass "java/lang/String" = some m.cls := findClass_of_methodNamed Bd.named
 have hnm := (name_of_methodNamed Bd.named Bd.method).1
 have X0 : Stand p l e ({ frames := 5, cells := 1, slots := 7, locals := 110 } : Room) s m #[(.ref x), (.ref a)] below meth c s₁ [] 0 0 := Stand.of_body Bd
 have e0 : s₁.heap = h0 := by rw [← hh, Bd.state]; rfl
 have N0 := Fr.nil n0
 have pre0 : ∀ t, Steps p.tables e below (s₁.setTop (mkF m 0 #[.val (.ref x), .val (.ref a)] [])) t → Steps p.tables e below (s₁.setTop (entryFrame m #[(.ref x), (.ref a)] 2)) t := fun t k => castTop (efI1L m x a) k
 have hn := own_pos hp
 obtain ⟨cl1, Ar1, q1, S1, M1, Hs1, G1⟩ := (id V_a)
 obtain ⟨_, _, ⟨T2, L2, k2, n2⟩, -, X2, ⟨Lc2, hQ2, l2, y2, z2⟩, st2⟩ := X0.specialBack hx (y := (⟨"java/lang/String", "<init>", "([CIILjava/lang/Void;)V"⟩ : MethodName)) rfl hown (mvT hZ (Wd hw 12 rfl)) (mvT hZ (Wd hw 13 rfl)) (mvT hZ (Wd hw 15 rfl)) (by decide) (backOf (W := 0) (rmI4L l Z a0 hw [] x a nn cst qa qb qc qd qe qf qg k_a h0 n0 Z0 E_x F_value_x F_coder_x g_x X00 S_COMPACT_STRINGS hcs V_a hp hl) hZ (Wd hw 15 rfl) (Wd hw 8 rfl) (by decide) (by decide)) (g := (mkF m 6 #[.val (.ref x), .val (.ref a)] [.null, (.int nn), (.int (0 : Int32)), (.ref a), (.ref x)])) rfl (by rw [hml]; rfl) (Steps.refl _) (a := x) (argsL := [(.ref a), (.int (0 : Int32)), (.int nn), .null]) (rest := []) (lenOf own_pd7 rfl) rfl (by show 2 * 0 + _ ≤ _; exact Nat.le_of_eq rfl) (hb hby d2_6) (fun _ _ => ⟨rfl, e0, (by decide : 0 + 1 ≤ _), (by decide : 0 + 7 ≤ _)⟩)
 dsimp only [Pt.U, Pt.locs, Pt.cells, Pt.slots] at X2 l2 y2 z2 st2 hQ2
 subst l2 y2 z2
 obtain ⟨rt_2, k_rt_2, rfl, Nq2, Kc2, g_rt_2, zq_rt_2, q2_0, q2_1, q2_2, q2_3⟩ := hQ2
 have sz_rt_2 : h0.size ≤ rt_2 := Nat.le_trans (Keep.refl h0 [x]).1 zq_rt_2
 have ne_x_rt_2 : x ≠ rt_2 := Nat.ne_of_lt (Nat.lt_of_lt_of_le E_x.lt zq_rt_2)
 have ne_a_rt_2 : a ≠ rt_2 := Nat.ne_of_lt (Nat.lt_of_lt_of_le V_a.lt zq_rt_2)
 have K2 : Keep h0 T2.heap [x] := Keep.trans (Keep.refl h0 [x]) Kc2 (allS (Or.inl (List.mem_of_getElem? (i := 0) rfl)) all0)
 have Zs2 : n0 ≤ T2.heap.size := Nat.le_trans Z0 Kc2.1
 have N2 := Fr.app N0 Nq2
 obtain ⟨fs, hr, hrun, hended, hW, hsame⟩ := X2.leave (v := none) (fun _ => rfl)
 refine ⟨_, _, (pre0 _ ?_), hrun, hended, _, _, rfl, ?_, ⟨_, rfl⟩, hW, hsame.mono (by decide) (by decide)⟩
 ·show Steps p.tables e below (s₁.setTop (mkF m 0 #[.val (.ref x), .val (.ref a)] [])) _
  refine XS.aloadN X0.here hx rfl (hb hby d2_0) rfl rfl ?_
  refine XS.aloadN X0.here hx rfl (hb hby d2_1) rfl rfl ?_
  refine XS.iconst X0.here hx rfl (hb hby d2_2) ?_
  refine XS.aloadN X0.here hx rfl (hb hby d2_3) rfl rfl ?_
  refine X0.arraylength hx (by rw [e0]; exact Ar1.1) (State.isArrayOf_alike hZ.alike Ar1.2.1) (g := (mkF m 4 #[.val (.ref x), .val (.ref a)] [(.ref a), (.int (0 : Int32)), (.ref a), (.ref x)])) rfl rfl (hb hby d2_4) _ ?_
  rw [len_of S1 M1]
  refine XS.aconstNull X0.here hx rfl (hb hby d2_5) ?_
  refine st2.trans ?_
  exact X2.returnOut hx Bd.returns (hb hby d2_9) hr
 ·show QI1L Z x a nn cst qa qb qc qd qe qf qg k_a h0 n0 _ T2.heap _
  exact ⟨rt_2, k_rt_2, rfl, N2, K2, g_rt_2, sz_rt_2, q2_0, q2_1, q2_2, q2_3⟩
theorem efI4W (m : MethodId) (x : Addr) (a : Addr) (nn : Int32) : entryFrame m #[(.ref x), (.ref a), (.int (0 : Int32)), (.int nn), .null] 6 = mkF m 0 #[.val (.ref x), .val (.ref a), .val (.int (0 : Int32)), .val (.int nn), .val .null, .unset] [] := by first | (simp [entryFrame, mkF, argsToLocals, Value.category]; done) | rfl
def QI4W (Z : State) (x : Addr) (a : Addr) (nn : Int32) (cst : Int32) (qa : Int32) (qb : Int32) (qc : Int32) (qd : Int32) (qe : Int32) (qf : Int32) (qg : Int32) (k_a : ClassId) (h0 : Heap) (n0 : Nat) (v : Option Value) (h : Heap) (L : List Loc) : Prop := ∃ rt : Addr, ∃ k_rt : ClassId, v = none ∧ Fr n0 L ∧ Keep h0 h [x] ∧ n0 ≤ rt ∧ h0.size ≤ rt ∧ Exa Z h x "java/lang/String" ∧ Fld Z h x "java/lang/String" "value" "[B" (.ref rt) ∧ Fld Z h x "java/lang/String" "coder" "B" (.int (1 : Int32)) ∧ Arv Z h rt k_rt .byte (nn <<< ((1 : Int32) &&& 31)) [(.int (own_w0 qa)), (.int (own_w1 qa)), (.int (own_w0 qb)), (.int (own_w1 qb)), (.int (own_w0 qc)), (.int (own_w1 qc)), (.int (own_w0 qd)), (.int (own_w1 qd)), (.int (own_w0 qe)), (.int (own_w1 qe)), (.int (own_w0 qf)), (.int (own_w1 qf)), (.int (own_w0 qg)), (.int (own_w1 qg))] (.int (0 : Int32))
set_option maxRecDepth 65536 in
set_option maxHeartbeats 40000000 in
theorem rmI4W (l : Launch) (Z : State) (a0 : Array Value) (hw : ∀ d ∈ tables_1, d.before a0 Z = true) (ws : List Jvm.Cond) (x : Addr) (a : Addr) (nn : Int32) (cst : Int32) (qa : Int32) (qb : Int32) (qc : Int32) (qd : Int32) (qe : Int32) (qf : Int32) (qg : Int32) (k_a : ClassId) (h0 : Heap) (n0 : Nat) (Z0 : n0 ≤ h0.size) (E_x : Exa Z h0 x "java/lang/String") (F_value_x : Fld Z h0 x "java/lang/String" "value" "[B" .null) (F_coder_x : Fld Z h0 x "java/lang/String" "coder" "B" (.int (0 : Int32))) (g_x : n0 ≤ x) (X00 : Old Z n0 h0) (S__assertionsDisabled : Sta Z Z.heap "java/lang/StringUTF16" "$assertionsDisabled" "Z" (.int (1 : Int32))) (S_HI_BYTE_SHIFT : Sta Z Z.heap "java/lang/StringUTF16" "HI_BYTE_SHIFT" "I" (.int (0 : Int32))) (S_LO_BYTE_SHIFT : Sta Z Z.heap "java/lang/StringUTF16" "LO_BYTE_SHIFT" "I" (.int (8 : Int32))) (S_COMPACT_STRINGS : Sta Z Z.heap "java/lang/String" "COMPACT_STRINGS" "Z" (.int cst)) (hcs : ¬ cst = (0 : Int32)) (V_a : Arv Z h0 a k_a .char nn [(.int qa), (.int qb), (.int qc), (.int qd), (.int qe), (.int qf), (.int qg)] (.int (0 : Int32))) (hp : 1 ≤ nn.toInt ∧ nn.toInt ≤ 7) (hwd : own_wide nn [qa, qb, qc, qd, qe, qf, qg]) (hqa : own_c16 qa) (hqb : own_c16 qb) (hqc : own_c16 qc) (hqd : own_c16 qd) (hqe : own_c16 qe) (hqf : own_c16 qf) (hqg : own_c16 qg) :
  MetFree l (⟨"java/lang/String", "<init>", "([CIILjava/lang/Void;)V"⟩ : MethodName) (head1 (Jvm.Cond.code (⟨"java/lang/String", "<init>", "([CIILjava/lang/Void;)V"⟩ : MethodName) jdk_42_method_149_code 6 none :: ws) ({ frames := 4, cells := 2, slots := 21, locals := 90 } : Room)) (fun av_ U => av_ = #[(.ref x), (.ref a), (.int (0 : Int32)), (.int nn), .null] ∧ Z.Warmed39 U.vm ∧ U.heap = h0) (fun _ _ _ _ _ => True) (fun _ U o U' => ∃ v L, o = .returned v ∧ QI4W Z x a nn cst qa qb qc qd qe qf qg k_a h0 n0 v U'.heap L ∧ FrameEnd U o U' L ({ frames := 4, cells := 2, slots := 21, locals := 90 } : Room).cells ({ frames := 4, cells := 2, slots := 21, locals := 90 } : Room).slots) := by
 refine MetFree.of_bodySF (plainFor_of_name own_pn1) hisR ?_
 intro p e s m args below meth c s₁ Bd hml0 hP hK
 obtain ⟨rfl, hZ, hh⟩ := hP
 have hx := Bd.exec
 have hby := Bd.bytes
 have hml : c.maxLocals = 6 := hml0
 have hown : s.vm.findClass "java/lang/String" = some m.cls := findClass_of_methodNamed Bd.named
 have hnm := (name_of_methodNamed Bd.named Bd.method).1
 have X0 : Stand p l e ({ frames := 4, cells := 2, slots := 21, locals := 90 } : Room) s m #[(.ref x), (.ref a), (.int (0 : Int32)), (.int nn), .null] below meth c s₁ [] 0 0 := Stand.of_body Bd
 have e0 : s₁.heap = h0 := by rw [← hh, Bd.state]; rfl
 have N0 := Fr.nil n0
 have pre0 : ∀ t, Steps p.tables e below (s₁.setTop (mkF m 0 #[.val (.ref x), .val (.ref a), .val (.int (0 : Int32)), .val (.int nn), .val .null, .unset] [])) t → Steps p.tables e below (s₁.setTop (entryFrame m #[(.ref x), (.ref a), (.int (0 : Int32)), (.int nn), .null] 6)) t := fun t k => castTop (efI4W m x a nn) k
 have hn := own_pos hp
 obtain ⟨T1, X1, e1, st1⟩ := initO X0 hx hZ hown (Wd hw 16 rfl) (Wd hw 17 rfl) (Wd hw 18 rfl) e0 (g := (mkF m 1 #[.val (.ref x), .val (.ref a), .val (.int (0 : Int32)), .val (.int nn), .val .null, .unset] [(.ref x)])) rfl (by rw [hml]; rfl) rfl (hb hby d3_1) (by decide) (W := 0) (by show 2 * 0 + _ ≤ _; exact Nat.le_of_eq rfl) (by decide)
 obtain ⟨T2, X2, e2, st2⟩ := getS2 X1 hx hZ hown (host := "") (Or.inl (Wd hw 41 rfl)) Via.refl e1 (S_COMPACT_STRINGS.ext X00.2) (g := (mkF m 27 #[.val (.ref x), .val (.ref a), .val (.int (0 : Int32)), .val (.int nn), .val .null, .unset] [])) rfl (hb hby d3_27)
 obtain ⟨_, _, ⟨T3, L3, k3, n3⟩, -, X3, ⟨Lc3, hQ3, l3, y3, z3⟩, st3⟩ := Jvm.LawKit.callS X2 hx (y := (⟨"java/lang/StringUTF16", "compress", "([CII)[B"⟩ : MethodName)) hown (mvT hZ (Wd hw 46 rfl)) (mvT hZ (Wd hw 47 rfl)) (mvT hZ (Wd hw 48 rfl)) (mvT hZ (Wd hw 49 rfl)) (by decide) (backOf (W := 0) (rmC3W l Z a0 hw [] a nn qa qb qc qd qe qf qg k_a h0 n0 Z0 X00 S__assertionsDisabled S_HI_BYTE_SHIFT S_LO_BYTE_SHIFT V_a hn hwd hqa hqb hqc hqd hqe hqf hqg) hZ (Wd hw 49 rfl) (Wd hw 48 rfl) (by decide) (by decide)) (g := (mkF m 36 #[.val (.ref x), .val (.ref a), .val (.int (0 : Int32)), .val (.int nn), .val .null, .unset] [(.int nn), (.int (0 : Int32)), (.ref a)])) rfl (by rw [hml]; rfl) (argsL := [(.ref a), (.int (0 : Int32)), (.int nn)]) (rest := []) (lenOf own_pd4 rfl) rfl (by show 2 * 0 + _ ≤ _; exact Nat.le_of_eq rfl) (hb hby d3_36) (fun _ _ => ⟨rfl, e2, (by decide : 0 + 2 ≤ _), (by decide : 0 + 21 ≤ _)⟩)
 dsimp only [Pt.U, Pt.locs, Pt.cells, Pt.slots] at X3 l3 y3 z3 st3 hQ3
 subst l3 y3 z3
 obtain ⟨rt_3, k_rt_3, rfl, Nq3, Kc3, g_rt_3, zq_rt_3, q3_0⟩ := hQ3
 have sz_rt_3 : h0.size ≤ rt_3 := Nat.le_trans (Keep.refl h0 [x]).1 zq_rt_3
 have ne_x_rt_3 : x ≠ rt_3 := Nat.ne_of_lt (Nat.lt_of_lt_of_le E_x.lt zq_rt_3)
 have ne_a_rt_3 : a ≠ rt_3 := Nat.ne_of_lt (Nat.lt_of_lt_of_le V_a.lt zq_rt_3)
 have K3 : Keep h0 T3.heap [x] := Keep.trans (Keep.refl h0 [x]) Kc3 all0
 have Zs3 : n0 ≤ T3.heap.size := Nat.le_trans Z0 Kc3.1
 have N3 := Fr.app N0 Nq3
 obtain ⟨_, _, ⟨T4, L4, k4, n4⟩, -, X4, ⟨Lc4, hQ4, l4, y4, z4⟩, st4⟩ := Jvm.LawKit.callS X3 hx (y := (⟨"java/lang/StringUTF16", "coderFromArrayLen", "([BI)B"⟩ : MethodName)) hown (mvT hZ (Wd hw 53 rfl)) (mvT hZ (Wd hw 54 rfl)) (mvT hZ (Wd hw 48 rfl)) (mvT hZ (Wd hw 55 rfl)) (by decide) (backOf (W := 1) (rmCFW l Z a0 hw [] rt_3 nn ([(.int (own_w0 qa)), (.int (own_w1 qa)), (.int (own_w0 qb)), (.int (own_w1 qb)), (.int (own_w0 qc)), (.int (own_w1 qc)), (.int (own_w0 qd)), (.int (own_w1 qd)), (.int (own_w0 qe)), (.int (own_w1 qe)), (.int (own_w0 qf)), (.int (own_w1 qf)), (.int (own_w0 qg)), (.int (own_w1 qg))]) k_rt_3 T3.heap n0 Zs3 q3_0 hp) hZ (Wd hw 55 rfl) (Wd hw 48 rfl) (by decide) (by decide)) (g := (mkF m 45 #[.val (.ref x), .val (.ref a), .val (.int (0 : Int32)), .val (.int nn), .val .null, .val (.ref rt_3)] [(.int nn), (.ref rt_3), (.ref x)])) rfl (by rw [hml]; rfl) (argsL := [(.ref rt_3), (.int nn)]) (rest := [(.ref x)]) (lenOf own_pd6 rfl) rfl (by show 2 * 0 + _ ≤ _; exact Nat.le_of_eq rfl) (hb hby d3_45) (fun _ _ => ⟨rfl, rfl, (by decide : 2 + 0 ≤ _), (by decide : 21 + 0 ≤ _)⟩)
 dsimp only [Pt.U, Pt.locs, Pt.cells, Pt.slots] at X4 l4 y4 z4 st4 hQ4
 subst l4 y4 z4
 obtain ⟨rfl, Nq4, e4⟩ := hQ4
 have N4 := Fr.app N3 Nq4
 obtain ⟨T5, h5, X5, e5, W5, st5⟩ := putFN X4 hx hZ hown (Wd hw 26 rfl) Via.refl e4 (F_coder_x.keep Kc3 nin0) (E_x.keep Kc3) (Or.inr ⟨(Wd hw 22 rfl), rfl, hnm⟩) (Wd hw 7 rfl) (ty := .byte) (v := (.int (1 : Int32))) (v' := (.int (nar .byte (1 : Int32)))) (by decide) rfl (fits_nar_byte _) (g := (mkF m 48 #[.val (.ref x), .val (.ref a), .val (.int (0 : Int32)), .val (.int nn), .val .null, .val (.ref rt_3)] [(.int (1 : Int32)), (.ref x)])) rfl rfl (hb hby d3_48)
 have F5 : Fld Z h5 x "java/lang/String" "coder" "B" (.int (nar .byte (1 : Int32))) := Fld.same W5 (F_coder_x.keep Kc3 nin0)
 have K5 : Keep h0 h5 [x] := K3.wr W5 (Or.inl (List.mem_of_getElem? (i := 0) rfl))
 have Zs5 : n0 ≤ h5.size := Nat.le_trans Zs3 (Keep.of_wr W5).1
 have N5 := Fr.snoc X5 N4 g_x
 obtain ⟨T6, h6, X6, e6, W6, st6⟩ := putF X5 hx hZ hown (host := "") (Or.inl (Wd hw 25 rfl)) Via.refl e5 (Fld.other W5 (F_value_x.keep Kc3 nin0) (Or.inr (slot_ne (Or.inr (Wd hw 21 rfl)) (Or.inr (Wd hw 22 rfl)) (by decide) (t := (.array .byte)) (t' := .byte) (by decide) (by decide)))) ((E_x.keep Kc3).wr W5) (Or.inr ⟨(Wd hw 21 rfl), rfl, hnm⟩) (Wd hw 7 rfl) (ty := (.array .byte)) (by decide) rfl rfl (g := (mkF m 54 #[.val (.ref x), .val (.ref a), .val (.int (0 : Int32)), .val (.int nn), .val .null, .val (.ref rt_3)] [(.ref rt_3), (.ref x)])) rfl rfl (hb hby d3_54)
 have F6 : Fld Z h6 x "java/lang/String" "value" "[B" (.ref rt_3) := Fld.same W6 (Fld.other W5 (F_value_x.keep Kc3 nin0) (Or.inr (slot_ne (Or.inr (Wd hw 21 rfl)) (Or.inr (Wd hw 22 rfl)) (by decide) (t := (.array .byte)) (t' := .byte) (by decide) (by decide))))
 have K6 : Keep h0 h6 [x] := K5.wr W6 (Or.inl (List.mem_of_getElem? (i := 0) rfl))
 have Zs6 : n0 ≤ h6.size := Nat.le_trans Zs5 (Keep.of_wr W6).1
 have N6 := Fr.snoc X6 N5 g_x
 obtain ⟨fs, hr, hrun, hended, hW, hsame⟩ := X6.leave (v := none) (fun _ => rfl)
 refine ⟨_, _, (pre0 _ ?_), hrun, hended, _, _, rfl, ?_, ⟨_, rfl⟩, hW, hsame.mono (by decide) (by decide)⟩
 ·show Steps p.tables e below (s₁.setTop (mkF m 0 #[.val (.ref x), .val (.ref a), .val (.int (0 : Int32)), .val (.int nn), .val .null, .unset] [])) _
  refine XS.aloadN X0.here hx rfl (hb hby d3_0) rfl rfl ?_
  refine st1 _ ?_
  refine XS.iloadN X1.here hx rfl (hb hby d3_4) rfl ?_
  refine XS.ifYes X1.here hx rfl (pc0 := 5) (pc' := 27) rfl (hb hby d3_5) rfl ((if0 _ _).trans (feq (own_ne0 hp)).2) (by decide) (by decide) ?_
  refine st2 _ ?_
  refine XS.ifNo X2.here hx rfl (hb hby d3_30) rfl ((if0 _ _).trans (feq hcs).1) ?_
  refine XS.aloadN X2.here hx rfl (hb hby d3_33) rfl rfl ?_
  refine XS.iloadN X2.here hx rfl (hb hby d3_34) rfl ?_
  refine XS.iloadN X2.here hx rfl (hb hby d3_35) rfl ?_
  refine st3 _ ?_
  refine XS.astore X3.here hx rfl (hb hby d3_39) rfl rfl (l' := #[.val (.ref x), .val (.ref a), .val (.int (0 : Int32)), .val (.int nn), .val .null, .val (.ref rt_3)]) rfl ?_
  refine XS.aloadN X3.here hx rfl (hb hby d3_41) rfl rfl ?_
  refine XS.aload X3.here hx rfl (hb hby d3_42) rfl rfl ?_
  refine XS.iloadN X3.here hx rfl (hb hby d3_44) rfl ?_
  refine st4 _ ?_
  refine st5 _ ?_
  refine XS.aloadN X5.here hx rfl (hb hby d3_51) rfl rfl ?_
  refine XS.aload X5.here hx rfl (hb hby d3_52) rfl rfl ?_
  refine st6 _ ?_
  exact X6.returnOut hx Bd.returns (hb hby d3_57) hr
 ·show QI4W Z x a nn cst qa qb qc qd qe qf qg k_a h0 n0 _ T6.heap _
  rw [e6]
  exact ⟨rt_3, k_rt_3, rfl, N6, K6, g_rt_3, sz_rt_3, (((E_x.keep Kc3).wr W5).wr W6), F6, (Fld.other W6 F5 (Or.inr (slot_ne (Or.inr (Wd hw 22 rfl)) (Or.inr (Wd hw 21 rfl)) (by decide) (t := .byte) (t' := (.array .byte)) (by decide) (by decide)))), ((q3_0.other W5 (Ne.symm ne_x_rt_3)).other W6 (Ne.symm ne_x_rt_3))⟩
theorem efI1W (m : MethodId) (x : Addr) (a : Addr) : entryFrame m #[(.ref x), (.ref a)] 2 = mkF m 0 #[.val (.ref x), .val (.ref a)] [] := by first | (simp [entryFrame, mkF, argsToLocals, Value.category]; done) | rfl
def QI1W (Z : State) (x : Addr) (a : Addr) (nn : Int32) (cst : Int32) (qa : Int32) (qb : Int32) (qc : Int32) (qd : Int32) (qe : Int32) (qf : Int32) (qg : Int32) (k_a : ClassId) (h0 : Heap) (n0 : Nat) (v : Option Value) (h : Heap) (L : List Loc) : Prop := ∃ rt : Addr, ∃ k_rt : ClassId, v = none ∧ Fr n0 L ∧ Keep h0 h [x] ∧ n0 ≤ rt ∧ h0.size ≤ rt ∧ Exa Z h x "java/lang/String" ∧ Fld Z h x "java/lang/String" "value" "[B" (.ref rt) ∧ Fld Z h x "java/lang/String" "coder" "B" (.int (1 : Int32)) ∧ Arv Z h rt k_rt .byte (nn <<< ((1 : Int32) &&& 31)) [(.int (own_w0 qa)), (.int (own_w1 qa)), (.int (own_w0 qb)), (.int (own_w1 qb)), (.int (own_w0 qc)), (.int (own_w1 qc)), (.int (own_w0 qd)), (.int (own_w1 qd)), (.int (own_w0 qe)), (.int (own_w1 qe)), (.int (own_w0 qf)), (.int (own_w1 qf)), (.int (own_w0 qg)), (.int (own_w1 qg))] (.int (0 : Int32))
set_option maxRecDepth 65536 in
set_option maxHeartbeats 40000000 in
theorem rmI1W (l : Launch) (Z : State) (a0 : Array Value) (hw : ∀ d ∈ tables_1, d.before a0 Z = true) (ws : List Jvm.Cond) (x : Addr) (a : Addr) (nn : Int32) (cst : Int32) (qa : Int32) (qb : Int32) (qc : Int32) (qd : Int32) (qe : Int32) (qf : Int32) (qg : Int32) (k_a : ClassId) (h0 : Heap) (n0 : Nat) (Z0 : n0 ≤ h0.size) (E_x : Exa Z h0 x "java/lang/String") (F_value_x : Fld Z h0 x "java/lang/String" "value" "[B" .null) (F_coder_x : Fld Z h0 x "java/lang/String" "coder" "B" (.int (0 : Int32))) (g_x : n0 ≤ x) (X00 : Old Z n0 h0) (S__assertionsDisabled : Sta Z Z.heap "java/lang/StringUTF16" "$assertionsDisabled" "Z" (.int (1 : Int32))) (S_HI_BYTE_SHIFT : Sta Z Z.heap "java/lang/StringUTF16" "HI_BYTE_SHIFT" "I" (.int (0 : Int32))) (S_LO_BYTE_SHIFT : Sta Z Z.heap "java/lang/StringUTF16" "LO_BYTE_SHIFT" "I" (.int (8 : Int32))) (S_COMPACT_STRINGS : Sta Z Z.heap "java/lang/String" "COMPACT_STRINGS" "Z" (.int cst)) (hcs : ¬ cst = (0 : Int32)) (V_a : Arv Z h0 a k_a .char nn [(.int qa), (.int qb), (.int qc), (.int qd), (.int qe), (.int qf), (.int qg)] (.int (0 : Int32))) (hp : 1 ≤ nn.toInt ∧ nn.toInt ≤ 7) (hwd : own_wide nn [qa, qb, qc, qd, qe, qf, qg]) (hqa : own_c16 qa) (hqb : own_c16 qb) (hqc : own_c16 qc) (hqd : own_c16 qd) (hqe : own_c16 qe) (hqf : own_c16 qf) (hqg : own_c16 qg) :
  MetFree l (⟨"java/lang/String", "<init>", "([C)V"⟩ : MethodName) (head1 (Jvm.Cond.code (⟨"java/lang/String", "<init>", "([C)V"⟩ : MethodName) jdk_42_method_3_code 2 none :: ws) ({ frames := 5, cells := 2, slots := 21, locals := 110 } : Room)) (fun av_ U => av_ = #[(.ref x), (.ref a)] ∧ Z.Warmed39 U.vm ∧ U.heap = h0) (fun _ _ _ _ _ => True) (fun _ U o U' => ∃ v L, o = .returned v ∧ QI1W Z x a nn cst qa qb qc qd qe qf qg k_a h0 n0 v U'.heap L ∧ FrameEnd U o U' L ({ frames := 5, cells := 2, slots := 21, locals := 110 } : Room).cells ({ frames := 5, cells := 2, slots := 21, locals := 110 } : Room).slots) := by
 refine MetFree.of_bodySF (plainFor_of_name own_pn1) hisR ?_
 intro p e s m args below meth c s₁ Bd hml0 hP hK
 obtain ⟨rfl, hZ, hh⟩ := hP
 have hx := Bd.exec
 have hby := Bd.bytes
 have hml : c.maxLocals = 2 := hml0
 have hown : s.vm.findClass "java/lang/String" = some m.cls := findClass_of_methodNamed Bd.named
 have hnm := (name_of_methodNamed Bd.named Bd.method).1
 have X0 : Stand p l e ({ frames := 5, cells := 2, slots := 21, locals := 110 } : Room) s m #[(.ref x), (.ref a)] below meth c s₁ [] 0 0 := Stand.of_body Bd
 have e0 : s₁.heap = h0 := by rw [← hh, Bd.state]; rfl
 have N0 := Fr.nil n0
 have pre0 : ∀ t, Steps p.tables e below (s₁.setTop (mkF m 0 #[.val (.ref x), .val (.ref a)] [])) t → Steps p.tables e below (s₁.setTop (entryFrame m #[(.ref x), (.ref a)] 2)) t := fun t k => castTop (efI1W m x a) k
 have hn := own_pos hp
 obtain ⟨cl1, Ar1, q1, S1, M1, Hs1, G1⟩ := (id V_a)
 obtain ⟨_, _, ⟨T2, L2, k2, n2⟩, -, X2, ⟨Lc2, hQ2, l2, y2, z2⟩, st2⟩ := X0.specialBack hx (y := (⟨"java/lang/String", "<init>", "([CIILjava/lang/Void;)V"⟩ : MethodName)) rfl hown (mvT hZ (Wd hw 12 rfl)) (mvT hZ (Wd hw 13 rfl)) (mvT hZ (Wd hw 15 rfl)) (by decide) (backOf (W := 0) (rmI4W l Z a0 hw [] x a nn cst qa qb qc qd qe qf qg k_a h0 n0 Z0 E_x F_value_x F_coder_x g_x X00 S__assertionsDisabled S_HI_BYTE_SHIFT S_LO_BYTE_SHIFT S_COMPACT_STRINGS hcs V_a hp hwd hqa hqb hqc hqd hqe hqf hqg) hZ (Wd hw 15 rfl) (Wd hw 8 rfl) (by decide) (by decide)) (g := (mkF m 6 #[.val (.ref x), .val (.ref a)] [.null, (.int nn), (.int (0 : Int32)), (.ref a), (.ref x)])) rfl (by rw [hml]; rfl) (Steps.refl _) (a := x) (argsL := [(.ref a), (.int (0 : Int32)), (.int nn), .null]) (rest := []) (lenOf own_pd7 rfl) rfl (by show 2 * 0 + _ ≤ _; exact Nat.le_of_eq rfl) (hb hby d2_6) (fun _ _ => ⟨rfl, e0, (by decide : 0 + 2 ≤ _), (by decide : 0 + 21 ≤ _)⟩)
 dsimp only [Pt.U, Pt.locs, Pt.cells, Pt.slots] at X2 l2 y2 z2 st2 hQ2
 subst l2 y2 z2
 obtain ⟨rt_2, k_rt_2, rfl, Nq2, Kc2, g_rt_2, zq_rt_2, q2_0, q2_1, q2_2, q2_3⟩ := hQ2
 have sz_rt_2 : h0.size ≤ rt_2 := Nat.le_trans (Keep.refl h0 [x]).1 zq_rt_2
 have ne_x_rt_2 : x ≠ rt_2 := Nat.ne_of_lt (Nat.lt_of_lt_of_le E_x.lt zq_rt_2)
 have ne_a_rt_2 : a ≠ rt_2 := Nat.ne_of_lt (Nat.lt_of_lt_of_le V_a.lt zq_rt_2)
 have K2 : Keep h0 T2.heap [x] := Keep.trans (Keep.refl h0 [x]) Kc2 (allS (Or.inl (List.mem_of_getElem? (i := 0) rfl)) all0)
 have Zs2 : n0 ≤ T2.heap.size := Nat.le_trans Z0 Kc2.1
 have N2 := Fr.app N0 Nq2
 obtain ⟨fs, hr, hrun, hended, hW, hsame⟩ := X2.leave (v := none) (fun _ => rfl)
 refine ⟨_, _, (pre0 _ ?_), hrun, hended, _, _, rfl, ?_, ⟨_, rfl⟩, hW, hsame.mono (by decide) (by decide)⟩
 ·show Steps p.tables e below (s₁.setTop (mkF m 0 #[.val (.ref x), .val (.ref a)] [])) _
  refine XS.aloadN X0.here hx rfl (hb hby d2_0) rfl rfl ?_
  refine XS.aloadN X0.here hx rfl (hb hby d2_1) rfl rfl ?_
  refine XS.iconst X0.here hx rfl (hb hby d2_2) ?_
  refine XS.aloadN X0.here hx rfl (hb hby d2_3) rfl rfl ?_
  refine X0.arraylength hx (by rw [e0]; exact Ar1.1) (State.isArrayOf_alike hZ.alike Ar1.2.1) (g := (mkF m 4 #[.val (.ref x), .val (.ref a)] [(.ref a), (.int (0 : Int32)), (.ref a), (.ref x)])) rfl rfl (hb hby d2_4) _ ?_
  rw [len_of S1 M1]
  refine XS.aconstNull X0.here hx rfl (hb hby d2_5) ?_
  refine st2.trans ?_
  exact X2.returnOut hx Bd.returns (hb hby d2_9) hr
 ·show QI1W Z x a nn cst qa qb qc qd qe qf qg k_a h0 n0 _ T2.heap _
  exact ⟨rt_2, k_rt_2, rfl, N2, K2, g_rt_2, sz_rt_2, q2_0, q2_1, q2_2, q2_3⟩
theorem own_pn2 : plainName "jdk/internal/util/Preconditions" = true := by first | (simp [plainName, overriddenIn]; done) | decide +kernel
theorem d16_0 : decode jdk_41_method_11_code 0 = .ok (.iload_n 0, 1) := by decide +kernel
theorem d16_1 : decode jdk_41_method_11_code 1 = .ok (.ifCond .lt 8, 3) := by decide +kernel
theorem d16_4 : decode jdk_41_method_11_code 4 = .ok (.iload_n 0, 1) := by decide +kernel
theorem d16_5 : decode jdk_41_method_11_code 5 = .ok (.iload_n 1, 1) := by decide +kernel
theorem d16_6 : decode jdk_41_method_11_code 6 = .ok (.if_icmp .lt 10, 3) := by decide +kernel
theorem d16_16 : decode jdk_41_method_11_code 16 = .ok (.iload_n 0, 1) := by decide +kernel
theorem d16_17 : decode jdk_41_method_11_code 17 = .ok (.ireturn, 1) := by decide +kernel
theorem efPN (m : MethodId) (ia : Int32) (na : Int32) : entryFrame m #[(.int ia), (.int na), .null] 3 = mkF m 0 #[.val (.int ia), .val (.int na), .val .null] [] := by first | (simp [entryFrame, mkF, argsToLocals, Value.category]; done) | rfl
def QPN (Z : State) (ia : Int32) (na : Int32) (h0 : Heap) (n0 : Nat) (v : Option Value) (h : Heap) (L : List Loc) : Prop := v = some (.int ia) ∧ Fr n0 L ∧ h = h0
set_option maxRecDepth 65536 in
set_option maxHeartbeats 40000000 in
theorem rmPN (l : Launch) (Z : State) (a0 : Array Value) (hw : ∀ d ∈ tables_1, d.before a0 Z = true) (ws : List Jvm.Cond) (ia : Int32) (na : Int32) (h0 : Heap) (n0 : Nat) (Z0 : n0 ≤ h0.size) (hia : ¬ ia < (0 : Int32)) (hib : ia < na) :
  MetFree l (⟨"jdk/internal/util/Preconditions", "checkIndex", "(IILjava/util/function/BiFunction;)I"⟩ : MethodName) (head1 (Jvm.Cond.code (⟨"jdk/internal/util/Preconditions", "checkIndex", "(IILjava/util/function/BiFunction;)I"⟩ : MethodName) jdk_41_method_11_code 3 (some .int) :: ws) ({ frames := 0, cells := 0, slots := 0, locals := 0 } : Room)) (fun av_ U => av_ = #[(.int ia), (.int na), .null] ∧ Z.Warmed39 U.vm ∧ U.heap = h0) (fun _ _ _ _ _ => True) (fun _ U o U' => ∃ v L, o = .returned v ∧ QPN Z ia na h0 n0 v U'.heap L ∧ FrameEnd U o U' L ({ frames := 0, cells := 0, slots := 0, locals := 0 } : Room).cells ({ frames := 0, cells := 0, slots := 0, locals := 0 } : Room).slots) := by
 refine MetFree.of_bodySF (plainFor_of_name own_pn2) hisR ?_
 intro p e s m args below meth c s₁ Bd hml0 hP hK
 obtain ⟨rfl, hZ, hh⟩ := hP
 have hx := Bd.exec
 have hby := Bd.bytes
 have hml : c.maxLocals = 3 := hml0
 have hown : s.vm.findClass "jdk/internal/util/Preconditions" = some m.cls := findClass_of_methodNamed Bd.named
 have hnm := (name_of_methodNamed Bd.named Bd.method).1
 have X0 : Stand p l e ({ frames := 0, cells := 0, slots := 0, locals := 0 } : Room) s m #[(.int ia), (.int na), .null] below meth c s₁ [] 0 0 := Stand.of_body Bd
 have e0 : s₁.heap = h0 := by rw [← hh, Bd.state]; rfl
 have N0 := Fr.nil n0
 have pre0 : ∀ t, Steps p.tables e below (s₁.setTop (mkF m 0 #[.val (.int ia), .val (.int na), .val .null] [])) t → Steps p.tables e below (s₁.setTop (entryFrame m #[(.int ia), (.int na), .null] 3)) t := fun t k => castTop (efPN m ia na) k
 obtain ⟨fs, hr, hrun, hended, hW, hsame⟩ := X0.leave (v := some (.int ia)) (fun h => by rw [Bd.returns] at h; cases h)
 refine ⟨_, _, (pre0 _ ?_), hrun, hended, _, _, rfl, ?_, ⟨_, rfl⟩, hW, hsame.mono (by decide) (by decide)⟩
 ·show Steps p.tables e below (s₁.setTop (mkF m 0 #[.val (.int ia), .val (.int na), .val .null] [])) _
  refine XS.iloadN X0.here hx rfl (hb hby d16_0) rfl ?_
  refine XS.ifNo X0.here hx rfl (hb hby d16_1) rfl ((if0 _ _).trans (flt hia).1) ?_
  refine XS.iloadN X0.here hx rfl (hb hby d16_4) rfl ?_
  refine XS.iloadN X0.here hx rfl (hb hby d16_5) rfl ?_
  refine XS.icmpYes X0.here hx rfl (pc0 := 6) (pc' := 16) rfl (hb hby d16_6) rfl (tlt hib).1 (by decide) (by decide) ?_
  refine XS.iloadN X0.here hx rfl (hb hby d16_16) rfl ?_
  exact retI X0 hx Bd.returns (hb hby d16_17) hr
 ·show QPN Z ia na h0 n0 _ s₁.heap _
  rw [e0]
  exact ⟨rfl, N0, rfl⟩
theorem efPR (m : MethodId) (ia : Int32) (na : Int32) (fa : Addr) : entryFrame m #[(.int ia), (.int na), (.ref fa)] 3 = mkF m 0 #[.val (.int ia), .val (.int na), .val (.ref fa)] [] := by first | (simp [entryFrame, mkF, argsToLocals, Value.category]; done) | rfl
def QPR (Z : State) (ia : Int32) (na : Int32) (fa : Addr) (h0 : Heap) (n0 : Nat) (v : Option Value) (h : Heap) (L : List Loc) : Prop := v = some (.int ia) ∧ Fr n0 L ∧ h = h0
set_option maxRecDepth 65536 in
set_option maxHeartbeats 40000000 in
theorem rmPR (l : Launch) (Z : State) (a0 : Array Value) (hw : ∀ d ∈ tables_1, d.before a0 Z = true) (ws : List Jvm.Cond) (ia : Int32) (na : Int32) (fa : Addr) (h0 : Heap) (n0 : Nat) (Z0 : n0 ≤ h0.size) (hia : ¬ ia < (0 : Int32)) (hib : ia < na) :
  MetFree l (⟨"jdk/internal/util/Preconditions", "checkIndex", "(IILjava/util/function/BiFunction;)I"⟩ : MethodName) (head1 (Jvm.Cond.code (⟨"jdk/internal/util/Preconditions", "checkIndex", "(IILjava/util/function/BiFunction;)I"⟩ : MethodName) jdk_41_method_11_code 3 (some .int) :: ws) ({ frames := 0, cells := 0, slots := 0, locals := 0 } : Room)) (fun av_ U => av_ = #[(.int ia), (.int na), (.ref fa)] ∧ Z.Warmed39 U.vm ∧ U.heap = h0) (fun _ _ _ _ _ => True) (fun _ U o U' => ∃ v L, o = .returned v ∧ QPR Z ia na fa h0 n0 v U'.heap L ∧ FrameEnd U o U' L ({ frames := 0, cells := 0, slots := 0, locals := 0 } : Room).cells ({ frames := 0, cells := 0, slots := 0, locals := 0 } : Room).slots) := by
 refine MetFree.of_bodySF (plainFor_of_name own_pn2) hisR ?_
 intro p e s m args below meth c s₁ Bd hml0 hP hK
 obtain ⟨rfl, hZ, hh⟩ := hP
 have hx := Bd.exec
 have hby := Bd.bytes
 have hml : c.maxLocals = 3 := hml0
 have hown : s.vm.findClass "jdk/internal/util/Preconditions" = some m.cls := findClass_of_methodNamed Bd.named
 have hnm := (name_of_methodNamed Bd.named Bd.method).1
 have X0 : Stand p l e ({ frames := 0, cells := 0, slots := 0, locals := 0 } : Room) s m #[(.int ia), (.int na), (.ref fa)] below meth c s₁ [] 0 0 := Stand.of_body Bd
 have e0 : s₁.heap = h0 := by rw [← hh, Bd.state]; rfl
 have N0 := Fr.nil n0
 have pre0 : ∀ t, Steps p.tables e below (s₁.setTop (mkF m 0 #[.val (.int ia), .val (.int na), .val (.ref fa)] [])) t → Steps p.tables e below (s₁.setTop (entryFrame m #[(.int ia), (.int na), (.ref fa)] 3)) t := fun t k => castTop (efPR m ia na fa) k
 obtain ⟨fs, hr, hrun, hended, hW, hsame⟩ := X0.leave (v := some (.int ia)) (fun h => by rw [Bd.returns] at h; cases h)
 refine ⟨_, _, (pre0 _ ?_), hrun, hended, _, _, rfl, ?_, ⟨_, rfl⟩, hW, hsame.mono (by decide) (by decide)⟩
 ·show Steps p.tables e below (s₁.setTop (mkF m 0 #[.val (.int ia), .val (.int na), .val (.ref fa)] [])) _
  refine XS.iloadN X0.here hx rfl (hb hby d16_0) rfl ?_
  refine XS.ifNo X0.here hx rfl (hb hby d16_1) rfl ((if0 _ _).trans (flt hia).1) ?_
  refine XS.iloadN X0.here hx rfl (hb hby d16_4) rfl ?_
  refine XS.iloadN X0.here hx rfl (hb hby d16_5) rfl ?_
  refine XS.icmpYes X0.here hx rfl (pc0 := 6) (pc' := 16) rfl (hb hby d16_6) rfl (tlt hib).1 (by decide) (by decide) ?_
  refine XS.iloadN X0.here hx rfl (hb hby d16_16) rfl ?_
  exact retI X0 hx Bd.returns (hb hby d16_17) hr
 ·show QPR Z ia na fa h0 n0 _ s₁.heap _
  rw [e0]
  exact ⟨rfl, N0, rfl⟩
theorem own_pd8 : parseMethodDescriptor "(IILjava/util/function/BiFunction;)I" = some ⟨[.int, .int, (.object "java/util/function/BiFunction")], some .int⟩ := by decide +kernel
theorem d15_0 : decode jdk_42_method_155_code 0 = .ok (.iload_n 0, 1) := by decide +kernel
theorem d15_1 : decode jdk_42_method_155_code 1 = .ok (.iload_n 1, 1) := by decide +kernel
theorem d15_2 : decode jdk_42_method_155_code 2 = .ok (.getstatic 1053, 3) := by decide +kernel
theorem d15_5 : decode jdk_42_method_155_code 5 = .ok (.invokestatic 1059, 3) := by decide +kernel
theorem d15_8 : decode jdk_42_method_155_code 8 = .ok (.pop, 1) := by decide +kernel
theorem d15_9 : decode jdk_42_method_155_code 9 = .ok (.return_, 1) := by decide +kernel
theorem efXI (m : MethodId) (ia : Int32) (na : Int32) : entryFrame m #[(.int ia), (.int na)] 2 = mkF m 0 #[.val (.int ia), .val (.int na)] [] := by first | (simp [entryFrame, mkF, argsToLocals, Value.category]; done) | rfl
def QXI (Z : State) (ia : Int32) (na : Int32) (fm : Value) (h0 : Heap) (n0 : Nat) (v : Option Value) (h : Heap) (L : List Loc) : Prop := v = none ∧ Fr n0 L ∧ h = h0
set_option maxRecDepth 65536 in
set_option maxHeartbeats 40000000 in
theorem rmXI (l : Launch) (Z : State) (a0 : Array Value) (hw : ∀ d ∈ tables_1, d.before a0 Z = true) (ws : List Jvm.Cond) (ia : Int32) (na : Int32) (fm : Value) (h0 : Heap) (n0 : Nat) (Z0 : n0 ≤ h0.size) (X00 : Old Z n0 h0) (S_SIOOBE_FORMATTER : Sta Z Z.heap "jdk/internal/util/Preconditions" "SIOOBE_FORMATTER" "Ljava/util/function/BiFunction;" fm) (hfm : own_nr fm) (hia : ¬ ia < (0 : Int32)) (hib : ia < na) :
  MetFree l (⟨"java/lang/String", "checkIndex", "(II)V"⟩ : MethodName) (head1 (Jvm.Cond.code (⟨"java/lang/String", "checkIndex", "(II)V"⟩ : MethodName) jdk_42_method_155_code 2 none :: ws) ({ frames := 1, cells := 0, slots := 0, locals := 20 } : Room)) (fun av_ U => av_ = #[(.int ia), (.int na)] ∧ Z.Warmed39 U.vm ∧ U.heap = h0) (fun _ _ _ _ _ => True) (fun _ U o U' => ∃ v L, o = .returned v ∧ QXI Z ia na fm h0 n0 v U'.heap L ∧ FrameEnd U o U' L ({ frames := 1, cells := 0, slots := 0, locals := 20 } : Room).cells ({ frames := 1, cells := 0, slots := 0, locals := 20 } : Room).slots) := by
 refine MetFree.of_bodySF (plainFor_of_name own_pn1) hisR ?_
 intro p e s m args below meth c s₁ Bd hml0 hP hK
 obtain ⟨rfl, hZ, hh⟩ := hP
 have hx := Bd.exec
 have hby := Bd.bytes
 have hml : c.maxLocals = 2 := hml0
 have hown : s.vm.findClass "java/lang/String" = some m.cls := findClass_of_methodNamed Bd.named
 have hnm := (name_of_methodNamed Bd.named Bd.method).1
 have X0 : Stand p l e ({ frames := 1, cells := 0, slots := 0, locals := 20 } : Room) s m #[(.int ia), (.int na)] below meth c s₁ [] 0 0 := Stand.of_body Bd
 have e0 : s₁.heap = h0 := by rw [← hh, Bd.state]; rfl
 have N0 := Fr.nil n0
 have pre0 : ∀ t, Steps p.tables e below (s₁.setTop (mkF m 0 #[.val (.int ia), .val (.int na)] [])) t → Steps p.tables e below (s₁.setTop (entryFrame m #[(.int ia), (.int na)] 2)) t := fun t k => castTop (efXI m ia na) k
 rcases hfm with hf | ⟨fa, hf⟩
 ·have Sx : Sta Z Z.heap "jdk/internal/util/Preconditions" "SIOOBE_FORMATTER" "Ljava/util/function/BiFunction;" .null := by rw [← hf]; exact S_SIOOBE_FORMATTER
  obtain ⟨T1, X1, e1, st1⟩ := getS2 X0 hx hZ hown (host := "") (Or.inl (Wd hw 73 rfl)) Via.refl e0 (Sx.ext X00.2) (g := (mkF m 2 #[.val (.int ia), .val (.int na)] [(.int na), (.int ia)])) rfl (hb hby d15_2)
  obtain ⟨_, _, ⟨T2, L2, k2, n2⟩, -, X2, ⟨Lc2, hQ2, l2, y2, z2⟩, st2⟩ := Jvm.LawKit.callS X1 hx (y := (⟨"jdk/internal/util/Preconditions", "checkIndex", "(IILjava/util/function/BiFunction;)I"⟩ : MethodName)) hown (mvT hZ (Wd hw 75 rfl)) (mvT hZ (Wd hw 76 rfl)) (mvT hZ (Wd hw 74 rfl)) (mvT hZ (Wd hw 77 rfl)) (by decide) (backOf (W := 0) (rmPN l Z a0 hw [] ia na h0 n0 Z0 hia hib) hZ (Wd hw 77 rfl) (Wd hw 74 rfl) (by decide) (by decide)) (g := (mkF m 5 #[.val (.int ia), .val (.int na)] [.null, (.int na), (.int ia)])) rfl (by rw [hml]; rfl) (argsL := [(.int ia), (.int na), .null]) (rest := []) (lenOf own_pd8 rfl) rfl (by show 2 * 0 + _ ≤ _; exact Nat.le_of_eq rfl) (hb hby d15_5) (fun _ _ => ⟨rfl, e1, (by decide : 0 + 0 ≤ _), (by decide : 0 + 0 ≤ _)⟩)
  dsimp only [Pt.U, Pt.locs, Pt.cells, Pt.slots] at X2 l2 y2 z2 st2 hQ2
  subst l2 y2 z2
  obtain ⟨rfl, Nq2, e2⟩ := hQ2
  have N2 := Fr.app N0 Nq2
  obtain ⟨fs, hr, hrun, hended, hW, hsame⟩ := X2.leave (v := none) (fun _ => rfl)
  refine ⟨_, _, (pre0 _ ?_), hrun, hended, _, _, rfl, ?_, ⟨_, rfl⟩, hW, hsame.mono (by decide) (by decide)⟩
  ·show Steps p.tables e below (s₁.setTop (mkF m 0 #[.val (.int ia), .val (.int na)] [])) _
   refine XS.iloadN X0.here hx rfl (hb hby d15_0) rfl ?_
   refine XS.iloadN X0.here hx rfl (hb hby d15_1) rfl ?_
   refine st1 _ ?_
   refine st2 _ ?_
   refine XS.pop X2.here hx rfl (hb hby d15_8) rfl rfl ?_
   exact X2.returnOut hx Bd.returns (hb hby d15_9) hr
  ·show QXI Z ia na fm h0 n0 _ T2.heap _
   rw [e2]
   exact ⟨rfl, N2, rfl⟩
 ·have Sx : Sta Z Z.heap "jdk/internal/util/Preconditions" "SIOOBE_FORMATTER" "Ljava/util/function/BiFunction;" (.ref fa) := by rw [← hf]; exact S_SIOOBE_FORMATTER
  obtain ⟨T3, X3, e3, st3⟩ := getS2 X0 hx hZ hown (host := "") (Or.inl (Wd hw 73 rfl)) Via.refl e0 (Sx.ext X00.2) (g := (mkF m 2 #[.val (.int ia), .val (.int na)] [(.int na), (.int ia)])) rfl (hb hby d15_2)
  obtain ⟨_, _, ⟨T4, L4, k4, n4⟩, -, X4, ⟨Lc4, hQ4, l4, y4, z4⟩, st4⟩ := Jvm.LawKit.callS X3 hx (y := (⟨"jdk/internal/util/Preconditions", "checkIndex", "(IILjava/util/function/BiFunction;)I"⟩ : MethodName)) hown (mvT hZ (Wd hw 75 rfl)) (mvT hZ (Wd hw 76 rfl)) (mvT hZ (Wd hw 74 rfl)) (mvT hZ (Wd hw 77 rfl)) (by decide) (backOf (W := 0) (rmPR l Z a0 hw [] ia na fa h0 n0 Z0 hia hib) hZ (Wd hw 77 rfl) (Wd hw 74 rfl) (by decide) (by decide)) (g := (mkF m 5 #[.val (.int ia), .val (.int na)] [(.ref fa), (.int na), (.int ia)])) rfl (by rw [hml]; rfl) (argsL := [(.int ia), (.int na), (.ref fa)]) (rest := []) (lenOf own_pd8 rfl) rfl (by show 2 * 0 + _ ≤ _; exact Nat.le_of_eq rfl) (hb hby d15_5) (fun _ _ => ⟨rfl, e3, (by decide : 0 + 0 ≤ _), (by decide : 0 + 0 ≤ _)⟩)
  dsimp only [Pt.U, Pt.locs, Pt.cells, Pt.slots] at X4 l4 y4 z4 st4 hQ4
  subst l4 y4 z4
  obtain ⟨rfl, Nq4, e4⟩ := hQ4
  have N4 := Fr.app N0 Nq4
  obtain ⟨fs, hr, hrun, hended, hW, hsame⟩ := X4.leave (v := none) (fun _ => rfl)
  refine ⟨_, _, (pre0 _ ?_), hrun, hended, _, _, rfl, ?_, ⟨_, rfl⟩, hW, hsame.mono (by decide) (by decide)⟩
  ·show Steps p.tables e below (s₁.setTop (mkF m 0 #[.val (.int ia), .val (.int na)] [])) _
   refine XS.iloadN X0.here hx rfl (hb hby d15_0) rfl ?_
   refine XS.iloadN X0.here hx rfl (hb hby d15_1) rfl ?_
   refine st3 _ ?_
   refine st4 _ ?_
   refine XS.pop X4.here hx rfl (hb hby d15_8) rfl rfl ?_
   exact X4.returnOut hx Bd.returns (hb hby d15_9) hr
  ·show QXI Z ia na fm h0 n0 _ T4.heap _
   rw [e4]
   exact ⟨rfl, N4, rfl⟩
theorem d8_0 : decode jdk_29_method_69_code 0 = .ok (.iload_n 0, 1) := by decide +kernel
theorem d8_1 : decode jdk_29_method_69_code 1 = .ok (.iload_n 1, 1) := by decide +kernel
theorem d8_2 : decode jdk_29_method_69_code 2 = .ok (.if_icmp .gt 7, 3) := by decide +kernel
theorem d8_5 : decode jdk_29_method_69_code 5 = .ok (.iload_n 0, 1) := by decide +kernel
theorem d8_6 : decode jdk_29_method_69_code 6 = .ok (.goto 4, 3) := by decide +kernel
theorem d8_9 : decode jdk_29_method_69_code 9 = .ok (.iload_n 1, 1) := by decide +kernel
theorem d8_10 : decode jdk_29_method_69_code 10 = .ok (.ireturn, 1) := by decide +kernel
theorem efMN (m : MethodId) (pa : Int32) : entryFrame m #[(.int pa), (.int (5 : Int32))] 2 = mkF m 0 #[.val (.int pa), .val (.int (5 : Int32))] [] := by first | (simp [entryFrame, mkF, argsToLocals, Value.category]; done) | rfl
def QMN (Z : State) (pa : Int32) (h0 : Heap) (n0 : Nat) (v : Option Value) (h : Heap) (L : List Loc) : Prop := v = some (.int (own_min5 pa)) ∧ Fr n0 L ∧ h = h0
set_option maxRecDepth 65536 in
set_option maxHeartbeats 40000000 in
theorem rmMN (l : Launch) (Z : State) (a0 : Array Value) (hw : ∀ d ∈ tables_1, d.before a0 Z = true) (ws : List Jvm.Cond) (pa : Int32) (h0 : Heap) (n0 : Nat) (Z0 : n0 ≤ h0.size) :
  MetFree l (⟨"java/lang/Math", "min", "(II)I"⟩ : MethodName) (head1 (Jvm.Cond.code (⟨"java/lang/Math", "min", "(II)I"⟩ : MethodName) jdk_29_method_69_code 2 (some .int) :: ws) ({ frames := 0, cells := 0, slots := 0, locals := 0 } : Room)) (fun av_ U => av_ = #[(.int pa), (.int (5 : Int32))] ∧ Z.Warmed39 U.vm ∧ U.heap = h0) (fun _ _ _ _ _ => True) (fun _ U o U' => ∃ v L, o = .returned v ∧ QMN Z pa h0 n0 v U'.heap L ∧ FrameEnd U o U' L ({ frames := 0, cells := 0, slots := 0, locals := 0 } : Room).cells ({ frames := 0, cells := 0, slots := 0, locals := 0 } : Room).slots) := by
 refine MetFree.of_bodySF (Jvm.Free.JP.mathPlain rfl (by decide +kernel)) hisR ?_
 intro p e s m args below meth c s₁ Bd hml0 hP hK
 obtain ⟨rfl, hZ, hh⟩ := hP
 have hx := Bd.exec
 have hby := Bd.bytes
 have hml : c.maxLocals = 2 := hml0
 have hown : s.vm.findClass "java/lang/Math" = some m.cls := findClass_of_methodNamed Bd.named
 have hnm := (name_of_methodNamed Bd.named Bd.method).1
 have X0 : Stand p l e ({ frames := 0, cells := 0, slots := 0, locals := 0 } : Room) s m #[(.int pa), (.int (5 : Int32))] below meth c s₁ [] 0 0 := Stand.of_body Bd
 have e0 : s₁.heap = h0 := by rw [← hh, Bd.state]; rfl
 have N0 := Fr.nil n0
 have pre0 : ∀ t, Steps p.tables e below (s₁.setTop (mkF m 0 #[.val (.int pa), .val (.int (5 : Int32))] [])) t → Steps p.tables e below (s₁.setTop (entryFrame m #[(.int pa), (.int (5 : Int32))] 2)) t := fun t k => castTop (efMN m pa) k
 have r1 : ∀ t, Steps p.tables e below (s₁.setTop (mkF m 2 #[.val (.int pa), .val (.int (5 : Int32))] [(.int (5 : Int32)), (.int pa)])) t → Steps p.tables e below (s₁.setTop (mkF m 0 #[.val (.int pa), .val (.int (5 : Int32))] [])) t := fun t kt => by
  refine XS.iloadN X0.here hx rfl (hb hby d8_0) rfl ?_
  refine XS.iloadN X0.here hx rfl (hb hby d8_1) rfl ?_
  exact kt
 by_cases hc2 : (5 : Int32) < pa
 ·obtain ⟨fs, hr, hrun, hended, hW, hsame⟩ := X0.leave (v := some (.int (5 : Int32))) (fun h => by rw [Bd.returns] at h; cases h)
  refine ⟨_, _, (pre0 _ (r1 _ ?_)), hrun, hended, _, _, rfl, ?_, ⟨_, rfl⟩, hW, hsame.mono (by decide) (by decide)⟩
  ·show Steps p.tables e below (s₁.setTop (mkF m 2 #[.val (.int pa), .val (.int (5 : Int32))] [(.int (5 : Int32)), (.int pa)])) _
   refine XS.icmpYes X0.here hx rfl (pc0 := 2) (pc' := 9) rfl (hb hby d8_2) rfl (tlt hc2).2.2.1 (by decide) (by decide) ?_
   refine XS.iloadN X0.here hx rfl (hb hby d8_9) rfl ?_
   exact retI X0 hx Bd.returns (hb hby d8_10) hr
  ·show QMN Z pa h0 n0 _ s₁.heap _
   rw [e0]
   exact ⟨(by simp [own_min5, hc2]), N0, rfl⟩
 ·obtain ⟨fs, hr, hrun, hended, hW, hsame⟩ := X0.leave (v := some (.int pa)) (fun h => by rw [Bd.returns] at h; cases h)
  refine ⟨_, _, (pre0 _ (r1 _ ?_)), hrun, hended, _, _, rfl, ?_, ⟨_, rfl⟩, hW, hsame.mono (by decide) (by decide)⟩
  ·show Steps p.tables e below (s₁.setTop (mkF m 2 #[.val (.int pa), .val (.int (5 : Int32))] [(.int (5 : Int32)), (.int pa)])) _
   refine XS.icmpNo X0.here hx rfl (hb hby d8_2) rfl (flt hc2).2.2.1 ?_
   refine XS.iloadN X0.here hx rfl (hb hby d8_5) rfl ?_
   refine XS.goto X0.here hx rfl (pc0 := 6) (pc' := 10) rfl (hb hby d8_6) (by decide) (by decide) ?_
   exact retI X0 hx Bd.returns (hb hby d8_10) hr
  ·show QMN Z pa h0 n0 _ s₁.heap _
   rw [e0]
   exact ⟨(by simp [own_min5, hc2]), N0, rfl⟩
theorem d7_0 : decode jdk_42_method_152_code 0 = .ok (.getstatic 38, 3) := by decide +kernel
theorem d7_3 : decode jdk_42_method_152_code 3 = .ok (.ifCond .eq 10, 3) := by decide +kernel
theorem d7_6 : decode jdk_42_method_152_code 6 = .ok (.aload_n 0, 1) := by decide +kernel
theorem d7_7 : decode jdk_42_method_152_code 7 = .ok (.getfield 15, 3) := by decide +kernel
theorem d7_10 : decode jdk_42_method_152_code 10 = .ok (.goto 4, 3) := by decide +kernel
theorem d7_14 : decode jdk_42_method_152_code 14 = .ok (.ireturn, 1) := by decide +kernel
theorem efA16 (m : MethodId) (xo0_ : Addr) : entryFrame m #[(.ref xo0_)] 1 = mkF m 0 #[.val (.ref xo0_)] [] := by first | (simp [entryFrame, mkF, argsToLocals, Value.category]; done) | rfl
def QA16 (Z : State) (xo0_ : Addr) (uo1_ : Addr) (ui2_ : Int32) (h0 : Heap) (n0 : Nat) (v : Option Value) (h : Heap) (L : List Loc) : Prop := v = some (.int (0 : Int32)) ∧ Fr n0 L ∧ h = h0
set_option maxRecDepth 65536 in
set_option maxHeartbeats 40000000 in
theorem rmA16 (l : Launch) (Z : State) (a0 : Array Value) (hw : ∀ d ∈ tables_1, d.before a0 Z = true) (ws : List Jvm.Cond) (xo0_ : Addr) (uo1_ : Addr) (ui2_ : Int32) (h0 : Heap) (n0 : Nat) (Z0 : n0 ≤ h0.size) (E_xo0_ : Exa Z h0 xo0_ "java/lang/String") (F_value_xo0_ : Fld Z h0 xo0_ "java/lang/String" "value" "[B" (.ref uo1_)) (F_coder_xo0_ : Fld Z h0 xo0_ "java/lang/String" "coder" "B" (.int (0 : Int32))) (X00 : Old Z n0 h0) (S_COMPACT_STRINGS : Sta Z Z.heap "java/lang/String" "COMPACT_STRINGS" "Z" (.int ui2_)) (hp0_ : ¬ (ui2_ = (0 : Int32))) :
  MetFree l (⟨"java/lang/String", "coder", "()B"⟩ : MethodName) (head1 (Jvm.Cond.code (⟨"java/lang/String", "coder", "()B"⟩ : MethodName) jdk_42_method_152_code 1 (some .byte) :: ws) ({ frames := 0, cells := 0, slots := 0, locals := 0 } : Room)) (fun av_ U => av_ = #[(.ref xo0_)] ∧ Z.Warmed39 U.vm ∧ U.heap = h0) (fun _ _ _ _ _ => True) (fun _ U o U' => ∃ v L, o = .returned v ∧ QA16 Z xo0_ uo1_ ui2_ h0 n0 v U'.heap L ∧ FrameEnd U o U' L ({ frames := 0, cells := 0, slots := 0, locals := 0 } : Room).cells ({ frames := 0, cells := 0, slots := 0, locals := 0 } : Room).slots) := by
 refine MetFree.of_bodySF (plainFor_of_name own_pn1) hisR ?_
 intro p e s m args below meth c s₁ Bd hml0 hP hK
 obtain ⟨rfl, hZ, hh⟩ := hP
 have hx := Bd.exec
 have hby := Bd.bytes
 have hml : c.maxLocals = 1 := hml0
 have hown : s.vm.findClass "java/lang/String" = some m.cls := findClass_of_methodNamed Bd.named
 have hnm := (name_of_methodNamed Bd.named Bd.method).1
 have X0 : Stand p l e ({ frames := 0, cells := 0, slots := 0, locals := 0 } : Room) s m #[(.ref xo0_)] below meth c s₁ [] 0 0 := Stand.of_body Bd
 have e0 : s₁.heap = h0 := by rw [← hh, Bd.state]; rfl
 have N0 := Fr.nil n0
 have pre0 : ∀ t, Steps p.tables e below (s₁.setTop (mkF m 0 #[.val (.ref xo0_)] [])) t → Steps p.tables e below (s₁.setTop (entryFrame m #[(.ref xo0_)] 1)) t := fun t k => castTop (efA16 m xo0_) k
 obtain ⟨T1, X1, e1, st1⟩ := getS2 X0 hx hZ hown (host := "") (Or.inl (Wd hw 41 rfl)) Via.refl e0 (S_COMPACT_STRINGS.ext X00.2) (g := (mkF m 0 #[.val (.ref xo0_)] [])) rfl (hb hby d7_0)
 obtain ⟨T2, X2, e2, st2⟩ := getF X1 hx hZ hown (host := "") (Or.inl (Wd hw 26 rfl)) Via.refl e1 F_coder_xo0_ (g := (mkF m 7 #[.val (.ref xo0_)] [(.ref xo0_)])) rfl rfl (hb hby d7_7)
 obtain ⟨fs, hr, hrun, hended, hW, hsame⟩ := X2.leave (v := some (.int (0 : Int32))) (fun h => by rw [Bd.returns] at h; cases h)
 refine ⟨_, _, (pre0 _ ?_), hrun, hended, _, _, rfl, ?_, ⟨_, rfl⟩, hW, hsame.mono (by decide) (by decide)⟩
 ·show Steps p.tables e below (s₁.setTop (mkF m 0 #[.val (.ref xo0_)] [])) _
  refine st1 _ ?_
  refine XS.ifNo X1.here hx rfl (hb hby d7_3) rfl ((if0 _ _).trans (feq hp0_).1) ?_
  refine XS.aloadN X1.here hx rfl (hb hby d7_6) rfl rfl ?_
  refine st2 _ ?_
  refine XS.goto X2.here hx rfl (pc0 := 10) (pc' := 14) rfl (hb hby d7_10) (by decide) (by decide) ?_
  exact retN X2 hx (t := .byte) Bd.returns (by simp) (hb hby d7_14) hr
 ·show QA16 Z xo0_ uo1_ ui2_ h0 n0 _ T2.heap _
  rw [e2]
  exact ⟨rfl, N0, rfl⟩
theorem own_pd9 : parseMethodDescriptor "()B" = some ⟨[], some .byte⟩ := by decide +kernel
theorem d6_0 : decode jdk_42_method_54_code 0 = .ok (.aload_n 0, 1) := by decide +kernel
theorem d6_1 : decode jdk_42_method_54_code 1 = .ok (.getfield 9, 3) := by decide +kernel
theorem d6_4 : decode jdk_42_method_54_code 4 = .ok (.arraylength, 1) := by decide +kernel
theorem d6_5 : decode jdk_42_method_54_code 5 = .ok (.aload_n 0, 1) := by decide +kernel
theorem d6_6 : decode jdk_42_method_54_code 6 = .ok (.invokevirtual 335, 3) := by decide +kernel
theorem d6_9 : decode jdk_42_method_54_code 9 = .ok (.ishr, 1) := by decide +kernel
theorem d6_10 : decode jdk_42_method_54_code 10 = .ok (.ireturn, 1) := by decide +kernel
theorem efLNL (m : MethodId) (x : Addr) : entryFrame m #[(.ref x)] 1 = mkF m 0 #[.val (.ref x)] [] := by first | (simp [entryFrame, mkF, argsToLocals, Value.category]; done) | rfl
def QLNL (Z : State) (x : Addr) (tv : Addr) (nn : Int32) (qa : Int32) (qb : Int32) (qc : Int32) (qd : Int32) (qe : Int32) (qf : Int32) (qg : Int32) (k_tv : ClassId) (cst : Int32) (h0 : Heap) (n0 : Nat) (v : Option Value) (h : Heap) (L : List Loc) : Prop := v = some (.int nn) ∧ Fr n0 L ∧ h = h0
set_option maxRecDepth 65536 in
set_option maxHeartbeats 40000000 in
theorem rmLNL (l : Launch) (Z : State) (a0 : Array Value) (hw : ∀ d ∈ tables_1, d.before a0 Z = true) (ws : List Jvm.Cond) (x : Addr) (tv : Addr) (nn : Int32) (qa : Int32) (qb : Int32) (qc : Int32) (qd : Int32) (qe : Int32) (qf : Int32) (qg : Int32) (k_tv : ClassId) (cst : Int32) (h0 : Heap) (n0 : Nat) (Z0 : n0 ≤ h0.size) (E_x : Exa Z h0 x "java/lang/String") (F_value_x : Fld Z h0 x "java/lang/String" "value" "[B" (.ref tv)) (F_coder_x : Fld Z h0 x "java/lang/String" "coder" "B" (.int (0 : Int32))) (V_tv : Arv Z h0 tv k_tv .byte nn [(.int qa.toInt8.toInt32), (.int qb.toInt8.toInt32), (.int qc.toInt8.toInt32), (.int qd.toInt8.toInt32), (.int qe.toInt8.toInt32), (.int qf.toInt8.toInt32), (.int qg.toInt8.toInt32)] (.int (0 : Int32))) (X00 : Old Z n0 h0) (S_COMPACT_STRINGS : Sta Z Z.heap "java/lang/String" "COMPACT_STRINGS" "Z" (.int cst)) (hcs : ¬ cst = (0 : Int32)) (hn : 0 ≤ nn.toInt ∧ nn.toInt ≤ 7) :
  MetFree l (⟨"java/lang/String", "length", "()I"⟩ : MethodName) (head1 (Jvm.Cond.code (⟨"java/lang/String", "length", "()I"⟩ : MethodName) jdk_42_method_54_code 1 (some .int) :: ws) ({ frames := 1, cells := 0, slots := 0, locals := 14 } : Room)) (fun av_ U => av_ = #[(.ref x)] ∧ Z.Warmed39 U.vm ∧ U.heap = h0) (fun _ _ _ _ _ => True) (fun _ U o U' => ∃ v L, o = .returned v ∧ QLNL Z x tv nn qa qb qc qd qe qf qg k_tv cst h0 n0 v U'.heap L ∧ FrameEnd U o U' L ({ frames := 1, cells := 0, slots := 0, locals := 14 } : Room).cells ({ frames := 1, cells := 0, slots := 0, locals := 14 } : Room).slots) := by
 refine MetFree.of_bodySF (plainFor_of_name own_pn1) hisR ?_
 intro p e s m args below meth c s₁ Bd hml0 hP hK
 obtain ⟨rfl, hZ, hh⟩ := hP
 have hx := Bd.exec
 have hby := Bd.bytes
 have hml : c.maxLocals = 1 := hml0
 have hown : s.vm.findClass "java/lang/String" = some m.cls := findClass_of_methodNamed Bd.named
 have hnm := (name_of_methodNamed Bd.named Bd.method).1
 have X0 : Stand p l e ({ frames := 1, cells := 0, slots := 0, locals := 14 } : Room) s m #[(.ref x)] below meth c s₁ [] 0 0 := Stand.of_body Bd
 have e0 : s₁.heap = h0 := by rw [← hh, Bd.state]; rfl
 have N0 := Fr.nil n0
 have pre0 : ∀ t, Steps p.tables e below (s₁.setTop (mkF m 0 #[.val (.ref x)] [])) t → Steps p.tables e below (s₁.setTop (entryFrame m #[(.ref x)] 1)) t := fun t k => castTop (efLNL m x) k
 obtain ⟨T1, X1, e1, st1⟩ := getF X0 hx hZ hown (host := "") (Or.inl (Wd hw 25 rfl)) Via.refl e0 F_value_x (g := (mkF m 1 #[.val (.ref x)] [(.ref x)])) rfl rfl (hb hby d6_1)
 obtain ⟨cl2, Ar2, q2, S2, M2, Hs2, G2⟩ := (id V_tv)
 obtain ⟨cq3, kq3, q3a, q3b, q3c⟩ := isOf hZ e1 E_x
 obtain ⟨_, _, ⟨T3, L3, k3, n3⟩, -, X3, ⟨Lc3, hQ3, l3, y3, z3⟩, st3⟩ := X1.virtualBack hx (y := (⟨"java/lang/String", "coder", "()B"⟩ : MethodName)) (z := (⟨"java/lang/String", "coder", "()B"⟩ : MethodName)) hown (mvT hZ (Wd hw 36 rfl)) (mvT hZ (Wd hw 37 rfl)) (notFace_of_selects (args := #[]) (mvT hZ (Wd hw 39 rfl))) (mvT hZ (Wd hw 39 rfl)) (mvT hZ (Wd hw 38 rfl)) (by decide) (backOf (W := 1) (rmA16 l Z a0 hw [] x tv cst h0 n0 Z0 E_x F_value_x F_coder_x X00 S_COMPACT_STRINGS hcs) hZ (Wd hw 40 rfl) (Wd hw 8 rfl) (by decide) (by decide)) q3a q3c (g := (mkF m 6 #[.val (.ref x)] [(.ref x), (.int nn)])) rfl (by rw [hml]; rfl) (Steps.refl _) (argsL := []) (rest := [(.int nn)]) (lenOf own_pd9 rfl) rfl (by show 2 * 0 + _ ≤ _; exact Nat.le_of_eq rfl) (hb hby d6_6) (fun _ _ => ⟨rfl, e1, (by decide : 0 + 0 ≤ _), (by decide : 0 + 0 ≤ _)⟩)
 dsimp only [Pt.U, Pt.locs, Pt.cells, Pt.slots] at X3 l3 y3 z3 st3 hQ3
 subst l3 y3 z3
 obtain ⟨rfl, Nq3, e3⟩ := hQ3
 have N3 := Fr.app N0 Nq3
 obtain ⟨fs, hr, hrun, hended, hW, hsame⟩ := X3.leave (v := some (.int (nn >>> ((0 : Int32) &&& 31)))) (fun h => by rw [Bd.returns] at h; cases h)
 refine ⟨_, _, (pre0 _ ?_), hrun, hended, _, _, rfl, ?_, ⟨_, rfl⟩, hW, hsame.mono (by decide) (by decide)⟩
 ·show Steps p.tables e below (s₁.setTop (mkF m 0 #[.val (.ref x)] [])) _
  refine XS.aloadN X0.here hx rfl (hb hby d6_0) rfl rfl ?_
  refine st1 _ ?_
  refine X1.arraylength hx (by rw [e1]; exact Ar2.1) (State.isArrayOf_alike hZ.alike Ar2.2.1) (g := (mkF m 4 #[.val (.ref x)] [(.ref tv)])) rfl rfl (hb hby d6_4) _ ?_
  rw [len_of S2 M2]
  refine XS.aloadN X1.here hx rfl (hb hby d6_5) rfl rfl ?_
  refine st3.trans ?_
  refine XS.ishr X3.here hx rfl (hb hby d6_9) rfl ?_
  exact retI X3 hx Bd.returns (hb hby d6_10) hr
 ·show QLNL Z x tv nn qa qb qc qd qe qf qg k_tv cst h0 n0 _ T3.heap _
  rw [e3]
  exact ⟨(congrArg (fun w => some (Value.int w)) (own_shr0 _)), N3, rfl⟩
theorem d13_0 : decode jdk_42_method_154_code 0 = .ok (.getstatic 38, 3) := by decide +kernel
theorem d13_3 : decode jdk_42_method_154_code 3 = .ok (.ifCond .eq 14, 3) := by decide +kernel
theorem d13_6 : decode jdk_42_method_154_code 6 = .ok (.aload_n 0, 1) := by decide +kernel
theorem d13_7 : decode jdk_42_method_154_code 7 = .ok (.getfield 15, 3) := by decide +kernel
theorem d13_10 : decode jdk_42_method_154_code 10 = .ok (.ifCond .ne 7, 3) := by decide +kernel
theorem d13_13 : decode jdk_42_method_154_code 13 = .ok (.iconst 1, 1) := by decide +kernel
theorem d13_14 : decode jdk_42_method_154_code 14 = .ok (.goto 4, 3) := by decide +kernel
theorem d13_18 : decode jdk_42_method_154_code 18 = .ok (.ireturn, 1) := by decide +kernel
theorem efA17 (m : MethodId) (xo0_ : Addr) : entryFrame m #[(.ref xo0_)] 1 = mkF m 0 #[.val (.ref xo0_)] [] := by first | (simp [entryFrame, mkF, argsToLocals, Value.category]; done) | rfl
def QA17 (Z : State) (xo0_ : Addr) (uo1_ : Addr) (ui2_ : Int32) (h0 : Heap) (n0 : Nat) (v : Option Value) (h : Heap) (L : List Loc) : Prop := v = some (.int (1 : Int32)) ∧ Fr n0 L ∧ h = h0
set_option maxRecDepth 65536 in
set_option maxHeartbeats 40000000 in
theorem rmA17 (l : Launch) (Z : State) (a0 : Array Value) (hw : ∀ d ∈ tables_1, d.before a0 Z = true) (ws : List Jvm.Cond) (xo0_ : Addr) (uo1_ : Addr) (ui2_ : Int32) (h0 : Heap) (n0 : Nat) (Z0 : n0 ≤ h0.size) (E_xo0_ : Exa Z h0 xo0_ "java/lang/String") (F_value_xo0_ : Fld Z h0 xo0_ "java/lang/String" "value" "[B" (.ref uo1_)) (F_coder_xo0_ : Fld Z h0 xo0_ "java/lang/String" "coder" "B" (.int (0 : Int32))) (X00 : Old Z n0 h0) (S_COMPACT_STRINGS : Sta Z Z.heap "java/lang/String" "COMPACT_STRINGS" "Z" (.int ui2_)) (hp0_ : ¬ (ui2_ = (0 : Int32))) :
  MetFree l (⟨"java/lang/String", "isLatin1", "()Z"⟩ : MethodName) (head1 (Jvm.Cond.code (⟨"java/lang/String", "isLatin1", "()Z"⟩ : MethodName) jdk_42_method_154_code 1 (some .boolean) :: ws) ({ frames := 0, cells := 0, slots := 0, locals := 0 } : Room)) (fun av_ U => av_ = #[(.ref xo0_)] ∧ Z.Warmed39 U.vm ∧ U.heap = h0) (fun _ _ _ _ _ => True) (fun _ U o U' => ∃ v L, o = .returned v ∧ QA17 Z xo0_ uo1_ ui2_ h0 n0 v U'.heap L ∧ FrameEnd U o U' L ({ frames := 0, cells := 0, slots := 0, locals := 0 } : Room).cells ({ frames := 0, cells := 0, slots := 0, locals := 0 } : Room).slots) := by
 refine MetFree.of_bodySF (plainFor_of_name own_pn1) hisR ?_
 intro p e s m args below meth c s₁ Bd hml0 hP hK
 obtain ⟨rfl, hZ, hh⟩ := hP
 have hx := Bd.exec
 have hby := Bd.bytes
 have hml : c.maxLocals = 1 := hml0
 have hown : s.vm.findClass "java/lang/String" = some m.cls := findClass_of_methodNamed Bd.named
 have hnm := (name_of_methodNamed Bd.named Bd.method).1
 have X0 : Stand p l e ({ frames := 0, cells := 0, slots := 0, locals := 0 } : Room) s m #[(.ref xo0_)] below meth c s₁ [] 0 0 := Stand.of_body Bd
 have e0 : s₁.heap = h0 := by rw [← hh, Bd.state]; rfl
 have N0 := Fr.nil n0
 have pre0 : ∀ t, Steps p.tables e below (s₁.setTop (mkF m 0 #[.val (.ref xo0_)] [])) t → Steps p.tables e below (s₁.setTop (entryFrame m #[(.ref xo0_)] 1)) t := fun t k => castTop (efA17 m xo0_) k
 obtain ⟨T1, X1, e1, st1⟩ := getS2 X0 hx hZ hown (host := "") (Or.inl (Wd hw 41 rfl)) Via.refl e0 (S_COMPACT_STRINGS.ext X00.2) (g := (mkF m 0 #[.val (.ref xo0_)] [])) rfl (hb hby d13_0)
 obtain ⟨T2, X2, e2, st2⟩ := getF X1 hx hZ hown (host := "") (Or.inl (Wd hw 26 rfl)) Via.refl e1 F_coder_xo0_ (g := (mkF m 7 #[.val (.ref xo0_)] [(.ref xo0_)])) rfl rfl (hb hby d13_7)
 obtain ⟨fs, hr, hrun, hended, hW, hsame⟩ := X2.leave (v := some (.int (1 : Int32))) (fun h => by rw [Bd.returns] at h; cases h)
 refine ⟨_, _, (pre0 _ ?_), hrun, hended, _, _, rfl, ?_, ⟨_, rfl⟩, hW, hsame.mono (by decide) (by decide)⟩
 ·show Steps p.tables e below (s₁.setTop (mkF m 0 #[.val (.ref xo0_)] [])) _
  refine st1 _ ?_
  refine XS.ifNo X1.here hx rfl (hb hby d13_3) rfl ((if0 _ _).trans (feq hp0_).1) ?_
  refine XS.aloadN X1.here hx rfl (hb hby d13_6) rfl rfl ?_
  refine st2 _ ?_
  refine XS.ifNo X2.here hx rfl (hb hby d13_10) rfl ((if0 _ _).trans (teq (by decide : (0 : Int32) = (0 : Int32))).2) ?_
  refine XS.iconst X2.here hx rfl (hb hby d13_13) ?_
  refine XS.goto X2.here hx rfl (pc0 := 14) (pc' := 18) rfl (hb hby d13_14) (by decide) (by decide) ?_
  exact retN X2 hx (t := .boolean) Bd.returns (by simp) (hb hby d13_18) hr
 ·show QA17 Z xo0_ uo1_ ui2_ h0 n0 _ T2.heap _
  rw [e2]
  exact ⟨rfl, N0, rfl⟩
theorem own_pd10 : parseMethodDescriptor "()Z" = some ⟨[], some .boolean⟩ := by decide +kernel
theorem own_pd11 : parseMethodDescriptor "(II)V" = some ⟨[.int, .int], none⟩ := by decide +kernel
theorem own_pn3 : plainName "java/lang/StringLatin1" = true := by first | (simp [plainName, overriddenIn]; done) | decide +kernel
theorem d14_0 : decode jdk_43_method_2_code 0 = .ok (.iload_n 1, 1) := by decide +kernel
theorem d14_1 : decode jdk_43_method_2_code 1 = .ok (.aload_n 0, 1) := by decide +kernel
theorem d14_2 : decode jdk_43_method_2_code 2 = .ok (.arraylength, 1) := by decide +kernel
theorem d14_3 : decode jdk_43_method_2_code 3 = .ok (.invokestatic 9, 3) := by decide +kernel
theorem d14_6 : decode jdk_43_method_2_code 6 = .ok (.aload_n 0, 1) := by decide +kernel
theorem d14_7 : decode jdk_43_method_2_code 7 = .ok (.iload_n 1, 1) := by decide +kernel
theorem d14_8 : decode jdk_43_method_2_code 8 = .ok (.baload, 1) := by decide +kernel
theorem d14_9 : decode jdk_43_method_2_code 9 = .ok (.sipush 255, 3) := by decide +kernel
theorem d14_12 : decode jdk_43_method_2_code 12 = .ok (.iand, 1) := by decide +kernel
theorem d14_13 : decode jdk_43_method_2_code 13 = .ok (.i2c, 1) := by decide +kernel
theorem d14_14 : decode jdk_43_method_2_code 14 = .ok (.ireturn, 1) := by decide +kernel
theorem efA18 (m : MethodId) (xo0_ : Addr) : entryFrame m #[(.ref xo0_), (.int (0 : Int32))] 2 = mkF m 0 #[.val (.ref xo0_), .val (.int (0 : Int32))] [] := by first | (simp [entryFrame, mkF, argsToLocals, Value.category]; done) | rfl
def QA18 (Z : State) (xo0_ : Addr) (ui1_ : Int32) (ui2_ : Int32) (ui3_ : Int32) (ui4_ : Int32) (ui5_ : Int32) (ui6_ : Int32) (ui7_ : Int32) (ui8_ : Int32) (k_xo0_ : ClassId) (uv9_ : Value) (h0 : Heap) (n0 : Nat) (v : Option Value) (h : Heap) (L : List Loc) : Prop := v = some (.int ((ui2_ &&& (255 : Int32)).toUInt32.toUInt16.toUInt32.toInt32)) ∧ Fr n0 L ∧ h = h0
set_option maxRecDepth 65536 in
set_option maxHeartbeats 40000000 in
theorem rmA18 (l : Launch) (Z : State) (a0 : Array Value) (hw : ∀ d ∈ tables_1, d.before a0 Z = true) (ws : List Jvm.Cond) (xo0_ : Addr) (ui1_ : Int32) (ui2_ : Int32) (ui3_ : Int32) (ui4_ : Int32) (ui5_ : Int32) (ui6_ : Int32) (ui7_ : Int32) (ui8_ : Int32) (k_xo0_ : ClassId) (uv9_ : Value) (h0 : Heap) (n0 : Nat) (Z0 : n0 ≤ h0.size) (V_xo0_ : Arv Z h0 xo0_ k_xo0_ .byte ui1_ [(.int ui2_), (.int ui3_), (.int ui4_), (.int ui5_), (.int ui6_), (.int ui7_), (.int ui8_)] (.int (0 : Int32))) (X00 : Old Z n0 h0) (S_SIOOBE_FORMATTER : Sta Z Z.heap "jdk/internal/util/Preconditions" "SIOOBE_FORMATTER" "Ljava/util/function/BiFunction;" uv9_) (hp0_ : own_nr uv9_) (hp1_ : (0 : Int32) < ui1_) :
  MetFree l (⟨"java/lang/StringLatin1", "charAt", "([BI)C"⟩ : MethodName) (head1 (Jvm.Cond.code (⟨"java/lang/StringLatin1", "charAt", "([BI)C"⟩ : MethodName) jdk_43_method_2_code 2 (some .char) :: ws) ({ frames := 2, cells := 0, slots := 0, locals := 33 } : Room)) (fun av_ U => av_ = #[(.ref xo0_), (.int (0 : Int32))] ∧ Z.Warmed39 U.vm ∧ U.heap = h0) (fun _ _ _ _ _ => True) (fun _ U o U' => ∃ v L, o = .returned v ∧ QA18 Z xo0_ ui1_ ui2_ ui3_ ui4_ ui5_ ui6_ ui7_ ui8_ k_xo0_ uv9_ h0 n0 v U'.heap L ∧ FrameEnd U o U' L ({ frames := 2, cells := 0, slots := 0, locals := 33 } : Room).cells ({ frames := 2, cells := 0, slots := 0, locals := 33 } : Room).slots) := by
 refine MetFree.of_bodySF (plainFor_of_name own_pn3) hisR ?_
 intro p e s m args below meth c s₁ Bd hml0 hP hK
 obtain ⟨rfl, hZ, hh⟩ := hP
 have hx := Bd.exec
 have hby := Bd.bytes
 have hml : c.maxLocals = 2 := hml0
 have hown : s.vm.findClass "java/lang/StringLatin1" = some m.cls := findClass_of_methodNamed Bd.named
 have hnm := (name_of_methodNamed Bd.named Bd.method).1
 have X0 : Stand p l e ({ frames := 2, cells := 0, slots := 0, locals := 33 } : Room) s m #[(.ref xo0_), (.int (0 : Int32))] below meth c s₁ [] 0 0 := Stand.of_body Bd
 have e0 : s₁.heap = h0 := by rw [← hh, Bd.state]; rfl
 have N0 := Fr.nil n0
 have pre0 : ∀ t, Steps p.tables e below (s₁.setTop (mkF m 0 #[.val (.ref xo0_), .val (.int (0 : Int32))] [])) t → Steps p.tables e below (s₁.setTop (entryFrame m #[(.ref xo0_), (.int (0 : Int32))] 2)) t := fun t k => castTop (efA18 m xo0_) k
 obtain ⟨cl1, Ar1, q1, S1, M1, Hs1, G1⟩ := (id V_xo0_)
 obtain ⟨_, _, ⟨T2, L2, k2, n2⟩, -, X2, ⟨Lc2, hQ2, l2, y2, z2⟩, st2⟩ := Jvm.LawKit.callS X0 hx (y := (⟨"java/lang/String", "checkIndex", "(II)V"⟩ : MethodName)) hown (mvT hZ (Wd hw 70 rfl)) (mvT hZ (Wd hw 71 rfl)) (mvT hZ (Wd hw 8 rfl)) (mvT hZ (Wd hw 72 rfl)) (by decide) (backOf (W := 0) (rmXI l Z a0 hw [] (0 : Int32) ui1_ uv9_ h0 n0 Z0 X00 S_SIOOBE_FORMATTER hp0_ (by decide) hp1_) hZ (Wd hw 72 rfl) (Wd hw 8 rfl) (by decide) (by decide)) (g := (mkF m 3 #[.val (.ref xo0_), .val (.int (0 : Int32))] [(.int ui1_), (.int (0 : Int32))])) rfl (by rw [hml]; rfl) (argsL := [(.int (0 : Int32)), (.int ui1_)]) (rest := []) (lenOf own_pd11 rfl) rfl (by show 2 * 0 + _ ≤ _; exact Nat.le_of_eq rfl) (hb hby d14_3) (fun _ _ => ⟨rfl, e0, (by decide : 0 + 0 ≤ _), (by decide : 0 + 0 ≤ _)⟩)
 dsimp only [Pt.U, Pt.locs, Pt.cells, Pt.slots] at X2 l2 y2 z2 st2 hQ2
 subst l2 y2 z2
 obtain ⟨rfl, Nq2, e2⟩ := hQ2
 have N2 := Fr.app N0 Nq2
 obtain ⟨cl3, Ar3, q3, S3, M3, Hs3, G3⟩ := (id V_xo0_)
 have hin3 : ¬ ((0 : Int32) < 0 ∨ cl3.slots.size ≤ ((0 : Int32)).toNatClampNeg) := inb_of S3 ⟨by decide, hp1_⟩
 have hat3 : cl3.slots[((0 : Int32)).toNatClampNeg]? = some (.int ui2_) := Hs3.at hin3 rfl
 obtain ⟨fs, hr, hrun, hended, hW, hsame⟩ := X2.leave (v := some (.int (nar .char ((ui2_ &&& (255 : Int32)).toUInt32.toUInt16.toUInt32.toInt32)))) (fun h => by rw [Bd.returns] at h; cases h)
 refine ⟨_, _, (pre0 _ ?_), hrun, hended, _, _, rfl, ?_, ⟨_, rfl⟩, hW, hsame.mono (by decide) (by decide)⟩
 ·show Steps p.tables e below (s₁.setTop (mkF m 0 #[.val (.ref xo0_), .val (.int (0 : Int32))] [])) _
  refine XS.iloadN X0.here hx rfl (hb hby d14_0) rfl ?_
  refine XS.aloadN X0.here hx rfl (hb hby d14_1) rfl rfl ?_
  refine X0.arraylength hx (by rw [e0]; exact Ar1.1) (State.isArrayOf_alike hZ.alike Ar1.2.1) (g := (mkF m 2 #[.val (.ref xo0_), .val (.int (0 : Int32))] [(.ref xo0_), (.int (0 : Int32))])) rfl rfl (hb hby d14_2) _ ?_
  rw [len_of S1 M1]
  refine st2 _ ?_
  refine XS.aloadN X2.here hx rfl (hb hby d14_6) rfl rfl ?_
  refine XS.iloadN X2.here hx rfl (hb hby d14_7) rfl ?_
  refine X2.baloadBytes hx (j := (0 : Int32)) (v := (.int ui2_)) (by rw [e2]; exact Ar3.1) (State.isArrayOf_alike hZ.alike Ar3.2.1) Ar3.2.2 hin3 hat3 (g := (mkF m 8 #[.val (.ref xo0_), .val (.int (0 : Int32))] [(.int (0 : Int32)), (.ref xo0_)])) rfl rfl (hb hby d14_8) _ ?_
  refine XS.sipush X2.here hx rfl (hb hby d14_9) ?_
  refine XS.iand X2.here hx rfl (hb hby d14_12) rfl ?_
  refine XS.i2c X2.here hx rfl (hb hby d14_13) rfl ?_
  exact retN X2 hx (t := .char) Bd.returns (by simp) (hb hby d14_14) hr
 ·show QA18 Z xo0_ ui1_ ui2_ ui3_ ui4_ ui5_ ui6_ ui7_ ui8_ k_xo0_ uv9_ h0 n0 _ T2.heap _
  rw [e2]
  exact ⟨(congrArg (fun w => some (Value.int w)) (own_narc _)), N2, rfl⟩
theorem d12_0 : decode jdk_42_method_56_code 0 = .ok (.aload_n 0, 1) := by decide +kernel
theorem d12_1 : decode jdk_42_method_56_code 1 = .ok (.invokevirtual 492, 3) := by decide +kernel
theorem d12_4 : decode jdk_42_method_56_code 4 = .ok (.ifCond .eq 12, 3) := by decide +kernel
theorem d12_7 : decode jdk_42_method_56_code 7 = .ok (.aload_n 0, 1) := by decide +kernel
theorem d12_8 : decode jdk_42_method_56_code 8 = .ok (.getfield 9, 3) := by decide +kernel
theorem d12_11 : decode jdk_42_method_56_code 11 = .ok (.iload_n 1, 1) := by decide +kernel
theorem d12_12 : decode jdk_42_method_56_code 12 = .ok (.invokestatic 495, 3) := by decide +kernel
theorem d12_15 : decode jdk_42_method_56_code 15 = .ok (.ireturn, 1) := by decide +kernel
theorem efCHLa (m : MethodId) (x : Addr) : entryFrame m #[(.ref x), (.int (0 : Int32))] 2 = mkF m 0 #[.val (.ref x), .val (.int (0 : Int32))] [] := by first | (simp [entryFrame, mkF, argsToLocals, Value.category]; done) | rfl
def QCHLa (Z : State) (x : Addr) (tv : Addr) (nn : Int32) (qa : Int32) (qb : Int32) (qc : Int32) (qd : Int32) (qe : Int32) (qf : Int32) (qg : Int32) (k_tv : ClassId) (cst : Int32) (fm : Value) (h0 : Heap) (n0 : Nat) (v : Option Value) (h : Heap) (L : List Loc) : Prop := v = some (.int qa) ∧ Fr n0 L ∧ h = h0
set_option maxRecDepth 65536 in
set_option maxHeartbeats 40000000 in
theorem rmCHLa (l : Launch) (Z : State) (a0 : Array Value) (hw : ∀ d ∈ tables_1, d.before a0 Z = true) (ws : List Jvm.Cond) (x : Addr) (tv : Addr) (nn : Int32) (qa : Int32) (qb : Int32) (qc : Int32) (qd : Int32) (qe : Int32) (qf : Int32) (qg : Int32) (k_tv : ClassId) (cst : Int32) (fm : Value) (h0 : Heap) (n0 : Nat) (Z0 : n0 ≤ h0.size) (E_x : Exa Z h0 x "java/lang/String") (F_value_x : Fld Z h0 x "java/lang/String" "value" "[B" (.ref tv)) (F_coder_x : Fld Z h0 x "java/lang/String" "coder" "B" (.int (0 : Int32))) (V_tv : Arv Z h0 tv k_tv .byte nn [(.int qa.toInt8.toInt32), (.int qb.toInt8.toInt32), (.int qc.toInt8.toInt32), (.int qd.toInt8.toInt32), (.int qe.toInt8.toInt32), (.int qf.toInt8.toInt32), (.int qg.toInt8.toInt32)] (.int (0 : Int32))) (X00 : Old Z n0 h0) (S_COMPACT_STRINGS : Sta Z Z.heap "java/lang/String" "COMPACT_STRINGS" "Z" (.int cst)) (hcs : ¬ cst = (0 : Int32)) (hn : 0 ≤ nn.toInt ∧ nn.toInt ≤ 7) (S_SIOOBE_FORMATTER : Sta Z Z.heap "jdk/internal/util/Preconditions" "SIOOBE_FORMATTER" "Ljava/util/function/BiFunction;" fm) (hfm : own_nr fm) (hi : (0 : Int32) < nn) (hq : own_c16 qa) (hl : own_lat nn [qa, qb, qc, qd, qe, qf, qg]) :
  MetFree l (⟨"java/lang/String", "charAt", "(I)C"⟩ : MethodName) (head1 (Jvm.Cond.code (⟨"java/lang/String", "charAt", "(I)C"⟩ : MethodName) jdk_42_method_56_code 2 (some .char) :: ws) ({ frames := 4, cells := 0, slots := 0, locals := 60 } : Room)) (fun av_ U => av_ = #[(.ref x), (.int (0 : Int32))] ∧ Z.Warmed39 U.vm ∧ U.heap = h0) (fun _ _ _ _ _ => True) (fun _ U o U' => ∃ v L, o = .returned v ∧ QCHLa Z x tv nn qa qb qc qd qe qf qg k_tv cst fm h0 n0 v U'.heap L ∧ FrameEnd U o U' L ({ frames := 4, cells := 0, slots := 0, locals := 60 } : Room).cells ({ frames := 4, cells := 0, slots := 0, locals := 60 } : Room).slots) := by
 refine MetFree.of_bodySF (plainFor_of_name own_pn1) hisR ?_
 intro p e s m args below meth c s₁ Bd hml0 hP hK
 obtain ⟨rfl, hZ, hh⟩ := hP
 have hx := Bd.exec
 have hby := Bd.bytes
 have hml : c.maxLocals = 2 := hml0
 have hown : s.vm.findClass "java/lang/String" = some m.cls := findClass_of_methodNamed Bd.named
 have hnm := (name_of_methodNamed Bd.named Bd.method).1
 have X0 : Stand p l e ({ frames := 4, cells := 0, slots := 0, locals := 60 } : Room) s m #[(.ref x), (.int (0 : Int32))] below meth c s₁ [] 0 0 := Stand.of_body Bd
 have e0 : s₁.heap = h0 := by rw [← hh, Bd.state]; rfl
 have N0 := Fr.nil n0
 have pre0 : ∀ t, Steps p.tables e below (s₁.setTop (mkF m 0 #[.val (.ref x), .val (.int (0 : Int32))] [])) t → Steps p.tables e below (s₁.setTop (entryFrame m #[(.ref x), (.int (0 : Int32))] 2)) t := fun t k => castTop (efCHLa m x) k
 obtain ⟨cq1, kq1, q1a, q1b, q1c⟩ := isOf hZ e0 E_x
 obtain ⟨_, _, ⟨T1, L1, k1, n1⟩, -, X1, ⟨Lc1, hQ1, l1, y1, z1⟩, st1⟩ := X0.virtualBack hx (y := (⟨"java/lang/String", "isLatin1", "()Z"⟩ : MethodName)) (z := (⟨"java/lang/String", "isLatin1", "()Z"⟩ : MethodName)) hown (mvT hZ (Wd hw 61 rfl)) (mvT hZ (Wd hw 62 rfl)) (notFace_of_selects (args := #[]) (mvT hZ (Wd hw 64 rfl))) (mvT hZ (Wd hw 64 rfl)) (mvT hZ (Wd hw 63 rfl)) (by decide) (backOf (W := 0) (rmA17 l Z a0 hw [] x tv cst h0 n0 Z0 E_x F_value_x F_coder_x X00 S_COMPACT_STRINGS hcs) hZ (Wd hw 65 rfl) (Wd hw 8 rfl) (by decide) (by decide)) q1a q1c (g := (mkF m 1 #[.val (.ref x), .val (.int (0 : Int32))] [(.ref x)])) rfl (by rw [hml]; rfl) (Steps.refl _) (argsL := []) (rest := []) (lenOf own_pd10 rfl) rfl (by show 2 * 0 + _ ≤ _; exact Nat.le_of_eq rfl) (hb hby d12_1) (fun _ _ => ⟨rfl, e0, (by decide : 0 + 0 ≤ _), (by decide : 0 + 0 ≤ _)⟩)
 dsimp only [Pt.U, Pt.locs, Pt.cells, Pt.slots] at X1 l1 y1 z1 st1 hQ1
 subst l1 y1 z1
 obtain ⟨rfl, Nq1, e1⟩ := hQ1
 have N1 := Fr.app N0 Nq1
 obtain ⟨T2, X2, e2, st2⟩ := getF X1 hx hZ hown (host := "") (Or.inl (Wd hw 25 rfl)) Via.refl e1 F_value_x (g := (mkF m 8 #[.val (.ref x), .val (.int (0 : Int32))] [(.ref x)])) rfl rfl (hb hby d12_8)
 obtain ⟨_, _, ⟨T3, L3, k3, n3⟩, -, X3, ⟨Lc3, hQ3, l3, y3, z3⟩, st3⟩ := Jvm.LawKit.callS X2 hx (y := (⟨"java/lang/StringLatin1", "charAt", "([BI)C"⟩ : MethodName)) hown (mvT hZ (Wd hw 66 rfl)) (mvT hZ (Wd hw 67 rfl)) (mvT hZ (Wd hw 68 rfl)) (mvT hZ (Wd hw 69 rfl)) (by decide) (backOf (W := 0) (rmA18 l Z a0 hw [] tv nn qa.toInt8.toInt32 qb.toInt8.toInt32 qc.toInt8.toInt32 qd.toInt8.toInt32 qe.toInt8.toInt32 qf.toInt8.toInt32 qg.toInt8.toInt32 k_tv fm h0 n0 Z0 V_tv X00 S_SIOOBE_FORMATTER hfm hi) hZ (Wd hw 69 rfl) (Wd hw 68 rfl) (by decide) (by decide)) (g := (mkF m 12 #[.val (.ref x), .val (.int (0 : Int32))] [(.int (0 : Int32)), (.ref tv)])) rfl (by rw [hml]; rfl) (argsL := [(.ref tv), (.int (0 : Int32))]) (rest := []) (lenOf own_pd5 rfl) rfl (by show 2 * 0 + _ ≤ _; exact Nat.le_of_eq rfl) (hb hby d12_12) (fun _ _ => ⟨rfl, e2, (by decide : 0 + 0 ≤ _), (by decide : 0 + 0 ≤ _)⟩)
 dsimp only [Pt.U, Pt.locs, Pt.cells, Pt.slots] at X3 l3 y3 z3 st3 hQ3
 subst l3 y3 z3
 obtain ⟨rfl, Nq3, e3⟩ := hQ3
 have N3 := Fr.app N1 Nq3
 obtain ⟨fs, hr, hrun, hended, hW, hsame⟩ := X3.leave (v := some (.int (nar .char ((qa.toInt8.toInt32 &&& (255 : Int32)).toUInt32.toUInt16.toUInt32.toInt32)))) (fun h => by rw [Bd.returns] at h; cases h)
 refine ⟨_, _, (pre0 _ ?_), hrun, hended, _, _, rfl, ?_, ⟨_, rfl⟩, hW, hsame.mono (by decide) (by decide)⟩
 ·show Steps p.tables e below (s₁.setTop (mkF m 0 #[.val (.ref x), .val (.int (0 : Int32))] [])) _
  refine XS.aloadN X0.here hx rfl (hb hby d12_0) rfl rfl ?_
  refine st1.trans ?_
  refine XS.ifNo X1.here hx rfl (hb hby d12_4) rfl ((if0 _ _).trans (feq (by decide : ¬ ((1 : Int32) = (0 : Int32)))).1) ?_
  refine XS.aloadN X1.here hx rfl (hb hby d12_7) rfl rfl ?_
  refine st2 _ ?_
  refine XS.iloadN X2.here hx rfl (hb hby d12_11) rfl ?_
  refine st3 _ ?_
  exact retN X3 hx (t := .char) Bd.returns (by simp) (hb hby d12_15) hr
 ·show QCHLa Z x tv nn qa qb qc qd qe qf qg k_tv cst fm h0 n0 _ T3.heap _
  rw [e3]
  exact ⟨(congrArg (fun w => some (Value.int w)) (own_chL hq (hl 0 (own_lt hi (by decide))))), N3, rfl⟩
theorem efA19 (m : MethodId) (xo0_ : Addr) : entryFrame m #[(.ref xo0_), (.int (1 : Int32))] 2 = mkF m 0 #[.val (.ref xo0_), .val (.int (1 : Int32))] [] := by first | (simp [entryFrame, mkF, argsToLocals, Value.category]; done) | rfl
def QA19 (Z : State) (xo0_ : Addr) (ui1_ : Int32) (ui2_ : Int32) (ui3_ : Int32) (ui4_ : Int32) (ui5_ : Int32) (ui6_ : Int32) (ui7_ : Int32) (ui8_ : Int32) (k_xo0_ : ClassId) (uv9_ : Value) (h0 : Heap) (n0 : Nat) (v : Option Value) (h : Heap) (L : List Loc) : Prop := v = some (.int ((ui3_ &&& (255 : Int32)).toUInt32.toUInt16.toUInt32.toInt32)) ∧ Fr n0 L ∧ h = h0
set_option maxRecDepth 65536 in
set_option maxHeartbeats 40000000 in
theorem rmA19 (l : Launch) (Z : State) (a0 : Array Value) (hw : ∀ d ∈ tables_1, d.before a0 Z = true) (ws : List Jvm.Cond) (xo0_ : Addr) (ui1_ : Int32) (ui2_ : Int32) (ui3_ : Int32) (ui4_ : Int32) (ui5_ : Int32) (ui6_ : Int32) (ui7_ : Int32) (ui8_ : Int32) (k_xo0_ : ClassId) (uv9_ : Value) (h0 : Heap) (n0 : Nat) (Z0 : n0 ≤ h0.size) (V_xo0_ : Arv Z h0 xo0_ k_xo0_ .byte ui1_ [(.int ui2_), (.int ui3_), (.int ui4_), (.int ui5_), (.int ui6_), (.int ui7_), (.int ui8_)] (.int (0 : Int32))) (X00 : Old Z n0 h0) (S_SIOOBE_FORMATTER : Sta Z Z.heap "jdk/internal/util/Preconditions" "SIOOBE_FORMATTER" "Ljava/util/function/BiFunction;" uv9_) (hp0_ : own_nr uv9_) (hp1_ : (1 : Int32) < ui1_) :
  MetFree l (⟨"java/lang/StringLatin1", "charAt", "([BI)C"⟩ : MethodName) (head1 (Jvm.Cond.code (⟨"java/lang/StringLatin1", "charAt", "([BI)C"⟩ : MethodName) jdk_43_method_2_code 2 (some .char) :: ws) ({ frames := 2, cells := 0, slots := 0, locals := 33 } : Room)) (fun av_ U => av_ = #[(.ref xo0_), (.int (1 : Int32))] ∧ Z.Warmed39 U.vm ∧ U.heap = h0) (fun _ _ _ _ _ => True) (fun _ U o U' => ∃ v L, o = .returned v ∧ QA19 Z xo0_ ui1_ ui2_ ui3_ ui4_ ui5_ ui6_ ui7_ ui8_ k_xo0_ uv9_ h0 n0 v U'.heap L ∧ FrameEnd U o U' L ({ frames := 2, cells := 0, slots := 0, locals := 33 } : Room).cells ({ frames := 2, cells := 0, slots := 0, locals := 33 } : Room).slots) := by
 refine MetFree.of_bodySF (plainFor_of_name own_pn3) hisR ?_
 intro p e s m args below meth c s₁ Bd hml0 hP hK
 obtain ⟨rfl, hZ, hh⟩ := hP
 have hx := Bd.exec
 have hby := Bd.bytes
 have hml : c.maxLocals = 2 := hml0
 have hown : s.vm.findClass "java/lang/StringLatin1" = some m.cls := findClass_of_methodNamed Bd.named
 have hnm := (name_of_methodNamed Bd.named Bd.method).1
 have X0 : Stand p l e ({ frames := 2, cells := 0, slots := 0, locals := 33 } : Room) s m #[(.ref xo0_), (.int (1 : Int32))] below meth c s₁ [] 0 0 := Stand.of_body Bd
 have e0 : s₁.heap = h0 := by rw [← hh, Bd.state]; rfl
 have N0 := Fr.nil n0
 have pre0 : ∀ t, Steps p.tables e below (s₁.setTop (mkF m 0 #[.val (.ref xo0_), .val (.int (1 : Int32))] [])) t → Steps p.tables e below (s₁.setTop (entryFrame m #[(.ref xo0_), (.int (1 : Int32))] 2)) t := fun t k => castTop (efA19 m xo0_) k
 obtain ⟨cl1, Ar1, q1, S1, M1, Hs1, G1⟩ := (id V_xo0_)
 obtain ⟨_, _, ⟨T2, L2, k2, n2⟩, -, X2, ⟨Lc2, hQ2, l2, y2, z2⟩, st2⟩ := Jvm.LawKit.callS X0 hx (y := (⟨"java/lang/String", "checkIndex", "(II)V"⟩ : MethodName)) hown (mvT hZ (Wd hw 70 rfl)) (mvT hZ (Wd hw 71 rfl)) (mvT hZ (Wd hw 8 rfl)) (mvT hZ (Wd hw 72 rfl)) (by decide) (backOf (W := 0) (rmXI l Z a0 hw [] (1 : Int32) ui1_ uv9_ h0 n0 Z0 X00 S_SIOOBE_FORMATTER hp0_ (by decide) hp1_) hZ (Wd hw 72 rfl) (Wd hw 8 rfl) (by decide) (by decide)) (g := (mkF m 3 #[.val (.ref xo0_), .val (.int (1 : Int32))] [(.int ui1_), (.int (1 : Int32))])) rfl (by rw [hml]; rfl) (argsL := [(.int (1 : Int32)), (.int ui1_)]) (rest := []) (lenOf own_pd11 rfl) rfl (by show 2 * 0 + _ ≤ _; exact Nat.le_of_eq rfl) (hb hby d14_3) (fun _ _ => ⟨rfl, e0, (by decide : 0 + 0 ≤ _), (by decide : 0 + 0 ≤ _)⟩)
 dsimp only [Pt.U, Pt.locs, Pt.cells, Pt.slots] at X2 l2 y2 z2 st2 hQ2
 subst l2 y2 z2
 obtain ⟨rfl, Nq2, e2⟩ := hQ2
 have N2 := Fr.app N0 Nq2
 obtain ⟨cl3, Ar3, q3, S3, M3, Hs3, G3⟩ := (id V_xo0_)
 have hin3 : ¬ ((1 : Int32) < 0 ∨ cl3.slots.size ≤ ((1 : Int32)).toNatClampNeg) := inb_of S3 ⟨by decide, hp1_⟩
 have hat3 : cl3.slots[((1 : Int32)).toNatClampNeg]? = some (.int ui3_) := Hs3.at hin3 rfl
 obtain ⟨fs, hr, hrun, hended, hW, hsame⟩ := X2.leave (v := some (.int (nar .char ((ui3_ &&& (255 : Int32)).toUInt32.toUInt16.toUInt32.toInt32)))) (fun h => by rw [Bd.returns] at h; cases h)
 refine ⟨_, _, (pre0 _ ?_), hrun, hended, _, _, rfl, ?_, ⟨_, rfl⟩, hW, hsame.mono (by decide) (by decide)⟩
 ·show Steps p.tables e below (s₁.setTop (mkF m 0 #[.val (.ref xo0_), .val (.int (1 : Int32))] [])) _
  refine XS.iloadN X0.here hx rfl (hb hby d14_0) rfl ?_
  refine XS.aloadN X0.here hx rfl (hb hby d14_1) rfl rfl ?_
  refine X0.arraylength hx (by rw [e0]; exact Ar1.1) (State.isArrayOf_alike hZ.alike Ar1.2.1) (g := (mkF m 2 #[.val (.ref xo0_), .val (.int (1 : Int32))] [(.ref xo0_), (.int (1 : Int32))])) rfl rfl (hb hby d14_2) _ ?_
  rw [len_of S1 M1]
  refine st2 _ ?_
  refine XS.aloadN X2.here hx rfl (hb hby d14_6) rfl rfl ?_
  refine XS.iloadN X2.here hx rfl (hb hby d14_7) rfl ?_
  refine X2.baloadBytes hx (j := (1 : Int32)) (v := (.int ui3_)) (by rw [e2]; exact Ar3.1) (State.isArrayOf_alike hZ.alike Ar3.2.1) Ar3.2.2 hin3 hat3 (g := (mkF m 8 #[.val (.ref xo0_), .val (.int (1 : Int32))] [(.int (1 : Int32)), (.ref xo0_)])) rfl rfl (hb hby d14_8) _ ?_
  refine XS.sipush X2.here hx rfl (hb hby d14_9) ?_
  refine XS.iand X2.here hx rfl (hb hby d14_12) rfl ?_
  refine XS.i2c X2.here hx rfl (hb hby d14_13) rfl ?_
  exact retN X2 hx (t := .char) Bd.returns (by simp) (hb hby d14_14) hr
 ·show QA19 Z xo0_ ui1_ ui2_ ui3_ ui4_ ui5_ ui6_ ui7_ ui8_ k_xo0_ uv9_ h0 n0 _ T2.heap _
  rw [e2]
  exact ⟨(congrArg (fun w => some (Value.int w)) (own_narc _)), N2, rfl⟩
theorem efCHLb (m : MethodId) (x : Addr) : entryFrame m #[(.ref x), (.int (1 : Int32))] 2 = mkF m 0 #[.val (.ref x), .val (.int (1 : Int32))] [] := by first | (simp [entryFrame, mkF, argsToLocals, Value.category]; done) | rfl
def QCHLb (Z : State) (x : Addr) (tv : Addr) (nn : Int32) (qa : Int32) (qb : Int32) (qc : Int32) (qd : Int32) (qe : Int32) (qf : Int32) (qg : Int32) (k_tv : ClassId) (cst : Int32) (fm : Value) (h0 : Heap) (n0 : Nat) (v : Option Value) (h : Heap) (L : List Loc) : Prop := v = some (.int qb) ∧ Fr n0 L ∧ h = h0
set_option maxRecDepth 65536 in
set_option maxHeartbeats 40000000 in
theorem rmCHLb (l : Launch) (Z : State) (a0 : Array Value) (hw : ∀ d ∈ tables_1, d.before a0 Z = true) (ws : List Jvm.Cond) (x : Addr) (tv : Addr) (nn : Int32) (qa : Int32) (qb : Int32) (qc : Int32) (qd : Int32) (qe : Int32) (qf : Int32) (qg : Int32) (k_tv : ClassId) (cst : Int32) (fm : Value) (h0 : Heap) (n0 : Nat) (Z0 : n0 ≤ h0.size) (E_x : Exa Z h0 x "java/lang/String") (F_value_x : Fld Z h0 x "java/lang/String" "value" "[B" (.ref tv)) (F_coder_x : Fld Z h0 x "java/lang/String" "coder" "B" (.int (0 : Int32))) (V_tv : Arv Z h0 tv k_tv .byte nn [(.int qa.toInt8.toInt32), (.int qb.toInt8.toInt32), (.int qc.toInt8.toInt32), (.int qd.toInt8.toInt32), (.int qe.toInt8.toInt32), (.int qf.toInt8.toInt32), (.int qg.toInt8.toInt32)] (.int (0 : Int32))) (X00 : Old Z n0 h0) (S_COMPACT_STRINGS : Sta Z Z.heap "java/lang/String" "COMPACT_STRINGS" "Z" (.int cst)) (hcs : ¬ cst = (0 : Int32)) (hn : 0 ≤ nn.toInt ∧ nn.toInt ≤ 7) (S_SIOOBE_FORMATTER : Sta Z Z.heap "jdk/internal/util/Preconditions" "SIOOBE_FORMATTER" "Ljava/util/function/BiFunction;" fm) (hfm : own_nr fm) (hi : (1 : Int32) < nn) (hq : own_c16 qb) (hl : own_lat nn [qa, qb, qc, qd, qe, qf, qg]) :
  MetFree l (⟨"java/lang/String", "charAt", "(I)C"⟩ : MethodName) (head1 (Jvm.Cond.code (⟨"java/lang/String", "charAt", "(I)C"⟩ : MethodName) jdk_42_method_56_code 2 (some .char) :: ws) ({ frames := 4, cells := 0, slots := 0, locals := 60 } : Room)) (fun av_ U => av_ = #[(.ref x), (.int (1 : Int32))] ∧ Z.Warmed39 U.vm ∧ U.heap = h0) (fun _ _ _ _ _ => True) (fun _ U o U' => ∃ v L, o = .returned v ∧ QCHLb Z x tv nn qa qb qc qd qe qf qg k_tv cst fm h0 n0 v U'.heap L ∧ FrameEnd U o U' L ({ frames := 4, cells := 0, slots := 0, locals := 60 } : Room).cells ({ frames := 4, cells := 0, slots := 0, locals := 60 } : Room).slots) := by
 refine MetFree.of_bodySF (plainFor_of_name own_pn1) hisR ?_
 intro p e s m args below meth c s₁ Bd hml0 hP hK
 obtain ⟨rfl, hZ, hh⟩ := hP
 have hx := Bd.exec
 have hby := Bd.bytes
 have hml : c.maxLocals = 2 := hml0
 have hown : s.vm.findClass "java/lang/String" = some m.cls := findClass_of_methodNamed Bd.named
 have hnm := (name_of_methodNamed Bd.named Bd.method).1
 have X0 : Stand p l e ({ frames := 4, cells := 0, slots := 0, locals := 60 } : Room) s m #[(.ref x), (.int (1 : Int32))] below meth c s₁ [] 0 0 := Stand.of_body Bd
 have e0 : s₁.heap = h0 := by rw [← hh, Bd.state]; rfl
 have N0 := Fr.nil n0
 have pre0 : ∀ t, Steps p.tables e below (s₁.setTop (mkF m 0 #[.val (.ref x), .val (.int (1 : Int32))] [])) t → Steps p.tables e below (s₁.setTop (entryFrame m #[(.ref x), (.int (1 : Int32))] 2)) t := fun t k => castTop (efCHLb m x) k
 obtain ⟨cq1, kq1, q1a, q1b, q1c⟩ := isOf hZ e0 E_x
 obtain ⟨_, _, ⟨T1, L1, k1, n1⟩, -, X1, ⟨Lc1, hQ1, l1, y1, z1⟩, st1⟩ := X0.virtualBack hx (y := (⟨"java/lang/String", "isLatin1", "()Z"⟩ : MethodName)) (z := (⟨"java/lang/String", "isLatin1", "()Z"⟩ : MethodName)) hown (mvT hZ (Wd hw 61 rfl)) (mvT hZ (Wd hw 62 rfl)) (notFace_of_selects (args := #[]) (mvT hZ (Wd hw 64 rfl))) (mvT hZ (Wd hw 64 rfl)) (mvT hZ (Wd hw 63 rfl)) (by decide) (backOf (W := 0) (rmA17 l Z a0 hw [] x tv cst h0 n0 Z0 E_x F_value_x F_coder_x X00 S_COMPACT_STRINGS hcs) hZ (Wd hw 65 rfl) (Wd hw 8 rfl) (by decide) (by decide)) q1a q1c (g := (mkF m 1 #[.val (.ref x), .val (.int (1 : Int32))] [(.ref x)])) rfl (by rw [hml]; rfl) (Steps.refl _) (argsL := []) (rest := []) (lenOf own_pd10 rfl) rfl (by show 2 * 0 + _ ≤ _; exact Nat.le_of_eq rfl) (hb hby d12_1) (fun _ _ => ⟨rfl, e0, (by decide : 0 + 0 ≤ _), (by decide : 0 + 0 ≤ _)⟩)
 dsimp only [Pt.U, Pt.locs, Pt.cells, Pt.slots] at X1 l1 y1 z1 st1 hQ1
 subst l1 y1 z1
 obtain ⟨rfl, Nq1, e1⟩ := hQ1
 have N1 := Fr.app N0 Nq1
 obtain ⟨T2, X2, e2, st2⟩ := getF X1 hx hZ hown (host := "") (Or.inl (Wd hw 25 rfl)) Via.refl e1 F_value_x (g := (mkF m 8 #[.val (.ref x), .val (.int (1 : Int32))] [(.ref x)])) rfl rfl (hb hby d12_8)
 obtain ⟨_, _, ⟨T3, L3, k3, n3⟩, -, X3, ⟨Lc3, hQ3, l3, y3, z3⟩, st3⟩ := Jvm.LawKit.callS X2 hx (y := (⟨"java/lang/StringLatin1", "charAt", "([BI)C"⟩ : MethodName)) hown (mvT hZ (Wd hw 66 rfl)) (mvT hZ (Wd hw 67 rfl)) (mvT hZ (Wd hw 68 rfl)) (mvT hZ (Wd hw 69 rfl)) (by decide) (backOf (W := 0) (rmA19 l Z a0 hw [] tv nn qa.toInt8.toInt32 qb.toInt8.toInt32 qc.toInt8.toInt32 qd.toInt8.toInt32 qe.toInt8.toInt32 qf.toInt8.toInt32 qg.toInt8.toInt32 k_tv fm h0 n0 Z0 V_tv X00 S_SIOOBE_FORMATTER hfm hi) hZ (Wd hw 69 rfl) (Wd hw 68 rfl) (by decide) (by decide)) (g := (mkF m 12 #[.val (.ref x), .val (.int (1 : Int32))] [(.int (1 : Int32)), (.ref tv)])) rfl (by rw [hml]; rfl) (argsL := [(.ref tv), (.int (1 : Int32))]) (rest := []) (lenOf own_pd5 rfl) rfl (by show 2 * 0 + _ ≤ _; exact Nat.le_of_eq rfl) (hb hby d12_12) (fun _ _ => ⟨rfl, e2, (by decide : 0 + 0 ≤ _), (by decide : 0 + 0 ≤ _)⟩)
 dsimp only [Pt.U, Pt.locs, Pt.cells, Pt.slots] at X3 l3 y3 z3 st3 hQ3
 subst l3 y3 z3
 obtain ⟨rfl, Nq3, e3⟩ := hQ3
 have N3 := Fr.app N1 Nq3
 obtain ⟨fs, hr, hrun, hended, hW, hsame⟩ := X3.leave (v := some (.int (nar .char ((qb.toInt8.toInt32 &&& (255 : Int32)).toUInt32.toUInt16.toUInt32.toInt32)))) (fun h => by rw [Bd.returns] at h; cases h)
 refine ⟨_, _, (pre0 _ ?_), hrun, hended, _, _, rfl, ?_, ⟨_, rfl⟩, hW, hsame.mono (by decide) (by decide)⟩
 ·show Steps p.tables e below (s₁.setTop (mkF m 0 #[.val (.ref x), .val (.int (1 : Int32))] [])) _
  refine XS.aloadN X0.here hx rfl (hb hby d12_0) rfl rfl ?_
  refine st1.trans ?_
  refine XS.ifNo X1.here hx rfl (hb hby d12_4) rfl ((if0 _ _).trans (feq (by decide : ¬ ((1 : Int32) = (0 : Int32)))).1) ?_
  refine XS.aloadN X1.here hx rfl (hb hby d12_7) rfl rfl ?_
  refine st2 _ ?_
  refine XS.iloadN X2.here hx rfl (hb hby d12_11) rfl ?_
  refine st3 _ ?_
  exact retN X3 hx (t := .char) Bd.returns (by simp) (hb hby d12_15) hr
 ·show QCHLb Z x tv nn qa qb qc qd qe qf qg k_tv cst fm h0 n0 _ T3.heap _
  rw [e3]
  exact ⟨(congrArg (fun w => some (Value.int w)) (own_chL hq (hl 1 (own_lt hi (by decide))))), N3, rfl⟩
theorem efA20 (m : MethodId) (xo0_ : Addr) : entryFrame m #[(.ref xo0_), (.int (2 : Int32))] 2 = mkF m 0 #[.val (.ref xo0_), .val (.int (2 : Int32))] [] := by first | (simp [entryFrame, mkF, argsToLocals, Value.category]; done) | rfl
def QA20 (Z : State) (xo0_ : Addr) (ui1_ : Int32) (ui2_ : Int32) (ui3_ : Int32) (ui4_ : Int32) (ui5_ : Int32) (ui6_ : Int32) (ui7_ : Int32) (ui8_ : Int32) (k_xo0_ : ClassId) (uv9_ : Value) (h0 : Heap) (n0 : Nat) (v : Option Value) (h : Heap) (L : List Loc) : Prop := v = some (.int ((ui4_ &&& (255 : Int32)).toUInt32.toUInt16.toUInt32.toInt32)) ∧ Fr n0 L ∧ h = h0
set_option maxRecDepth 65536 in
set_option maxHeartbeats 40000000 in
theorem rmA20 (l : Launch) (Z : State) (a0 : Array Value) (hw : ∀ d ∈ tables_1, d.before a0 Z = true) (ws : List Jvm.Cond) (xo0_ : Addr) (ui1_ : Int32) (ui2_ : Int32) (ui3_ : Int32) (ui4_ : Int32) (ui5_ : Int32) (ui6_ : Int32) (ui7_ : Int32) (ui8_ : Int32) (k_xo0_ : ClassId) (uv9_ : Value) (h0 : Heap) (n0 : Nat) (Z0 : n0 ≤ h0.size) (V_xo0_ : Arv Z h0 xo0_ k_xo0_ .byte ui1_ [(.int ui2_), (.int ui3_), (.int ui4_), (.int ui5_), (.int ui6_), (.int ui7_), (.int ui8_)] (.int (0 : Int32))) (X00 : Old Z n0 h0) (S_SIOOBE_FORMATTER : Sta Z Z.heap "jdk/internal/util/Preconditions" "SIOOBE_FORMATTER" "Ljava/util/function/BiFunction;" uv9_) (hp0_ : own_nr uv9_) (hp1_ : (2 : Int32) < ui1_) :
  MetFree l (⟨"java/lang/StringLatin1", "charAt", "([BI)C"⟩ : MethodName) (head1 (Jvm.Cond.code (⟨"java/lang/StringLatin1", "charAt", "([BI)C"⟩ : MethodName) jdk_43_method_2_code 2 (some .char) :: ws) ({ frames := 2, cells := 0, slots := 0, locals := 33 } : Room)) (fun av_ U => av_ = #[(.ref xo0_), (.int (2 : Int32))] ∧ Z.Warmed39 U.vm ∧ U.heap = h0) (fun _ _ _ _ _ => True) (fun _ U o U' => ∃ v L, o = .returned v ∧ QA20 Z xo0_ ui1_ ui2_ ui3_ ui4_ ui5_ ui6_ ui7_ ui8_ k_xo0_ uv9_ h0 n0 v U'.heap L ∧ FrameEnd U o U' L ({ frames := 2, cells := 0, slots := 0, locals := 33 } : Room).cells ({ frames := 2, cells := 0, slots := 0, locals := 33 } : Room).slots) := by
 refine MetFree.of_bodySF (plainFor_of_name own_pn3) hisR ?_
 intro p e s m args below meth c s₁ Bd hml0 hP hK
 obtain ⟨rfl, hZ, hh⟩ := hP
 have hx := Bd.exec
 have hby := Bd.bytes
 have hml : c.maxLocals = 2 := hml0
 have hown : s.vm.findClass "java/lang/StringLatin1" = some m.cls := findClass_of_methodNamed Bd.named
 have hnm := (name_of_methodNamed Bd.named Bd.method).1
 have X0 : Stand p l e ({ frames := 2, cells := 0, slots := 0, locals := 33 } : Room) s m #[(.ref xo0_), (.int (2 : Int32))] below meth c s₁ [] 0 0 := Stand.of_body Bd
 have e0 : s₁.heap = h0 := by rw [← hh, Bd.state]; rfl
 have N0 := Fr.nil n0
 have pre0 : ∀ t, Steps p.tables e below (s₁.setTop (mkF m 0 #[.val (.ref xo0_), .val (.int (2 : Int32))] [])) t → Steps p.tables e below (s₁.setTop (entryFrame m #[(.ref xo0_), (.int (2 : Int32))] 2)) t := fun t k => castTop (efA20 m xo0_) k
 obtain ⟨cl1, Ar1, q1, S1, M1, Hs1, G1⟩ := (id V_xo0_)
 obtain ⟨_, _, ⟨T2, L2, k2, n2⟩, -, X2, ⟨Lc2, hQ2, l2, y2, z2⟩, st2⟩ := Jvm.LawKit.callS X0 hx (y := (⟨"java/lang/String", "checkIndex", "(II)V"⟩ : MethodName)) hown (mvT hZ (Wd hw 70 rfl)) (mvT hZ (Wd hw 71 rfl)) (mvT hZ (Wd hw 8 rfl)) (mvT hZ (Wd hw 72 rfl)) (by decide) (backOf (W := 0) (rmXI l Z a0 hw [] (2 : Int32) ui1_ uv9_ h0 n0 Z0 X00 S_SIOOBE_FORMATTER hp0_ (by decide) hp1_) hZ (Wd hw 72 rfl) (Wd hw 8 rfl) (by decide) (by decide)) (g := (mkF m 3 #[.val (.ref xo0_), .val (.int (2 : Int32))] [(.int ui1_), (.int (2 : Int32))])) rfl (by rw [hml]; rfl) (argsL := [(.int (2 : Int32)), (.int ui1_)]) (rest := []) (lenOf own_pd11 rfl) rfl (by show 2 * 0 + _ ≤ _; exact Nat.le_of_eq rfl) (hb hby d14_3) (fun _ _ => ⟨rfl, e0, (by decide : 0 + 0 ≤ _), (by decide : 0 + 0 ≤ _)⟩)
 dsimp only [Pt.U, Pt.locs, Pt.cells, Pt.slots] at X2 l2 y2 z2 st2 hQ2
 subst l2 y2 z2
 obtain ⟨rfl, Nq2, e2⟩ := hQ2
 have N2 := Fr.app N0 Nq2
 obtain ⟨cl3, Ar3, q3, S3, M3, Hs3, G3⟩ := (id V_xo0_)
 have hin3 : ¬ ((2 : Int32) < 0 ∨ cl3.slots.size ≤ ((2 : Int32)).toNatClampNeg) := inb_of S3 ⟨by decide, hp1_⟩
 have hat3 : cl3.slots[((2 : Int32)).toNatClampNeg]? = some (.int ui4_) := Hs3.at hin3 rfl
 obtain ⟨fs, hr, hrun, hended, hW, hsame⟩ := X2.leave (v := some (.int (nar .char ((ui4_ &&& (255 : Int32)).toUInt32.toUInt16.toUInt32.toInt32)))) (fun h => by rw [Bd.returns] at h; cases h)
 refine ⟨_, _, (pre0 _ ?_), hrun, hended, _, _, rfl, ?_, ⟨_, rfl⟩, hW, hsame.mono (by decide) (by decide)⟩
 ·show Steps p.tables e below (s₁.setTop (mkF m 0 #[.val (.ref xo0_), .val (.int (2 : Int32))] [])) _
  refine XS.iloadN X0.here hx rfl (hb hby d14_0) rfl ?_
  refine XS.aloadN X0.here hx rfl (hb hby d14_1) rfl rfl ?_
  refine X0.arraylength hx (by rw [e0]; exact Ar1.1) (State.isArrayOf_alike hZ.alike Ar1.2.1) (g := (mkF m 2 #[.val (.ref xo0_), .val (.int (2 : Int32))] [(.ref xo0_), (.int (2 : Int32))])) rfl rfl (hb hby d14_2) _ ?_
  rw [len_of S1 M1]
  refine st2 _ ?_
  refine XS.aloadN X2.here hx rfl (hb hby d14_6) rfl rfl ?_
  refine XS.iloadN X2.here hx rfl (hb hby d14_7) rfl ?_
  refine X2.baloadBytes hx (j := (2 : Int32)) (v := (.int ui4_)) (by rw [e2]; exact Ar3.1) (State.isArrayOf_alike hZ.alike Ar3.2.1) Ar3.2.2 hin3 hat3 (g := (mkF m 8 #[.val (.ref xo0_), .val (.int (2 : Int32))] [(.int (2 : Int32)), (.ref xo0_)])) rfl rfl (hb hby d14_8) _ ?_
  refine XS.sipush X2.here hx rfl (hb hby d14_9) ?_
  refine XS.iand X2.here hx rfl (hb hby d14_12) rfl ?_
  refine XS.i2c X2.here hx rfl (hb hby d14_13) rfl ?_
  exact retN X2 hx (t := .char) Bd.returns (by simp) (hb hby d14_14) hr
 ·show QA20 Z xo0_ ui1_ ui2_ ui3_ ui4_ ui5_ ui6_ ui7_ ui8_ k_xo0_ uv9_ h0 n0 _ T2.heap _
  rw [e2]
  exact ⟨(congrArg (fun w => some (Value.int w)) (own_narc _)), N2, rfl⟩
theorem efCHLc (m : MethodId) (x : Addr) : entryFrame m #[(.ref x), (.int (2 : Int32))] 2 = mkF m 0 #[.val (.ref x), .val (.int (2 : Int32))] [] := by first | (simp [entryFrame, mkF, argsToLocals, Value.category]; done) | rfl
def QCHLc (Z : State) (x : Addr) (tv : Addr) (nn : Int32) (qa : Int32) (qb : Int32) (qc : Int32) (qd : Int32) (qe : Int32) (qf : Int32) (qg : Int32) (k_tv : ClassId) (cst : Int32) (fm : Value) (h0 : Heap) (n0 : Nat) (v : Option Value) (h : Heap) (L : List Loc) : Prop := v = some (.int qc) ∧ Fr n0 L ∧ h = h0
set_option maxRecDepth 65536 in
set_option maxHeartbeats 40000000 in
theorem rmCHLc (l : Launch) (Z : State) (a0 : Array Value) (hw : ∀ d ∈ tables_1, d.before a0 Z = true) (ws : List Jvm.Cond) (x : Addr) (tv : Addr) (nn : Int32) (qa : Int32) (qb : Int32) (qc : Int32) (qd : Int32) (qe : Int32) (qf : Int32) (qg : Int32) (k_tv : ClassId) (cst : Int32) (fm : Value) (h0 : Heap) (n0 : Nat) (Z0 : n0 ≤ h0.size) (E_x : Exa Z h0 x "java/lang/String") (F_value_x : Fld Z h0 x "java/lang/String" "value" "[B" (.ref tv)) (F_coder_x : Fld Z h0 x "java/lang/String" "coder" "B" (.int (0 : Int32))) (V_tv : Arv Z h0 tv k_tv .byte nn [(.int qa.toInt8.toInt32), (.int qb.toInt8.toInt32), (.int qc.toInt8.toInt32), (.int qd.toInt8.toInt32), (.int qe.toInt8.toInt32), (.int qf.toInt8.toInt32), (.int qg.toInt8.toInt32)] (.int (0 : Int32))) (X00 : Old Z n0 h0) (S_COMPACT_STRINGS : Sta Z Z.heap "java/lang/String" "COMPACT_STRINGS" "Z" (.int cst)) (hcs : ¬ cst = (0 : Int32)) (hn : 0 ≤ nn.toInt ∧ nn.toInt ≤ 7) (S_SIOOBE_FORMATTER : Sta Z Z.heap "jdk/internal/util/Preconditions" "SIOOBE_FORMATTER" "Ljava/util/function/BiFunction;" fm) (hfm : own_nr fm) (hi : (2 : Int32) < nn) (hq : own_c16 qc) (hl : own_lat nn [qa, qb, qc, qd, qe, qf, qg]) :
  MetFree l (⟨"java/lang/String", "charAt", "(I)C"⟩ : MethodName) (head1 (Jvm.Cond.code (⟨"java/lang/String", "charAt", "(I)C"⟩ : MethodName) jdk_42_method_56_code 2 (some .char) :: ws) ({ frames := 4, cells := 0, slots := 0, locals := 60 } : Room)) (fun av_ U => av_ = #[(.ref x), (.int (2 : Int32))] ∧ Z.Warmed39 U.vm ∧ U.heap = h0) (fun _ _ _ _ _ => True) (fun _ U o U' => ∃ v L, o = .returned v ∧ QCHLc Z x tv nn qa qb qc qd qe qf qg k_tv cst fm h0 n0 v U'.heap L ∧ FrameEnd U o U' L ({ frames := 4, cells := 0, slots := 0, locals := 60 } : Room).cells ({ frames := 4, cells := 0, slots := 0, locals := 60 } : Room).slots) := by
 refine MetFree.of_bodySF (plainFor_of_name own_pn1) hisR ?_
 intro p e s m args below meth c s₁ Bd hml0 hP hK
 obtain ⟨rfl, hZ, hh⟩ := hP
 have hx := Bd.exec
 have hby := Bd.bytes
 have hml : c.maxLocals = 2 := hml0
 have hown : s.vm.findClass "java/lang/String" = some m.cls := findClass_of_methodNamed Bd.named
 have hnm := (name_of_methodNamed Bd.named Bd.method).1
 have X0 : Stand p l e ({ frames := 4, cells := 0, slots := 0, locals := 60 } : Room) s m #[(.ref x), (.int (2 : Int32))] below meth c s₁ [] 0 0 := Stand.of_body Bd
 have e0 : s₁.heap = h0 := by rw [← hh, Bd.state]; rfl
 have N0 := Fr.nil n0
 have pre0 : ∀ t, Steps p.tables e below (s₁.setTop (mkF m 0 #[.val (.ref x), .val (.int (2 : Int32))] [])) t → Steps p.tables e below (s₁.setTop (entryFrame m #[(.ref x), (.int (2 : Int32))] 2)) t := fun t k => castTop (efCHLc m x) k
 obtain ⟨cq1, kq1, q1a, q1b, q1c⟩ := isOf hZ e0 E_x
 obtain ⟨_, _, ⟨T1, L1, k1, n1⟩, -, X1, ⟨Lc1, hQ1, l1, y1, z1⟩, st1⟩ := X0.virtualBack hx (y := (⟨"java/lang/String", "isLatin1", "()Z"⟩ : MethodName)) (z := (⟨"java/lang/String", "isLatin1", "()Z"⟩ : MethodName)) hown (mvT hZ (Wd hw 61 rfl)) (mvT hZ (Wd hw 62 rfl)) (notFace_of_selects (args := #[]) (mvT hZ (Wd hw 64 rfl))) (mvT hZ (Wd hw 64 rfl)) (mvT hZ (Wd hw 63 rfl)) (by decide) (backOf (W := 0) (rmA17 l Z a0 hw [] x tv cst h0 n0 Z0 E_x F_value_x F_coder_x X00 S_COMPACT_STRINGS hcs) hZ (Wd hw 65 rfl) (Wd hw 8 rfl) (by decide) (by decide)) q1a q1c (g := (mkF m 1 #[.val (.ref x), .val (.int (2 : Int32))] [(.ref x)])) rfl (by rw [hml]; rfl) (Steps.refl _) (argsL := []) (rest := []) (lenOf own_pd10 rfl) rfl (by show 2 * 0 + _ ≤ _; exact Nat.le_of_eq rfl) (hb hby d12_1) (fun _ _ => ⟨rfl, e0, (by decide : 0 + 0 ≤ _), (by decide : 0 + 0 ≤ _)⟩)
 dsimp only [Pt.U, Pt.locs, Pt.cells, Pt.slots] at X1 l1 y1 z1 st1 hQ1
 subst l1 y1 z1
 obtain ⟨rfl, Nq1, e1⟩ := hQ1
 have N1 := Fr.app N0 Nq1
 obtain ⟨T2, X2, e2, st2⟩ := getF X1 hx hZ hown (host := "") (Or.inl (Wd hw 25 rfl)) Via.refl e1 F_value_x (g := (mkF m 8 #[.val (.ref x), .val (.int (2 : Int32))] [(.ref x)])) rfl rfl (hb hby d12_8)
 obtain ⟨_, _, ⟨T3, L3, k3, n3⟩, -, X3, ⟨Lc3, hQ3, l3, y3, z3⟩, st3⟩ := Jvm.LawKit.callS X2 hx (y := (⟨"java/lang/StringLatin1", "charAt", "([BI)C"⟩ : MethodName)) hown (mvT hZ (Wd hw 66 rfl)) (mvT hZ (Wd hw 67 rfl)) (mvT hZ (Wd hw 68 rfl)) (mvT hZ (Wd hw 69 rfl)) (by decide) (backOf (W := 0) (rmA20 l Z a0 hw [] tv nn qa.toInt8.toInt32 qb.toInt8.toInt32 qc.toInt8.toInt32 qd.toInt8.toInt32 qe.toInt8.toInt32 qf.toInt8.toInt32 qg.toInt8.toInt32 k_tv fm h0 n0 Z0 V_tv X00 S_SIOOBE_FORMATTER hfm hi) hZ (Wd hw 69 rfl) (Wd hw 68 rfl) (by decide) (by decide)) (g := (mkF m 12 #[.val (.ref x), .val (.int (2 : Int32))] [(.int (2 : Int32)), (.ref tv)])) rfl (by rw [hml]; rfl) (argsL := [(.ref tv), (.int (2 : Int32))]) (rest := []) (lenOf own_pd5 rfl) rfl (by show 2 * 0 + _ ≤ _; exact Nat.le_of_eq rfl) (hb hby d12_12) (fun _ _ => ⟨rfl, e2, (by decide : 0 + 0 ≤ _), (by decide : 0 + 0 ≤ _)⟩)
 dsimp only [Pt.U, Pt.locs, Pt.cells, Pt.slots] at X3 l3 y3 z3 st3 hQ3
 subst l3 y3 z3
 obtain ⟨rfl, Nq3, e3⟩ := hQ3
 have N3 := Fr.app N1 Nq3
 obtain ⟨fs, hr, hrun, hended, hW, hsame⟩ := X3.leave (v := some (.int (nar .char ((qc.toInt8.toInt32 &&& (255 : Int32)).toUInt32.toUInt16.toUInt32.toInt32)))) (fun h => by rw [Bd.returns] at h; cases h)
 refine ⟨_, _, (pre0 _ ?_), hrun, hended, _, _, rfl, ?_, ⟨_, rfl⟩, hW, hsame.mono (by decide) (by decide)⟩
 ·show Steps p.tables e below (s₁.setTop (mkF m 0 #[.val (.ref x), .val (.int (2 : Int32))] [])) _
  refine XS.aloadN X0.here hx rfl (hb hby d12_0) rfl rfl ?_
  refine st1.trans ?_
  refine XS.ifNo X1.here hx rfl (hb hby d12_4) rfl ((if0 _ _).trans (feq (by decide : ¬ ((1 : Int32) = (0 : Int32)))).1) ?_
  refine XS.aloadN X1.here hx rfl (hb hby d12_7) rfl rfl ?_
  refine st2 _ ?_
  refine XS.iloadN X2.here hx rfl (hb hby d12_11) rfl ?_
  refine st3 _ ?_
  exact retN X3 hx (t := .char) Bd.returns (by simp) (hb hby d12_15) hr
 ·show QCHLc Z x tv nn qa qb qc qd qe qf qg k_tv cst fm h0 n0 _ T3.heap _
  rw [e3]
  exact ⟨(congrArg (fun w => some (Value.int w)) (own_chL hq (hl 2 (own_lt hi (by decide))))), N3, rfl⟩
theorem efA21 (m : MethodId) (xo0_ : Addr) : entryFrame m #[(.ref xo0_), (.int (3 : Int32))] 2 = mkF m 0 #[.val (.ref xo0_), .val (.int (3 : Int32))] [] := by first | (simp [entryFrame, mkF, argsToLocals, Value.category]; done) | rfl
def QA21 (Z : State) (xo0_ : Addr) (ui1_ : Int32) (ui2_ : Int32) (ui3_ : Int32) (ui4_ : Int32) (ui5_ : Int32) (ui6_ : Int32) (ui7_ : Int32) (ui8_ : Int32) (k_xo0_ : ClassId) (uv9_ : Value) (h0 : Heap) (n0 : Nat) (v : Option Value) (h : Heap) (L : List Loc) : Prop := v = some (.int ((ui5_ &&& (255 : Int32)).toUInt32.toUInt16.toUInt32.toInt32)) ∧ Fr n0 L ∧ h = h0
set_option maxRecDepth 65536 in
set_option maxHeartbeats 40000000 in
theorem rmA21 (l : Launch) (Z : State) (a0 : Array Value) (hw : ∀ d ∈ tables_1, d.before a0 Z = true) (ws : List Jvm.Cond) (xo0_ : Addr) (ui1_ : Int32) (ui2_ : Int32) (ui3_ : Int32) (ui4_ : Int32) (ui5_ : Int32) (ui6_ : Int32) (ui7_ : Int32) (ui8_ : Int32) (k_xo0_ : ClassId) (uv9_ : Value) (h0 : Heap) (n0 : Nat) (Z0 : n0 ≤ h0.size) (V_xo0_ : Arv Z h0 xo0_ k_xo0_ .byte ui1_ [(.int ui2_), (.int ui3_), (.int ui4_), (.int ui5_), (.int ui6_), (.int ui7_), (.int ui8_)] (.int (0 : Int32))) (X00 : Old Z n0 h0) (S_SIOOBE_FORMATTER : Sta Z Z.heap "jdk/internal/util/Preconditions" "SIOOBE_FORMATTER" "Ljava/util/function/BiFunction;" uv9_) (hp0_ : own_nr uv9_) (hp1_ : (3 : Int32) < ui1_) :
  MetFree l (⟨"java/lang/StringLatin1", "charAt", "([BI)C"⟩ : MethodName) (head1 (Jvm.Cond.code (⟨"java/lang/StringLatin1", "charAt", "([BI)C"⟩ : MethodName) jdk_43_method_2_code 2 (some .char) :: ws) ({ frames := 2, cells := 0, slots := 0, locals := 33 } : Room)) (fun av_ U => av_ = #[(.ref xo0_), (.int (3 : Int32))] ∧ Z.Warmed39 U.vm ∧ U.heap = h0) (fun _ _ _ _ _ => True) (fun _ U o U' => ∃ v L, o = .returned v ∧ QA21 Z xo0_ ui1_ ui2_ ui3_ ui4_ ui5_ ui6_ ui7_ ui8_ k_xo0_ uv9_ h0 n0 v U'.heap L ∧ FrameEnd U o U' L ({ frames := 2, cells := 0, slots := 0, locals := 33 } : Room).cells ({ frames := 2, cells := 0, slots := 0, locals := 33 } : Room).slots) := by
 refine MetFree.of_bodySF (plainFor_of_name own_pn3) hisR ?_
 intro p e s m args below meth c s₁ Bd hml0 hP hK
 obtain ⟨rfl, hZ, hh⟩ := hP
 have hx := Bd.exec
 have hby := Bd.bytes
 have hml : c.maxLocals = 2 := hml0
 have hown : s.vm.findClass "java/lang/StringLatin1" = some m.cls := findClass_of_methodNamed Bd.named
 have hnm := (name_of_methodNamed Bd.named Bd.method).1
 have X0 : Stand p l e ({ frames := 2, cells := 0, slots := 0, locals := 33 } : Room) s m #[(.ref xo0_), (.int (3 : Int32))] below meth c s₁ [] 0 0 := Stand.of_body Bd
 have e0 : s₁.heap = h0 := by rw [← hh, Bd.state]; rfl
 have N0 := Fr.nil n0
 have pre0 : ∀ t, Steps p.tables e below (s₁.setTop (mkF m 0 #[.val (.ref xo0_), .val (.int (3 : Int32))] [])) t → Steps p.tables e below (s₁.setTop (entryFrame m #[(.ref xo0_), (.int (3 : Int32))] 2)) t := fun t k => castTop (efA21 m xo0_) k
 obtain ⟨cl1, Ar1, q1, S1, M1, Hs1, G1⟩ := (id V_xo0_)
 obtain ⟨_, _, ⟨T2, L2, k2, n2⟩, -, X2, ⟨Lc2, hQ2, l2, y2, z2⟩, st2⟩ := Jvm.LawKit.callS X0 hx (y := (⟨"java/lang/String", "checkIndex", "(II)V"⟩ : MethodName)) hown (mvT hZ (Wd hw 70 rfl)) (mvT hZ (Wd hw 71 rfl)) (mvT hZ (Wd hw 8 rfl)) (mvT hZ (Wd hw 72 rfl)) (by decide) (backOf (W := 0) (rmXI l Z a0 hw [] (3 : Int32) ui1_ uv9_ h0 n0 Z0 X00 S_SIOOBE_FORMATTER hp0_ (by decide) hp1_) hZ (Wd hw 72 rfl) (Wd hw 8 rfl) (by decide) (by decide)) (g := (mkF m 3 #[.val (.ref xo0_), .val (.int (3 : Int32))] [(.int ui1_), (.int (3 : Int32))])) rfl (by rw [hml]; rfl) (argsL := [(.int (3 : Int32)), (.int ui1_)]) (rest := []) (lenOf own_pd11 rfl) rfl (by show 2 * 0 + _ ≤ _; exact Nat.le_of_eq rfl) (hb hby d14_3) (fun _ _ => ⟨rfl, e0, (by decide : 0 + 0 ≤ _), (by decide : 0 + 0 ≤ _)⟩)
 dsimp only [Pt.U, Pt.locs, Pt.cells, Pt.slots] at X2 l2 y2 z2 st2 hQ2
 subst l2 y2 z2
 obtain ⟨rfl, Nq2, e2⟩ := hQ2
 have N2 := Fr.app N0 Nq2
 obtain ⟨cl3, Ar3, q3, S3, M3, Hs3, G3⟩ := (id V_xo0_)
 have hin3 : ¬ ((3 : Int32) < 0 ∨ cl3.slots.size ≤ ((3 : Int32)).toNatClampNeg) := inb_of S3 ⟨by decide, hp1_⟩
 have hat3 : cl3.slots[((3 : Int32)).toNatClampNeg]? = some (.int ui5_) := Hs3.at hin3 rfl
 obtain ⟨fs, hr, hrun, hended, hW, hsame⟩ := X2.leave (v := some (.int (nar .char ((ui5_ &&& (255 : Int32)).toUInt32.toUInt16.toUInt32.toInt32)))) (fun h => by rw [Bd.returns] at h; cases h)
 refine ⟨_, _, (pre0 _ ?_), hrun, hended, _, _, rfl, ?_, ⟨_, rfl⟩, hW, hsame.mono (by decide) (by decide)⟩
 ·show Steps p.tables e below (s₁.setTop (mkF m 0 #[.val (.ref xo0_), .val (.int (3 : Int32))] [])) _
  refine XS.iloadN X0.here hx rfl (hb hby d14_0) rfl ?_
  refine XS.aloadN X0.here hx rfl (hb hby d14_1) rfl rfl ?_
  refine X0.arraylength hx (by rw [e0]; exact Ar1.1) (State.isArrayOf_alike hZ.alike Ar1.2.1) (g := (mkF m 2 #[.val (.ref xo0_), .val (.int (3 : Int32))] [(.ref xo0_), (.int (3 : Int32))])) rfl rfl (hb hby d14_2) _ ?_
  rw [len_of S1 M1]
  refine st2 _ ?_
  refine XS.aloadN X2.here hx rfl (hb hby d14_6) rfl rfl ?_
  refine XS.iloadN X2.here hx rfl (hb hby d14_7) rfl ?_
  refine X2.baloadBytes hx (j := (3 : Int32)) (v := (.int ui5_)) (by rw [e2]; exact Ar3.1) (State.isArrayOf_alike hZ.alike Ar3.2.1) Ar3.2.2 hin3 hat3 (g := (mkF m 8 #[.val (.ref xo0_), .val (.int (3 : Int32))] [(.int (3 : Int32)), (.ref xo0_)])) rfl rfl (hb hby d14_8) _ ?_
  refine XS.sipush X2.here hx rfl (hb hby d14_9) ?_
  refine XS.iand X2.here hx rfl (hb hby d14_12) rfl ?_
  refine XS.i2c X2.here hx rfl (hb hby d14_13) rfl ?_
  exact retN X2 hx (t := .char) Bd.returns (by simp) (hb hby d14_14) hr
 ·show QA21 Z xo0_ ui1_ ui2_ ui3_ ui4_ ui5_ ui6_ ui7_ ui8_ k_xo0_ uv9_ h0 n0 _ T2.heap _
  rw [e2]
  exact ⟨(congrArg (fun w => some (Value.int w)) (own_narc _)), N2, rfl⟩
theorem efCHLd (m : MethodId) (x : Addr) : entryFrame m #[(.ref x), (.int (3 : Int32))] 2 = mkF m 0 #[.val (.ref x), .val (.int (3 : Int32))] [] := by first | (simp [entryFrame, mkF, argsToLocals, Value.category]; done) | rfl
def QCHLd (Z : State) (x : Addr) (tv : Addr) (nn : Int32) (qa : Int32) (qb : Int32) (qc : Int32) (qd : Int32) (qe : Int32) (qf : Int32) (qg : Int32) (k_tv : ClassId) (cst : Int32) (fm : Value) (h0 : Heap) (n0 : Nat) (v : Option Value) (h : Heap) (L : List Loc) : Prop := v = some (.int qd) ∧ Fr n0 L ∧ h = h0
set_option maxRecDepth 65536 in
set_option maxHeartbeats 40000000 in
theorem rmCHLd (l : Launch) (Z : State) (a0 : Array Value) (hw : ∀ d ∈ tables_1, d.before a0 Z = true) (ws : List Jvm.Cond) (x : Addr) (tv : Addr) (nn : Int32) (qa : Int32) (qb : Int32) (qc : Int32) (qd : Int32) (qe : Int32) (qf : Int32) (qg : Int32) (k_tv : ClassId) (cst : Int32) (fm : Value) (h0 : Heap) (n0 : Nat) (Z0 : n0 ≤ h0.size) (E_x : Exa Z h0 x "java/lang/String") (F_value_x : Fld Z h0 x "java/lang/String" "value" "[B" (.ref tv)) (F_coder_x : Fld Z h0 x "java/lang/String" "coder" "B" (.int (0 : Int32))) (V_tv : Arv Z h0 tv k_tv .byte nn [(.int qa.toInt8.toInt32), (.int qb.toInt8.toInt32), (.int qc.toInt8.toInt32), (.int qd.toInt8.toInt32), (.int qe.toInt8.toInt32), (.int qf.toInt8.toInt32), (.int qg.toInt8.toInt32)] (.int (0 : Int32))) (X00 : Old Z n0 h0) (S_COMPACT_STRINGS : Sta Z Z.heap "java/lang/String" "COMPACT_STRINGS" "Z" (.int cst)) (hcs : ¬ cst = (0 : Int32)) (hn : 0 ≤ nn.toInt ∧ nn.toInt ≤ 7) (S_SIOOBE_FORMATTER : Sta Z Z.heap "jdk/internal/util/Preconditions" "SIOOBE_FORMATTER" "Ljava/util/function/BiFunction;" fm) (hfm : own_nr fm) (hi : (3 : Int32) < nn) (hq : own_c16 qd) (hl : own_lat nn [qa, qb, qc, qd, qe, qf, qg]) :
  MetFree l (⟨"java/lang/String", "charAt", "(I)C"⟩ : MethodName) (head1 (Jvm.Cond.code (⟨"java/lang/String", "charAt", "(I)C"⟩ : MethodName) jdk_42_method_56_code 2 (some .char) :: ws) ({ frames := 4, cells := 0, slots := 0, locals := 60 } : Room)) (fun av_ U => av_ = #[(.ref x), (.int (3 : Int32))] ∧ Z.Warmed39 U.vm ∧ U.heap = h0) (fun _ _ _ _ _ => True) (fun _ U o U' => ∃ v L, o = .returned v ∧ QCHLd Z x tv nn qa qb qc qd qe qf qg k_tv cst fm h0 n0 v U'.heap L ∧ FrameEnd U o U' L ({ frames := 4, cells := 0, slots := 0, locals := 60 } : Room).cells ({ frames := 4, cells := 0, slots := 0, locals := 60 } : Room).slots) := by
 refine MetFree.of_bodySF (plainFor_of_name own_pn1) hisR ?_
 intro p e s m args below meth c s₁ Bd hml0 hP hK
 obtain ⟨rfl, hZ, hh⟩ := hP
 have hx := Bd.exec
 have hby := Bd.bytes
 have hml : c.maxLocals = 2 := hml0
 have hown : s.vm.findClass "java/lang/String" = some m.cls := findClass_of_methodNamed Bd.named
 have hnm := (name_of_methodNamed Bd.named Bd.method).1
 have X0 : Stand p l e ({ frames := 4, cells := 0, slots := 0, locals := 60 } : Room) s m #[(.ref x), (.int (3 : Int32))] below meth c s₁ [] 0 0 := Stand.of_body Bd
 have e0 : s₁.heap = h0 := by rw [← hh, Bd.state]; rfl
 have N0 := Fr.nil n0
 have pre0 : ∀ t, Steps p.tables e below (s₁.setTop (mkF m 0 #[.val (.ref x), .val (.int (3 : Int32))] [])) t → Steps p.tables e below (s₁.setTop (entryFrame m #[(.ref x), (.int (3 : Int32))] 2)) t := fun t k => castTop (efCHLd m x) k
 obtain ⟨cq1, kq1, q1a, q1b, q1c⟩ := isOf hZ e0 E_x
 obtain ⟨_, _, ⟨T1, L1, k1, n1⟩, -, X1, ⟨Lc1, hQ1, l1, y1, z1⟩, st1⟩ := X0.virtualBack hx (y := (⟨"java/lang/String", "isLatin1", "()Z"⟩ : MethodName)) (z := (⟨"java/lang/String", "isLatin1", "()Z"⟩ : MethodName)) hown (mvT hZ (Wd hw 61 rfl)) (mvT hZ (Wd hw 62 rfl)) (notFace_of_selects (args := #[]) (mvT hZ (Wd hw 64 rfl))) (mvT hZ (Wd hw 64 rfl)) (mvT hZ (Wd hw 63 rfl)) (by decide) (backOf (W := 0) (rmA17 l Z a0 hw [] x tv cst h0 n0 Z0 E_x F_value_x F_coder_x X00 S_COMPACT_STRINGS hcs) hZ (Wd hw 65 rfl) (Wd hw 8 rfl) (by decide) (by decide)) q1a q1c (g := (mkF m 1 #[.val (.ref x), .val (.int (3 : Int32))] [(.ref x)])) rfl (by rw [hml]; rfl) (Steps.refl _) (argsL := []) (rest := []) (lenOf own_pd10 rfl) rfl (by show 2 * 0 + _ ≤ _; exact Nat.le_of_eq rfl) (hb hby d12_1) (fun _ _ => ⟨rfl, e0, (by decide : 0 + 0 ≤ _), (by decide : 0 + 0 ≤ _)⟩)
 dsimp only [Pt.U, Pt.locs, Pt.cells, Pt.slots] at X1 l1 y1 z1 st1 hQ1
 subst l1 y1 z1
 obtain ⟨rfl, Nq1, e1⟩ := hQ1
 have N1 := Fr.app N0 Nq1
 obtain ⟨T2, X2, e2, st2⟩ := getF X1 hx hZ hown (host := "") (Or.inl (Wd hw 25 rfl)) Via.refl e1 F_value_x (g := (mkF m 8 #[.val (.ref x), .val (.int (3 : Int32))] [(.ref x)])) rfl rfl (hb hby d12_8)
 obtain ⟨_, _, ⟨T3, L3, k3, n3⟩, -, X3, ⟨Lc3, hQ3, l3, y3, z3⟩, st3⟩ := Jvm.LawKit.callS X2 hx (y := (⟨"java/lang/StringLatin1", "charAt", "([BI)C"⟩ : MethodName)) hown (mvT hZ (Wd hw 66 rfl)) (mvT hZ (Wd hw 67 rfl)) (mvT hZ (Wd hw 68 rfl)) (mvT hZ (Wd hw 69 rfl)) (by decide) (backOf (W := 0) (rmA21 l Z a0 hw [] tv nn qa.toInt8.toInt32 qb.toInt8.toInt32 qc.toInt8.toInt32 qd.toInt8.toInt32 qe.toInt8.toInt32 qf.toInt8.toInt32 qg.toInt8.toInt32 k_tv fm h0 n0 Z0 V_tv X00 S_SIOOBE_FORMATTER hfm hi) hZ (Wd hw 69 rfl) (Wd hw 68 rfl) (by decide) (by decide)) (g := (mkF m 12 #[.val (.ref x), .val (.int (3 : Int32))] [(.int (3 : Int32)), (.ref tv)])) rfl (by rw [hml]; rfl) (argsL := [(.ref tv), (.int (3 : Int32))]) (rest := []) (lenOf own_pd5 rfl) rfl (by show 2 * 0 + _ ≤ _; exact Nat.le_of_eq rfl) (hb hby d12_12) (fun _ _ => ⟨rfl, e2, (by decide : 0 + 0 ≤ _), (by decide : 0 + 0 ≤ _)⟩)
 dsimp only [Pt.U, Pt.locs, Pt.cells, Pt.slots] at X3 l3 y3 z3 st3 hQ3
 subst l3 y3 z3
 obtain ⟨rfl, Nq3, e3⟩ := hQ3
 have N3 := Fr.app N1 Nq3
 obtain ⟨fs, hr, hrun, hended, hW, hsame⟩ := X3.leave (v := some (.int (nar .char ((qd.toInt8.toInt32 &&& (255 : Int32)).toUInt32.toUInt16.toUInt32.toInt32)))) (fun h => by rw [Bd.returns] at h; cases h)
 refine ⟨_, _, (pre0 _ ?_), hrun, hended, _, _, rfl, ?_, ⟨_, rfl⟩, hW, hsame.mono (by decide) (by decide)⟩
 ·show Steps p.tables e below (s₁.setTop (mkF m 0 #[.val (.ref x), .val (.int (3 : Int32))] [])) _
  refine XS.aloadN X0.here hx rfl (hb hby d12_0) rfl rfl ?_
  refine st1.trans ?_
  refine XS.ifNo X1.here hx rfl (hb hby d12_4) rfl ((if0 _ _).trans (feq (by decide : ¬ ((1 : Int32) = (0 : Int32)))).1) ?_
  refine XS.aloadN X1.here hx rfl (hb hby d12_7) rfl rfl ?_
  refine st2 _ ?_
  refine XS.iloadN X2.here hx rfl (hb hby d12_11) rfl ?_
  refine st3 _ ?_
  exact retN X3 hx (t := .char) Bd.returns (by simp) (hb hby d12_15) hr
 ·show QCHLd Z x tv nn qa qb qc qd qe qf qg k_tv cst fm h0 n0 _ T3.heap _
  rw [e3]
  exact ⟨(congrArg (fun w => some (Value.int w)) (own_chL hq (hl 3 (own_lt hi (by decide))))), N3, rfl⟩
theorem efA22 (m : MethodId) (xo0_ : Addr) : entryFrame m #[(.ref xo0_), (.int (4 : Int32))] 2 = mkF m 0 #[.val (.ref xo0_), .val (.int (4 : Int32))] [] := by first | (simp [entryFrame, mkF, argsToLocals, Value.category]; done) | rfl
def QA22 (Z : State) (xo0_ : Addr) (ui1_ : Int32) (ui2_ : Int32) (ui3_ : Int32) (ui4_ : Int32) (ui5_ : Int32) (ui6_ : Int32) (ui7_ : Int32) (ui8_ : Int32) (k_xo0_ : ClassId) (uv9_ : Value) (h0 : Heap) (n0 : Nat) (v : Option Value) (h : Heap) (L : List Loc) : Prop := v = some (.int ((ui6_ &&& (255 : Int32)).toUInt32.toUInt16.toUInt32.toInt32)) ∧ Fr n0 L ∧ h = h0
set_option maxRecDepth 65536 in
set_option maxHeartbeats 40000000 in
theorem rmA22 (l : Launch) (Z : State) (a0 : Array Value) (hw : ∀ d ∈ tables_1, d.before a0 Z = true) (ws : List Jvm.Cond) (xo0_ : Addr) (ui1_ : Int32) (ui2_ : Int32) (ui3_ : Int32) (ui4_ : Int32) (ui5_ : Int32) (ui6_ : Int32) (ui7_ : Int32) (ui8_ : Int32) (k_xo0_ : ClassId) (uv9_ : Value) (h0 : Heap) (n0 : Nat) (Z0 : n0 ≤ h0.size) (V_xo0_ : Arv Z h0 xo0_ k_xo0_ .byte ui1_ [(.int ui2_), (.int ui3_), (.int ui4_), (.int ui5_), (.int ui6_), (.int ui7_), (.int ui8_)] (.int (0 : Int32))) (X00 : Old Z n0 h0) (S_SIOOBE_FORMATTER : Sta Z Z.heap "jdk/internal/util/Preconditions" "SIOOBE_FORMATTER" "Ljava/util/function/BiFunction;" uv9_) (hp0_ : own_nr uv9_) (hp1_ : (4 : Int32) < ui1_) :
  MetFree l (⟨"java/lang/StringLatin1", "charAt", "([BI)C"⟩ : MethodName) (head1 (Jvm.Cond.code (⟨"java/lang/StringLatin1", "charAt", "([BI)C"⟩ : MethodName) jdk_43_method_2_code 2 (some .char) :: ws) ({ frames := 2, cells := 0, slots := 0, locals := 33 } : Room)) (fun av_ U => av_ = #[(.ref xo0_), (.int (4 : Int32))] ∧ Z.Warmed39 U.vm ∧ U.heap = h0) (fun _ _ _ _ _ => True) (fun _ U o U' => ∃ v L, o = .returned v ∧ QA22 Z xo0_ ui1_ ui2_ ui3_ ui4_ ui5_ ui6_ ui7_ ui8_ k_xo0_ uv9_ h0 n0 v U'.heap L ∧ FrameEnd U o U' L ({ frames := 2, cells := 0, slots := 0, locals := 33 } : Room).cells ({ frames := 2, cells := 0, slots := 0, locals := 33 } : Room).slots) := by
 refine MetFree.of_bodySF (plainFor_of_name own_pn3) hisR ?_
 intro p e s m args below meth c s₁ Bd hml0 hP hK
 obtain ⟨rfl, hZ, hh⟩ := hP
 have hx := Bd.exec
 have hby := Bd.bytes
 have hml : c.maxLocals = 2 := hml0
 have hown : s.vm.findClass "java/lang/StringLatin1" = some m.cls := findClass_of_methodNamed Bd.named
 have hnm := (name_of_methodNamed Bd.named Bd.method).1
 have X0 : Stand p l e ({ frames := 2, cells := 0, slots := 0, locals := 33 } : Room) s m #[(.ref xo0_), (.int (4 : Int32))] below meth c s₁ [] 0 0 := Stand.of_body Bd
 have e0 : s₁.heap = h0 := by rw [← hh, Bd.state]; rfl
 have N0 := Fr.nil n0
 have pre0 : ∀ t, Steps p.tables e below (s₁.setTop (mkF m 0 #[.val (.ref xo0_), .val (.int (4 : Int32))] [])) t → Steps p.tables e below (s₁.setTop (entryFrame m #[(.ref xo0_), (.int (4 : Int32))] 2)) t := fun t k => castTop (efA22 m xo0_) k
 obtain ⟨cl1, Ar1, q1, S1, M1, Hs1, G1⟩ := (id V_xo0_)
 obtain ⟨_, _, ⟨T2, L2, k2, n2⟩, -, X2, ⟨Lc2, hQ2, l2, y2, z2⟩, st2⟩ := Jvm.LawKit.callS X0 hx (y := (⟨"java/lang/String", "checkIndex", "(II)V"⟩ : MethodName)) hown (mvT hZ (Wd hw 70 rfl)) (mvT hZ (Wd hw 71 rfl)) (mvT hZ (Wd hw 8 rfl)) (mvT hZ (Wd hw 72 rfl)) (by decide) (backOf (W := 0) (rmXI l Z a0 hw [] (4 : Int32) ui1_ uv9_ h0 n0 Z0 X00 S_SIOOBE_FORMATTER hp0_ (by decide) hp1_) hZ (Wd hw 72 rfl) (Wd hw 8 rfl) (by decide) (by decide)) (g := (mkF m 3 #[.val (.ref xo0_), .val (.int (4 : Int32))] [(.int ui1_), (.int (4 : Int32))])) rfl (by rw [hml]; rfl) (argsL := [(.int (4 : Int32)), (.int ui1_)]) (rest := []) (lenOf own_pd11 rfl) rfl (by show 2 * 0 + _ ≤ _; exact Nat.le_of_eq rfl) (hb hby d14_3) (fun _ _ => ⟨rfl, e0, (by decide : 0 + 0 ≤ _), (by decide : 0 + 0 ≤ _)⟩)
 dsimp only [Pt.U, Pt.locs, Pt.cells, Pt.slots] at X2 l2 y2 z2 st2 hQ2
 subst l2 y2 z2
 obtain ⟨rfl, Nq2, e2⟩ := hQ2
 have N2 := Fr.app N0 Nq2
 obtain ⟨cl3, Ar3, q3, S3, M3, Hs3, G3⟩ := (id V_xo0_)
 have hin3 : ¬ ((4 : Int32) < 0 ∨ cl3.slots.size ≤ ((4 : Int32)).toNatClampNeg) := inb_of S3 ⟨by decide, hp1_⟩
 have hat3 : cl3.slots[((4 : Int32)).toNatClampNeg]? = some (.int ui6_) := Hs3.at hin3 rfl
 obtain ⟨fs, hr, hrun, hended, hW, hsame⟩ := X2.leave (v := some (.int (nar .char ((ui6_ &&& (255 : Int32)).toUInt32.toUInt16.toUInt32.toInt32)))) (fun h => by rw [Bd.returns] at h; cases h)
 refine ⟨_, _, (pre0 _ ?_), hrun, hended, _, _, rfl, ?_, ⟨_, rfl⟩, hW, hsame.mono (by decide) (by decide)⟩
 ·show Steps p.tables e below (s₁.setTop (mkF m 0 #[.val (.ref xo0_), .val (.int (4 : Int32))] [])) _
  refine XS.iloadN X0.here hx rfl (hb hby d14_0) rfl ?_
  refine XS.aloadN X0.here hx rfl (hb hby d14_1) rfl rfl ?_
  refine X0.arraylength hx (by rw [e0]; exact Ar1.1) (State.isArrayOf_alike hZ.alike Ar1.2.1) (g := (mkF m 2 #[.val (.ref xo0_), .val (.int (4 : Int32))] [(.ref xo0_), (.int (4 : Int32))])) rfl rfl (hb hby d14_2) _ ?_
  rw [len_of S1 M1]
  refine st2 _ ?_
  refine XS.aloadN X2.here hx rfl (hb hby d14_6) rfl rfl ?_
  refine XS.iloadN X2.here hx rfl (hb hby d14_7) rfl ?_
  refine X2.baloadBytes hx (j := (4 : Int32)) (v := (.int ui6_)) (by rw [e2]; exact Ar3.1) (State.isArrayOf_alike hZ.alike Ar3.2.1) Ar3.2.2 hin3 hat3 (g := (mkF m 8 #[.val (.ref xo0_), .val (.int (4 : Int32))] [(.int (4 : Int32)), (.ref xo0_)])) rfl rfl (hb hby d14_8) _ ?_
  refine XS.sipush X2.here hx rfl (hb hby d14_9) ?_
  refine XS.iand X2.here hx rfl (hb hby d14_12) rfl ?_
  refine XS.i2c X2.here hx rfl (hb hby d14_13) rfl ?_
  exact retN X2 hx (t := .char) Bd.returns (by simp) (hb hby d14_14) hr
 ·show QA22 Z xo0_ ui1_ ui2_ ui3_ ui4_ ui5_ ui6_ ui7_ ui8_ k_xo0_ uv9_ h0 n0 _ T2.heap _
  rw [e2]
  exact ⟨(congrArg (fun w => some (Value.int w)) (own_narc _)), N2, rfl⟩
theorem efCHLe (m : MethodId) (x : Addr) : entryFrame m #[(.ref x), (.int (4 : Int32))] 2 = mkF m 0 #[.val (.ref x), .val (.int (4 : Int32))] [] := by first | (simp [entryFrame, mkF, argsToLocals, Value.category]; done) | rfl
def QCHLe (Z : State) (x : Addr) (tv : Addr) (nn : Int32) (qa : Int32) (qb : Int32) (qc : Int32) (qd : Int32) (qe : Int32) (qf : Int32) (qg : Int32) (k_tv : ClassId) (cst : Int32) (fm : Value) (h0 : Heap) (n0 : Nat) (v : Option Value) (h : Heap) (L : List Loc) : Prop := v = some (.int qe) ∧ Fr n0 L ∧ h = h0
set_option maxRecDepth 65536 in
set_option maxHeartbeats 40000000 in
theorem rmCHLe (l : Launch) (Z : State) (a0 : Array Value) (hw : ∀ d ∈ tables_1, d.before a0 Z = true) (ws : List Jvm.Cond) (x : Addr) (tv : Addr) (nn : Int32) (qa : Int32) (qb : Int32) (qc : Int32) (qd : Int32) (qe : Int32) (qf : Int32) (qg : Int32) (k_tv : ClassId) (cst : Int32) (fm : Value) (h0 : Heap) (n0 : Nat) (Z0 : n0 ≤ h0.size) (E_x : Exa Z h0 x "java/lang/String") (F_value_x : Fld Z h0 x "java/lang/String" "value" "[B" (.ref tv)) (F_coder_x : Fld Z h0 x "java/lang/String" "coder" "B" (.int (0 : Int32))) (V_tv : Arv Z h0 tv k_tv .byte nn [(.int qa.toInt8.toInt32), (.int qb.toInt8.toInt32), (.int qc.toInt8.toInt32), (.int qd.toInt8.toInt32), (.int qe.toInt8.toInt32), (.int qf.toInt8.toInt32), (.int qg.toInt8.toInt32)] (.int (0 : Int32))) (X00 : Old Z n0 h0) (S_COMPACT_STRINGS : Sta Z Z.heap "java/lang/String" "COMPACT_STRINGS" "Z" (.int cst)) (hcs : ¬ cst = (0 : Int32)) (hn : 0 ≤ nn.toInt ∧ nn.toInt ≤ 7) (S_SIOOBE_FORMATTER : Sta Z Z.heap "jdk/internal/util/Preconditions" "SIOOBE_FORMATTER" "Ljava/util/function/BiFunction;" fm) (hfm : own_nr fm) (hi : (4 : Int32) < nn) (hq : own_c16 qe) (hl : own_lat nn [qa, qb, qc, qd, qe, qf, qg]) :
  MetFree l (⟨"java/lang/String", "charAt", "(I)C"⟩ : MethodName) (head1 (Jvm.Cond.code (⟨"java/lang/String", "charAt", "(I)C"⟩ : MethodName) jdk_42_method_56_code 2 (some .char) :: ws) ({ frames := 4, cells := 0, slots := 0, locals := 60 } : Room)) (fun av_ U => av_ = #[(.ref x), (.int (4 : Int32))] ∧ Z.Warmed39 U.vm ∧ U.heap = h0) (fun _ _ _ _ _ => True) (fun _ U o U' => ∃ v L, o = .returned v ∧ QCHLe Z x tv nn qa qb qc qd qe qf qg k_tv cst fm h0 n0 v U'.heap L ∧ FrameEnd U o U' L ({ frames := 4, cells := 0, slots := 0, locals := 60 } : Room).cells ({ frames := 4, cells := 0, slots := 0, locals := 60 } : Room).slots) := by
 refine MetFree.of_bodySF (plainFor_of_name own_pn1) hisR ?_
 intro p e s m args below meth c s₁ Bd hml0 hP hK
 obtain ⟨rfl, hZ, hh⟩ := hP
 have hx := Bd.exec
 have hby := Bd.bytes
 have hml : c.maxLocals = 2 := hml0
 have hown : s.vm.findClass "java/lang/String" = some m.cls := findClass_of_methodNamed Bd.named
 have hnm := (name_of_methodNamed Bd.named Bd.method).1
 have X0 : Stand p l e ({ frames := 4, cells := 0, slots := 0, locals := 60 } : Room) s m #[(.ref x), (.int (4 : Int32))] below meth c s₁ [] 0 0 := Stand.of_body Bd
 have e0 : s₁.heap = h0 := by rw [← hh, Bd.state]; rfl
 have N0 := Fr.nil n0
 have pre0 : ∀ t, Steps p.tables e below (s₁.setTop (mkF m 0 #[.val (.ref x), .val (.int (4 : Int32))] [])) t → Steps p.tables e below (s₁.setTop (entryFrame m #[(.ref x), (.int (4 : Int32))] 2)) t := fun t k => castTop (efCHLe m x) k
 obtain ⟨cq1, kq1, q1a, q1b, q1c⟩ := isOf hZ e0 E_x
 obtain ⟨_, _, ⟨T1, L1, k1, n1⟩, -, X1, ⟨Lc1, hQ1, l1, y1, z1⟩, st1⟩ := X0.virtualBack hx (y := (⟨"java/lang/String", "isLatin1", "()Z"⟩ : MethodName)) (z := (⟨"java/lang/String", "isLatin1", "()Z"⟩ : MethodName)) hown (mvT hZ (Wd hw 61 rfl)) (mvT hZ (Wd hw 62 rfl)) (notFace_of_selects (args := #[]) (mvT hZ (Wd hw 64 rfl))) (mvT hZ (Wd hw 64 rfl)) (mvT hZ (Wd hw 63 rfl)) (by decide) (backOf (W := 0) (rmA17 l Z a0 hw [] x tv cst h0 n0 Z0 E_x F_value_x F_coder_x X00 S_COMPACT_STRINGS hcs) hZ (Wd hw 65 rfl) (Wd hw 8 rfl) (by decide) (by decide)) q1a q1c (g := (mkF m 1 #[.val (.ref x), .val (.int (4 : Int32))] [(.ref x)])) rfl (by rw [hml]; rfl) (Steps.refl _) (argsL := []) (rest := []) (lenOf own_pd10 rfl) rfl (by show 2 * 0 + _ ≤ _; exact Nat.le_of_eq rfl) (hb hby d12_1) (fun _ _ => ⟨rfl, e0, (by decide : 0 + 0 ≤ _), (by decide : 0 + 0 ≤ _)⟩)
 dsimp only [Pt.U, Pt.locs, Pt.cells, Pt.slots] at X1 l1 y1 z1 st1 hQ1
 subst l1 y1 z1
 obtain ⟨rfl, Nq1, e1⟩ := hQ1
 have N1 := Fr.app N0 Nq1
 obtain ⟨T2, X2, e2, st2⟩ := getF X1 hx hZ hown (host := "") (Or.inl (Wd hw 25 rfl)) Via.refl e1 F_value_x (g := (mkF m 8 #[.val (.ref x), .val (.int (4 : Int32))] [(.ref x)])) rfl rfl (hb hby d12_8)
 obtain ⟨_, _, ⟨T3, L3, k3, n3⟩, -, X3, ⟨Lc3, hQ3, l3, y3, z3⟩, st3⟩ := Jvm.LawKit.callS X2 hx (y := (⟨"java/lang/StringLatin1", "charAt", "([BI)C"⟩ : MethodName)) hown (mvT hZ (Wd hw 66 rfl)) (mvT hZ (Wd hw 67 rfl)) (mvT hZ (Wd hw 68 rfl)) (mvT hZ (Wd hw 69 rfl)) (by decide) (backOf (W := 0) (rmA22 l Z a0 hw [] tv nn qa.toInt8.toInt32 qb.toInt8.toInt32 qc.toInt8.toInt32 qd.toInt8.toInt32 qe.toInt8.toInt32 qf.toInt8.toInt32 qg.toInt8.toInt32 k_tv fm h0 n0 Z0 V_tv X00 S_SIOOBE_FORMATTER hfm hi) hZ (Wd hw 69 rfl) (Wd hw 68 rfl) (by decide) (by decide)) (g := (mkF m 12 #[.val (.ref x), .val (.int (4 : Int32))] [(.int (4 : Int32)), (.ref tv)])) rfl (by rw [hml]; rfl) (argsL := [(.ref tv), (.int (4 : Int32))]) (rest := []) (lenOf own_pd5 rfl) rfl (by show 2 * 0 + _ ≤ _; exact Nat.le_of_eq rfl) (hb hby d12_12) (fun _ _ => ⟨rfl, e2, (by decide : 0 + 0 ≤ _), (by decide : 0 + 0 ≤ _)⟩)
 dsimp only [Pt.U, Pt.locs, Pt.cells, Pt.slots] at X3 l3 y3 z3 st3 hQ3
 subst l3 y3 z3
 obtain ⟨rfl, Nq3, e3⟩ := hQ3
 have N3 := Fr.app N1 Nq3
 obtain ⟨fs, hr, hrun, hended, hW, hsame⟩ := X3.leave (v := some (.int (nar .char ((qe.toInt8.toInt32 &&& (255 : Int32)).toUInt32.toUInt16.toUInt32.toInt32)))) (fun h => by rw [Bd.returns] at h; cases h)
 refine ⟨_, _, (pre0 _ ?_), hrun, hended, _, _, rfl, ?_, ⟨_, rfl⟩, hW, hsame.mono (by decide) (by decide)⟩
 ·show Steps p.tables e below (s₁.setTop (mkF m 0 #[.val (.ref x), .val (.int (4 : Int32))] [])) _
  refine XS.aloadN X0.here hx rfl (hb hby d12_0) rfl rfl ?_
  refine st1.trans ?_
  refine XS.ifNo X1.here hx rfl (hb hby d12_4) rfl ((if0 _ _).trans (feq (by decide : ¬ ((1 : Int32) = (0 : Int32)))).1) ?_
  refine XS.aloadN X1.here hx rfl (hb hby d12_7) rfl rfl ?_
  refine st2 _ ?_
  refine XS.iloadN X2.here hx rfl (hb hby d12_11) rfl ?_
  refine st3 _ ?_
  exact retN X3 hx (t := .char) Bd.returns (by simp) (hb hby d12_15) hr
 ·show QCHLe Z x tv nn qa qb qc qd qe qf qg k_tv cst fm h0 n0 _ T3.heap _
  rw [e3]
  exact ⟨(congrArg (fun w => some (Value.int w)) (own_chL hq (hl 4 (own_lt hi (by decide))))), N3, rfl⟩
theorem efA23 (m : MethodId) (xo0_ : Addr) : entryFrame m #[(.ref xo0_)] 1 = mkF m 0 #[.val (.ref xo0_)] [] := by first | (simp [entryFrame, mkF, argsToLocals, Value.category]; done) | rfl
def QA23 (Z : State) (xo0_ : Addr) (uo1_ : Addr) (ui2_ : Int32) (h0 : Heap) (n0 : Nat) (v : Option Value) (h : Heap) (L : List Loc) : Prop := v = some (.int (1 : Int32)) ∧ Fr n0 L ∧ h = h0
set_option maxRecDepth 65536 in
set_option maxHeartbeats 40000000 in
theorem rmA23 (l : Launch) (Z : State) (a0 : Array Value) (hw : ∀ d ∈ tables_1, d.before a0 Z = true) (ws : List Jvm.Cond) (xo0_ : Addr) (uo1_ : Addr) (ui2_ : Int32) (h0 : Heap) (n0 : Nat) (Z0 : n0 ≤ h0.size) (E_xo0_ : Exa Z h0 xo0_ "java/lang/String") (F_value_xo0_ : Fld Z h0 xo0_ "java/lang/String" "value" "[B" (.ref uo1_)) (F_coder_xo0_ : Fld Z h0 xo0_ "java/lang/String" "coder" "B" (.int (1 : Int32))) (X00 : Old Z n0 h0) (S_COMPACT_STRINGS : Sta Z Z.heap "java/lang/String" "COMPACT_STRINGS" "Z" (.int ui2_)) (hp0_ : ¬ (ui2_ = (0 : Int32))) :
  MetFree l (⟨"java/lang/String", "coder", "()B"⟩ : MethodName) (head1 (Jvm.Cond.code (⟨"java/lang/String", "coder", "()B"⟩ : MethodName) jdk_42_method_152_code 1 (some .byte) :: ws) ({ frames := 0, cells := 0, slots := 0, locals := 0 } : Room)) (fun av_ U => av_ = #[(.ref xo0_)] ∧ Z.Warmed39 U.vm ∧ U.heap = h0) (fun _ _ _ _ _ => True) (fun _ U o U' => ∃ v L, o = .returned v ∧ QA23 Z xo0_ uo1_ ui2_ h0 n0 v U'.heap L ∧ FrameEnd U o U' L ({ frames := 0, cells := 0, slots := 0, locals := 0 } : Room).cells ({ frames := 0, cells := 0, slots := 0, locals := 0 } : Room).slots) := by
 refine MetFree.of_bodySF (plainFor_of_name own_pn1) hisR ?_
 intro p e s m args below meth c s₁ Bd hml0 hP hK
 obtain ⟨rfl, hZ, hh⟩ := hP
 have hx := Bd.exec
 have hby := Bd.bytes
 have hml : c.maxLocals = 1 := hml0
 have hown : s.vm.findClass "java/lang/String" = some m.cls := findClass_of_methodNamed Bd.named
 have hnm := (name_of_methodNamed Bd.named Bd.method).1
 have X0 : Stand p l e ({ frames := 0, cells := 0, slots := 0, locals := 0 } : Room) s m #[(.ref xo0_)] below meth c s₁ [] 0 0 := Stand.of_body Bd
 have e0 : s₁.heap = h0 := by rw [← hh, Bd.state]; rfl
 have N0 := Fr.nil n0
 have pre0 : ∀ t, Steps p.tables e below (s₁.setTop (mkF m 0 #[.val (.ref xo0_)] [])) t → Steps p.tables e below (s₁.setTop (entryFrame m #[(.ref xo0_)] 1)) t := fun t k => castTop (efA23 m xo0_) k
 obtain ⟨T1, X1, e1, st1⟩ := getS2 X0 hx hZ hown (host := "") (Or.inl (Wd hw 41 rfl)) Via.refl e0 (S_COMPACT_STRINGS.ext X00.2) (g := (mkF m 0 #[.val (.ref xo0_)] [])) rfl (hb hby d7_0)
 obtain ⟨T2, X2, e2, st2⟩ := getF X1 hx hZ hown (host := "") (Or.inl (Wd hw 26 rfl)) Via.refl e1 F_coder_xo0_ (g := (mkF m 7 #[.val (.ref xo0_)] [(.ref xo0_)])) rfl rfl (hb hby d7_7)
 obtain ⟨fs, hr, hrun, hended, hW, hsame⟩ := X2.leave (v := some (.int (1 : Int32))) (fun h => by rw [Bd.returns] at h; cases h)
 refine ⟨_, _, (pre0 _ ?_), hrun, hended, _, _, rfl, ?_, ⟨_, rfl⟩, hW, hsame.mono (by decide) (by decide)⟩
 ·show Steps p.tables e below (s₁.setTop (mkF m 0 #[.val (.ref xo0_)] [])) _
  refine st1 _ ?_
  refine XS.ifNo X1.here hx rfl (hb hby d7_3) rfl ((if0 _ _).trans (feq hp0_).1) ?_
  refine XS.aloadN X1.here hx rfl (hb hby d7_6) rfl rfl ?_
  refine st2 _ ?_
  refine XS.goto X2.here hx rfl (pc0 := 10) (pc' := 14) rfl (hb hby d7_10) (by decide) (by decide) ?_
  exact retN X2 hx (t := .byte) Bd.returns (by simp) (hb hby d7_14) hr
 ·show QA23 Z xo0_ uo1_ ui2_ h0 n0 _ T2.heap _
  rw [e2]
  exact ⟨rfl, N0, rfl⟩
theorem efLNW (m : MethodId) (x : Addr) : entryFrame m #[(.ref x)] 1 = mkF m 0 #[.val (.ref x)] [] := by first | (simp [entryFrame, mkF, argsToLocals, Value.category]; done) | rfl
def QLNW (Z : State) (x : Addr) (tv : Addr) (nn : Int32) (qa : Int32) (qb : Int32) (qc : Int32) (qd : Int32) (qe : Int32) (qf : Int32) (qg : Int32) (k_tv : ClassId) (cst : Int32) (h0 : Heap) (n0 : Nat) (v : Option Value) (h : Heap) (L : List Loc) : Prop := v = some (.int nn) ∧ Fr n0 L ∧ h = h0
set_option maxRecDepth 65536 in
set_option maxHeartbeats 40000000 in
theorem rmLNW (l : Launch) (Z : State) (a0 : Array Value) (hw : ∀ d ∈ tables_1, d.before a0 Z = true) (ws : List Jvm.Cond) (x : Addr) (tv : Addr) (nn : Int32) (qa : Int32) (qb : Int32) (qc : Int32) (qd : Int32) (qe : Int32) (qf : Int32) (qg : Int32) (k_tv : ClassId) (cst : Int32) (h0 : Heap) (n0 : Nat) (Z0 : n0 ≤ h0.size) (E_x : Exa Z h0 x "java/lang/String") (F_value_x : Fld Z h0 x "java/lang/String" "value" "[B" (.ref tv)) (F_coder_x : Fld Z h0 x "java/lang/String" "coder" "B" (.int (1 : Int32))) (V_tv : Arv Z h0 tv k_tv .byte (nn <<< ((1 : Int32) &&& 31)) [(.int (own_w0 qa)), (.int (own_w1 qa)), (.int (own_w0 qb)), (.int (own_w1 qb)), (.int (own_w0 qc)), (.int (own_w1 qc)), (.int (own_w0 qd)), (.int (own_w1 qd)), (.int (own_w0 qe)), (.int (own_w1 qe)), (.int (own_w0 qf)), (.int (own_w1 qf)), (.int (own_w0 qg)), (.int (own_w1 qg))] (.int (0 : Int32))) (X00 : Old Z n0 h0) (S__assertionsDisabled : Sta Z Z.heap "java/lang/StringUTF16" "$assertionsDisabled" "Z" (.int (1 : Int32))) (S_HI_BYTE_SHIFT : Sta Z Z.heap "java/lang/StringUTF16" "HI_BYTE_SHIFT" "I" (.int (0 : Int32))) (S_LO_BYTE_SHIFT : Sta Z Z.heap "java/lang/StringUTF16" "LO_BYTE_SHIFT" "I" (.int (8 : Int32))) (S_COMPACT_STRINGS : Sta Z Z.heap "java/lang/String" "COMPACT_STRINGS" "Z" (.int cst)) (hcs : ¬ cst = (0 : Int32)) (hn : 0 ≤ nn.toInt ∧ nn.toInt ≤ 7) :
  MetFree l (⟨"java/lang/String", "length", "()I"⟩ : MethodName) (head1 (Jvm.Cond.code (⟨"java/lang/String", "length", "()I"⟩ : MethodName) jdk_42_method_54_code 1 (some .int) :: ws) ({ frames := 1, cells := 0, slots := 0, locals := 14 } : Room)) (fun av_ U => av_ = #[(.ref x)] ∧ Z.Warmed39 U.vm ∧ U.heap = h0) (fun _ _ _ _ _ => True) (fun _ U o U' => ∃ v L, o = .returned v ∧ QLNW Z x tv nn qa qb qc qd qe qf qg k_tv cst h0 n0 v U'.heap L ∧ FrameEnd U o U' L ({ frames := 1, cells := 0, slots := 0, locals := 14 } : Room).cells ({ frames := 1, cells := 0, slots := 0, locals := 14 } : Room).slots) := by
 refine MetFree.of_bodySF (plainFor_of_name own_pn1) hisR ?_
 intro p e s m args below meth c s₁ Bd hml0 hP hK
 obtain ⟨rfl, hZ, hh⟩ := hP
 have hx := Bd.exec
 have hby := Bd.bytes
 have hml : c.maxLocals = 1 := hml0
 have hown : s.vm.findClass "java/lang/String" = some m.cls := findClass_of_methodNamed Bd.named
 have hnm := (name_of_methodNamed Bd.named Bd.method).1
 have X0 : Stand p l e ({ frames := 1, cells := 0, slots := 0, locals := 14 } : Room) s m #[(.ref x)] below meth c s₁ [] 0 0 := Stand.of_body Bd
 have e0 : s₁.heap = h0 := by rw [← hh, Bd.state]; rfl
 have N0 := Fr.nil n0
 have pre0 : ∀ t, Steps p.tables e below (s₁.setTop (mkF m 0 #[.val (.ref x)] [])) t → Steps p.tables e below (s₁.setTop (entryFrame m #[(.ref x)] 1)) t := fun t k => castTop (efLNW m x) k
 obtain ⟨T1, X1, e1, st1⟩ := getF X0 hx hZ hown (host := "") (Or.inl (Wd hw 25 rfl)) Via.refl e0 F_value_x (g := (mkF m 1 #[.val (.ref x)] [(.ref x)])) rfl rfl (hb hby d6_1)
 obtain ⟨cl2, Ar2, q2, S2, M2, Hs2, G2⟩ := (id V_tv)
 obtain ⟨cq3, kq3, q3a, q3b, q3c⟩ := isOf hZ e1 E_x
 obtain ⟨_, _, ⟨T3, L3, k3, n3⟩, -, X3, ⟨Lc3, hQ3, l3, y3, z3⟩, st3⟩ := X1.virtualBack hx (y := (⟨"java/lang/String", "coder", "()B"⟩ : MethodName)) (z := (⟨"java/lang/String", "coder", "()B"⟩ : MethodName)) hown (mvT hZ (Wd hw 36 rfl)) (mvT hZ (Wd hw 37 rfl)) (notFace_of_selects (args := #[]) (mvT hZ (Wd hw 39 rfl))) (mvT hZ (Wd hw 39 rfl)) (mvT hZ (Wd hw 38 rfl)) (by decide) (backOf (W := 1) (rmA23 l Z a0 hw [] x tv cst h0 n0 Z0 E_x F_value_x F_coder_x X00 S_COMPACT_STRINGS hcs) hZ (Wd hw 40 rfl) (Wd hw 8 rfl) (by decide) (by decide)) q3a q3c (g := (mkF m 6 #[.val (.ref x)] [(.ref x), (.int (nn <<< ((1 : Int32) &&& 31)))])) rfl (by rw [hml]; rfl) (Steps.refl _) (argsL := []) (rest := [(.int (nn <<< ((1 : Int32) &&& 31)))]) (lenOf own_pd9 rfl) rfl (by show 2 * 0 + _ ≤ _; exact Nat.le_of_eq rfl) (hb hby d6_6) (fun _ _ => ⟨rfl, e1, (by decide : 0 + 0 ≤ _), (by decide : 0 + 0 ≤ _)⟩)
 dsimp only [Pt.U, Pt.locs, Pt.cells, Pt.slots] at X3 l3 y3 z3 st3 hQ3
 subst l3 y3 z3
 obtain ⟨rfl, Nq3, e3⟩ := hQ3
 have N3 := Fr.app N0 Nq3
 obtain ⟨fs, hr, hrun, hended, hW, hsame⟩ := X3.leave (v := some (.int ((nn <<< ((1 : Int32) &&& 31)) >>> ((1 : Int32) &&& 31)))) (fun h => by rw [Bd.returns] at h; cases h)
 refine ⟨_, _, (pre0 _ ?_), hrun, hended, _, _, rfl, ?_, ⟨_, rfl⟩, hW, hsame.mono (by decide) (by decide)⟩
 ·show Steps p.tables e below (s₁.setTop (mkF m 0 #[.val (.ref x)] [])) _
  refine XS.aloadN X0.here hx rfl (hb hby d6_0) rfl rfl ?_
  refine st1 _ ?_
  refine X1.arraylength hx (by rw [e1]; exact Ar2.1) (State.isArrayOf_alike hZ.alike Ar2.2.1) (g := (mkF m 4 #[.val (.ref x)] [(.ref tv)])) rfl rfl (hb hby d6_4) _ ?_
  rw [len_of S2 M2]
  refine XS.aloadN X1.here hx rfl (hb hby d6_5) rfl rfl ?_
  refine st3.trans ?_
  refine XS.ishr X3.here hx rfl (hb hby d6_9) rfl ?_
  exact retI X3 hx Bd.returns (hb hby d6_10) hr
 ·show QLNW Z x tv nn qa qb qc qd qe qf qg k_tv cst h0 n0 _ T3.heap _
  rw [e3]
  exact ⟨(congrArg (fun w => some (Value.int w)) (own_shr hn)), N3, rfl⟩
theorem d13_17 : decode jdk_42_method_154_code 17 = .ok (.iconst 0, 1) := by decide +kernel
theorem efA24 (m : MethodId) (xo0_ : Addr) : entryFrame m #[(.ref xo0_)] 1 = mkF m 0 #[.val (.ref xo0_)] [] := by first | (simp [entryFrame, mkF, argsToLocals, Value.category]; done) | rfl
def QA24 (Z : State) (xo0_ : Addr) (uo1_ : Addr) (ui2_ : Int32) (h0 : Heap) (n0 : Nat) (v : Option Value) (h : Heap) (L : List Loc) : Prop := v = some (.int (0 : Int32)) ∧ Fr n0 L ∧ h = h0
set_option maxRecDepth 65536 in
set_option maxHeartbeats 40000000 in
theorem rmA24 (l : Launch) (Z : State) (a0 : Array Value) (hw : ∀ d ∈ tables_1, d.before a0 Z = true) (ws : List Jvm.Cond) (xo0_ : Addr) (uo1_ : Addr) (ui2_ : Int32) (h0 : Heap) (n0 : Nat) (Z0 : n0 ≤ h0.size) (E_xo0_ : Exa Z h0 xo0_ "java/lang/String") (F_value_xo0_ : Fld Z h0 xo0_ "java/lang/String" "value" "[B" (.ref uo1_)) (F_coder_xo0_ : Fld Z h0 xo0_ "java/lang/String" "coder" "B" (.int (1 : Int32))) (X00 : Old Z n0 h0) (S_COMPACT_STRINGS : Sta Z Z.heap "java/lang/String" "COMPACT_STRINGS" "Z" (.int ui2_)) (hp0_ : ¬ (ui2_ = (0 : Int32))) :
  MetFree l (⟨"java/lang/String", "isLatin1", "()Z"⟩ : MethodName) (head1 (Jvm.Cond.code (⟨"java/lang/String", "isLatin1", "()Z"⟩ : MethodName) jdk_42_method_154_code 1 (some .boolean) :: ws) ({ frames := 0, cells := 0, slots := 0, locals := 0 } : Room)) (fun av_ U => av_ = #[(.ref xo0_)] ∧ Z.Warmed39 U.vm ∧ U.heap = h0) (fun _ _ _ _ _ => True) (fun _ U o U' => ∃ v L, o = .returned v ∧ QA24 Z xo0_ uo1_ ui2_ h0 n0 v U'.heap L ∧ FrameEnd U o U' L ({ frames := 0, cells := 0, slots := 0, locals := 0 } : Room).cells ({ frames := 0, cells := 0, slots := 0, locals := 0 } : Room).slots) := by
 refine MetFree.of_bodySF (plainFor_of_name own_pn1) hisR ?_
 intro p e s m args below meth c s₁ Bd hml0 hP hK
 obtain ⟨rfl, hZ, hh⟩ := hP
 have hx := Bd.exec
 have hby := Bd.bytes
 have hml : c.maxLocals = 1 := hml0
 have hown : s.vm.findClass "java/lang/String" = some m.cls := findClass_of_methodNamed Bd.named
 have hnm := (name_of_methodNamed Bd.named Bd.method).1
 have X0 : Stand p l e ({ frames := 0, cells := 0, slots := 0, locals := 0 } : Room) s m #[(.ref xo0_)] below meth c s₁ [] 0 0 := Stand.of_body Bd
 have e0 : s₁.heap = h0 := by rw [← hh, Bd.state]; rfl
 have N0 := Fr.nil n0
 have pre0 : ∀ t, Steps p.tables e below (s₁.setTop (mkF m 0 #[.val (.ref xo0_)] [])) t → Steps p.tables e below (s₁.setTop (entryFrame m #[(.ref xo0_)] 1)) t := fun t k => castTop (efA24 m xo0_) k
 obtain ⟨T1, X1, e1, st1⟩ := getS2 X0 hx hZ hown (host := "") (Or.inl (Wd hw 41 rfl)) Via.refl e0 (S_COMPACT_STRINGS.ext X00.2) (g := (mkF m 0 #[.val (.ref xo0_)] [])) rfl (hb hby d13_0)
 obtain ⟨T2, X2, e2, st2⟩ := getF X1 hx hZ hown (host := "") (Or.inl (Wd hw 26 rfl)) Via.refl e1 F_coder_xo0_ (g := (mkF m 7 #[.val (.ref xo0_)] [(.ref xo0_)])) rfl rfl (hb hby d13_7)
 obtain ⟨fs, hr, hrun, hended, hW, hsame⟩ := X2.leave (v := some (.int (0 : Int32))) (fun h => by rw [Bd.returns] at h; cases h)
 refine ⟨_, _, (pre0 _ ?_), hrun, hended, _, _, rfl, ?_, ⟨_, rfl⟩, hW, hsame.mono (by decide) (by decide)⟩
 ·show Steps p.tables e below (s₁.setTop (mkF m 0 #[.val (.ref xo0_)] [])) _
  refine st1 _ ?_
  refine XS.ifNo X1.here hx rfl (hb hby d13_3) rfl ((if0 _ _).trans (feq hp0_).1) ?_
  refine XS.aloadN X1.here hx rfl (hb hby d13_6) rfl rfl ?_
  refine st2 _ ?_
  refine XS.ifYes X2.here hx rfl (pc0 := 10) (pc' := 17) rfl (hb hby d13_10) rfl ((if0 _ _).trans (feq (by decide : ¬ ((1 : Int32) = (0 : Int32)))).2) (by decide) (by decide) ?_
  refine XS.iconst X2.here hx rfl (hb hby d13_17) ?_
  exact retN X2 hx (t := .boolean) Bd.returns (by simp) (hb hby d13_18) hr
 ·show QA24 Z xo0_ uo1_ ui2_ h0 n0 _ T2.heap _
  rw [e2]
  exact ⟨rfl, N0, rfl⟩
theorem d24_0 : decode jdk_52_method_6_code 0 = .ok (.aload_n 0, 1) := by decide +kernel
theorem d24_1 : decode jdk_52_method_6_code 1 = .ok (.arraylength, 1) := by decide +kernel
theorem d24_2 : decode jdk_52_method_6_code 2 = .ok (.iconst 1, 1) := by decide +kernel
theorem d24_3 : decode jdk_52_method_6_code 3 = .ok (.ishr, 1) := by decide +kernel
theorem d24_4 : decode jdk_52_method_6_code 4 = .ok (.ireturn, 1) := by decide +kernel
theorem efA27 (m : MethodId) (xo0_ : Addr) : entryFrame m #[(.ref xo0_)] 1 = mkF m 0 #[.val (.ref xo0_)] [] := by first | (simp [entryFrame, mkF, argsToLocals, Value.category]; done) | rfl
def QA27 (Z : State) (xo0_ : Addr) (ui1_ : Int32) (ui2_ : Int32) (ui3_ : Int32) (ui4_ : Int32) (ui5_ : Int32) (ui6_ : Int32) (ui7_ : Int32) (ui8_ : Int32) (ui9_ : Int32) (ui10_ : Int32) (ui11_ : Int32) (ui12_ : Int32) (ui13_ : Int32) (ui14_ : Int32) (ui15_ : Int32) (k_xo0_ : ClassId) (h0 : Heap) (n0 : Nat) (v : Option Value) (h : Heap) (L : List Loc) : Prop := v = some (.int (ui1_ >>> ((1 : Int32) &&& 31))) ∧ Fr n0 L ∧ h = h0
set_option maxRecDepth 65536 in
set_option maxHeartbeats 40000000 in
theorem rmA27 (l : Launch) (Z : State) (a0 : Array Value) (hw : ∀ d ∈ tables_1, d.before a0 Z = true) (ws : List Jvm.Cond) (xo0_ : Addr) (ui1_ : Int32) (ui2_ : Int32) (ui3_ : Int32) (ui4_ : Int32) (ui5_ : Int32) (ui6_ : Int32) (ui7_ : Int32) (ui8_ : Int32) (ui9_ : Int32) (ui10_ : Int32) (ui11_ : Int32) (ui12_ : Int32) (ui13_ : Int32) (ui14_ : Int32) (ui15_ : Int32) (k_xo0_ : ClassId) (h0 : Heap) (n0 : Nat) (Z0 : n0 ≤ h0.size) (V_xo0_ : Arv Z h0 xo0_ k_xo0_ .byte ui1_ [(.int ui2_), (.int ui3_), (.int ui4_), (.int ui5_), (.int ui6_), (.int ui7_), (.int ui8_), (.int ui9_), (.int ui10_), (.int ui11_), (.int ui12_), (.int ui13_), (.int ui14_), (.int ui15_)] (.int (0 : Int32))) :
  MetFree l (⟨"java/lang/StringUTF16", "length", "([B)I"⟩ : MethodName) (head1 (Jvm.Cond.code (⟨"java/lang/StringUTF16", "length", "([B)I"⟩ : MethodName) jdk_52_method_6_code 1 (some .int) :: ws) ({ frames := 0, cells := 0, slots := 0, locals := 0 } : Room)) (fun av_ U => av_ = #[(.ref xo0_)] ∧ Z.Warmed39 U.vm ∧ U.heap = h0) (fun _ _ _ _ _ => True) (fun _ U o U' => ∃ v L, o = .returned v ∧ QA27 Z xo0_ ui1_ ui2_ ui3_ ui4_ ui5_ ui6_ ui7_ ui8_ ui9_ ui10_ ui11_ ui12_ ui13_ ui14_ ui15_ k_xo0_ h0 n0 v U'.heap L ∧ FrameEnd U o U' L ({ frames := 0, cells := 0, slots := 0, locals := 0 } : Room).cells ({ frames := 0, cells := 0, slots := 0, locals := 0 } : Room).slots) := by
 refine MetFree.of_bodySF (plainFor_of_name own_pn0) hisR ?_
 intro p e s m args below meth c s₁ Bd hml0 hP hK
 obtain ⟨rfl, hZ, hh⟩ := hP
 have hx := Bd.exec
 have hby := Bd.bytes
 have hml : c.maxLocals = 1 := hml0
 have hown : s.vm.findClass "java/lang/StringUTF16" = some m.cls := findClass_of_methodNamed Bd.named
 have hnm := (name_of_methodNamed Bd.named Bd.method).1
 have X0 : Stand p l e ({ frames := 0, cells := 0, slots := 0, locals := 0 } : Room) s m #[(.ref xo0_)] below meth c s₁ [] 0 0 := Stand.of_body Bd
 have e0 : s₁.heap = h0 := by rw [← hh, Bd.state]; rfl
 have N0 := Fr.nil n0
 have pre0 : ∀ t, Steps p.tables e below (s₁.setTop (mkF m 0 #[.val (.ref xo0_)] [])) t → Steps p.tables e below (s₁.setTop (entryFrame m #[(.ref xo0_)] 1)) t := fun t k => castTop (efA27 m xo0_) k
 obtain ⟨cl1, Ar1, q1, S1, M1, Hs1, G1⟩ := (id V_xo0_)
 obtain ⟨fs, hr, hrun, hended, hW, hsame⟩ := X0.leave (v := some (.int (ui1_ >>> ((1 : Int32) &&& 31)))) (fun h => by rw [Bd.returns] at h; cases h)
 refine ⟨_, _, (pre0 _ ?_), hrun, hended, _, _, rfl, ?_, ⟨_, rfl⟩, hW, hsame.mono (by decide) (by decide)⟩
 ·show Steps p.tables e below (s₁.setTop (mkF m 0 #[.val (.ref xo0_)] [])) _
  refine XS.aloadN X0.here hx rfl (hb hby d24_0) rfl rfl ?_
  refine X0.arraylength hx (by rw [e0]; exact Ar1.1) (State.isArrayOf_alike hZ.alike Ar1.2.1) (g := (mkF m 1 #[.val (.ref xo0_)] [(.ref xo0_)])) rfl rfl (hb hby d24_1) _ ?_
  rw [len_of S1 M1]
  refine XS.iconst X0.here hx rfl (hb hby d24_2) ?_
  refine XS.ishr X0.here hx rfl (hb hby d24_3) rfl ?_
  exact retI X0 hx Bd.returns (hb hby d24_4) hr
 ·show QA27 Z xo0_ ui1_ ui2_ ui3_ ui4_ ui5_ ui6_ ui7_ ui8_ ui9_ ui10_ ui11_ ui12_ ui13_ ui14_ ui15_ k_xo0_ h0 n0 _ s₁.heap _
  rw [e0]
  exact ⟨rfl, N0, rfl⟩
theorem own_pd12 : parseMethodDescriptor "([B)I" = some ⟨[(.array .byte)], some .int⟩ := by decide +kernel
theorem d23_0 : decode jdk_52_method_91_code 0 = .ok (.iload_n 0, 1) := by decide +kernel
theorem d23_1 : decode jdk_52_method_91_code 1 = .ok (.aload_n 1, 1) := by decide +kernel
theorem d23_2 : decode jdk_52_method_91_code 2 = .ok (.invokestatic 48, 3) := by decide +kernel
theorem d23_5 : decode jdk_52_method_91_code 5 = .ok (.invokestatic 414, 3) := by decide +kernel
theorem d23_8 : decode jdk_52_method_91_code 8 = .ok (.return_, 1) := by decide +kernel
theorem efA26 (m : MethodId) (xo1_ : Addr) : entryFrame m #[(.int (0 : Int32)), (.ref xo1_)] 2 = mkF m 0 #[.val (.int (0 : Int32)), .val (.ref xo1_)] [] := by first | (simp [entryFrame, mkF, argsToLocals, Value.category]; done) | rfl
def QA26 (Z : State) (xo1_ : Addr) (ui1_ : Int32) (ui2_ : Int32) (ui3_ : Int32) (ui4_ : Int32) (ui5_ : Int32) (ui6_ : Int32) (ui7_ : Int32) (ui8_ : Int32) (ui9_ : Int32) (ui10_ : Int32) (ui11_ : Int32) (ui12_ : Int32) (ui13_ : Int32) (ui14_ : Int32) (ui15_ : Int32) (k_xo1_ : ClassId) (uv16_ : Value) (h0 : Heap) (n0 : Nat) (v : Option Value) (h : Heap) (L : List Loc) : Prop := v = none ∧ Fr n0 L ∧ h = h0
set_option maxRecDepth 65536 in
set_option maxHeartbeats 40000000 in
theorem rmA26 (l : Launch) (Z : State) (a0 : Array Value) (hw : ∀ d ∈ tables_1, d.before a0 Z = true) (ws : List Jvm.Cond) (xo1_ : Addr) (ui1_ : Int32) (ui2_ : Int32) (ui3_ : Int32) (ui4_ : Int32) (ui5_ : Int32) (ui6_ : Int32) (ui7_ : Int32) (ui8_ : Int32) (ui9_ : Int32) (ui10_ : Int32) (ui11_ : Int32) (ui12_ : Int32) (ui13_ : Int32) (ui14_ : Int32) (ui15_ : Int32) (k_xo1_ : ClassId) (uv16_ : Value) (h0 : Heap) (n0 : Nat) (Z0 : n0 ≤ h0.size) (V_xo1_ : Arv Z h0 xo1_ k_xo1_ .byte ui1_ [(.int ui2_), (.int ui3_), (.int ui4_), (.int ui5_), (.int ui6_), (.int ui7_), (.int ui8_), (.int ui9_), (.int ui10_), (.int ui11_), (.int ui12_), (.int ui13_), (.int ui14_), (.int ui15_)] (.int (0 : Int32))) (X00 : Old Z n0 h0) (S_SIOOBE_FORMATTER : Sta Z Z.heap "jdk/internal/util/Preconditions" "SIOOBE_FORMATTER" "Ljava/util/function/BiFunction;" uv16_) (hp0_ : own_nr uv16_) (hp1_ : (0 : Int32) < (ui1_ >>> ((1 : Int32) &&& 31))) :
  MetFree l (⟨"java/lang/StringUTF16", "checkIndex", "(I[B)V"⟩ : MethodName) (head1 (Jvm.Cond.code (⟨"java/lang/StringUTF16", "checkIndex", "(I[B)V"⟩ : MethodName) jdk_52_method_91_code 2 none :: ws) ({ frames := 2, cells := 0, slots := 0, locals := 33 } : Room)) (fun av_ U => av_ = #[(.int (0 : Int32)), (.ref xo1_)] ∧ Z.Warmed39 U.vm ∧ U.heap = h0) (fun _ _ _ _ _ => True) (fun _ U o U' => ∃ v L, o = .returned v ∧ QA26 Z xo1_ ui1_ ui2_ ui3_ ui4_ ui5_ ui6_ ui7_ ui8_ ui9_ ui10_ ui11_ ui12_ ui13_ ui14_ ui15_ k_xo1_ uv16_ h0 n0 v U'.heap L ∧ FrameEnd U o U' L ({ frames := 2, cells := 0, slots := 0, locals := 33 } : Room).cells ({ frames := 2, cells := 0, slots := 0, locals := 33 } : Room).slots) := by
 refine MetFree.of_bodySF (plainFor_of_name own_pn0) hisR ?_
 intro p e s m args below meth c s₁ Bd hml0 hP hK
 obtain ⟨rfl, hZ, hh⟩ := hP
 have hx := Bd.exec
 have hby := Bd.bytes
 have hml : c.maxLocals = 2 := hml0
 have hown : s.vm.findClass "java/lang/StringUTF16" = some m.cls := findClass_of_methodNamed Bd.named
 have hnm := (name_of_methodNamed Bd.named Bd.method).1
 have X0 : Stand p l e ({ frames := 2, cells := 0, slots := 0, locals := 33 } : Room) s m #[(.int (0 : Int32)), (.ref xo1_)] below meth c s₁ [] 0 0 := Stand.of_body Bd
 have e0 : s₁.heap = h0 := by rw [← hh, Bd.state]; rfl
 have N0 := Fr.nil n0
 have pre0 : ∀ t, Steps p.tables e below (s₁.setTop (mkF m 0 #[.val (.int (0 : Int32)), .val (.ref xo1_)] [])) t → Steps p.tables e below (s₁.setTop (entryFrame m #[(.int (0 : Int32)), (.ref xo1_)] 2)) t := fun t k => castTop (efA26 m xo1_) k
 obtain ⟨_, _, ⟨T1, L1, k1, n1⟩, -, X1, ⟨Lc1, hQ1, l1, y1, z1⟩, st1⟩ := Jvm.LawKit.callS X0 hx (y := (⟨"java/lang/StringUTF16", "length", "([B)I"⟩ : MethodName)) hown (mvT hZ (Wd hw 103 rfl)) (mvT hZ (Wd hw 104 rfl)) (mvT hZ (Wd hw 48 rfl)) (mvT hZ (Wd hw 105 rfl)) (by decide) (backOf (W := 1) (rmA27 l Z a0 hw [] xo1_ ui1_ ui2_ ui3_ ui4_ ui5_ ui6_ ui7_ ui8_ ui9_ ui10_ ui11_ ui12_ ui13_ ui14_ ui15_ k_xo1_ h0 n0 Z0 V_xo1_) hZ (Wd hw 105 rfl) (Wd hw 48 rfl) (by decide) (by decide)) (g := (mkF m 2 #[.val (.int (0 : Int32)), .val (.ref xo1_)] [(.ref xo1_), (.int (0 : Int32))])) rfl (by rw [hml]; rfl) (argsL := [(.ref xo1_)]) (rest := [(.int (0 : Int32))]) (lenOf own_pd12 rfl) rfl (by show 2 * 0 + _ ≤ _; exact Nat.le_of_eq rfl) (hb hby d23_2) (fun _ _ => ⟨rfl, e0, (by decide : 0 + 0 ≤ _), (by decide : 0 + 0 ≤ _)⟩)
 dsimp only [Pt.U, Pt.locs, Pt.cells, Pt.slots] at X1 l1 y1 z1 st1 hQ1
 subst l1 y1 z1
 obtain ⟨rfl, Nq1, e1⟩ := hQ1
 have N1 := Fr.app N0 Nq1
 obtain ⟨_, _, ⟨T2, L2, k2, n2⟩, -, X2, ⟨Lc2, hQ2, l2, y2, z2⟩, st2⟩ := Jvm.LawKit.callS X1 hx (y := (⟨"java/lang/String", "checkIndex", "(II)V"⟩ : MethodName)) hown (mvT hZ (Wd hw 106 rfl)) (mvT hZ (Wd hw 71 rfl)) (mvT hZ (Wd hw 8 rfl)) (mvT hZ (Wd hw 72 rfl)) (by decide) (backOf (W := 0) (rmXI l Z a0 hw [] (0 : Int32) (ui1_ >>> ((1 : Int32) &&& 31)) uv16_ h0 n0 Z0 X00 S_SIOOBE_FORMATTER hp0_ (by decide) hp1_) hZ (Wd hw 72 rfl) (Wd hw 8 rfl) (by decide) (by decide)) (g := (mkF m 5 #[.val (.int (0 : Int32)), .val (.ref xo1_)] [(.int (ui1_ >>> ((1 : Int32) &&& 31))), (.int (0 : Int32))])) rfl (by rw [hml]; rfl) (argsL := [(.int (0 : Int32)), (.int (ui1_ >>> ((1 : Int32) &&& 31)))]) (rest := []) (lenOf own_pd11 rfl) rfl (by show 2 * 0 + _ ≤ _; exact Nat.le_of_eq rfl) (hb hby d23_5) (fun _ _ => ⟨rfl, e1, (by decide : 0 + 0 ≤ _), (by decide : 0 + 0 ≤ _)⟩)
 dsimp only [Pt.U, Pt.locs, Pt.cells, Pt.slots] at X2 l2 y2 z2 st2 hQ2
 subst l2 y2 z2
 obtain ⟨rfl, Nq2, e2⟩ := hQ2
 have N2 := Fr.app N1 Nq2
 obtain ⟨fs, hr, hrun, hended, hW, hsame⟩ := X2.leave (v := none) (fun _ => rfl)
 refine ⟨_, _, (pre0 _ ?_), hrun, hended, _, _, rfl, ?_, ⟨_, rfl⟩, hW, hsame.mono (by decide) (by decide)⟩
 ·show Steps p.tables e below (s₁.setTop (mkF m 0 #[.val (.int (0 : Int32)), .val (.ref xo1_)] [])) _
  refine XS.iloadN X0.here hx rfl (hb hby d23_0) rfl ?_
  refine XS.aloadN X0.here hx rfl (hb hby d23_1) rfl rfl ?_
  refine st1 _ ?_
  refine st2 _ ?_
  exact X2.returnOut hx Bd.returns (hb hby d23_8) hr
 ·show QA26 Z xo1_ ui1_ ui2_ ui3_ ui4_ ui5_ ui6_ ui7_ ui8_ ui9_ ui10_ ui11_ ui12_ ui13_ ui14_ ui15_ k_xo1_ uv16_ h0 n0 _ T2.heap _
  rw [e2]
  exact ⟨rfl, N2, rfl⟩
theorem own_pd13 : parseMethodDescriptor "(I[B)V" = some ⟨[.int, (.array .byte)], none⟩ := by decide +kernel
theorem d22_0 : decode jdk_52_method_83_code 0 = .ok (.iload_n 1, 1) := by decide +kernel
theorem d22_1 : decode jdk_52_method_83_code 1 = .ok (.aload_n 0, 1) := by decide +kernel
theorem d22_2 : decode jdk_52_method_83_code 2 = .ok (.invokestatic 67, 3) := by decide +kernel
theorem d22_5 : decode jdk_52_method_83_code 5 = .ok (.aload_n 0, 1) := by decide +kernel
theorem d22_6 : decode jdk_52_method_83_code 6 = .ok (.iload_n 1, 1) := by decide +kernel
theorem d22_7 : decode jdk_52_method_83_code 7 = .ok (.invokestatic 71, 3) := by decide +kernel
theorem d22_10 : decode jdk_52_method_83_code 10 = .ok (.ireturn, 1) := by decide +kernel
theorem efA25 (m : MethodId) (xo0_ : Addr) : entryFrame m #[(.ref xo0_), (.int (0 : Int32))] 2 = mkF m 0 #[.val (.ref xo0_), .val (.int (0 : Int32))] [] := by first | (simp [entryFrame, mkF, argsToLocals, Value.category]; done) | rfl
def QA25 (Z : State) (xo0_ : Addr) (ui1_ : Int32) (ui2_ : Int32) (ui3_ : Int32) (ui4_ : Int32) (ui5_ : Int32) (ui6_ : Int32) (ui7_ : Int32) (ui8_ : Int32) (ui9_ : Int32) (ui10_ : Int32) (ui11_ : Int32) (ui12_ : Int32) (ui13_ : Int32) (ui14_ : Int32) (ui15_ : Int32) (k_xo0_ : ClassId) (uv16_ : Value) (h0 : Heap) (n0 : Nat) (v : Option Value) (h : Heap) (L : List Loc) : Prop := v = some (.int ((((ui2_ &&& (255 : Int32)) <<< ((0 : Int32) &&& 31)) ||| ((ui3_ &&& (255 : Int32)) <<< ((8 : Int32) &&& 31))).toUInt32.toUInt16.toUInt32.toInt32)) ∧ Fr n0 L ∧ h = h0
set_option maxRecDepth 65536 in
set_option maxHeartbeats 40000000 in
theorem rmA25 (l : Launch) (Z : State) (a0 : Array Value) (hw : ∀ d ∈ tables_1, d.before a0 Z = true) (ws : List Jvm.Cond) (xo0_ : Addr) (ui1_ : Int32) (ui2_ : Int32) (ui3_ : Int32) (ui4_ : Int32) (ui5_ : Int32) (ui6_ : Int32) (ui7_ : Int32) (ui8_ : Int32) (ui9_ : Int32) (ui10_ : Int32) (ui11_ : Int32) (ui12_ : Int32) (ui13_ : Int32) (ui14_ : Int32) (ui15_ : Int32) (k_xo0_ : ClassId) (uv16_ : Value) (h0 : Heap) (n0 : Nat) (Z0 : n0 ≤ h0.size) (V_xo0_ : Arv Z h0 xo0_ k_xo0_ .byte ui1_ [(.int ui2_), (.int ui3_), (.int ui4_), (.int ui5_), (.int ui6_), (.int ui7_), (.int ui8_), (.int ui9_), (.int ui10_), (.int ui11_), (.int ui12_), (.int ui13_), (.int ui14_), (.int ui15_)] (.int (0 : Int32))) (X00 : Old Z n0 h0) (S_SIOOBE_FORMATTER : Sta Z Z.heap "jdk/internal/util/Preconditions" "SIOOBE_FORMATTER" "Ljava/util/function/BiFunction;" uv16_) (hp0_ : own_nr uv16_) (hp1_ : (0 : Int32) < (ui1_ >>> ((1 : Int32) &&& 31))) (hp2_ : (0 : Int32) < ui1_) (hp3_ : (1 : Int32) < ui1_) (S__assertionsDisabled : Sta Z Z.heap "java/lang/StringUTF16" "$assertionsDisabled" "Z" (.int (1 : Int32))) (S_HI_BYTE_SHIFT : Sta Z Z.heap "java/lang/StringUTF16" "HI_BYTE_SHIFT" "I" (.int (0 : Int32))) (S_LO_BYTE_SHIFT : Sta Z Z.heap "java/lang/StringUTF16" "LO_BYTE_SHIFT" "I" (.int (8 : Int32))) :
  MetFree l (⟨"java/lang/StringUTF16", "charAt", "([BI)C"⟩ : MethodName) (head1 (Jvm.Cond.code (⟨"java/lang/StringUTF16", "charAt", "([BI)C"⟩ : MethodName) jdk_52_method_83_code 2 (some .char) :: ws) ({ frames := 3, cells := 0, slots := 0, locals := 46 } : Room)) (fun av_ U => av_ = #[(.ref xo0_), (.int (0 : Int32))] ∧ Z.Warmed39 U.vm ∧ U.heap = h0) (fun _ _ _ _ _ => True) (fun _ U o U' => ∃ v L, o = .returned v ∧ QA25 Z xo0_ ui1_ ui2_ ui3_ ui4_ ui5_ ui6_ ui7_ ui8_ ui9_ ui10_ ui11_ ui12_ ui13_ ui14_ ui15_ k_xo0_ uv16_ h0 n0 v U'.heap L ∧ FrameEnd U o U' L ({ frames := 3, cells := 0, slots := 0, locals := 46 } : Room).cells ({ frames := 3, cells := 0, slots := 0, locals := 46 } : Room).slots) := by
 refine MetFree.of_bodySF (plainFor_of_name own_pn0) hisR ?_
 intro p e s m args below meth c s₁ Bd hml0 hP hK
 obtain ⟨rfl, hZ, hh⟩ := hP
 have hx := Bd.exec
 have hby := Bd.bytes
 have hml : c.maxLocals = 2 := hml0
 have hown : s.vm.findClass "java/lang/StringUTF16" = some m.cls := findClass_of_methodNamed Bd.named
 have hnm := (name_of_methodNamed Bd.named Bd.method).1
 have X0 : Stand p l e ({ frames := 3, cells := 0, slots := 0, locals := 46 } : Room) s m #[(.ref xo0_), (.int (0 : Int32))] below meth c s₁ [] 0 0 := Stand.of_body Bd
 have e0 : s₁.heap = h0 := by rw [← hh, Bd.state]; rfl
 have N0 := Fr.nil n0
 have pre0 : ∀ t, Steps p.tables e below (s₁.setTop (mkF m 0 #[.val (.ref xo0_), .val (.int (0 : Int32))] [])) t → Steps p.tables e below (s₁.setTop (entryFrame m #[(.ref xo0_), (.int (0 : Int32))] 2)) t := fun t k => castTop (efA25 m xo0_) k
 obtain ⟨_, _, ⟨T1, L1, k1, n1⟩, -, X1, ⟨Lc1, hQ1, l1, y1, z1⟩, st1⟩ := Jvm.LawKit.callS X0 hx (y := (⟨"java/lang/StringUTF16", "checkIndex", "(I[B)V"⟩ : MethodName)) hown (mvT hZ (Wd hw 100 rfl)) (mvT hZ (Wd hw 101 rfl)) (mvT hZ (Wd hw 48 rfl)) (mvT hZ (Wd hw 102 rfl)) (by decide) (backOf (W := 0) (rmA26 l Z a0 hw [] xo0_ ui1_ ui2_ ui3_ ui4_ ui5_ ui6_ ui7_ ui8_ ui9_ ui10_ ui11_ ui12_ ui13_ ui14_ ui15_ k_xo0_ uv16_ h0 n0 Z0 V_xo0_ X00 S_SIOOBE_FORMATTER hp0_ hp1_) hZ (Wd hw 102 rfl) (Wd hw 48 rfl) (by decide) (by decide)) (g := (mkF m 2 #[.val (.ref xo0_), .val (.int (0 : Int32))] [(.ref xo0_), (.int (0 : Int32))])) rfl (by rw [hml]; rfl) (argsL := [(.int (0 : Int32)), (.ref xo0_)]) (rest := []) (lenOf own_pd13 rfl) rfl (by show 2 * 0 + _ ≤ _; exact Nat.le_of_eq rfl) (hb hby d22_2) (fun _ _ => ⟨rfl, e0, (by decide : 0 + 0 ≤ _), (by decide : 0 + 0 ≤ _)⟩)
 dsimp only [Pt.U, Pt.locs, Pt.cells, Pt.slots] at X1 l1 y1 z1 st1 hQ1
 subst l1 y1 z1
 obtain ⟨rfl, Nq1, e1⟩ := hQ1
 have N1 := Fr.app N0 Nq1
 obtain ⟨_, _, ⟨T2, L2, k2, n2⟩, -, X2, ⟨Lc2, hQ2, l2, y2, z2⟩, st2⟩ := Jvm.LawKit.callS X1 hx (y := (⟨"java/lang/StringUTF16", "getChar", "([BI)C"⟩ : MethodName)) hown (mvT hZ (Wd hw 94 rfl)) (mvT hZ (Wd hw 95 rfl)) (mvT hZ (Wd hw 48 rfl)) (mvT hZ (Wd hw 96 rfl)) (by decide) (backOf (W := 0) (rmA9 l Z a0 hw [] xo0_ ui1_ ui2_ ui3_ ui4_ ui5_ ui6_ ui7_ ui8_ ui9_ ui10_ ui11_ ui12_ ui13_ ui14_ ui15_ k_xo0_ h0 n0 Z0 X00 S__assertionsDisabled V_xo0_ hp2_ S_HI_BYTE_SHIFT hp3_ S_LO_BYTE_SHIFT) hZ (Wd hw 96 rfl) (Wd hw 48 rfl) (by decide) (by decide)) (g := (mkF m 7 #[.val (.ref xo0_), .val (.int (0 : Int32))] [(.int (0 : Int32)), (.ref xo0_)])) rfl (by rw [hml]; rfl) (argsL := [(.ref xo0_), (.int (0 : Int32))]) (rest := []) (lenOf own_pd5 rfl) rfl (by show 2 * 0 + _ ≤ _; exact Nat.le_of_eq rfl) (hb hby d22_7) (fun _ _ => ⟨rfl, e1, (by decide : 0 + 0 ≤ _), (by decide : 0 + 0 ≤ _)⟩)
 dsimp only [Pt.U, Pt.locs, Pt.cells, Pt.slots] at X2 l2 y2 z2 st2 hQ2
 subst l2 y2 z2
 obtain ⟨rfl, Nq2, e2⟩ := hQ2
 have N2 := Fr.app N1 Nq2
 obtain ⟨fs, hr, hrun, hended, hW, hsame⟩ := X2.leave (v := some (.int (nar .char ((((ui2_ &&& (255 : Int32)) <<< ((0 : Int32) &&& 31)) ||| ((ui3_ &&& (255 : Int32)) <<< ((8 : Int32) &&& 31))).toUInt32.toUInt16.toUInt32.toInt32)))) (fun h => by rw [Bd.returns] at h; cases h)
 refine ⟨_, _, (pre0 _ ?_), hrun, hended, _, _, rfl, ?_, ⟨_, rfl⟩, hW, hsame.mono (by decide) (by decide)⟩
 ·show Steps p.tables e below (s₁.setTop (mkF m 0 #[.val (.ref xo0_), .val (.int (0 : Int32))] [])) _
  refine XS.iloadN X0.here hx rfl (hb hby d22_0) rfl ?_
  refine XS.aloadN X0.here hx rfl (hb hby d22_1) rfl rfl ?_
  refine st1 _ ?_
  refine XS.aloadN X1.here hx rfl (hb hby d22_5) rfl rfl ?_
  refine XS.iloadN X1.here hx rfl (hb hby d22_6) rfl ?_
  refine st2 _ ?_
  exact retN X2 hx (t := .char) Bd.returns (by simp) (hb hby d22_10) hr
 ·show QA25 Z xo0_ ui1_ ui2_ ui3_ ui4_ ui5_ ui6_ ui7_ ui8_ ui9_ ui10_ ui11_ ui12_ ui13_ ui14_ ui15_ k_xo0_ uv16_ h0 n0 _ T2.heap _
  rw [e2]
  exact ⟨(congrArg (fun w => some (Value.int w)) (own_narc _)), N2, rfl⟩
theorem d12_16 : decode jdk_42_method_56_code 16 = .ok (.aload_n 0, 1) := by decide +kernel
theorem d12_17 : decode jdk_42_method_56_code 17 = .ok (.getfield 9, 3) := by decide +kernel
theorem d12_20 : decode jdk_42_method_56_code 20 = .ok (.iload_n 1, 1) := by decide +kernel
theorem d12_21 : decode jdk_42_method_56_code 21 = .ok (.invokestatic 498, 3) := by decide +kernel
theorem d12_24 : decode jdk_42_method_56_code 24 = .ok (.ireturn, 1) := by decide +kernel
theorem efCHWa (m : MethodId) (x : Addr) : entryFrame m #[(.ref x), (.int (0 : Int32))] 2 = mkF m 0 #[.val (.ref x), .val (.int (0 : Int32))] [] := by first | (simp [entryFrame, mkF, argsToLocals, Value.category]; done) | rfl
def QCHWa (Z : State) (x : Addr) (tv : Addr) (nn : Int32) (qa : Int32) (qb : Int32) (qc : Int32) (qd : Int32) (qe : Int32) (qf : Int32) (qg : Int32) (k_tv : ClassId) (cst : Int32) (fm : Value) (h0 : Heap) (n0 : Nat) (v : Option Value) (h : Heap) (L : List Loc) : Prop := v = some (.int qa) ∧ Fr n0 L ∧ h = h0
set_option maxRecDepth 65536 in
set_option maxHeartbeats 40000000 in
theorem rmCHWa (l : Launch) (Z : State) (a0 : Array Value) (hw : ∀ d ∈ tables_1, d.before a0 Z = true) (ws : List Jvm.Cond) (x : Addr) (tv : Addr) (nn : Int32) (qa : Int32) (qb : Int32) (qc : Int32) (qd : Int32) (qe : Int32) (qf : Int32) (qg : Int32) (k_tv : ClassId) (cst : Int32) (fm : Value) (h0 : Heap) (n0 : Nat) (Z0 : n0 ≤ h0.size) (E_x : Exa Z h0 x "java/lang/String") (F_value_x : Fld Z h0 x "java/lang/String" "value" "[B" (.ref tv)) (F_coder_x : Fld Z h0 x "java/lang/String" "coder" "B" (.int (1 : Int32))) (V_tv : Arv Z h0 tv k_tv .byte (nn <<< ((1 : Int32) &&& 31)) [(.int (own_w0 qa)), (.int (own_w1 qa)), (.int (own_w0 qb)), (.int (own_w1 qb)), (.int (own_w0 qc)), (.int (own_w1 qc)), (.int (own_w0 qd)), (.int (own_w1 qd)), (.int (own_w0 qe)), (.int (own_w1 qe)), (.int (own_w0 qf)), (.int (own_w1 qf)), (.int (own_w0 qg)), (.int (own_w1 qg))] (.int (0 : Int32))) (X00 : Old Z n0 h0) (S__assertionsDisabled : Sta Z Z.heap "java/lang/StringUTF16" "$assertionsDisabled" "Z" (.int (1 : Int32))) (S_HI_BYTE_SHIFT : Sta Z Z.heap "java/lang/StringUTF16" "HI_BYTE_SHIFT" "I" (.int (0 : Int32))) (S_LO_BYTE_SHIFT : Sta Z Z.heap "java/lang/StringUTF16" "LO_BYTE_SHIFT" "I" (.int (8 : Int32))) (S_COMPACT_STRINGS : Sta Z Z.heap "java/lang/String" "COMPACT_STRINGS" "Z" (.int cst)) (hcs : ¬ cst = (0 : Int32)) (hn : 0 ≤ nn.toInt ∧ nn.toInt ≤ 7) (S_SIOOBE_FORMATTER : Sta Z Z.heap "jdk/internal/util/Preconditions" "SIOOBE_FORMATTER" "Ljava/util/function/BiFunction;" fm) (hfm : own_nr fm) (hi : (0 : Int32) < nn) (hq : own_c16 qa) :
  MetFree l (⟨"java/lang/String", "charAt", "(I)C"⟩ : MethodName) (head1 (Jvm.Cond.code (⟨"java/lang/String", "charAt", "(I)C"⟩ : MethodName) jdk_42_method_56_code 2 (some .char) :: ws) ({ frames := 4, cells := 0, slots := 0, locals := 60 } : Room)) (fun av_ U => av_ = #[(.ref x), (.int (0 : Int32))] ∧ Z.Warmed39 U.vm ∧ U.heap = h0) (fun _ _ _ _ _ => True) (fun _ U o U' => ∃ v L, o = .returned v ∧ QCHWa Z x tv nn qa qb qc qd qe qf qg k_tv cst fm h0 n0 v U'.heap L ∧ FrameEnd U o U' L ({ frames := 4, cells := 0, slots := 0, locals := 60 } : Room).cells ({ frames := 4, cells := 0, slots := 0, locals := 60 } : Room).slots) := by
 refine MetFree.of_bodySF (plainFor_of_name own_pn1) hisR ?_
 intro p e s m args below meth c s₁ Bd hml0 hP hK
 obtain ⟨rfl, hZ, hh⟩ := hP
 have hx := Bd.exec
 have hby := Bd.bytes
 have hml : c.maxLocals = 2 := hml0
 have hown : s.vm.findClass "java/lang/String" = some m.cls := findClass_of_methodNamed Bd.named
 have hnm := (name_of_methodNamed Bd.named Bd.method).1
 have X0 : Stand p l e ({ frames := 4, cells := 0, slots := 0, locals := 60 } : Room) s m #[(.ref x), (.int (0 : Int32))] below meth c s₁ [] 0 0 := Stand.of_body Bd
 have e0 : s₁.heap = h0 := by rw [← hh, Bd.state]; rfl
 have N0 := Fr.nil n0
 have pre0 : ∀ t, Steps p.tables e below (s₁.setTop (mkF m 0 #[.val (.ref x), .val (.int (0 : Int32))] [])) t → Steps p.tables e below (s₁.setTop (entryFrame m #[(.ref x), (.int (0 : Int32))] 2)) t := fun t k => castTop (efCHWa m x) k
 obtain ⟨cq1, kq1, q1a, q1b, q1c⟩ := isOf hZ e0 E_x
 obtain ⟨_, _, ⟨T1, L1, k1, n1⟩, -, X1, ⟨Lc1, hQ1, l1, y1, z1⟩, st1⟩ := X0.virtualBack hx (y := (⟨"java/lang/String", "isLatin1", "()Z"⟩ : MethodName)) (z := (⟨"java/lang/String", "isLatin1", "()Z"⟩ : MethodName)) hown (mvT hZ (Wd hw 61 rfl)) (mvT hZ (Wd hw 62 rfl)) (notFace_of_selects (args := #[]) (mvT hZ (Wd hw 64 rfl))) (mvT hZ (Wd hw 64 rfl)) (mvT hZ (Wd hw 63 rfl)) (by decide) (backOf (W := 0) (rmA24 l Z a0 hw [] x tv cst h0 n0 Z0 E_x F_value_x F_coder_x X00 S_COMPACT_STRINGS hcs) hZ (Wd hw 65 rfl) (Wd hw 8 rfl) (by decide) (by decide)) q1a q1c (g := (mkF m 1 #[.val (.ref x), .val (.int (0 : Int32))] [(.ref x)])) rfl (by rw [hml]; rfl) (Steps.refl _) (argsL := []) (rest := []) (lenOf own_pd10 rfl) rfl (by show 2 * 0 + _ ≤ _; exact Nat.le_of_eq rfl) (hb hby d12_1) (fun _ _ => ⟨rfl, e0, (by decide : 0 + 0 ≤ _), (by decide : 0 + 0 ≤ _)⟩)
 dsimp only [Pt.U, Pt.locs, Pt.cells, Pt.slots] at X1 l1 y1 z1 st1 hQ1
 subst l1 y1 z1
 obtain ⟨rfl, Nq1, e1⟩ := hQ1
 have N1 := Fr.app N0 Nq1
 obtain ⟨T2, X2, e2, st2⟩ := getF X1 hx hZ hown (host := "") (Or.inl (Wd hw 25 rfl)) Via.refl e1 F_value_x (g := (mkF m 17 #[.val (.ref x), .val (.int (0 : Int32))] [(.ref x)])) rfl rfl (hb hby d12_17)
 obtain ⟨_, _, ⟨T3, L3, k3, n3⟩, -, X3, ⟨Lc3, hQ3, l3, y3, z3⟩, st3⟩ := Jvm.LawKit.callS X2 hx (y := (⟨"java/lang/StringUTF16", "charAt", "([BI)C"⟩ : MethodName)) hown (mvT hZ (Wd hw 97 rfl)) (mvT hZ (Wd hw 98 rfl)) (mvT hZ (Wd hw 48 rfl)) (mvT hZ (Wd hw 99 rfl)) (by decide) (backOf (W := 0) (rmA25 l Z a0 hw [] tv (nn <<< ((1 : Int32) &&& 31)) (own_w0 qa) (own_w1 qa) (own_w0 qb) (own_w1 qb) (own_w0 qc) (own_w1 qc) (own_w0 qd) (own_w1 qd) (own_w0 qe) (own_w1 qe) (own_w0 qf) (own_w1 qf) (own_w0 qg) (own_w1 qg) k_tv fm h0 n0 Z0 V_tv X00 S_SIOOBE_FORMATTER hfm (by rw [own_shr hn]; exact hi) (own_sh2 hn hi (i := 0) (by decide) (by decide)) (own_sh2 hn hi (i := 0) (by decide) (by decide)) S__assertionsDisabled S_HI_BYTE_SHIFT S_LO_BYTE_SHIFT) hZ (Wd hw 99 rfl) (Wd hw 48 rfl) (by decide) (by decide)) (g := (mkF m 21 #[.val (.ref x), .val (.int (0 : Int32))] [(.int (0 : Int32)), (.ref tv)])) rfl (by rw [hml]; rfl) (argsL := [(.ref tv), (.int (0 : Int32))]) (rest := []) (lenOf own_pd5 rfl) rfl (by show 2 * 0 + _ ≤ _; exact Nat.le_of_eq rfl) (hb hby d12_21) (fun _ _ => ⟨rfl, e2, (by decide : 0 + 0 ≤ _), (by decide : 0 + 0 ≤ _)⟩)
 dsimp only [Pt.U, Pt.locs, Pt.cells, Pt.slots] at X3 l3 y3 z3 st3 hQ3
 subst l3 y3 z3
 obtain ⟨rfl, Nq3, e3⟩ := hQ3
 have N3 := Fr.app N1 Nq3
 obtain ⟨fs, hr, hrun, hended, hW, hsame⟩ := X3.leave (v := some (.int (nar .char (((((own_w0 qa) &&& (255 : Int32)) <<< ((0 : Int32) &&& 31)) ||| (((own_w1 qa) &&& (255 : Int32)) <<< ((8 : Int32) &&& 31))).toUInt32.toUInt16.toUInt32.toInt32)))) (fun h => by rw [Bd.returns] at h; cases h)
 refine ⟨_, _, (pre0 _ ?_), hrun, hended, _, _, rfl, ?_, ⟨_, rfl⟩, hW, hsame.mono (by decide) (by decide)⟩
 ·show Steps p.tables e below (s₁.setTop (mkF m 0 #[.val (.ref x), .val (.int (0 : Int32))] [])) _
  refine XS.aloadN X0.here hx rfl (hb hby d12_0) rfl rfl ?_
  refine st1.trans ?_
  refine XS.ifYes X1.here hx rfl (pc0 := 4) (pc' := 16) rfl (hb hby d12_4) rfl ((if0 _ _).trans (teq (by decide : (0 : Int32) = (0 : Int32))).1) (by decide) (by decide) ?_
  refine XS.aloadN X1.here hx rfl (hb hby d12_16) rfl rfl ?_
  refine st2 _ ?_
  refine XS.iloadN X2.here hx rfl (hb hby d12_20) rfl ?_
  refine st3 _ ?_
  exact retN X3 hx (t := .char) Bd.returns (by simp) (hb hby d12_24) hr
 ·show QCHWa Z x tv nn qa qb qc qd qe qf qg k_tv cst fm h0 n0 _ T3.heap _
  rw [e3]
  exact ⟨(congrArg (fun w => some (Value.int w)) (own_chW hq)), N3, rfl⟩
theorem efA29 (m : MethodId) (xo1_ : Addr) : entryFrame m #[(.int (1 : Int32)), (.ref xo1_)] 2 = mkF m 0 #[.val (.int (1 : Int32)), .val (.ref xo1_)] [] := by first | (simp [entryFrame, mkF, argsToLocals, Value.category]; done) | rfl
def QA29 (Z : State) (xo1_ : Addr) (ui1_ : Int32) (ui2_ : Int32) (ui3_ : Int32) (ui4_ : Int32) (ui5_ : Int32) (ui6_ : Int32) (ui7_ : Int32) (ui8_ : Int32) (ui9_ : Int32) (ui10_ : Int32) (ui11_ : Int32) (ui12_ : Int32) (ui13_ : Int32) (ui14_ : Int32) (ui15_ : Int32) (k_xo1_ : ClassId) (uv16_ : Value) (h0 : Heap) (n0 : Nat) (v : Option Value) (h : Heap) (L : List Loc) : Prop := v = none ∧ Fr n0 L ∧ h = h0
set_option maxRecDepth 65536 in
set_option maxHeartbeats 40000000 in
theorem rmA29 (l : Launch) (Z : State) (a0 : Array Value) (hw : ∀ d ∈ tables_1, d.before a0 Z = true) (ws : List Jvm.Cond) (xo1_ : Addr) (ui1_ : Int32) (ui2_ : Int32) (ui3_ : Int32) (ui4_ : Int32) (ui5_ : Int32) (ui6_ : Int32) (ui7_ : Int32) (ui8_ : Int32) (ui9_ : Int32) (ui10_ : Int32) (ui11_ : Int32) (ui12_ : Int32) (ui13_ : Int32) (ui14_ : Int32) (ui15_ : Int32) (k_xo1_ : ClassId) (uv16_ : Value) (h0 : Heap) (n0 : Nat) (Z0 : n0 ≤ h0.size) (V_xo1_ : Arv Z h0 xo1_ k_xo1_ .byte ui1_ [(.int ui2_), (.int ui3_), (.int ui4_), (.int ui5_), (.int ui6_), (.int ui7_), (.int ui8_), (.int ui9_), (.int ui10_), (.int ui11_), (.int ui12_), (.int ui13_), (.int ui14_), (.int ui15_)] (.int (0 : Int32))) (X00 : Old Z n0 h0) (S_SIOOBE_FORMATTER : Sta Z Z.heap "jdk/internal/util/Preconditions" "SIOOBE_FORMATTER" "Ljava/util/function/BiFunction;" uv16_) (hp0_ : own_nr uv16_) (hp1_ : (1 : Int32) < (ui1_ >>> ((1 : Int32) &&& 31))) :
  MetFree l (⟨"java/lang/StringUTF16", "checkIndex", "(I[B)V"⟩ : MethodName) (head1 (Jvm.Cond.code (⟨"java/lang/StringUTF16", "checkIndex", "(I[B)V"⟩ : MethodName) jdk_52_method_91_code 2 none :: ws) ({ frames := 2, cells := 0, slots := 0, locals := 33 } : Room)) (fun av_ U => av_ = #[(.int (1 : Int32)), (.ref xo1_)] ∧ Z.Warmed39 U.vm ∧ U.heap = h0) (fun _ _ _ _ _ => True) (fun _ U o U' => ∃ v L, o = .returned v ∧ QA29 Z xo1_ ui1_ ui2_ ui3_ ui4_ ui5_ ui6_ ui7_ ui8_ ui9_ ui10_ ui11_ ui12_ ui13_ ui14_ ui15_ k_xo1_ uv16_ h0 n0 v U'.heap L ∧ FrameEnd U o U' L ({ frames := 2, cells := 0, slots := 0, locals := 33 } : Room).cells ({ frames := 2, cells := 0, slots := 0, locals := 33 } : Room).slots) := by
 refine MetFree.of_bodySF (plainFor_of_name own_pn0) hisR ?_
 intro p e s m args below meth c s₁ Bd hml0 hP hK
 obtain ⟨rfl, hZ, hh⟩ := hP
 have hx := Bd.exec
 have hby := Bd.bytes
 have hml : c.maxLocals = 2 := hml0
 have hown : s.vm.findClass "java/lang/StringUTF16" = some m.cls := findClass_of_methodNamed Bd.named
 have hnm := (name_of_methodNamed Bd.named Bd.method).1
 have X0 : Stand p l e ({ frames := 2, cells := 0, slots := 0, locals := 33 } : Room) s m #[(.int (1 : Int32)), (.ref xo1_)] below meth c s₁ [] 0 0 := Stand.of_body Bd
 have e0 : s₁.heap = h0 := by rw [← hh, Bd.state]; rfl
 have N0 := Fr.nil n0
 have pre0 : ∀ t, Steps p.tables e below (s₁.setTop (mkF m 0 #[.val (.int (1 : Int32)), .val (.ref xo1_)] [])) t → Steps p.tables e below (s₁.setTop (entryFrame m #[(.int (1 : Int32)), (.ref xo1_)] 2)) t := fun t k => castTop (efA29 m xo1_) k
 obtain ⟨_, _, ⟨T1, L1, k1, n1⟩, -, X1, ⟨Lc1, hQ1, l1, y1, z1⟩, st1⟩ := Jvm.LawKit.callS X0 hx (y := (⟨"java/lang/StringUTF16", "length", "([B)I"⟩ : MethodName)) hown (mvT hZ (Wd hw 103 rfl)) (mvT hZ (Wd hw 104 rfl)) (mvT hZ (Wd hw 48 rfl)) (mvT hZ (Wd hw 105 rfl)) (by decide) (backOf (W := 1) (rmA27 l Z a0 hw [] xo1_ ui1_ ui2_ ui3_ ui4_ ui5_ ui6_ ui7_ ui8_ ui9_ ui10_ ui11_ ui12_ ui13_ ui14_ ui15_ k_xo1_ h0 n0 Z0 V_xo1_) hZ (Wd hw 105 rfl) (Wd hw 48 rfl) (by decide) (by decide)) (g := (mkF m 2 #[.val (.int (1 : Int32)), .val (.ref xo1_)] [(.ref xo1_), (.int (1 : Int32))])) rfl (by rw [hml]; rfl) (argsL := [(.ref xo1_)]) (rest := [(.int (1 : Int32))]) (lenOf own_pd12 rfl) rfl (by show 2 * 0 + _ ≤ _; exact Nat.le_of_eq rfl) (hb hby d23_2) (fun _ _ => ⟨rfl, e0, (by decide : 0 + 0 ≤ _), (by decide : 0 + 0 ≤ _)⟩)
 dsimp only [Pt.U, Pt.locs, Pt.cells, Pt.slots] at X1 l1 y1 z1 st1 hQ1
 subst l1 y1 z1
 obtain ⟨rfl, Nq1, e1⟩ := hQ1
 have N1 := Fr.app N0 Nq1
 obtain ⟨_, _, ⟨T2, L2, k2, n2⟩, -, X2, ⟨Lc2, hQ2, l2, y2, z2⟩, st2⟩ := Jvm.LawKit.callS X1 hx (y := (⟨"java/lang/String", "checkIndex", "(II)V"⟩ : MethodName)) hown (mvT hZ (Wd hw 106 rfl)) (mvT hZ (Wd hw 71 rfl)) (mvT hZ (Wd hw 8 rfl)) (mvT hZ (Wd hw 72 rfl)) (by decide) (backOf (W := 0) (rmXI l Z a0 hw [] (1 : Int32) (ui1_ >>> ((1 : Int32) &&& 31)) uv16_ h0 n0 Z0 X00 S_SIOOBE_FORMATTER hp0_ (by decide) hp1_) hZ (Wd hw 72 rfl) (Wd hw 8 rfl) (by decide) (by decide)) (g := (mkF m 5 #[.val (.int (1 : Int32)), .val (.ref xo1_)] [(.int (ui1_ >>> ((1 : Int32) &&& 31))), (.int (1 : Int32))])) rfl (by rw [hml]; rfl) (argsL := [(.int (1 : Int32)), (.int (ui1_ >>> ((1 : Int32) &&& 31)))]) (rest := []) (lenOf own_pd11 rfl) rfl (by show 2 * 0 + _ ≤ _; exact Nat.le_of_eq rfl) (hb hby d23_5) (fun _ _ => ⟨rfl, e1, (by decide : 0 + 0 ≤ _), (by decide : 0 + 0 ≤ _)⟩)
 dsimp only [Pt.U, Pt.locs, Pt.cells, Pt.slots] at X2 l2 y2 z2 st2 hQ2
 subst l2 y2 z2
 obtain ⟨rfl, Nq2, e2⟩ := hQ2
 have N2 := Fr.app N1 Nq2
 obtain ⟨fs, hr, hrun, hended, hW, hsame⟩ := X2.leave (v := none) (fun _ => rfl)
 refine ⟨_, _, (pre0 _ ?_), hrun, hended, _, _, rfl, ?_, ⟨_, rfl⟩, hW, hsame.mono (by decide) (by decide)⟩
 ·show Steps p.tables e below (s₁.setTop (mkF m 0 #[.val (.int (1 : Int32)), .val (.ref xo1_)] [])) _
  refine XS.iloadN X0.here hx rfl (hb hby d23_0) rfl ?_
  refine XS.aloadN X0.here hx rfl (hb hby d23_1) rfl rfl ?_
  refine st1 _ ?_
  refine st2 _ ?_
  exact X2.returnOut hx Bd.returns (hb hby d23_8) hr
 ·show QA29 Z xo1_ ui1_ ui2_ ui3_ ui4_ ui5_ ui6_ ui7_ ui8_ ui9_ ui10_ ui11_ ui12_ ui13_ ui14_ ui15_ k_xo1_ uv16_ h0 n0 _ T2.heap _
  rw [e2]
  exact ⟨rfl, N2, rfl⟩
theorem efA28 (m : MethodId) (xo0_ : Addr) : entryFrame m #[(.ref xo0_), (.int (1 : Int32))] 2 = mkF m 0 #[.val (.ref xo0_), .val (.int (1 : Int32))] [] := by first | (simp [entryFrame, mkF, argsToLocals, Value.category]; done) | rfl
def QA28 (Z : State) (xo0_ : Addr) (ui1_ : Int32) (ui2_ : Int32) (ui3_ : Int32) (ui4_ : Int32) (ui5_ : Int32) (ui6_ : Int32) (ui7_ : Int32) (ui8_ : Int32) (ui9_ : Int32) (ui10_ : Int32) (ui11_ : Int32) (ui12_ : Int32) (ui13_ : Int32) (ui14_ : Int32) (ui15_ : Int32) (k_xo0_ : ClassId) (uv16_ : Value) (h0 : Heap) (n0 : Nat) (v : Option Value) (h : Heap) (L : List Loc) : Prop := v = some (.int ((((ui4_ &&& (255 : Int32)) <<< ((0 : Int32) &&& 31)) ||| ((ui5_ &&& (255 : Int32)) <<< ((8 : Int32) &&& 31))).toUInt32.toUInt16.toUInt32.toInt32)) ∧ Fr n0 L ∧ h = h0
set_option maxRecDepth 65536 in
set_option maxHeartbeats 40000000 in
theorem rmA28 (l : Launch) (Z : State) (a0 : Array Value) (hw : ∀ d ∈ tables_1, d.before a0 Z = true) (ws : List Jvm.Cond) (xo0_ : Addr) (ui1_ : Int32) (ui2_ : Int32) (ui3_ : Int32) (ui4_ : Int32) (ui5_ : Int32) (ui6_ : Int32) (ui7_ : Int32) (ui8_ : Int32) (ui9_ : Int32) (ui10_ : Int32) (ui11_ : Int32) (ui12_ : Int32) (ui13_ : Int32) (ui14_ : Int32) (ui15_ : Int32) (k_xo0_ : ClassId) (uv16_ : Value) (h0 : Heap) (n0 : Nat) (Z0 : n0 ≤ h0.size) (V_xo0_ : Arv Z h0 xo0_ k_xo0_ .byte ui1_ [(.int ui2_), (.int ui3_), (.int ui4_), (.int ui5_), (.int ui6_), (.int ui7_), (.int ui8_), (.int ui9_), (.int ui10_), (.int ui11_), (.int ui12_), (.int ui13_), (.int ui14_), (.int ui15_)] (.int (0 : Int32))) (X00 : Old Z n0 h0) (S_SIOOBE_FORMATTER : Sta Z Z.heap "jdk/internal/util/Preconditions" "SIOOBE_FORMATTER" "Ljava/util/function/BiFunction;" uv16_) (hp0_ : own_nr uv16_) (hp1_ : (1 : Int32) < (ui1_ >>> ((1 : Int32) &&& 31))) (hp2_ : (2 : Int32) < ui1_) (hp3_ : (3 : Int32) < ui1_) (S__assertionsDisabled : Sta Z Z.heap "java/lang/StringUTF16" "$assertionsDisabled" "Z" (.int (1 : Int32))) (S_HI_BYTE_SHIFT : Sta Z Z.heap "java/lang/StringUTF16" "HI_BYTE_SHIFT" "I" (.int (0 : Int32))) (S_LO_BYTE_SHIFT : Sta Z Z.heap "java/lang/StringUTF16" "LO_BYTE_SHIFT" "I" (.int (8 : Int32))) :
  MetFree l (⟨"java/lang/StringUTF16", "charAt", "([BI)C"⟩ : MethodName) (head1 (Jvm.Cond.code (⟨"java/lang/StringUTF16", "charAt", "([BI)C"⟩ : MethodName) jdk_52_method_83_code 2 (some .char) :: ws) ({ frames := 3, cells := 0, slots := 0, locals := 46 } : Room)) (fun av_ U => av_ = #[(.ref xo0_), (.int (1 : Int32))] ∧ Z.Warmed39 U.vm ∧ U.heap = h0) (fun _ _ _ _ _ => True) (fun _ U o U' => ∃ v L, o = .returned v ∧ QA28 Z xo0_ ui1_ ui2_ ui3_ ui4_ ui5_ ui6_ ui7_ ui8_ ui9_ ui10_ ui11_ ui12_ ui13_ ui14_ ui15_ k_xo0_ uv16_ h0 n0 v U'.heap L ∧ FrameEnd U o U' L ({ frames := 3, cells := 0, slots := 0, locals := 46 } : Room).cells ({ frames := 3, cells := 0, slots := 0, locals := 46 } : Room).slots) := by
 refine MetFree.of_bodySF (plainFor_of_name own_pn0) hisR ?_
 intro p e s m args below meth c s₁ Bd hml0 hP hK
 obtain ⟨rfl, hZ, hh⟩ := hP
 have hx := Bd.exec
 have hby := Bd.bytes
 have hml : c.maxLocals = 2 := hml0
 have hown : s.vm.findClass "java/lang/StringUTF16" = some m.cls := findClass_of_methodNamed Bd.named
 have hnm := (name_of_methodNamed Bd.named Bd.method).1
 have X0 : Stand p l e ({ frames := 3, cells := 0, slots := 0, locals := 46 } : Room) s m #[(.ref xo0_), (.int (1 : Int32))] below meth c s₁ [] 0 0 := Stand.of_body Bd
 have e0 : s₁.heap = h0 := by rw [← hh, Bd.state]; rfl
 have N0 := Fr.nil n0
 have pre0 : ∀ t, Steps p.tables e below (s₁.setTop (mkF m 0 #[.val (.ref xo0_), .val (.int (1 : Int32))] [])) t → Steps p.tables e below (s₁.setTop (entryFrame m #[(.ref xo0_), (.int (1 : Int32))] 2)) t := fun t k => castTop (efA28 m xo0_) k
 obtain ⟨_, _, ⟨T1, L1, k1, n1⟩, -, X1, ⟨Lc1, hQ1, l1, y1, z1⟩, st1⟩ := Jvm.LawKit.callS X0 hx (y := (⟨"java/lang/StringUTF16", "checkIndex", "(I[B)V"⟩ : MethodName)) hown (mvT hZ (Wd hw 100 rfl)) (mvT hZ (Wd hw 101 rfl)) (mvT hZ (Wd hw 48 rfl)) (mvT hZ (Wd hw 102 rfl)) (by decide) (backOf (W := 0) (rmA29 l Z a0 hw [] xo0_ ui1_ ui2_ ui3_ ui4_ ui5_ ui6_ ui7_ ui8_ ui9_ ui10_ ui11_ ui12_ ui13_ ui14_ ui15_ k_xo0_ uv16_ h0 n0 Z0 V_xo0_ X00 S_SIOOBE_FORMATTER hp0_ hp1_) hZ (Wd hw 102 rfl) (Wd hw 48 rfl) (by decide) (by decide)) (g := (mkF m 2 #[.val (.ref xo0_), .val (.int (1 : Int32))] [(.ref xo0_), (.int (1 : Int32))])) rfl (by rw [hml]; rfl) (argsL := [(.int (1 : Int32)), (.ref xo0_)]) (rest := []) (lenOf own_pd13 rfl) rfl (by show 2 * 0 + _ ≤ _; exact Nat.le_of_eq rfl) (hb hby d22_2) (fun _ _ => ⟨rfl, e0, (by decide : 0 + 0 ≤ _), (by decide : 0 + 0 ≤ _)⟩)
 dsimp only [Pt.U, Pt.locs, Pt.cells, Pt.slots] at X1 l1 y1 z1 st1 hQ1
 subst l1 y1 z1
 obtain ⟨rfl, Nq1, e1⟩ := hQ1
 have N1 := Fr.app N0 Nq1
 obtain ⟨_, _, ⟨T2, L2, k2, n2⟩, -, X2, ⟨Lc2, hQ2, l2, y2, z2⟩, st2⟩ := Jvm.LawKit.callS X1 hx (y := (⟨"java/lang/StringUTF16", "getChar", "([BI)C"⟩ : MethodName)) hown (mvT hZ (Wd hw 94 rfl)) (mvT hZ (Wd hw 95 rfl)) (mvT hZ (Wd hw 48 rfl)) (mvT hZ (Wd hw 96 rfl)) (by decide) (backOf (W := 0) (rmA10 l Z a0 hw [] xo0_ ui1_ ui2_ ui3_ ui4_ ui5_ ui6_ ui7_ ui8_ ui9_ ui10_ ui11_ ui12_ ui13_ ui14_ ui15_ k_xo0_ h0 n0 Z0 X00 S__assertionsDisabled V_xo0_ hp2_ S_HI_BYTE_SHIFT hp3_ S_LO_BYTE_SHIFT) hZ (Wd hw 96 rfl) (Wd hw 48 rfl) (by decide) (by decide)) (g := (mkF m 7 #[.val (.ref xo0_), .val (.int (1 : Int32))] [(.int (1 : Int32)), (.ref xo0_)])) rfl (by rw [hml]; rfl) (argsL := [(.ref xo0_), (.int (1 : Int32))]) (rest := []) (lenOf own_pd5 rfl) rfl (by show 2 * 0 + _ ≤ _; exact Nat.le_of_eq rfl) (hb hby d22_7) (fun _ _ => ⟨rfl, e1, (by decide : 0 + 0 ≤ _), (by decide : 0 + 0 ≤ _)⟩)
 dsimp only [Pt.U, Pt.locs, Pt.cells, Pt.slots] at X2 l2 y2 z2 st2 hQ2
 subst l2 y2 z2
 obtain ⟨rfl, Nq2, e2⟩ := hQ2
 have N2 := Fr.app N1 Nq2
 obtain ⟨fs, hr, hrun, hended, hW, hsame⟩ := X2.leave (v := some (.int (nar .char ((((ui4_ &&& (255 : Int32)) <<< ((0 : Int32) &&& 31)) ||| ((ui5_ &&& (255 : Int32)) <<< ((8 : Int32) &&& 31))).toUInt32.toUInt16.toUInt32.toInt32)))) (fun h => by rw [Bd.returns] at h; cases h)
 refine ⟨_, _, (pre0 _ ?_), hrun, hended, _, _, rfl, ?_, ⟨_, rfl⟩, hW, hsame.mono (by decide) (by decide)⟩
 ·show Steps p.tables e below (s₁.setTop (mkF m 0 #[.val (.ref xo0_), .val (.int (1 : Int32))] [])) _
  refine XS.iloadN X0.here hx rfl (hb hby d22_0) rfl ?_
  refine XS.aloadN X0.here hx rfl (hb hby d22_1) rfl rfl ?_
  refine st1 _ ?_
  refine XS.aloadN X1.here hx rfl (hb hby d22_5) rfl rfl ?_
  refine XS.iloadN X1.here hx rfl (hb hby d22_6) rfl ?_
  refine st2 _ ?_
  exact retN X2 hx (t := .char) Bd.returns (by simp) (hb hby d22_10) hr
 ·show QA28 Z xo0_ ui1_ ui2_ ui3_ ui4_ ui5_ ui6_ ui7_ ui8_ ui9_ ui10_ ui11_ ui12_ ui13_ ui14_ ui15_ k_xo0_ uv16_ h0 n0 _ T2.heap _
  rw [e2]
  exact ⟨(congrArg (fun w => some (Value.int w)) (own_narc _)), N2, rfl⟩
theorem efCHWb (m : MethodId) (x : Addr) : entryFrame m #[(.ref x), (.int (1 : Int32))] 2 = mkF m 0 #[.val (.ref x), .val (.int (1 : Int32))] [] := by first | (simp [entryFrame, mkF, argsToLocals, Value.category]; done) | rfl
def QCHWb (Z : State) (x : Addr) (tv : Addr) (nn : Int32) (qa : Int32) (qb : Int32) (qc : Int32) (qd : Int32) (qe : Int32) (qf : Int32) (qg : Int32) (k_tv : ClassId) (cst : Int32) (fm : Value) (h0 : Heap) (n0 : Nat) (v : Option Value) (h : Heap) (L : List Loc) : Prop := v = some (.int qb) ∧ Fr n0 L ∧ h = h0
set_option maxRecDepth 65536 in
set_option maxHeartbeats 40000000 in
theorem rmCHWb (l : Launch) (Z : State) (a0 : Array Value) (hw : ∀ d ∈ tables_1, d.before a0 Z = true) (ws : List Jvm.Cond) (x : Addr) (tv : Addr) (nn : Int32) (qa : Int32) (qb : Int32) (qc : Int32) (qd : Int32) (qe : Int32) (qf : Int32) (qg : Int32) (k_tv : ClassId) (cst : Int32) (fm : Value) (h0 : Heap) (n0 : Nat) (Z0 : n0 ≤ h0.size) (E_x : Exa Z h0 x "java/lang/String") (F_value_x : Fld Z h0 x "java/lang/String" "value" "[B" (.ref tv)) (F_coder_x : Fld Z h0 x "java/lang/String" "coder" "B" (.int (1 : Int32))) (V_tv : Arv Z h0 tv k_tv .byte (nn <<< ((1 : Int32) &&& 31)) [(.int (own_w0 qa)), (.int (own_w1 qa)), (.int (own_w0 qb)), (.int (own_w1 qb)), (.int (own_w0 qc)), (.int (own_w1 qc)), (.int (own_w0 qd)), (.int (own_w1 qd)), (.int (own_w0 qe)), (.int (own_w1 qe)), (.int (own_w0 qf)), (.int (own_w1 qf)), (.int (own_w0 qg)), (.int (own_w1 qg))] (.int (0 : Int32))) (X00 : Old Z n0 h0) (S__assertionsDisabled : Sta Z Z.heap "java/lang/StringUTF16" "$assertionsDisabled" "Z" (.int (1 : Int32))) (S_HI_BYTE_SHIFT : Sta Z Z.heap "java/lang/StringUTF16" "HI_BYTE_SHIFT" "I" (.int (0 : Int32))) (S_LO_BYTE_SHIFT : Sta Z Z.heap "java/lang/StringUTF16" "LO_BYTE_SHIFT" "I" (.int (8 : Int32))) (S_COMPACT_STRINGS : Sta Z Z.heap "java/lang/String" "COMPACT_STRINGS" "Z" (.int cst)) (hcs : ¬ cst = (0 : Int32)) (hn : 0 ≤ nn.toInt ∧ nn.toInt ≤ 7) (S_SIOOBE_FORMATTER : Sta Z Z.heap "jdk/internal/util/Preconditions" "SIOOBE_FORMATTER" "Ljava/util/function/BiFunction;" fm) (hfm : own_nr fm) (hi : (1 : Int32) < nn) (hq : own_c16 qb) :
  MetFree l (⟨"java/lang/String", "charAt", "(I)C"⟩ : MethodName) (head1 (Jvm.Cond.code (⟨"java/lang/String", "charAt", "(I)C"⟩ : MethodName) jdk_42_method_56_code 2 (some .char) :: ws) ({ frames := 4, cells := 0, slots := 0, locals := 60 } : Room)) (fun av_ U => av_ = #[(.ref x), (.int (1 : Int32))] ∧ Z.Warmed39 U.vm ∧ U.heap = h0) (fun _ _ _ _ _ => True) (fun _ U o U' => ∃ v L, o = .returned v ∧ QCHWb Z x tv nn qa qb qc qd qe qf qg k_tv cst fm h0 n0 v U'.heap L ∧ FrameEnd U o U' L ({ frames := 4, cells := 0, slots := 0, locals := 60 } : Room).cells ({ frames := 4, cells := 0, slots := 0, locals := 60 } : Room).slots) := by
 refine MetFree.of_bodySF (plainFor_of_name own_pn1) hisR ?_
 intro p e s m args below meth c s₁ Bd hml0 hP hK
 obtain ⟨rfl, hZ, hh⟩ := hP
 have hx := Bd.exec
 have hby := Bd.bytes
 have hml : c.maxLocals = 2 := hml0
 have hown : s.vm.findClass "java/lang/String" = some m.cls := findClass_of_methodNamed Bd.named
 have hnm := (name_of_methodNamed Bd.named Bd.method).1
 have X0 : Stand p l e ({ frames := 4, cells := 0, slots := 0, locals := 60 } : Room) s m #[(.ref x), (.int (1 : Int32))] below meth c s₁ [] 0 0 := Stand.of_body Bd
 have e0 : s₁.heap = h0 := by rw [← hh, Bd.state]; rfl
 have N0 := Fr.nil n0
 have pre0 : ∀ t, Steps p.tables e below (s₁.setTop (mkF m 0 #[.val (.ref x), .val (.int (1 : Int32))] [])) t → Steps p.tables e below (s₁.setTop (entryFrame m #[(.ref x), (.int (1 : Int32))] 2)) t := fun t k => castTop (efCHWb m x) k
 obtain ⟨cq1, kq1, q1a, q1b, q1c⟩ := isOf hZ e0 E_x
 obtain ⟨_, _, ⟨T1, L1, k1, n1⟩, -, X1, ⟨Lc1, hQ1, l1, y1, z1⟩, st1⟩ := X0.virtualBack hx (y := (⟨"java/lang/String", "isLatin1", "()Z"⟩ : MethodName)) (z := (⟨"java/lang/String", "isLatin1", "()Z"⟩ : MethodName)) hown (mvT hZ (Wd hw 61 rfl)) (mvT hZ (Wd hw 62 rfl)) (notFace_of_selects (args := #[]) (mvT hZ (Wd hw 64 rfl))) (mvT hZ (Wd hw 64 rfl)) (mvT hZ (Wd hw 63 rfl)) (by decide) (backOf (W := 0) (rmA24 l Z a0 hw [] x tv cst h0 n0 Z0 E_x F_value_x F_coder_x X00 S_COMPACT_STRINGS hcs) hZ (Wd hw 65 rfl) (Wd hw 8 rfl) (by decide) (by decide)) q1a q1c (g := (mkF m 1 #[.val (.ref x), .val (.int (1 : Int32))] [(.ref x)])) rfl (by rw [hml]; rfl) (Steps.refl _) (argsL := []) (rest := []) (lenOf own_pd10 rfl) rfl (by show 2 * 0 + _ ≤ _; exact Nat.le_of_eq rfl) (hb hby d12_1) (fun _ _ => ⟨rfl, e0, (by decide : 0 + 0 ≤ _), (by decide : 0 + 0 ≤ _)⟩)
 dsimp only [Pt.U, Pt.locs, Pt.cells, Pt.slots] at X1 l1 y1 z1 st1 hQ1
 subst l1 y1 z1
 obtain ⟨rfl, Nq1, e1⟩ := hQ1
 have N1 := Fr.app N0 Nq1
 obtain ⟨T2, X2, e2, st2⟩ := getF X1 hx hZ hown (host := "") (Or.inl (Wd hw 25 rfl)) Via.refl e1 F_value_x (g := (mkF m 17 #[.val (.ref x), .val (.int (1 : Int32))] [(.ref x)])) rfl rfl (hb hby d12_17)
 obtain ⟨_, _, ⟨T3, L3, k3, n3⟩, -, X3, ⟨Lc3, hQ3, l3, y3, z3⟩, st3⟩ := Jvm.LawKit.callS X2 hx (y := (⟨"java/lang/StringUTF16", "charAt", "([BI)C"⟩ : MethodName)) hown (mvT hZ (Wd hw 97 rfl)) (mvT hZ (Wd hw 98 rfl)) (mvT hZ (Wd hw 48 rfl)) (mvT hZ (Wd hw 99 rfl)) (by decide) (backOf (W := 0) (rmA28 l Z a0 hw [] tv (nn <<< ((1 : Int32) &&& 31)) (own_w0 qa) (own_w1 qa) (own_w0 qb) (own_w1 qb) (own_w0 qc) (own_w1 qc) (own_w0 qd) (own_w1 qd) (own_w0 qe) (own_w1 qe) (own_w0 qf) (own_w1 qf) (own_w0 qg) (own_w1 qg) k_tv fm h0 n0 Z0 V_tv X00 S_SIOOBE_FORMATTER hfm (by rw [own_shr hn]; exact hi) (own_sh2 hn hi (i := 1) (by decide) (by decide)) (own_sh2 hn hi (i := 1) (by decide) (by decide)) S__assertionsDisabled S_HI_BYTE_SHIFT S_LO_BYTE_SHIFT) hZ (Wd hw 99 rfl) (Wd hw 48 rfl) (by decide) (by decide)) (g := (mkF m 21 #[.val (.ref x), .val (.int (1 : Int32))] [(.int (1 : Int32)), (.ref tv)])) rfl (by rw [hml]; rfl) (argsL := [(.ref tv), (.int (1 : Int32))]) (rest := []) (lenOf own_pd5 rfl) rfl (by show 2 * 0 + _ ≤ _; exact Nat.le_of_eq rfl) (hb hby d12_21) (fun _ _ => ⟨rfl, e2, (by decide : 0 + 0 ≤ _), (by decide : 0 + 0 ≤ _)⟩)
 dsimp only [Pt.U, Pt.locs, Pt.cells, Pt.slots] at X3 l3 y3 z3 st3 hQ3
 subst l3 y3 z3
 obtain ⟨rfl, Nq3, e3⟩ := hQ3
 have N3 := Fr.app N1 Nq3
 obtain ⟨fs, hr, hrun, hended, hW, hsame⟩ := X3.leave (v := some (.int (nar .char (((((own_w0 qb) &&& (255 : Int32)) <<< ((0 : Int32) &&& 31)) ||| (((own_w1 qb) &&& (255 : Int32)) <<< ((8 : Int32) &&& 31))).toUInt32.toUInt16.toUInt32.toInt32)))) (fun h => by rw [Bd.returns] at h; cases h)
 refine ⟨_, _, (pre0 _ ?_), hrun, hended, _, _, rfl, ?_, ⟨_, rfl⟩, hW, hsame.mono (by decide) (by decide)⟩
 ·show Steps p.tables e below (s₁.setTop (mkF m 0 #[.val (.ref x), .val (.int (1 : Int32))] [])) _
  refine XS.aloadN X0.here hx rfl (hb hby d12_0) rfl rfl ?_
  refine st1.trans ?_
  refine XS.ifYes X1.here hx rfl (pc0 := 4) (pc' := 16) rfl (hb hby d12_4) rfl ((if0 _ _).trans (teq (by decide : (0 : Int32) = (0 : Int32))).1) (by decide) (by decide) ?_
  refine XS.aloadN X1.here hx rfl (hb hby d12_16) rfl rfl ?_
  refine st2 _ ?_
  refine XS.iloadN X2.here hx rfl (hb hby d12_20) rfl ?_
  refine st3 _ ?_
  exact retN X3 hx (t := .char) Bd.returns (by simp) (hb hby d12_24) hr
 ·show QCHWb Z x tv nn qa qb qc qd qe qf qg k_tv cst fm h0 n0 _ T3.heap _
  rw [e3]
  exact ⟨(congrArg (fun w => some (Value.int w)) (own_chW hq)), N3, rfl⟩
theorem efA31 (m : MethodId) (xo1_ : Addr) : entryFrame m #[(.int (2 : Int32)), (.ref xo1_)] 2 = mkF m 0 #[.val (.int (2 : Int32)), .val (.ref xo1_)] [] := by first | (simp [entryFrame, mkF, argsToLocals, Value.category]; done) | rfl
def QA31 (Z : State) (xo1_ : Addr) (ui1_ : Int32) (ui2_ : Int32) (ui3_ : Int32) (ui4_ : Int32) (ui5_ : Int32) (ui6_ : Int32) (ui7_ : Int32) (ui8_ : Int32) (ui9_ : Int32) (ui10_ : Int32) (ui11_ : Int32) (ui12_ : Int32) (ui13_ : Int32) (ui14_ : Int32) (ui15_ : Int32) (k_xo1_ : ClassId) (uv16_ : Value) (h0 : Heap) (n0 : Nat) (v : Option Value) (h : Heap) (L : List Loc) : Prop := v = none ∧ Fr n0 L ∧ h = h0
set_option maxRecDepth 65536 in
set_option maxHeartbeats 40000000 in
theorem rmA31 (l : Launch) (Z : State) (a0 : Array Value) (hw : ∀ d ∈ tables_1, d.before a0 Z = true) (ws : List Jvm.Cond) (xo1_ : Addr) (ui1_ : Int32) (ui2_ : Int32) (ui3_ : Int32) (ui4_ : Int32) (ui5_ : Int32) (ui6_ : Int32) (ui7_ : Int32) (ui8_ : Int32) (ui9_ : Int32) (ui10_ : Int32) (ui11_ : Int32) (ui12_ : Int32) (ui13_ : Int32) (ui14_ : Int32) (ui15_ : Int32) (k_xo1_ : ClassId) (uv16_ : Value) (h0 : Heap) (n0 : Nat) (Z0 : n0 ≤ h0.size) (V_xo1_ : Arv Z h0 xo1_ k_xo1_ .byte ui1_ [(.int ui2_), (.int ui3_), (.int ui4_), (.int ui5_), (.int ui6_), (.int ui7_), (.int ui8_), (.int ui9_), (.int ui10_), (.int ui11_), (.int ui12_), (.int ui13_), (.int ui14_), (.int ui15_)] (.int (0 : Int32))) (X00 : Old Z n0 h0) (S_SIOOBE_FORMATTER : Sta Z Z.heap "jdk/internal/util/Preconditions" "SIOOBE_FORMATTER" "Ljava/util/function/BiFunction;" uv16_) (hp0_ : own_nr uv16_) (hp1_ : (2 : Int32) < (ui1_ >>> ((1 : Int32) &&& 31))) :
  MetFree l (⟨"java/lang/StringUTF16", "checkIndex", "(I[B)V"⟩ : MethodName) (head1 (Jvm.Cond.code (⟨"java/lang/StringUTF16", "checkIndex", "(I[B)V"⟩ : MethodName) jdk_52_method_91_code 2 none :: ws) ({ frames := 2, cells := 0, slots := 0, locals := 33 } : Room)) (fun av_ U => av_ = #[(.int (2 : Int32)), (.ref xo1_)] ∧ Z.Warmed39 U.vm ∧ U.heap = h0) (fun _ _ _ _ _ => True) (fun _ U o U' => ∃ v L, o = .returned v ∧ QA31 Z xo1_ ui1_ ui2_ ui3_ ui4_ ui5_ ui6_ ui7_ ui8_ ui9_ ui10_ ui11_ ui12_ ui13_ ui14_ ui15_ k_xo1_ uv16_ h0 n0 v U'.heap L ∧ FrameEnd U o U' L ({ frames := 2, cells := 0, slots := 0, locals := 33 } : Room).cells ({ frames := 2, cells := 0, slots := 0, locals := 33 } : Room).slots) := by
 refine MetFree.of_bodySF (plainFor_of_name own_pn0) hisR ?_
 intro p e s m args below meth c s₁ Bd hml0 hP hK
 obtain ⟨rfl, hZ, hh⟩ := hP
 have hx := Bd.exec
 have hby := Bd.bytes
 have hml : c.maxLocals = 2 := hml0
 have hown : s.vm.findClass "java/lang/StringUTF16" = some m.cls := findClass_of_methodNamed Bd.named
 have hnm := (name_of_methodNamed Bd.named Bd.method).1
 have X0 : Stand p l e ({ frames := 2, cells := 0, slots := 0, locals := 33 } : Room) s m #[(.int (2 : Int32)), (.ref xo1_)] below meth c s₁ [] 0 0 := Stand.of_body Bd
 have e0 : s₁.heap = h0 := by rw [← hh, Bd.state]; rfl
 have N0 := Fr.nil n0
 have pre0 : ∀ t, Steps p.tables e below (s₁.setTop (mkF m 0 #[.val (.int (2 : Int32)), .val (.ref xo1_)] [])) t → Steps p.tables e below (s₁.setTop (entryFrame m #[(.int (2 : Int32)), (.ref xo1_)] 2)) t := fun t k => castTop (efA31 m xo1_) k
 obtain ⟨_, _, ⟨T1, L1, k1, n1⟩, -, X1, ⟨Lc1, hQ1, l1, y1, z1⟩, st1⟩ := Jvm.LawKit.callS X0 hx (y := (⟨"java/lang/StringUTF16", "length", "([B)I"⟩ : MethodName)) hown (mvT hZ (Wd hw 103 rfl)) (mvT hZ (Wd hw 104 rfl)) (mvT hZ (Wd hw 48 rfl)) (mvT hZ (Wd hw 105 rfl)) (by decide) (backOf (W := 1) (rmA27 l Z a0 hw [] xo1_ ui1_ ui2_ ui3_ ui4_ ui5_ ui6_ ui7_ ui8_ ui9_ ui10_ ui11_ ui12_ ui13_ ui14_ ui15_ k_xo1_ h0 n0 Z0 V_xo1_) hZ (Wd hw 105 rfl) (Wd hw 48 rfl) (by decide) (by decide)) (g := (mkF m 2 #[.val (.int (2 : Int32)), .val (.ref xo1_)] [(.ref xo1_), (.int (2 : Int32))])) rfl (by rw [hml]; rfl) (argsL := [(.ref xo1_)]) (rest := [(.int (2 : Int32))]) (lenOf own_pd12 rfl) rfl (by show 2 * 0 + _ ≤ _; exact Nat.le_of_eq rfl) (hb hby d23_2) (fun _ _ => ⟨rfl, e0, (by decide : 0 + 0 ≤ _), (by decide : 0 + 0 ≤ _)⟩)
 dsimp only [Pt.U, Pt.locs, Pt.cells, Pt.slots] at X1 l1 y1 z1 st1 hQ1
 subst l1 y1 z1
 obtain ⟨rfl, Nq1, e1⟩ := hQ1
 have N1 := Fr.app N0 Nq1
 obtain ⟨_, _, ⟨T2, L2, k2, n2⟩, -, X2, ⟨Lc2, hQ2, l2, y2, z2⟩, st2⟩ := Jvm.LawKit.callS X1 hx (y := (⟨"java/lang/String", "checkIndex", "(II)V"⟩ : MethodName)) hown (mvT hZ (Wd hw 106 rfl)) (mvT hZ (Wd hw 71 rfl)) (mvT hZ (Wd hw 8 rfl)) (mvT hZ (Wd hw 72 rfl)) (by decide) (backOf (W := 0) (rmXI l Z a0 hw [] (2 : Int32) (ui1_ >>> ((1 : Int32) &&& 31)) uv16_ h0 n0 Z0 X00 S_SIOOBE_FORMATTER hp0_ (by decide) hp1_) hZ (Wd hw 72 rfl) (Wd hw 8 rfl) (by decide) (by decide)) (g := (mkF m 5 #[.val (.int (2 : Int32)), .val (.ref xo1_)] [(.int (ui1_ >>> ((1 : Int32) &&& 31))), (.int (2 : Int32))])) rfl (by rw [hml]; rfl) (argsL := [(.int (2 : Int32)), (.int (ui1_ >>> ((1 : Int32) &&& 31)))]) (rest := []) (lenOf own_pd11 rfl) rfl (by show 2 * 0 + _ ≤ _; exact Nat.le_of_eq rfl) (hb hby d23_5) (fun _ _ => ⟨rfl, e1, (by decide : 0 + 0 ≤ _), (by decide : 0 + 0 ≤ _)⟩)
 dsimp only [Pt.U, Pt.locs, Pt.cells, Pt.slots] at X2 l2 y2 z2 st2 hQ2
 subst l2 y2 z2
 obtain ⟨rfl, Nq2, e2⟩ := hQ2
 have N2 := Fr.app N1 Nq2
 obtain ⟨fs, hr, hrun, hended, hW, hsame⟩ := X2.leave (v := none) (fun _ => rfl)
 refine ⟨_, _, (pre0 _ ?_), hrun, hended, _, _, rfl, ?_, ⟨_, rfl⟩, hW, hsame.mono (by decide) (by decide)⟩
 ·show Steps p.tables e below (s₁.setTop (mkF m 0 #[.val (.int (2 : Int32)), .val (.ref xo1_)] [])) _
  refine XS.iloadN X0.here hx rfl (hb hby d23_0) rfl ?_
  refine XS.aloadN X0.here hx rfl (hb hby d23_1) rfl rfl ?_
  refine st1 _ ?_
  refine st2 _ ?_
  exact X2.returnOut hx Bd.returns (hb hby d23_8) hr
 ·show QA31 Z xo1_ ui1_ ui2_ ui3_ ui4_ ui5_ ui6_ ui7_ ui8_ ui9_ ui10_ ui11_ ui12_ ui13_ ui14_ ui15_ k_xo1_ uv16_ h0 n0 _ T2.heap _
  rw [e2]
  exact ⟨rfl, N2, rfl⟩
theorem efA30 (m : MethodId) (xo0_ : Addr) : entryFrame m #[(.ref xo0_), (.int (2 : Int32))] 2 = mkF m 0 #[.val (.ref xo0_), .val (.int (2 : Int32))] [] := by first | (simp [entryFrame, mkF, argsToLocals, Value.category]; done) | rfl
def QA30 (Z : State) (xo0_ : Addr) (ui1_ : Int32) (ui2_ : Int32) (ui3_ : Int32) (ui4_ : Int32) (ui5_ : Int32) (ui6_ : Int32) (ui7_ : Int32) (ui8_ : Int32) (ui9_ : Int32) (ui10_ : Int32) (ui11_ : Int32) (ui12_ : Int32) (ui13_ : Int32) (ui14_ : Int32) (ui15_ : Int32) (k_xo0_ : ClassId) (uv16_ : Value) (h0 : Heap) (n0 : Nat) (v : Option Value) (h : Heap) (L : List Loc) : Prop := v = some (.int ((((ui6_ &&& (255 : Int32)) <<< ((0 : Int32) &&& 31)) ||| ((ui7_ &&& (255 : Int32)) <<< ((8 : Int32) &&& 31))).toUInt32.toUInt16.toUInt32.toInt32)) ∧ Fr n0 L ∧ h = h0
set_option maxRecDepth 65536 in
set_option maxHeartbeats 40000000 in
theorem rmA30 (l : Launch) (Z : State) (a0 : Array Value) (hw : ∀ d ∈ tables_1, d.before a0 Z = true) (ws : List Jvm.Cond) (xo0_ : Addr) (ui1_ : Int32) (ui2_ : Int32) (ui3_ : Int32) (ui4_ : Int32) (ui5_ : Int32) (ui6_ : Int32) (ui7_ : Int32) (ui8_ : Int32) (ui9_ : Int32) (ui10_ : Int32) (ui11_ : Int32) (ui12_ : Int32) (ui13_ : Int32) (ui14_ : Int32) (ui15_ : Int32) (k_xo0_ : ClassId) (uv16_ : Value) (h0 : Heap) (n0 : Nat) (Z0 : n0 ≤ h0.size) (V_xo0_ : Arv Z h0 xo0_ k_xo0_ .byte ui1_ [(.int ui2_), (.int ui3_), (.int ui4_), (.int ui5_), (.int ui6_), (.int ui7_), (.int ui8_), (.int ui9_), (.int ui10_), (.int ui11_), (.int ui12_), (.int ui13_), (.int ui14_), (.int ui15_)] (.int (0 : Int32))) (X00 : Old Z n0 h0) (S_SIOOBE_FORMATTER : Sta Z Z.heap "jdk/internal/util/Preconditions" "SIOOBE_FORMATTER" "Ljava/util/function/BiFunction;" uv16_) (hp0_ : own_nr uv16_) (hp1_ : (2 : Int32) < (ui1_ >>> ((1 : Int32) &&& 31))) (hp2_ : (4 : Int32) < ui1_) (hp3_ : (5 : Int32) < ui1_) (S__assertionsDisabled : Sta Z Z.heap "java/lang/StringUTF16" "$assertionsDisabled" "Z" (.int (1 : Int32))) (S_HI_BYTE_SHIFT : Sta Z Z.heap "java/lang/StringUTF16" "HI_BYTE_SHIFT" "I" (.int (0 : Int32))) (S_LO_BYTE_SHIFT : Sta Z Z.heap "java/lang/StringUTF16" "LO_BYTE_SHIFT" "I" (.int (8 : Int32))) :
  MetFree l (⟨"java/lang/StringUTF16", "charAt", "([BI)C"⟩ : MethodName) (head1 (Jvm.Cond.code (⟨"java/lang/StringUTF16", "charAt", "([BI)C"⟩ : MethodName) jdk_52_method_83_code 2 (some .char) :: ws) ({ frames := 3, cells := 0, slots := 0, locals := 46 } : Room)) (fun av_ U => av_ = #[(.ref xo0_), (.int (2 : Int32))] ∧ Z.Warmed39 U.vm ∧ U.heap = h0) (fun _ _ _ _ _ => True) (fun _ U o U' => ∃ v L, o = .returned v ∧ QA30 Z xo0_ ui1_ ui2_ ui3_ ui4_ ui5_ ui6_ ui7_ ui8_ ui9_ ui10_ ui11_ ui12_ ui13_ ui14_ ui15_ k_xo0_ uv16_ h0 n0 v U'.heap L ∧ FrameEnd U o U' L ({ frames := 3, cells := 0, slots := 0, locals := 46 } : Room).cells ({ frames := 3, cells := 0, slots := 0, locals := 46 } : Room).slots) := by
 refine MetFree.of_bodySF (plainFor_of_name own_pn0) hisR ?_
 intro p e s m args below meth c s₁ Bd hml0 hP hK
 obtain ⟨rfl, hZ, hh⟩ := hP
 have hx := Bd.exec
 have hby := Bd.bytes
 have hml : c.maxLocals = 2 := hml0
 have hown : s.vm.findClass "java/lang/StringUTF16" = some m.cls := findClass_of_methodNamed Bd.named
 have hnm := (name_of_methodNamed Bd.named Bd.method).1
 have X0 : Stand p l e ({ frames := 3, cells := 0, slots := 0, locals := 46 } : Room) s m #[(.ref xo0_), (.int (2 : Int32))] below meth c s₁ [] 0 0 := Stand.of_body Bd
 have e0 : s₁.heap = h0 := by rw [← hh, Bd.state]; rfl
 have N0 := Fr.nil n0
 have pre0 : ∀ t, Steps p.tables e below (s₁.setTop (mkF m 0 #[.val (.ref xo0_), .val (.int (2 : Int32))] [])) t → Steps p.tables e below (s₁.setTop (entryFrame m #[(.ref xo0_), (.int (2 : Int32))] 2)) t := fun t k => castTop (efA30 m xo0_) k
 obtain ⟨_, _, ⟨T1, L1, k1, n1⟩, -, X1, ⟨Lc1, hQ1, l1, y1, z1⟩, st1⟩ := Jvm.LawKit.callS X0 hx (y := (⟨"java/lang/StringUTF16", "checkIndex", "(I[B)V"⟩ : MethodName)) hown (mvT hZ (Wd hw 100 rfl)) (mvT hZ (Wd hw 101 rfl)) (mvT hZ (Wd hw 48 rfl)) (mvT hZ (Wd hw 102 rfl)) (by decide) (backOf (W := 0) (rmA31 l Z a0 hw [] xo0_ ui1_ ui2_ ui3_ ui4_ ui5_ ui6_ ui7_ ui8_ ui9_ ui10_ ui11_ ui12_ ui13_ ui14_ ui15_ k_xo0_ uv16_ h0 n0 Z0 V_xo0_ X00 S_SIOOBE_FORMATTER hp0_ hp1_) hZ (Wd hw 102 rfl) (Wd hw 48 rfl) (by decide) (by decide)) (g := (mkF m 2 #[.val (.ref xo0_), .val (.int (2 : Int32))] [(.ref xo0_), (.int (2 : Int32))])) rfl (by rw [hml]; rfl) (argsL := [(.int (2 : Int32)), (.ref xo0_)]) (rest := []) (lenOf own_pd13 rfl) rfl (by show 2 * 0 + _ ≤ _; exact Nat.le_of_eq rfl) (hb hby d22_2) (fun _ _ => ⟨rfl, e0, (by decide : 0 + 0 ≤ _), (by decide : 0 + 0 ≤ _)⟩)
 dsimp only [Pt.U, Pt.locs, Pt.cells, Pt.slots] at X1 l1 y1 z1 st1 hQ1
 subst l1 y1 z1
 obtain ⟨rfl, Nq1, e1⟩ := hQ1
 have N1 := Fr.app N0 Nq1
 obtain ⟨_, _, ⟨T2, L2, k2, n2⟩, -, X2, ⟨Lc2, hQ2, l2, y2, z2⟩, st2⟩ := Jvm.LawKit.callS X1 hx (y := (⟨"java/lang/StringUTF16", "getChar", "([BI)C"⟩ : MethodName)) hown (mvT hZ (Wd hw 94 rfl)) (mvT hZ (Wd hw 95 rfl)) (mvT hZ (Wd hw 48 rfl)) (mvT hZ (Wd hw 96 rfl)) (by decide) (backOf (W := 0) (rmA11 l Z a0 hw [] xo0_ ui1_ ui2_ ui3_ ui4_ ui5_ ui6_ ui7_ ui8_ ui9_ ui10_ ui11_ ui12_ ui13_ ui14_ ui15_ k_xo0_ h0 n0 Z0 X00 S__assertionsDisabled V_xo0_ hp2_ S_HI_BYTE_SHIFT hp3_ S_LO_BYTE_SHIFT) hZ (Wd hw 96 rfl) (Wd hw 48 rfl) (by decide) (by decide)) (g := (mkF m 7 #[.val (.ref xo0_), .val (.int (2 : Int32))] [(.int (2 : Int32)), (.ref xo0_)])) rfl (by rw [hml]; rfl) (argsL := [(.ref xo0_), (.int (2 : Int32))]) (rest := []) (lenOf own_pd5 rfl) rfl (by show 2 * 0 + _ ≤ _; exact Nat.le_of_eq rfl) (hb hby d22_7) (fun _ _ => ⟨rfl, e1, (by decide : 0 + 0 ≤ _), (by decide : 0 + 0 ≤ _)⟩)
 dsimp only [Pt.U, Pt.locs, Pt.cells, Pt.slots] at X2 l2 y2 z2 st2 hQ2
 subst l2 y2 z2
 obtain ⟨rfl, Nq2, e2⟩ := hQ2
 have N2 := Fr.app N1 Nq2
 obtain ⟨fs, hr, hrun, hended, hW, hsame⟩ := X2.leave (v := some (.int (nar .char ((((ui6_ &&& (255 : Int32)) <<< ((0 : Int32) &&& 31)) ||| ((ui7_ &&& (255 : Int32)) <<< ((8 : Int32) &&& 31))).toUInt32.toUInt16.toUInt32.toInt32)))) (fun h => by rw [Bd.returns] at h; cases h)
 refine ⟨_, _, (pre0 _ ?_), hrun, hended, _, _, rfl, ?_, ⟨_, rfl⟩, hW, hsame.mono (by decide) (by decide)⟩
 ·show Steps p.tables e below (s₁.setTop (mkF m 0 #[.val (.ref xo0_), .val (.int (2 : Int32))] [])) _
  refine XS.iloadN X0.here hx rfl (hb hby d22_0) rfl ?_
  refine XS.aloadN X0.here hx rfl (hb hby d22_1) rfl rfl ?_
  refine st1 _ ?_
  refine XS.aloadN X1.here hx rfl (hb hby d22_5) rfl rfl ?_
  refine XS.iloadN X1.here hx rfl (hb hby d22_6) rfl ?_
  refine st2 _ ?_
  exact retN X2 hx (t := .char) Bd.returns (by simp) (hb hby d22_10) hr
 ·show QA30 Z xo0_ ui1_ ui2_ ui3_ ui4_ ui5_ ui6_ ui7_ ui8_ ui9_ ui10_ ui11_ ui12_ ui13_ ui14_ ui15_ k_xo0_ uv16_ h0 n0 _ T2.heap _
  rw [e2]
  exact ⟨(congrArg (fun w => some (Value.int w)) (own_narc _)), N2, rfl⟩
theorem efCHWc (m : MethodId) (x : Addr) : entryFrame m #[(.ref x), (.int (2 : Int32))] 2 = mkF m 0 #[.val (.ref x), .val (.int (2 : Int32))] [] := by first | (simp [entryFrame, mkF, argsToLocals, Value.category]; done) | rfl
def QCHWc (Z : State) (x : Addr) (tv : Addr) (nn : Int32) (qa : Int32) (qb : Int32) (qc : Int32) (qd : Int32) (qe : Int32) (qf : Int32) (qg : Int32) (k_tv : ClassId) (cst : Int32) (fm : Value) (h0 : Heap) (n0 : Nat) (v : Option Value) (h : Heap) (L : List Loc) : Prop := v = some (.int qc) ∧ Fr n0 L ∧ h = h0
set_option maxRecDepth 65536 in
set_option maxHeartbeats 40000000 in
theorem rmCHWc (l : Launch) (Z : State) (a0 : Array Value) (hw : ∀ d ∈ tables_1, d.before a0 Z = true) (ws : List Jvm.Cond) (x : Addr) (tv : Addr) (nn : Int32) (qa : Int32) (qb : Int32) (qc : Int32) (qd : Int32) (qe : Int32) (qf : Int32) (qg : Int32) (k_tv : ClassId) (cst : Int32) (fm : Value) (h0 : Heap) (n0 : Nat) (Z0 : n0 ≤ h0.size) (E_x : Exa Z h0 x "java/lang/String") (F_value_x : Fld Z h0 x "java/lang/String" "value" "[B" (.ref tv)) (F_coder_x : Fld Z h0 x "java/lang/String" "coder" "B" (.int (1 : Int32))) (V_tv : Arv Z h0 tv k_tv .byte (nn <<< ((1 : Int32) &&& 31)) [(.int (own_w0 qa)), (.int (own_w1 qa)), (.int (own_w0 qb)), (.int (own_w1 qb)), (.int (own_w0 qc)), (.int (own_w1 qc)), (.int (own_w0 qd)), (.int (own_w1 qd)), (.int (own_w0 qe)), (.int (own_w1 qe)), (.int (own_w0 qf)), (.int (own_w1 qf)), (.int (own_w0 qg)), (.int (own_w1 qg))] (.int (0 : Int32))) (X00 : Old Z n0 h0) (S__assertionsDisabled : Sta Z Z.heap "java/lang/StringUTF16" "$assertionsDisabled" "Z" (.int (1 : Int32))) (S_HI_BYTE_SHIFT : Sta Z Z.heap "java/lang/StringUTF16" "HI_BYTE_SHIFT" "I" (.int (0 : Int32))) (S_LO_BYTE_SHIFT : Sta Z Z.heap "java/lang/StringUTF16" "LO_BYTE_SHIFT" "I" (.int (8 : Int32))) (S_COMPACT_STRINGS : Sta Z Z.heap "java/lang/String" "COMPACT_STRINGS" "Z" (.int cst)) (hcs : ¬ cst = (0 : Int32)) (hn : 0 ≤ nn.toInt ∧ nn.toInt ≤ 7) (S_SIOOBE_FORMATTER : Sta Z Z.heap "jdk/internal/util/Preconditions" "SIOOBE_FORMATTER" "Ljava/util/function/BiFunction;" fm) (hfm : own_nr fm) (hi : (2 : Int32) < nn) (hq : own_c16 qc) :
  MetFree l (⟨"java/lang/String", "charAt", "(I)C"⟩ : MethodName) (head1 (Jvm.Cond.code (⟨"java/lang/String", "charAt", "(I)C"⟩ : MethodName) jdk_42_method_56_code 2 (some .char) :: ws) ({ frames := 4, cells := 0, slots := 0, locals := 60 } : Room)) (fun av_ U => av_ = #[(.ref x), (.int (2 : Int32))] ∧ Z.Warmed39 U.vm ∧ U.heap = h0) (fun _ _ _ _ _ => True) (fun _ U o U' => ∃ v L, o = .returned v ∧ QCHWc Z x tv nn qa qb qc qd qe qf qg k_tv cst fm h0 n0 v U'.heap L ∧ FrameEnd U o U' L ({ frames := 4, cells := 0, slots := 0, locals := 60 } : Room).cells ({ frames := 4, cells := 0, slots := 0, locals := 60 } : Room).slots) := by
 refine MetFree.of_bodySF (plainFor_of_name own_pn1) hisR ?_
 intro p e s m args below meth c s₁ Bd hml0 hP hK
 obtain ⟨rfl, hZ, hh⟩ := hP
 have hx := Bd.exec
 have hby := Bd.bytes
 have hml : c.maxLocals = 2 := hml0
 have hown : s.vm.findClass "java/lang/String" = some m.cls := findClass_of_methodNamed Bd.named
 have hnm := (name_of_methodNamed Bd.named Bd.method).1
 have X0 : Stand p l e ({ frames := 4, cells := 0, slots := 0, locals := 60 } : Room) s m #[(.ref x), (.int (2 : Int32))] below meth c s₁ [] 0 0 := Stand.of_body Bd
 have e0 : s₁.heap = h0 := by rw [← hh, Bd.state]; rfl
 have N0 := Fr.nil n0
 have pre0 : ∀ t, Steps p.tables e below (s₁.setTop (mkF m 0 #[.val (.ref x), .val (.int (2 : Int32))] [])) t → Steps p.tables e below (s₁.setTop (entryFrame m #[(.ref x), (.int (2 : Int32))] 2)) t := fun t k => castTop (efCHWc m x) k
 obtain ⟨cq1, kq1, q1a, q1b, q1c⟩ := isOf hZ e0 E_x
 obtain ⟨_, _, ⟨T1, L1, k1, n1⟩, -, X1, ⟨Lc1, hQ1, l1, y1, z1⟩, st1⟩ := X0.virtualBack hx (y := (⟨"java/lang/String", "isLatin1", "()Z"⟩ : MethodName)) (z := (⟨"java/lang/String", "isLatin1", "()Z"⟩ : MethodName)) hown (mvT hZ (Wd hw 61 rfl)) (mvT hZ (Wd hw 62 rfl)) (notFace_of_selects (args := #[]) (mvT hZ (Wd hw 64 rfl))) (mvT hZ (Wd hw 64 rfl)) (mvT hZ (Wd hw 63 rfl)) (by decide) (backOf (W := 0) (rmA24 l Z a0 hw [] x tv cst h0 n0 Z0 E_x F_value_x F_coder_x X00 S_COMPACT_STRINGS hcs) hZ (Wd hw 65 rfl) (Wd hw 8 rfl) (by decide) (by decide)) q1a q1c (g := (mkF m 1 #[.val (.ref x), .val (.int (2 : Int32))] [(.ref x)])) rfl (by rw [hml]; rfl) (Steps.refl _) (argsL := []) (rest := []) (lenOf own_pd10 rfl) rfl (by show 2 * 0 + _ ≤ _; exact Nat.le_of_eq rfl) (hb hby d12_1) (fun _ _ => ⟨rfl, e0, (by decide : 0 + 0 ≤ _), (by decide : 0 + 0 ≤ _)⟩)
 dsimp only [Pt.U, Pt.locs, Pt.cells, Pt.slots] at X1 l1 y1 z1 st1 hQ1
 subst l1 y1 z1
 obtain ⟨rfl, Nq1, e1⟩ := hQ1
 have N1 := Fr.app N0 Nq1
 obtain ⟨T2, X2, e2, st2⟩ := getF X1 hx hZ hown (host := "") (Or.inl (Wd hw 25 rfl)) Via.refl e1 F_value_x (g := (mkF m 17 #[.val (.ref x), .val (.int (2 : Int32))] [(.ref x)])) rfl rfl (hb hby d12_17)
 obtain ⟨_, _, ⟨T3, L3, k3, n3⟩, -, X3, ⟨Lc3, hQ3, l3, y3, z3⟩, st3⟩ := Jvm.LawKit.callS X2 hx (y := (⟨"java/lang/StringUTF16", "charAt", "([BI)C"⟩ : MethodName)) hown (mvT hZ (Wd hw 97 rfl)) (mvT hZ (Wd hw 98 rfl)) (mvT hZ (Wd hw 48 rfl)) (mvT hZ (Wd hw 99 rfl)) (by decide) (backOf (W := 0) (rmA30 l Z a0 hw [] tv (nn <<< ((1 : Int32) &&& 31)) (own_w0 qa) (own_w1 qa) (own_w0 qb) (own_w1 qb) (own_w0 qc) (own_w1 qc) (own_w0 qd) (own_w1 qd) (own_w0 qe) (own_w1 qe) (own_w0 qf) (own_w1 qf) (own_w0 qg) (own_w1 qg) k_tv fm h0 n0 Z0 V_tv X00 S_SIOOBE_FORMATTER hfm (by rw [own_shr hn]; exact hi) (own_sh2 hn hi (i := 2) (by decide) (by decide)) (own_sh2 hn hi (i := 2) (by decide) (by decide)) S__assertionsDisabled S_HI_BYTE_SHIFT S_LO_BYTE_SHIFT) hZ (Wd hw 99 rfl) (Wd hw 48 rfl) (by decide) (by decide)) (g := (mkF m 21 #[.val (.ref x), .val (.int (2 : Int32))] [(.int (2 : Int32)), (.ref tv)])) rfl (by rw [hml]; rfl) (argsL := [(.ref tv), (.int (2 : Int32))]) (rest := []) (lenOf own_pd5 rfl) rfl (by show 2 * 0 + _ ≤ _; exact Nat.le_of_eq rfl) (hb hby d12_21) (fun _ _ => ⟨rfl, e2, (by decide : 0 + 0 ≤ _), (by decide : 0 + 0 ≤ _)⟩)
 dsimp only [Pt.U, Pt.locs, Pt.cells, Pt.slots] at X3 l3 y3 z3 st3 hQ3
 subst l3 y3 z3
 obtain ⟨rfl, Nq3, e3⟩ := hQ3
 have N3 := Fr.app N1 Nq3
 obtain ⟨fs, hr, hrun, hended, hW, hsame⟩ := X3.leave (v := some (.int (nar .char (((((own_w0 qc) &&& (255 : Int32)) <<< ((0 : Int32) &&& 31)) ||| (((own_w1 qc) &&& (255 : Int32)) <<< ((8 : Int32) &&& 31))).toUInt32.toUInt16.toUInt32.toInt32)))) (fun h => by rw [Bd.returns] at h; cases h)
 refine ⟨_, _, (pre0 _ ?_), hrun, hended, _, _, rfl, ?_, ⟨_, rfl⟩, hW, hsame.mono (by decide) (by decide)⟩
 ·show Steps p.tables e below (s₁.setTop (mkF m 0 #[.val (.ref x), .val (.int (2 : Int32))] [])) _
  refine XS.aloadN X0.here hx rfl (hb hby d12_0) rfl rfl ?_
  refine st1.trans ?_
  refine XS.ifYes X1.here hx rfl (pc0 := 4) (pc' := 16) rfl (hb hby d12_4) rfl ((if0 _ _).trans (teq (by decide : (0 : Int32) = (0 : Int32))).1) (by decide) (by decide) ?_
  refine XS.aloadN X1.here hx rfl (hb hby d12_16) rfl rfl ?_
  refine st2 _ ?_
  refine XS.iloadN X2.here hx rfl (hb hby d12_20) rfl ?_
  refine st3 _ ?_
  exact retN X3 hx (t := .char) Bd.returns (by simp) (hb hby d12_24) hr
 ·show QCHWc Z x tv nn qa qb qc qd qe qf qg k_tv cst fm h0 n0 _ T3.heap _
  rw [e3]
  exact ⟨(congrArg (fun w => some (Value.int w)) (own_chW hq)), N3, rfl⟩
theorem efA33 (m : MethodId) (xo1_ : Addr) : entryFrame m #[(.int (3 : Int32)), (.ref xo1_)] 2 = mkF m 0 #[.val (.int (3 : Int32)), .val (.ref xo1_)] [] := by first | (simp [entryFrame, mkF, argsToLocals, Value.category]; done) | rfl
def QA33 (Z : State) (xo1_ : Addr) (ui1_ : Int32) (ui2_ : Int32) (ui3_ : Int32) (ui4_ : Int32) (ui5_ : Int32) (ui6_ : Int32) (ui7_ : Int32) (ui8_ : Int32) (ui9_ : Int32) (ui10_ : Int32) (ui11_ : Int32) (ui12_ : Int32) (ui13_ : Int32) (ui14_ : Int32) (ui15_ : Int32) (k_xo1_ : ClassId) (uv16_ : Value) (h0 : Heap) (n0 : Nat) (v : Option Value) (h : Heap) (L : List Loc) : Prop := v = none ∧ Fr n0 L ∧ h = h0
set_option maxRecDepth 65536 in
set_option maxHeartbeats 40000000 in
theorem rmA33 (l : Launch) (Z : State) (a0 : Array Value) (hw : ∀ d ∈ tables_1, d.before a0 Z = true) (ws : List Jvm.Cond) (xo1_ : Addr) (ui1_ : Int32) (ui2_ : Int32) (ui3_ : Int32) (ui4_ : Int32) (ui5_ : Int32) (ui6_ : Int32) (ui7_ : Int32) (ui8_ : Int32) (ui9_ : Int32) (ui10_ : Int32) (ui11_ : Int32) (ui12_ : Int32) (ui13_ : Int32) (ui14_ : Int32) (ui15_ : Int32) (k_xo1_ : ClassId) (uv16_ : Value) (h0 : Heap) (n0 : Nat) (Z0 : n0 ≤ h0.size) (V_xo1_ : Arv Z h0 xo1_ k_xo1_ .byte ui1_ [(.int ui2_), (.int ui3_), (.int ui4_), (.int ui5_), (.int ui6_), (.int ui7_), (.int ui8_), (.int ui9_), (.int ui10_), (.int ui11_), (.int ui12_), (.int ui13_), (.int ui14_), (.int ui15_)] (.int (0 : Int32))) (X00 : Old Z n0 h0) (S_SIOOBE_FORMATTER : Sta Z Z.heap "jdk/internal/util/Preconditions" "SIOOBE_FORMATTER" "Ljava/util/function/BiFunction;" uv16_) (hp0_ : own_nr uv16_) (hp1_ : (3 : Int32) < (ui1_ >>> ((1 : Int32) &&& 31))) :
  MetFree l (⟨"java/lang/StringUTF16", "checkIndex", "(I[B)V"⟩ : MethodName) (head1 (Jvm.Cond.code (⟨"java/lang/StringUTF16", "checkIndex", "(I[B)V"⟩ : MethodName) jdk_52_method_91_code 2 none :: ws) ({ frames := 2, cells := 0, slots := 0, locals := 33 } : Room)) (fun av_ U => av_ = #[(.int (3 : Int32)), (.ref xo1_)] ∧ Z.Warmed39 U.vm ∧ U.heap = h0) (fun _ _ _ _ _ => True) (fun _ U o U' => ∃ v L, o = .returned v ∧ QA33 Z xo1_ ui1_ ui2_ ui3_ ui4_ ui5_ ui6_ ui7_ ui8_ ui9_ ui10_ ui11_ ui12_ ui13_ ui14_ ui15_ k_xo1_ uv16_ h0 n0 v U'.heap L ∧ FrameEnd U o U' L ({ frames := 2, cells := 0, slots := 0, locals := 33 } : Room).cells ({ frames := 2, cells := 0, slots := 0, locals := 33 } : Room).slots) := by
 refine MetFree.of_bodySF (plainFor_of_name own_pn0) hisR ?_
 intro p e s m args below meth c s₁ Bd hml0 hP hK
 obtain ⟨rfl, hZ, hh⟩ := hP
 have hx := Bd.exec
 have hby := Bd.bytes
 have hml : c.maxLocals = 2 := hml0
 have hown : s.vm.findClass "java/lang/StringUTF16" = some m.cls := findClass_of_methodNamed Bd.named
 have hnm := (name_of_methodNamed Bd.named Bd.method).1
 have X0 : Stand p l e ({ frames := 2, cells := 0, slots := 0, locals := 33 } : Room) s m #[(.int (3 : Int32)), (.ref xo1_)] below meth c s₁ [] 0 0 := Stand.of_body Bd
 have e0 : s₁.heap = h0 := by rw [← hh, Bd.state]; rfl
 have N0 := Fr.nil n0
 have pre0 : ∀ t, Steps p.tables e below (s₁.setTop (mkF m 0 #[.val (.int (3 : Int32)), .val (.ref xo1_)] [])) t → Steps p.tables e below (s₁.setTop (entryFrame m #[(.int (3 : Int32)), (.ref xo1_)] 2)) t := fun t k => castTop (efA33 m xo1_) k
 obtain ⟨_, _, ⟨T1, L1, k1, n1⟩, -, X1, ⟨Lc1, hQ1, l1, y1, z1⟩, st1⟩ := Jvm.LawKit.callS X0 hx (y := (⟨"java/lang/StringUTF16", "length", "([B)I"⟩ : MethodName)) hown (mvT hZ (Wd hw 103 rfl)) (mvT hZ (Wd hw 104 rfl)) (mvT hZ (Wd hw 48 rfl)) (mvT hZ (Wd hw 105 rfl)) (by decide) (backOf (W := 1) (rmA27 l Z a0 hw [] xo1_ ui1_ ui2_ ui3_ ui4_ ui5_ ui6_ ui7_ ui8_ ui9_ ui10_ ui11_ ui12_ ui13_ ui14_ ui15_ k_xo1_ h0 n0 Z0 V_xo1_) hZ (Wd hw 105 rfl) (Wd hw 48 rfl) (by decide) (by decide)) (g := (mkF m 2 #[.val (.int (3 : Int32)), .val (.ref xo1_)] [(.ref xo1_), (.int (3 : Int32))])) rfl (by rw [hml]; rfl) (argsL := [(.ref xo1_)]) (rest := [(.int (3 : Int32))]) (lenOf own_pd12 rfl) rfl (by show 2 * 0 + _ ≤ _; exact Nat.le_of_eq rfl) (hb hby d23_2) (fun _ _ => ⟨rfl, e0, (by decide : 0 + 0 ≤ _), (by decide : 0 + 0 ≤ _)⟩)
 dsimp only [Pt.U, Pt.locs, Pt.cells, Pt.slots] at X1 l1 y1 z1 st1 hQ1
 subst l1 y1 z1
 obtain ⟨rfl, Nq1, e1⟩ := hQ1
 have N1 := Fr.app N0 Nq1
 obtain ⟨_, _, ⟨T2, L2, k2, n2⟩, -, X2, ⟨Lc2, hQ2, l2, y2, z2⟩, st2⟩ := Jvm.LawKit.callS X1 hx (y := (⟨"java/lang/String", "checkIndex", "(II)V"⟩ : MethodName)) hown (mvT hZ (Wd hw 106 rfl)) (mvT hZ (Wd hw 71 rfl)) (mvT hZ (Wd hw 8 rfl)) (mvT hZ (Wd hw 72 rfl)) (by decide) (backOf (W := 0) (rmXI l Z a0 hw [] (3 : Int32) (ui1_ >>> ((1 : Int32) &&& 31)) uv16_ h0 n0 Z0 X00 S_SIOOBE_FORMATTER hp0_ (by decide) hp1_) hZ (Wd hw 72 rfl) (Wd hw 8 rfl) (by decide) (by decide)) (g := (mkF m 5 #[.val (.int (3 : Int32)), .val (.ref xo1_)] [(.int (ui1_ >>> ((1 : Int32) &&& 31))), (.int (3 : Int32))])) rfl (by rw [hml]; rfl) (argsL := [(.int (3 : Int32)), (.int (ui1_ >>> ((1 : Int32) &&& 31)))]) (rest := []) (lenOf own_pd11 rfl) rfl (by show 2 * 0 + _ ≤ _; exact Nat.le_of_eq rfl) (hb hby d23_5) (fun _ _ => ⟨rfl, e1, (by decide : 0 + 0 ≤ _), (by decide : 0 + 0 ≤ _)⟩)
 dsimp only [Pt.U, Pt.locs, Pt.cells, Pt.slots] at X2 l2 y2 z2 st2 hQ2
 subst l2 y2 z2
 obtain ⟨rfl, Nq2, e2⟩ := hQ2
 have N2 := Fr.app N1 Nq2
 obtain ⟨fs, hr, hrun, hended, hW, hsame⟩ := X2.leave (v := none) (fun _ => rfl)
 refine ⟨_, _, (pre0 _ ?_), hrun, hended, _, _, rfl, ?_, ⟨_, rfl⟩, hW, hsame.mono (by decide) (by decide)⟩
 ·show Steps p.tables e below (s₁.setTop (mkF m 0 #[.val (.int (3 : Int32)), .val (.ref xo1_)] [])) _
  refine XS.iloadN X0.here hx rfl (hb hby d23_0) rfl ?_
  refine XS.aloadN X0.here hx rfl (hb hby d23_1) rfl rfl ?_
  refine st1 _ ?_
  refine st2 _ ?_
  exact X2.returnOut hx Bd.returns (hb hby d23_8) hr
 ·show QA33 Z xo1_ ui1_ ui2_ ui3_ ui4_ ui5_ ui6_ ui7_ ui8_ ui9_ ui10_ ui11_ ui12_ ui13_ ui14_ ui15_ k_xo1_ uv16_ h0 n0 _ T2.heap _
  rw [e2]
  exact ⟨rfl, N2, rfl⟩
theorem efA32 (m : MethodId) (xo0_ : Addr) : entryFrame m #[(.ref xo0_), (.int (3 : Int32))] 2 = mkF m 0 #[.val (.ref xo0_), .val (.int (3 : Int32))] [] := by first | (simp [entryFrame, mkF, argsToLocals, Value.category]; done) | rfl
def QA32 (Z : State) (xo0_ : Addr) (ui1_ : Int32) (ui2_ : Int32) (ui3_ : Int32) (ui4_ : Int32) (ui5_ : Int32) (ui6_ : Int32) (ui7_ : Int32) (ui8_ : Int32) (ui9_ : Int32) (ui10_ : Int32) (ui11_ : Int32) (ui12_ : Int32) (ui13_ : Int32) (ui14_ : Int32) (ui15_ : Int32) (k_xo0_ : ClassId) (uv16_ : Value) (h0 : Heap) (n0 : Nat) (v : Option Value) (h : Heap) (L : List Loc) : Prop := v = some (.int ((((ui8_ &&& (255 : Int32)) <<< ((0 : Int32) &&& 31)) ||| ((ui9_ &&& (255 : Int32)) <<< ((8 : Int32) &&& 31))).toUInt32.toUInt16.toUInt32.toInt32)) ∧ Fr n0 L ∧ h = h0
set_option maxRecDepth 65536 in
set_option maxHeartbeats 40000000 in
theorem rmA32 (l : Launch) (Z : State) (a0 : Array Value) (hw : ∀ d ∈ tables_1, d.before a0 Z = true) (ws : List Jvm.Cond) (xo0_ : Addr) (ui1_ : Int32) (ui2_ : Int32) (ui3_ : Int32) (ui4_ : Int32) (ui5_ : Int32) (ui6_ : Int32) (ui7_ : Int32) (ui8_ : Int32) (ui9_ : Int32) (ui10_ : Int32) (ui11_ : Int32) (ui12_ : Int32) (ui13_ : Int32) (ui14_ : Int32) (ui15_ : Int32) (k_xo0_ : ClassId) (uv16_ : Value) (h0 : Heap) (n0 : Nat) (Z0 : n0 ≤ h0.size) (V_xo0_ : Arv Z h0 xo0_ k_xo0_ .byte ui1_ [(.int ui2_), (.int ui3_), (.int ui4_), (.int ui5_), (.int ui6_), (.int ui7_), (.int ui8_), (.int ui9_), (.int ui10_), (.int ui11_), (.int ui12_), (.int ui13_), (.int ui14_), (.int ui15_)] (.int (0 : Int32))) (X00 : Old Z n0 h0) (S_SIOOBE_FORMATTER : Sta Z Z.heap "jdk/internal/util/Preconditions" "SIOOBE_FORMATTER" "Ljava/util/function/BiFunction;" uv16_) (hp0_ : own_nr uv16_) (hp1_ : (3 : Int32) < (ui1_ >>> ((1 : Int32) &&& 31))) (hp2_ : (6 : Int32) < ui1_) (hp3_ : (7 : Int32) < ui1_) (S__assertionsDisabled : Sta Z Z.heap "java/lang/StringUTF16" "$assertionsDisabled" "Z" (.int (1 : Int32))) (S_HI_BYTE_SHIFT : Sta Z Z.heap "java/lang/StringUTF16" "HI_BYTE_SHIFT" "I" (.int (0 : Int32))) (S_LO_BYTE_SHIFT : Sta Z Z.heap "java/lang/StringUTF16" "LO_BYTE_SHIFT" "I" (.int (8 : Int32))) :
  MetFree l (⟨"java/lang/StringUTF16", "charAt", "([BI)C"⟩ : MethodName) (head1 (Jvm.Cond.code (⟨"java/lang/StringUTF16", "charAt", "([BI)C"⟩ : MethodName) jdk_52_method_83_code 2 (some .char) :: ws) ({ frames := 3, cells := 0, slots := 0, locals := 46 } : Room)) (fun av_ U => av_ = #[(.ref xo0_), (.int (3 : Int32))] ∧ Z.Warmed39 U.vm ∧ U.heap = h0) (fun _ _ _ _ _ => True) (fun _ U o U' => ∃ v L, o = .returned v ∧ QA32 Z xo0_ ui1_ ui2_ ui3_ ui4_ ui5_ ui6_ ui7_ ui8_ ui9_ ui10_ ui11_ ui12_ ui13_ ui14_ ui15_ k_xo0_ uv16_ h0 n0 v U'.heap L ∧ FrameEnd U o U' L ({ frames := 3, cells := 0, slots := 0, locals := 46 } : Room).cells ({ frames := 3, cells := 0, slots := 0, locals := 46 } : Room).slots) := by
 refine MetFree.of_bodySF (plainFor_of_name own_pn0) hisR ?_
 intro p e s m args below meth c s₁ Bd hml0 hP hK
 obtain ⟨rfl, hZ, hh⟩ := hP
 have hx := Bd.exec
 have hby := Bd.bytes
 have hml : c.maxLocals = 2 := hml0
 have hown : s.vm.findClass "java/lang/StringUTF16" = some m.cls := findClass_of_methodNamed Bd.named
 have hnm := (name_of_methodNamed Bd.named Bd.method).1
 have X0 : Stand p l e ({ frames := 3, cells := 0, slots := 0, locals := 46 } : Room) s m #[(.ref xo0_), (.int (3 : Int32))] below meth c s₁ [] 0 0 := Stand.of_body Bd
 have e0 : s₁.heap = h0 := by rw [← hh, Bd.state]; rfl
 have N0 := Fr.nil n0
 have pre0 : ∀ t, Steps p.tables e below (s₁.setTop (mkF m 0 #[.val (.ref xo0_), .val (.int (3 : Int32))] [])) t → Steps p.tables e below (s₁.setTop (entryFrame m #[(.ref xo0_), (.int (3 : Int32))] 2)) t := fun t k => castTop (efA32 m xo0_) k
 obtain ⟨_, _, ⟨T1, L1, k1, n1⟩, -, X1, ⟨Lc1, hQ1, l1, y1, z1⟩, st1⟩ := Jvm.LawKit.callS X0 hx (y := (⟨"java/lang/StringUTF16", "checkIndex", "(I[B)V"⟩ : MethodName)) hown (mvT hZ (Wd hw 100 rfl)) (mvT hZ (Wd hw 101 rfl)) (mvT hZ (Wd hw 48 rfl)) (mvT hZ (Wd hw 102 rfl)) (by decide) (backOf (W := 0) (rmA33 l Z a0 hw [] xo0_ ui1_ ui2_ ui3_ ui4_ ui5_ ui6_ ui7_ ui8_ ui9_ ui10_ ui11_ ui12_ ui13_ ui14_ ui15_ k_xo0_ uv16_ h0 n0 Z0 V_xo0_ X00 S_SIOOBE_FORMATTER hp0_ hp1_) hZ (Wd hw 102 rfl) (Wd hw 48 rfl) (by decide) (by decide)) (g := (mkF m 2 #[.val (.ref xo0_), .val (.int (3 : Int32))] [(.ref xo0_), (.int (3 : Int32))])) rfl (by rw [hml]; rfl) (argsL := [(.int (3 : Int32)), (.ref xo0_)]) (rest := []) (lenOf own_pd13 rfl) rfl (by show 2 * 0 + _ ≤ _; exact Nat.le_of_eq rfl) (hb hby d22_2) (fun _ _ => ⟨rfl, e0, (by decide : 0 + 0 ≤ _), (by decide : 0 + 0 ≤ _)⟩)
 dsimp only [Pt.U, Pt.locs, Pt.cells, Pt.slots] at X1 l1 y1 z1 st1 hQ1
 subst l1 y1 z1
 obtain ⟨rfl, Nq1, e1⟩ := hQ1
 have N1 := Fr.app N0 Nq1
 obtain ⟨_, _, ⟨T2, L2, k2, n2⟩, -, X2, ⟨Lc2, hQ2, l2, y2, z2⟩, st2⟩ := Jvm.LawKit.callS X1 hx (y := (⟨"java/lang/StringUTF16", "getChar", "([BI)C"⟩ : MethodName)) hown (mvT hZ (Wd hw 94 rfl)) (mvT hZ (Wd hw 95 rfl)) (mvT hZ (Wd hw 48 rfl)) (mvT hZ (Wd hw 96 rfl)) (by decide) (backOf (W := 0) (rmA12 l Z a0 hw [] xo0_ ui1_ ui2_ ui3_ ui4_ ui5_ ui6_ ui7_ ui8_ ui9_ ui10_ ui11_ ui12_ ui13_ ui14_ ui15_ k_xo0_ h0 n0 Z0 X00 S__assertionsDisabled V_xo0_ hp2_ S_HI_BYTE_SHIFT hp3_ S_LO_BYTE_SHIFT) hZ (Wd hw 96 rfl) (Wd hw 48 rfl) (by decide) (by decide)) (g := (mkF m 7 #[.val (.ref xo0_), .val (.int (3 : Int32))] [(.int (3 : Int32)), (.ref xo0_)])) rfl (by rw [hml]; rfl) (argsL := [(.ref xo0_), (.int (3 : Int32))]) (rest := []) (lenOf own_pd5 rfl) rfl (by show 2 * 0 + _ ≤ _; exact Nat.le_of_eq rfl) (hb hby d22_7) (fun _ _ => ⟨rfl, e1, (by decide : 0 + 0 ≤ _), (by decide : 0 + 0 ≤ _)⟩)
 dsimp only [Pt.U, Pt.locs, Pt.cells, Pt.slots] at X2 l2 y2 z2 st2 hQ2
 subst l2 y2 z2
 obtain ⟨rfl, Nq2, e2⟩ := hQ2
 have N2 := Fr.app N1 Nq2
 obtain ⟨fs, hr, hrun, hended, hW, hsame⟩ := X2.leave (v := some (.int (nar .char ((((ui8_ &&& (255 : Int32)) <<< ((0 : Int32) &&& 31)) ||| ((ui9_ &&& (255 : Int32)) <<< ((8 : Int32) &&& 31))).toUInt32.toUInt16.toUInt32.toInt32)))) (fun h => by rw [Bd.returns] at h; cases h)
 refine ⟨_, _, (pre0 _ ?_), hrun, hended, _, _, rfl, ?_, ⟨_, rfl⟩, hW, hsame.mono (by decide) (by decide)⟩
 ·show Steps p.tables e below (s₁.setTop (mkF m 0 #[.val (.ref xo0_), .val (.int (3 : Int32))] [])) _
  refine XS.iloadN X0.here hx rfl (hb hby d22_0) rfl ?_
  refine XS.aloadN X0.here hx rfl (hb hby d22_1) rfl rfl ?_
  refine st1 _ ?_
  refine XS.aloadN X1.here hx rfl (hb hby d22_5) rfl rfl ?_
  refine XS.iloadN X1.here hx rfl (hb hby d22_6) rfl ?_
  refine st2 _ ?_
  exact retN X2 hx (t := .char) Bd.returns (by simp) (hb hby d22_10) hr
 ·show QA32 Z xo0_ ui1_ ui2_ ui3_ ui4_ ui5_ ui6_ ui7_ ui8_ ui9_ ui10_ ui11_ ui12_ ui13_ ui14_ ui15_ k_xo0_ uv16_ h0 n0 _ T2.heap _
  rw [e2]
  exact ⟨(congrArg (fun w => some (Value.int w)) (own_narc _)), N2, rfl⟩
theorem efCHWd (m : MethodId) (x : Addr) : entryFrame m #[(.ref x), (.int (3 : Int32))] 2 = mkF m 0 #[.val (.ref x), .val (.int (3 : Int32))] [] := by first | (simp [entryFrame, mkF, argsToLocals, Value.category]; done) | rfl
def QCHWd (Z : State) (x : Addr) (tv : Addr) (nn : Int32) (qa : Int32) (qb : Int32) (qc : Int32) (qd : Int32) (qe : Int32) (qf : Int32) (qg : Int32) (k_tv : ClassId) (cst : Int32) (fm : Value) (h0 : Heap) (n0 : Nat) (v : Option Value) (h : Heap) (L : List Loc) : Prop := v = some (.int qd) ∧ Fr n0 L ∧ h = h0
set_option maxRecDepth 65536 in
set_option maxHeartbeats 40000000 in
theorem rmCHWd (l : Launch) (Z : State) (a0 : Array Value) (hw : ∀ d ∈ tables_1, d.before a0 Z = true) (ws : List Jvm.Cond) (x : Addr) (tv : Addr) (nn : Int32) (qa : Int32) (qb : Int32) (qc : Int32) (qd : Int32) (qe : Int32) (qf : Int32) (qg : Int32) (k_tv : ClassId) (cst : Int32) (fm : Value) (h0 : Heap) (n0 : Nat) (Z0 : n0 ≤ h0.size) (E_x : Exa Z h0 x "java/lang/String") (F_value_x : Fld Z h0 x "java/lang/String" "value" "[B" (.ref tv)) (F_coder_x : Fld Z h0 x "java/lang/String" "coder" "B" (.int (1 : Int32))) (V_tv : Arv Z h0 tv k_tv .byte (nn <<< ((1 : Int32) &&& 31)) [(.int (own_w0 qa)), (.int (own_w1 qa)), (.int (own_w0 qb)), (.int (own_w1 qb)), (.int (own_w0 qc)), (.int (own_w1 qc)), (.int (own_w0 qd)), (.int (own_w1 qd)), (.int (own_w0 qe)), (.int (own_w1 qe)), (.int (own_w0 qf)), (.int (own_w1 qf)), (.int (own_w0 qg)), (.int (own_w1 qg))] (.int (0 : Int32))) (X00 : Old Z n0 h0) (S__assertionsDisabled : Sta Z Z.heap "java/lang/StringUTF16" "$assertionsDisabled" "Z" (.int (1 : Int32))) (S_HI_BYTE_SHIFT : Sta Z Z.heap "java/lang/StringUTF16" "HI_BYTE_SHIFT" "I" (.int (0 : Int32))) (S_LO_BYTE_SHIFT : Sta Z Z.heap "java/lang/StringUTF16" "LO_BYTE_SHIFT" "I" (.int (8 : Int32))) (S_COMPACT_STRINGS : Sta Z Z.heap "java/lang/String" "COMPACT_STRINGS" "Z" (.int cst)) (hcs : ¬ cst = (0 : Int32)) (hn : 0 ≤ nn.toInt ∧ nn.toInt ≤ 7) (S_SIOOBE_FORMATTER : Sta Z Z.heap "jdk/internal/util/Preconditions" "SIOOBE_FORMATTER" "Ljava/util/function/BiFunction;" fm) (hfm : own_nr fm) (hi : (3 : Int32) < nn) (hq : own_c16 qd) :
  MetFree l (⟨"java/lang/String", "charAt", "(I)C"⟩ : MethodName) (head1 (Jvm.Cond.code (⟨"java/lang/String", "charAt", "(I)C"⟩ : MethodName) jdk_42_method_56_code 2 (some .char) :: ws) ({ frames := 4, cells := 0, slots := 0, locals := 60 } : Room)) (fun av_ U => av_ = #[(.ref x), (.int (3 : Int32))] ∧ Z.Warmed39 U.vm ∧ U.heap = h0) (fun _ _ _ _ _ => True) (fun _ U o U' => ∃ v L, o = .returned v ∧ QCHWd Z x tv nn qa qb qc qd qe qf qg k_tv cst fm h0 n0 v U'.heap L ∧ FrameEnd U o U' L ({ frames := 4, cells := 0, slots := 0, locals := 60 } : Room).cells ({ frames := 4, cells := 0, slots := 0, locals := 60 } : Room).slots) := by
 refine MetFree.of_bodySF (plainFor_of_name own_pn1) hisR ?_
 intro p e s m args below meth c s₁ Bd hml0 hP hK
 obtain ⟨rfl, hZ, hh⟩ := hP
 have hx := Bd.exec
 have hby := Bd.bytes
 have hml : c.maxLocals = 2 := hml0
 have hown : s.vm.findClass "java/lang/String" = some m.cls := findClass_of_methodNamed Bd.named
 have hnm := (name_of_methodNamed Bd.named Bd.method).1
 have X0 : Stand p l e ({ frames := 4, cells := 0, slots := 0, locals := 60 } : Room) s m #[(.ref x), (.int (3 : Int32))] below meth c s₁ [] 0 0 := Stand.of_body Bd
 have e0 : s₁.heap = h0 := by rw [← hh, Bd.state]; rfl
 have N0 := Fr.nil n0
 have pre0 : ∀ t, Steps p.tables e below (s₁.setTop (mkF m 0 #[.val (.ref x), .val (.int (3 : Int32))] [])) t → Steps p.tables e below (s₁.setTop (entryFrame m #[(.ref x), (.int (3 : Int32))] 2)) t := fun t k => castTop (efCHWd m x) k
 obtain ⟨cq1, kq1, q1a, q1b, q1c⟩ := isOf hZ e0 E_x
 obtain ⟨_, _, ⟨T1, L1, k1, n1⟩, -, X1, ⟨Lc1, hQ1, l1, y1, z1⟩, st1⟩ := X0.virtualBack hx (y := (⟨"java/lang/String", "isLatin1", "()Z"⟩ : MethodName)) (z := (⟨"java/lang/String", "isLatin1", "()Z"⟩ : MethodName)) hown (mvT hZ (Wd hw 61 rfl)) (mvT hZ (Wd hw 62 rfl)) (notFace_of_selects (args := #[]) (mvT hZ (Wd hw 64 rfl))) (mvT hZ (Wd hw 64 rfl)) (mvT hZ (Wd hw 63 rfl)) (by decide) (backOf (W := 0) (rmA24 l Z a0 hw [] x tv cst h0 n0 Z0 E_x F_value_x F_coder_x X00 S_COMPACT_STRINGS hcs) hZ (Wd hw 65 rfl) (Wd hw 8 rfl) (by decide) (by decide)) q1a q1c (g := (mkF m 1 #[.val (.ref x), .val (.int (3 : Int32))] [(.ref x)])) rfl (by rw [hml]; rfl) (Steps.refl _) (argsL := []) (rest := []) (lenOf own_pd10 rfl) rfl (by show 2 * 0 + _ ≤ _; exact Nat.le_of_eq rfl) (hb hby d12_1) (fun _ _ => ⟨rfl, e0, (by decide : 0 + 0 ≤ _), (by decide : 0 + 0 ≤ _)⟩)
 dsimp only [Pt.U, Pt.locs, Pt.cells, Pt.slots] at X1 l1 y1 z1 st1 hQ1
 subst l1 y1 z1
 obtain ⟨rfl, Nq1, e1⟩ := hQ1
 have N1 := Fr.app N0 Nq1
 obtain ⟨T2, X2, e2, st2⟩ := getF X1 hx hZ hown (host := "") (Or.inl (Wd hw 25 rfl)) Via.refl e1 F_value_x (g := (mkF m 17 #[.val (.ref x), .val (.int (3 : Int32))] [(.ref x)])) rfl rfl (hb hby d12_17)
 obtain ⟨_, _, ⟨T3, L3, k3, n3⟩, -, X3, ⟨Lc3, hQ3, l3, y3, z3⟩, st3⟩ := Jvm.LawKit.callS X2 hx (y := (⟨"java/lang/StringUTF16", "charAt", "([BI)C"⟩ : MethodName)) hown (mvT hZ (Wd hw 97 rfl)) (mvT hZ (Wd hw 98 rfl)) (mvT hZ (Wd hw 48 rfl)) (mvT hZ (Wd hw 99 rfl)) (by decide) (backOf (W := 0) (rmA32 l Z a0 hw [] tv (nn <<< ((1 : Int32) &&& 31)) (own_w0 qa) (own_w1 qa) (own_w0 qb) (own_w1 qb) (own_w0 qc) (own_w1 qc) (own_w0 qd) (own_w1 qd) (own_w0 qe) (own_w1 qe) (own_w0 qf) (own_w1 qf) (own_w0 qg) (own_w1 qg) k_tv fm h0 n0 Z0 V_tv X00 S_SIOOBE_FORMATTER hfm (by rw [own_shr hn]; exact hi) (own_sh2 hn hi (i := 3) (by decide) (by decide)) (own_sh2 hn hi (i := 3) (by decide) (by decide)) S__assertionsDisabled S_HI_BYTE_SHIFT S_LO_BYTE_SHIFT) hZ (Wd hw 99 rfl) (Wd hw 48 rfl) (by decide) (by decide)) (g := (mkF m 21 #[.val (.ref x), .val (.int (3 : Int32))] [(.int (3 : Int32)), (.ref tv)])) rfl (by rw [hml]; rfl) (argsL := [(.ref tv), (.int (3 : Int32))]) (rest := []) (lenOf own_pd5 rfl) rfl (by show 2 * 0 + _ ≤ _; exact Nat.le_of_eq rfl) (hb hby d12_21) (fun _ _ => ⟨rfl, e2, (by decide : 0 + 0 ≤ _), (by decide : 0 + 0 ≤ _)⟩)
 dsimp only [Pt.U, Pt.locs, Pt.cells, Pt.slots] at X3 l3 y3 z3 st3 hQ3
 subst l3 y3 z3
 obtain ⟨rfl, Nq3, e3⟩ := hQ3
 have N3 := Fr.app N1 Nq3
 obtain ⟨fs, hr, hrun, hended, hW, hsame⟩ := X3.leave (v := some (.int (nar .char (((((own_w0 qd) &&& (255 : Int32)) <<< ((0 : Int32) &&& 31)) ||| (((own_w1 qd) &&& (255 : Int32)) <<< ((8 : Int32) &&& 31))).toUInt32.toUInt16.toUInt32.toInt32)))) (fun h => by rw [Bd.returns] at h; cases h)
 refine ⟨_, _, (pre0 _ ?_), hrun, hended, _, _, rfl, ?_, ⟨_, rfl⟩, hW, hsame.mono (by decide) (by decide)⟩
 ·show Steps p.tables e below (s₁.setTop (mkF m 0 #[.val (.ref x), .val (.int (3 : Int32))] [])) _
  refine XS.aloadN X0.here hx rfl (hb hby d12_0) rfl rfl ?_
  refine st1.trans ?_
  refine XS.ifYes X1.here hx rfl (pc0 := 4) (pc' := 16) rfl (hb hby d12_4) rfl ((if0 _ _).trans (teq (by decide : (0 : Int32) = (0 : Int32))).1) (by decide) (by decide) ?_
  refine XS.aloadN X1.here hx rfl (hb hby d12_16) rfl rfl ?_
  refine st2 _ ?_
  refine XS.iloadN X2.here hx rfl (hb hby d12_20) rfl ?_
  refine st3 _ ?_
  exact retN X3 hx (t := .char) Bd.returns (by simp) (hb hby d12_24) hr
 ·show QCHWd Z x tv nn qa qb qc qd qe qf qg k_tv cst fm h0 n0 _ T3.heap _
  rw [e3]
  exact ⟨(congrArg (fun w => some (Value.int w)) (own_chW hq)), N3, rfl⟩
theorem efA35 (m : MethodId) (xo1_ : Addr) : entryFrame m #[(.int (4 : Int32)), (.ref xo1_)] 2 = mkF m 0 #[.val (.int (4 : Int32)), .val (.ref xo1_)] [] := by first | (simp [entryFrame, mkF, argsToLocals, Value.category]; done) | rfl
def QA35 (Z : State) (xo1_ : Addr) (ui1_ : Int32) (ui2_ : Int32) (ui3_ : Int32) (ui4_ : Int32) (ui5_ : Int32) (ui6_ : Int32) (ui7_ : Int32) (ui8_ : Int32) (ui9_ : Int32) (ui10_ : Int32) (ui11_ : Int32) (ui12_ : Int32) (ui13_ : Int32) (ui14_ : Int32) (ui15_ : Int32) (k_xo1_ : ClassId) (uv16_ : Value) (h0 : Heap) (n0 : Nat) (v : Option Value) (h : Heap) (L : List Loc) : Prop := v = none ∧ Fr n0 L ∧ h = h0
set_option maxRecDepth 65536 in
set_option maxHeartbeats 40000000 in
theorem rmA35 (l : Launch) (Z : State) (a0 : Array Value) (hw : ∀ d ∈ tables_1, d.before a0 Z = true) (ws : List Jvm.Cond) (xo1_ : Addr) (ui1_ : Int32) (ui2_ : Int32) (ui3_ : Int32) (ui4_ : Int32) (ui5_ : Int32) (ui6_ : Int32) (ui7_ : Int32) (ui8_ : Int32) (ui9_ : Int32) (ui10_ : Int32) (ui11_ : Int32) (ui12_ : Int32) (ui13_ : Int32) (ui14_ : Int32) (ui15_ : Int32) (k_xo1_ : ClassId) (uv16_ : Value) (h0 : Heap) (n0 : Nat) (Z0 : n0 ≤ h0.size) (V_xo1_ : Arv Z h0 xo1_ k_xo1_ .byte ui1_ [(.int ui2_), (.int ui3_), (.int ui4_), (.int ui5_), (.int ui6_), (.int ui7_), (.int ui8_), (.int ui9_), (.int ui10_), (.int ui11_), (.int ui12_), (.int ui13_), (.int ui14_), (.int ui15_)] (.int (0 : Int32))) (X00 : Old Z n0 h0) (S_SIOOBE_FORMATTER : Sta Z Z.heap "jdk/internal/util/Preconditions" "SIOOBE_FORMATTER" "Ljava/util/function/BiFunction;" uv16_) (hp0_ : own_nr uv16_) (hp1_ : (4 : Int32) < (ui1_ >>> ((1 : Int32) &&& 31))) :
  MetFree l (⟨"java/lang/StringUTF16", "checkIndex", "(I[B)V"⟩ : MethodName) (head1 (Jvm.Cond.code (⟨"java/lang/StringUTF16", "checkIndex", "(I[B)V"⟩ : MethodName) jdk_52_method_91_code 2 none :: ws) ({ frames := 2, cells := 0, slots := 0, locals := 33 } : Room)) (fun av_ U => av_ = #[(.int (4 : Int32)), (.ref xo1_)] ∧ Z.Warmed39 U.vm ∧ U.heap = h0) (fun _ _ _ _ _ => True) (fun _ U o U' => ∃ v L, o = .returned v ∧ QA35 Z xo1_ ui1_ ui2_ ui3_ ui4_ ui5_ ui6_ ui7_ ui8_ ui9_ ui10_ ui11_ ui12_ ui13_ ui14_ ui15_ k_xo1_ uv16_ h0 n0 v U'.heap L ∧ FrameEnd U o U' L ({ frames := 2, cells := 0, slots := 0, locals := 33 } : Room).cells ({ frames := 2, cells := 0, slots := 0, locals := 33 } : Room).slots) := by
 refine MetFree.of_bodySF (plainFor_of_name own_pn0) hisR ?_
 intro p e s m args below meth c s₁ Bd hml0 hP hK
 obtain ⟨rfl, hZ, hh⟩ := hP
 have hx := Bd.exec
 have hby := Bd.bytes
 have hml : c.maxLocals = 2 := hml0
 have hown : s.vm.findClass "java/lang/StringUTF16" = some m.cls := findClass_of_methodNamed Bd.named
 have hnm := (name_of_methodNamed Bd.named Bd.method).1
 have X0 : Stand p l e ({ frames := 2, cells := 0, slots := 0, locals := 33 } : Room) s m #[(.int (4 : Int32)), (.ref xo1_)] below meth c s₁ [] 0 0 := Stand.of_body Bd
 have e0 : s₁.heap = h0 := by rw [← hh, Bd.state]; rfl
 have N0 := Fr.nil n0
 have pre0 : ∀ t, Steps p.tables e below (s₁.setTop (mkF m 0 #[.val (.int (4 : Int32)), .val (.ref xo1_)] [])) t → Steps p.tables e below (s₁.setTop (entryFrame m #[(.int (4 : Int32)), (.ref xo1_)] 2)) t := fun t k => castTop (efA35 m xo1_) k
 obtain ⟨_, _, ⟨T1, L1, k1, n1⟩, -, X1, ⟨Lc1, hQ1, l1, y1, z1⟩, st1⟩ := Jvm.LawKit.callS X0 hx (y := (⟨"java/lang/StringUTF16", "length", "([B)I"⟩ : MethodName)) hown (mvT hZ (Wd hw 103 rfl)) (mvT hZ (Wd hw 104 rfl)) (mvT hZ (Wd hw 48 rfl)) (mvT hZ (Wd hw 105 rfl)) (by decide) (backOf (W := 1) (rmA27 l Z a0 hw [] xo1_ ui1_ ui2_ ui3_ ui4_ ui5_ ui6_ ui7_ ui8_ ui9_ ui10_ ui11_ ui12_ ui13_ ui14_ ui15_ k_xo1_ h0 n0 Z0 V_xo1_) hZ (Wd hw 105 rfl) (Wd hw 48 rfl) (by decide) (by decide)) (g := (mkF m 2 #[.val (.int (4 : Int32)), .val (.ref xo1_)] [(.ref xo1_), (.int (4 : Int32))])) rfl (by rw [hml]; rfl) (argsL := [(.ref xo1_)]) (rest := [(.int (4 : Int32))]) (lenOf own_pd12 rfl) rfl (by show 2 * 0 + _ ≤ _; exact Nat.le_of_eq rfl) (hb hby d23_2) (fun _ _ => ⟨rfl, e0, (by decide : 0 + 0 ≤ _), (by decide : 0 + 0 ≤ _)⟩)
 dsimp only [Pt.U, Pt.locs, Pt.cells, Pt.slots] at X1 l1 y1 z1 st1 hQ1
 subst l1 y1 z1
 obtain ⟨rfl, Nq1, e1⟩ := hQ1
 have N1 := Fr.app N0 Nq1
 obtain ⟨_, _, ⟨T2, L2, k2, n2⟩, -, X2, ⟨Lc2, hQ2, l2, y2, z2⟩, st2⟩ := Jvm.LawKit.callS X1 hx (y := (⟨"java/lang/String", "checkIndex", "(II)V"⟩ : MethodName)) hown (mvT hZ (Wd hw 106 rfl)) (mvT hZ (Wd hw 71 rfl)) (mvT hZ (Wd hw 8 rfl)) (mvT hZ (Wd hw 72 rfl)) (by decide) (backOf (W := 0) (rmXI l Z a0 hw [] (4 : Int32) (ui1_ >>> ((1 : Int32) &&& 31)) uv16_ h0 n0 Z0 X00 S_SIOOBE_FORMATTER hp0_ (by decide) hp1_) hZ (Wd hw 72 rfl) (Wd hw 8 rfl) (by decide) (by decide)) (g := (mkF m 5 #[.val (.int (4 : Int32)), .val (.ref xo1_)] [(.int (ui1_ >>> ((1 : Int32) &&& 31))), (.int (4 : Int32))])) rfl (by rw [hml]; rfl) (argsL := [(.int (4 : Int32)), (.int (ui1_ >>> ((1 : Int32) &&& 31)))]) (rest := []) (lenOf own_pd11 rfl) rfl (by show 2 * 0 + _ ≤ _; exact Nat.le_of_eq rfl) (hb hby d23_5) (fun _ _ => ⟨rfl, e1, (by decide : 0 + 0 ≤ _), (by decide : 0 + 0 ≤ _)⟩)
 dsimp only [Pt.U, Pt.locs, Pt.cells, Pt.slots] at X2 l2 y2 z2 st2 hQ2
 subst l2 y2 z2
 obtain ⟨rfl, Nq2, e2⟩ := hQ2
 have N2 := Fr.app N1 Nq2
 obtain ⟨fs, hr, hrun, hended, hW, hsame⟩ := X2.leave (v := none) (fun _ => rfl)
 refine ⟨_, _, (pre0 _ ?_), hrun, hended, _, _, rfl, ?_, ⟨_, rfl⟩, hW, hsame.mono (by decide) (by decide)⟩
 ·show Steps p.tables e below (s₁.setTop (mkF m 0 #[.val (.int (4 : Int32)), .val (.ref xo1_)] [])) _
  refine XS.iloadN X0.here hx rfl (hb hby d23_0) rfl ?_
  refine XS.aloadN X0.here hx rfl (hb hby d23_1) rfl rfl ?_
  refine st1 _ ?_
  refine st2 _ ?_
  exact X2.returnOut hx Bd.returns (hb hby d23_8) hr
 ·show QA35 Z xo1_ ui1_ ui2_ ui3_ ui4_ ui5_ ui6_ ui7_ ui8_ ui9_ ui10_ ui11_ ui12_ ui13_ ui14_ ui15_ k_xo1_ uv16_ h0 n0 _ T2.heap _
  rw [e2]
  exact ⟨rfl, N2, rfl⟩
theorem efA34 (m : MethodId) (xo0_ : Addr) : entryFrame m #[(.ref xo0_), (.int (4 : Int32))] 2 = mkF m 0 #[.val (.ref xo0_), .val (.int (4 : Int32))] [] := by first | (simp [entryFrame, mkF, argsToLocals, Value.category]; done) | rfl
def QA34 (Z : State) (xo0_ : Addr) (ui1_ : Int32) (ui2_ : Int32) (ui3_ : Int32) (ui4_ : Int32) (ui5_ : Int32) (ui6_ : Int32) (ui7_ : Int32) (ui8_ : Int32) (ui9_ : Int32) (ui10_ : Int32) (ui11_ : Int32) (ui12_ : Int32) (ui13_ : Int32) (ui14_ : Int32) (ui15_ : Int32) (k_xo0_ : ClassId) (uv16_ : Value) (h0 : Heap) (n0 : Nat) (v : Option Value) (h : Heap) (L : List Loc) : Prop := v = some (.int ((((ui10_ &&& (255 : Int32)) <<< ((0 : Int32) &&& 31)) ||| ((ui11_ &&& (255 : Int32)) <<< ((8 : Int32) &&& 31))).toUInt32.toUInt16.toUInt32.toInt32)) ∧ Fr n0 L ∧ h = h0
set_option maxRecDepth 65536 in
set_option maxHeartbeats 40000000 in
theorem rmA34 (l : Launch) (Z : State) (a0 : Array Value) (hw : ∀ d ∈ tables_1, d.before a0 Z = true) (ws : List Jvm.Cond) (xo0_ : Addr) (ui1_ : Int32) (ui2_ : Int32) (ui3_ : Int32) (ui4_ : Int32) (ui5_ : Int32) (ui6_ : Int32) (ui7_ : Int32) (ui8_ : Int32) (ui9_ : Int32) (ui10_ : Int32) (ui11_ : Int32) (ui12_ : Int32) (ui13_ : Int32) (ui14_ : Int32) (ui15_ : Int32) (k_xo0_ : ClassId) (uv16_ : Value) (h0 : Heap) (n0 : Nat) (Z0 : n0 ≤ h0.size) (V_xo0_ : Arv Z h0 xo0_ k_xo0_ .byte ui1_ [(.int ui2_), (.int ui3_), (.int ui4_), (.int ui5_), (.int ui6_), (.int ui7_), (.int ui8_), (.int ui9_), (.int ui10_), (.int ui11_), (.int ui12_), (.int ui13_), (.int ui14_), (.int ui15_)] (.int (0 : Int32))) (X00 : Old Z n0 h0) (S_SIOOBE_FORMATTER : Sta Z Z.heap "jdk/internal/util/Preconditions" "SIOOBE_FORMATTER" "Ljava/util/function/BiFunction;" uv16_) (hp0_ : own_nr uv16_) (hp1_ : (4 : Int32) < (ui1_ >>> ((1 : Int32) &&& 31))) (hp2_ : (8 : Int32) < ui1_) (hp3_ : (9 : Int32) < ui1_) (S__assertionsDisabled : Sta Z Z.heap "java/lang/StringUTF16" "$assertionsDisabled" "Z" (.int (1 : Int32))) (S_HI_BYTE_SHIFT : Sta Z Z.heap "java/lang/StringUTF16" "HI_BYTE_SHIFT" "I" (.int (0 : Int32))) (S_LO_BYTE_SHIFT : Sta Z Z.heap "java/lang/StringUTF16" "LO_BYTE_SHIFT" "I" (.int (8 : Int32))) :
  MetFree l (⟨"java/lang/StringUTF16", "charAt", "([BI)C"⟩ : MethodName) (head1 (Jvm.Cond.code (⟨"java/lang/StringUTF16", "charAt", "([BI)C"⟩ : MethodName) jdk_52_method_83_code 2 (some .char) :: ws) ({ frames := 3, cells := 0, slots := 0, locals := 46 } : Room)) (fun av_ U => av_ = #[(.ref xo0_), (.int (4 : Int32))] ∧ Z.Warmed39 U.vm ∧ U.heap = h0) (fun _ _ _ _ _ => True) (fun _ U o U' => ∃ v L, o = .returned v ∧ QA34 Z xo0_ ui1_ ui2_ ui3_ ui4_ ui5_ ui6_ ui7_ ui8_ ui9_ ui10_ ui11_ ui12_ ui13_ ui14_ ui15_ k_xo0_ uv16_ h0 n0 v U'.heap L ∧ FrameEnd U o U' L ({ frames := 3, cells := 0, slots := 0, locals := 46 } : Room).cells ({ frames := 3, cells := 0, slots := 0, locals := 46 } : Room).slots) := by
 refine MetFree.of_bodySF (plainFor_of_name own_pn0) hisR ?_
 intro p e s m args below meth c s₁ Bd hml0 hP hK
 obtain ⟨rfl, hZ, hh⟩ := hP
 have hx := Bd.exec
 have hby := Bd.bytes
 have hml : c.maxLocals = 2 := hml0
 have hown : s.vm.findClass "java/lang/StringUTF16" = some m.cls := findClass_of_methodNamed Bd.named
 have hnm := (name_of_methodNamed Bd.named Bd.method).1
 have X0 : Stand p l e ({ frames := 3, cells := 0, slots := 0, locals := 46 } : Room) s m #[(.ref xo0_), (.int (4 : Int32))] below meth c s₁ [] 0 0 := Stand.of_body Bd
 have e0 : s₁.heap = h0 := by rw [← hh, Bd.state]; rfl
 have N0 := Fr.nil n0
 have pre0 : ∀ t, Steps p.tables e below (s₁.setTop (mkF m 0 #[.val (.ref xo0_), .val (.int (4 : Int32))] [])) t → Steps p.tables e below (s₁.setTop (entryFrame m #[(.ref xo0_), (.int (4 : Int32))] 2)) t := fun t k => castTop (efA34 m xo0_) k
 obtain ⟨_, _, ⟨T1, L1, k1, n1⟩, -, X1, ⟨Lc1, hQ1, l1, y1, z1⟩, st1⟩ := Jvm.LawKit.callS X0 hx (y := (⟨"java/lang/StringUTF16", "checkIndex", "(I[B)V"⟩ : MethodName)) hown (mvT hZ (Wd hw 100 rfl)) (mvT hZ (Wd hw 101 rfl)) (mvT hZ (Wd hw 48 rfl)) (mvT hZ (Wd hw 102 rfl)) (by decide) (backOf (W := 0) (rmA35 l Z a0 hw [] xo0_ ui1_ ui2_ ui3_ ui4_ ui5_ ui6_ ui7_ ui8_ ui9_ ui10_ ui11_ ui12_ ui13_ ui14_ ui15_ k_xo0_ uv16_ h0 n0 Z0 V_xo0_ X00 S_SIOOBE_FORMATTER hp0_ hp1_) hZ (Wd hw 102 rfl) (Wd hw 48 rfl) (by decide) (by decide)) (g := (mkF m 2 #[.val (.ref xo0_), .val (.int (4 : Int32))] [(.ref xo0_), (.int (4 : Int32))])) rfl (by rw [hml]; rfl) (argsL := [(.int (4 : Int32)), (.ref xo0_)]) (rest := []) (lenOf own_pd13 rfl) rfl (by show 2 * 0 + _ ≤ _; exact Nat.le_of_eq rfl) (hb hby d22_2) (fun _ _ => ⟨rfl, e0, (by decide : 0 + 0 ≤ _), (by decide : 0 + 0 ≤ _)⟩)
 dsimp only [Pt.U, Pt.locs, Pt.cells, Pt.slots] at X1 l1 y1 z1 st1 hQ1
 subst l1 y1 z1
 obtain ⟨rfl, Nq1, e1⟩ := hQ1
 have N1 := Fr.app N0 Nq1
 obtain ⟨_, _, ⟨T2, L2, k2, n2⟩, -, X2, ⟨Lc2, hQ2, l2, y2, z2⟩, st2⟩ := Jvm.LawKit.callS X1 hx (y := (⟨"java/lang/StringUTF16", "getChar", "([BI)C"⟩ : MethodName)) hown (mvT hZ (Wd hw 94 rfl)) (mvT hZ (Wd hw 95 rfl)) (mvT hZ (Wd hw 48 rfl)) (mvT hZ (Wd hw 96 rfl)) (by decide) (backOf (W := 0) (rmA13 l Z a0 hw [] xo0_ ui1_ ui2_ ui3_ ui4_ ui5_ ui6_ ui7_ ui8_ ui9_ ui10_ ui11_ ui12_ ui13_ ui14_ ui15_ k_xo0_ h0 n0 Z0 X00 S__assertionsDisabled V_xo0_ hp2_ S_HI_BYTE_SHIFT hp3_ S_LO_BYTE_SHIFT) hZ (Wd hw 96 rfl) (Wd hw 48 rfl) (by decide) (by decide)) (g := (mkF m 7 #[.val (.ref xo0_), .val (.int (4 : Int32))] [(.int (4 : Int32)), (.ref xo0_)])) rfl (by rw [hml]; rfl) (argsL := [(.ref xo0_), (.int (4 : Int32))]) (rest := []) (lenOf own_pd5 rfl) rfl (by show 2 * 0 + _ ≤ _; exact Nat.le_of_eq rfl) (hb hby d22_7) (fun _ _ => ⟨rfl, e1, (by decide : 0 + 0 ≤ _), (by decide : 0 + 0 ≤ _)⟩)
 dsimp only [Pt.U, Pt.locs, Pt.cells, Pt.slots] at X2 l2 y2 z2 st2 hQ2
 subst l2 y2 z2
 obtain ⟨rfl, Nq2, e2⟩ := hQ2
 have N2 := Fr.app N1 Nq2
 obtain ⟨fs, hr, hrun, hended, hW, hsame⟩ := X2.leave (v := some (.int (nar .char ((((ui10_ &&& (255 : Int32)) <<< ((0 : Int32) &&& 31)) ||| ((ui11_ &&& (255 : Int32)) <<< ((8 : Int32) &&& 31))).toUInt32.toUInt16.toUInt32.toInt32)))) (fun h => by rw [Bd.returns] at h; cases h)
 refine ⟨_, _, (pre0 _ ?_), hrun, hended, _, _, rfl, ?_, ⟨_, rfl⟩, hW, hsame.mono (by decide) (by decide)⟩
 ·show Steps p.tables e below (s₁.setTop (mkF m 0 #[.val (.ref xo0_), .val (.int (4 : Int32))] [])) _
  refine XS.iloadN X0.here hx rfl (hb hby d22_0) rfl ?_
  refine XS.aloadN X0.here hx rfl (hb hby d22_1) rfl rfl ?_
  refine st1 _ ?_
  refine XS.aloadN X1.here hx rfl (hb hby d22_5) rfl rfl ?_
  refine XS.iloadN X1.here hx rfl (hb hby d22_6) rfl ?_
  refine st2 _ ?_
  exact retN X2 hx (t := .char) Bd.returns (by simp) (hb hby d22_10) hr
 ·show QA34 Z xo0_ ui1_ ui2_ ui3_ ui4_ ui5_ ui6_ ui7_ ui8_ ui9_ ui10_ ui11_ ui12_ ui13_ ui14_ ui15_ k_xo0_ uv16_ h0 n0 _ T2.heap _
  rw [e2]
  exact ⟨(congrArg (fun w => some (Value.int w)) (own_narc _)), N2, rfl⟩
theorem efCHWe (m : MethodId) (x : Addr) : entryFrame m #[(.ref x), (.int (4 : Int32))] 2 = mkF m 0 #[.val (.ref x), .val (.int (4 : Int32))] [] := by first | (simp [entryFrame, mkF, argsToLocals, Value.category]; done) | rfl
def QCHWe (Z : State) (x : Addr) (tv : Addr) (nn : Int32) (qa : Int32) (qb : Int32) (qc : Int32) (qd : Int32) (qe : Int32) (qf : Int32) (qg : Int32) (k_tv : ClassId) (cst : Int32) (fm : Value) (h0 : Heap) (n0 : Nat) (v : Option Value) (h : Heap) (L : List Loc) : Prop := v = some (.int qe) ∧ Fr n0 L ∧ h = h0
set_option maxRecDepth 65536 in
set_option maxHeartbeats 40000000 in
theorem rmCHWe (l : Launch) (Z : State) (a0 : Array Value) (hw : ∀ d ∈ tables_1, d.before a0 Z = true) (ws : List Jvm.Cond) (x : Addr) (tv : Addr) (nn : Int32) (qa : Int32) (qb : Int32) (qc : Int32) (qd : Int32) (qe : Int32) (qf : Int32) (qg : Int32) (k_tv : ClassId) (cst : Int32) (fm : Value) (h0 : Heap) (n0 : Nat) (Z0 : n0 ≤ h0.size) (E_x : Exa Z h0 x "java/lang/String") (F_value_x : Fld Z h0 x "java/lang/String" "value" "[B" (.ref tv)) (F_coder_x : Fld Z h0 x "java/lang/String" "coder" "B" (.int (1 : Int32))) (V_tv : Arv Z h0 tv k_tv .byte (nn <<< ((1 : Int32) &&& 31)) [(.int (own_w0 qa)), (.int (own_w1 qa)), (.int (own_w0 qb)), (.int (own_w1 qb)), (.int (own_w0 qc)), (.int (own_w1 qc)), (.int (own_w0 qd)), (.int (own_w1 qd)), (.int (own_w0 qe)), (.int (own_w1 qe)), (.int (own_w0 qf)), (.int (own_w1 qf)), (.int (own_w0 qg)), (.int (own_w1 qg))] (.int (0 : Int32))) (X00 : Old Z n0 h0) (S__assertionsDisabled : Sta Z Z.heap "java/lang/StringUTF16" "$assertionsDisabled" "Z" (.int (1 : Int32))) (S_HI_BYTE_SHIFT : Sta Z Z.heap "java/lang/StringUTF16" "HI_BYTE_SHIFT" "I" (.int (0 : Int32))) (S_LO_BYTE_SHIFT : Sta Z Z.heap "java/lang/StringUTF16" "LO_BYTE_SHIFT" "I" (.int (8 : Int32))) (S_COMPACT_STRINGS : Sta Z Z.heap "java/lang/String" "COMPACT_STRINGS" "Z" (.int cst)) (hcs : ¬ cst = (0 : Int32)) (hn : 0 ≤ nn.toInt ∧ nn.toInt ≤ 7) (S_SIOOBE_FORMATTER : Sta Z Z.heap "jdk/internal/util/Preconditions" "SIOOBE_FORMATTER" "Ljava/util/function/BiFunction;" fm) (hfm : own_nr fm) (hi : (4 : Int32) < nn) (hq : own_c16 qe) :
  MetFree l (⟨"java/lang/String", "charAt", "(I)C"⟩ : MethodName) (head1 (Jvm.Cond.code (⟨"java/lang/String", "charAt", "(I)C"⟩ : MethodName) jdk_42_method_56_code 2 (some .char) :: ws) ({ frames := 4, cells := 0, slots := 0, locals := 60 } : Room)) (fun av_ U => av_ = #[(.ref x), (.int (4 : Int32))] ∧ Z.Warmed39 U.vm ∧ U.heap = h0) (fun _ _ _ _ _ => True) (fun _ U o U' => ∃ v L, o = .returned v ∧ QCHWe Z x tv nn qa qb qc qd qe qf qg k_tv cst fm h0 n0 v U'.heap L ∧ FrameEnd U o U' L ({ frames := 4, cells := 0, slots := 0, locals := 60 } : Room).cells ({ frames := 4, cells := 0, slots := 0, locals := 60 } : Room).slots) := by
 refine MetFree.of_bodySF (plainFor_of_name own_pn1) hisR ?_
 intro p e s m args below meth c s₁ Bd hml0 hP hK
 obtain ⟨rfl, hZ, hh⟩ := hP
 have hx := Bd.exec
 have hby := Bd.bytes
 have hml : c.maxLocals = 2 := hml0
 have hown : s.vm.findClass "java/lang/String" = some m.cls := findClass_of_methodNamed Bd.named
 have hnm := (name_of_methodNamed Bd.named Bd.method).1
 have X0 : Stand p l e ({ frames := 4, cells := 0, slots := 0, locals := 60 } : Room) s m #[(.ref x), (.int (4 : Int32))] below meth c s₁ [] 0 0 := Stand.of_body Bd
 have e0 : s₁.heap = h0 := by rw [← hh, Bd.state]; rfl
 have N0 := Fr.nil n0
 have pre0 : ∀ t, Steps p.tables e below (s₁.setTop (mkF m 0 #[.val (.ref x), .val (.int (4 : Int32))] [])) t → Steps p.tables e below (s₁.setTop (entryFrame m #[(.ref x), (.int (4 : Int32))] 2)) t := fun t k => castTop (efCHWe m x) k
 obtain ⟨cq1, kq1, q1a, q1b, q1c⟩ := isOf hZ e0 E_x
 obtain ⟨_, _, ⟨T1, L1, k1, n1⟩, -, X1, ⟨Lc1, hQ1, l1, y1, z1⟩, st1⟩ := X0.virtualBack hx (y := (⟨"java/lang/String", "isLatin1", "()Z"⟩ : MethodName)) (z := (⟨"java/lang/String", "isLatin1", "()Z"⟩ : MethodName)) hown (mvT hZ (Wd hw 61 rfl)) (mvT hZ (Wd hw 62 rfl)) (notFace_of_selects (args := #[]) (mvT hZ (Wd hw 64 rfl))) (mvT hZ (Wd hw 64 rfl)) (mvT hZ (Wd hw 63 rfl)) (by decide) (backOf (W := 0) (rmA24 l Z a0 hw [] x tv cst h0 n0 Z0 E_x F_value_x F_coder_x X00 S_COMPACT_STRINGS hcs) hZ (Wd hw 65 rfl) (Wd hw 8 rfl) (by decide) (by decide)) q1a q1c (g := (mkF m 1 #[.val (.ref x), .val (.int (4 : Int32))] [(.ref x)])) rfl (by rw [hml]; rfl) (Steps.refl _) (argsL := []) (rest := []) (lenOf own_pd10 rfl) rfl (by show 2 * 0 + _ ≤ _; exact Nat.le_of_eq rfl) (hb hby d12_1) (fun _ _ => ⟨rfl, e0, (by decide : 0 + 0 ≤ _), (by decide : 0 + 0 ≤ _)⟩)
 dsimp only [Pt.U, Pt.locs, Pt.cells, Pt.slots] at X1 l1 y1 z1 st1 hQ1
 subst l1 y1 z1
 obtain ⟨rfl, Nq1, e1⟩ := hQ1
 have N1 := Fr.app N0 Nq1
 obtain ⟨T2, X2, e2, st2⟩ := getF X1 hx hZ hown (host := "") (Or.inl (Wd hw 25 rfl)) Via.refl e1 F_value_x (g := (mkF m 17 #[.val (.ref x), .val (.int (4 : Int32))] [(.ref x)])) rfl rfl (hb hby d12_17)
 obtain ⟨_, _, ⟨T3, L3, k3, n3⟩, -, X3, ⟨Lc3, hQ3, l3, y3, z3⟩, st3⟩ := Jvm.LawKit.callS X2 hx (y := (⟨"java/lang/StringUTF16", "charAt", "([BI)C"⟩ : MethodName)) hown (mvT hZ (Wd hw 97 rfl)) (mvT hZ (Wd hw 98 rfl)) (mvT hZ (Wd hw 48 rfl)) (mvT hZ (Wd hw 99 rfl)) (by decide) (backOf (W := 0) (rmA34 l Z a0 hw [] tv (nn <<< ((1 : Int32) &&& 31)) (own_w0 qa) (own_w1 qa) (own_w0 qb) (own_w1 qb) (own_w0 qc) (own_w1 qc) (own_w0 qd) (own_w1 qd) (own_w0 qe) (own_w1 qe) (own_w0 qf) (own_w1 qf) (own_w0 qg) (own_w1 qg) k_tv fm h0 n0 Z0 V_tv X00 S_SIOOBE_FORMATTER hfm (by rw [own_shr hn]; exact hi) (own_sh2 hn hi (i := 4) (by decide) (by decide)) (own_sh2 hn hi (i := 4) (by decide) (by decide)) S__assertionsDisabled S_HI_BYTE_SHIFT S_LO_BYTE_SHIFT) hZ (Wd hw 99 rfl) (Wd hw 48 rfl) (by decide) (by decide)) (g := (mkF m 21 #[.val (.ref x), .val (.int (4 : Int32))] [(.int (4 : Int32)), (.ref tv)])) rfl (by rw [hml]; rfl) (argsL := [(.ref tv), (.int (4 : Int32))]) (rest := []) (lenOf own_pd5 rfl) rfl (by show 2 * 0 + _ ≤ _; exact Nat.le_of_eq rfl) (hb hby d12_21) (fun _ _ => ⟨rfl, e2, (by decide : 0 + 0 ≤ _), (by decide : 0 + 0 ≤ _)⟩)
 dsimp only [Pt.U, Pt.locs, Pt.cells, Pt.slots] at X3 l3 y3 z3 st3 hQ3
 subst l3 y3 z3
 obtain ⟨rfl, Nq3, e3⟩ := hQ3
 have N3 := Fr.app N1 Nq3
 obtain ⟨fs, hr, hrun, hended, hW, hsame⟩ := X3.leave (v := some (.int (nar .char (((((own_w0 qe) &&& (255 : Int32)) <<< ((0 : Int32) &&& 31)) ||| (((own_w1 qe) &&& (255 : Int32)) <<< ((8 : Int32) &&& 31))).toUInt32.toUInt16.toUInt32.toInt32)))) (fun h => by rw [Bd.returns] at h; cases h)
 refine ⟨_, _, (pre0 _ ?_), hrun, hended, _, _, rfl, ?_, ⟨_, rfl⟩, hW, hsame.mono (by decide) (by decide)⟩
 ·show Steps p.tables e below (s₁.setTop (mkF m 0 #[.val (.ref x), .val (.int (4 : Int32))] [])) _
  refine XS.aloadN X0.here hx rfl (hb hby d12_0) rfl rfl ?_
  refine st1.trans ?_
  refine XS.ifYes X1.here hx rfl (pc0 := 4) (pc' := 16) rfl (hb hby d12_4) rfl ((if0 _ _).trans (teq (by decide : (0 : Int32) = (0 : Int32))).1) (by decide) (by decide) ?_
  refine XS.aloadN X1.here hx rfl (hb hby d12_16) rfl rfl ?_
  refine st2 _ ?_
  refine XS.iloadN X2.here hx rfl (hb hby d12_20) rfl ?_
  refine st3 _ ?_
  exact retN X3 hx (t := .char) Bd.returns (by simp) (hb hby d12_24) hr
 ·show QCHWe Z x tv nn qa qb qc qd qe qf qg k_tv cst fm h0 n0 _ T3.heap _
  rw [e3]
  exact ⟨(congrArg (fun w => some (Value.int w)) (own_chW hq)), N3, rfl⟩
theorem own_pd14 : parseMethodDescriptor "()I" = some ⟨[], some .int⟩ := by decide +kernel
theorem own_pd15 : parseMethodDescriptor "(II)I" = some ⟨[.int, .int], some .int⟩ := by decide +kernel
theorem own_pd16 : parseMethodDescriptor "(I)C" = some ⟨[.int], some .char⟩ := by decide +kernel
theorem own_pn4 : plainName "com/example/careful_throttle/carefulthrottle/address/IpAddress" = true := by first | (simp [plainName, overriddenIn]; done) | decide +kernel
theorem d5_0 : decode prog_39_method_4_code 0 = .ok (.aload_n 0, 1) := by decide +kernel
theorem d5_1 : decode prog_39_method_4_code 1 = .ok (.invokevirtual 39, 3) := by decide +kernel
theorem d5_4 : decode prog_39_method_4_code 4 = .ok (.iconst 5, 1) := by decide +kernel
theorem d5_5 : decode prog_39_method_4_code 5 = .ok (.invokestatic 66, 3) := by decide +kernel
theorem d5_8 : decode prog_39_method_4_code 8 = .ok (.istore_n 1, 1) := by decide +kernel
theorem d5_9 : decode prog_39_method_4_code 9 = .ok (.iconst 0, 1) := by decide +kernel
theorem d5_10 : decode prog_39_method_4_code 10 = .ok (.istore_n 2, 1) := by decide +kernel
theorem d5_11 : decode prog_39_method_4_code 11 = .ok (.iload_n 2, 1) := by decide +kernel
theorem d5_12 : decode prog_39_method_4_code 12 = .ok (.iload_n 1, 1) := by decide +kernel
theorem d5_13 : decode prog_39_method_4_code 13 = .ok (.if_icmp .ge 21, 3) := by decide +kernel
theorem d5_16 : decode prog_39_method_4_code 16 = .ok (.aload_n 0, 1) := by decide +kernel
theorem d5_17 : decode prog_39_method_4_code 17 = .ok (.iload_n 2, 1) := by decide +kernel
theorem d5_18 : decode prog_39_method_4_code 18 = .ok (.invokevirtual 72, 3) := by decide +kernel
theorem d5_21 : decode prog_39_method_4_code 21 = .ok (.bipush 58, 2) := by decide +kernel
theorem d5_23 : decode prog_39_method_4_code 23 = .ok (.if_icmp .ne 5, 3) := by decide +kernel
theorem d5_26 : decode prog_39_method_4_code 26 = .ok (.iconst 1, 1) := by decide +kernel
theorem d5_27 : decode prog_39_method_4_code 27 = .ok (.ireturn, 1) := by decide +kernel
theorem d5_28 : decode prog_39_method_4_code 28 = .ok (.iinc 2 1, 3) := by decide +kernel
theorem d5_31 : decode prog_39_method_4_code 31 = .ok (.goto (-20), 3) := by decide +kernel
theorem d5_34 : decode prog_39_method_4_code 34 = .ok (.iconst 0, 1) := by decide +kernel
theorem d5_35 : decode prog_39_method_4_code 35 = .ok (.ireturn, 1) := by decide +kernel
theorem efMBL (m : MethodId) (x : Addr) : entryFrame m #[(.ref x)] 3 = mkF m 0 #[.val (.ref x), .unset, .unset] [] := by first | (simp [entryFrame, mkF, argsToLocals, Value.category]; done) | rfl
def QMBL (Z : State) (x : Addr) (tv : Addr) (nn : Int32) (qa : Int32) (qb : Int32) (qc : Int32) (qd : Int32) (qe : Int32) (qf : Int32) (qg : Int32) (k_tv : ClassId) (cst : Int32) (fm : Value) (h0 : Heap) (n0 : Nat) (v : Option Value) (h : Heap) (L : List Loc) : Prop := v = some (.int (own_col nn qa qb qc qd qe)) ∧ Fr n0 L ∧ h = h0
set_option maxRecDepth 65536 in
set_option maxHeartbeats 40000000 in
theorem rmMBL (l : Launch) (Z : State) (a0 : Array Value) (hw : ∀ d ∈ tables_1, d.before a0 Z = true) (ws : List Jvm.Cond) (x : Addr) (tv : Addr) (nn : Int32) (qa : Int32) (qb : Int32) (qc : Int32) (qd : Int32) (qe : Int32) (qf : Int32) (qg : Int32) (k_tv : ClassId) (cst : Int32) (fm : Value) (h0 : Heap) (n0 : Nat) (Z0 : n0 ≤ h0.size) (E_x : Exa Z h0 x "java/lang/String") (F_value_x : Fld Z h0 x "java/lang/String" "value" "[B" (.ref tv)) (F_coder_x : Fld Z h0 x "java/lang/String" "coder" "B" (.int (0 : Int32))) (V_tv : Arv Z h0 tv k_tv .byte nn [(.int qa.toInt8.toInt32), (.int qb.toInt8.toInt32), (.int qc.toInt8.toInt32), (.int qd.toInt8.toInt32), (.int qe.toInt8.toInt32), (.int qf.toInt8.toInt32), (.int qg.toInt8.toInt32)] (.int (0 : Int32))) (X00 : Old Z n0 h0) (S_COMPACT_STRINGS : Sta Z Z.heap "java/lang/String" "COMPACT_STRINGS" "Z" (.int cst)) (hcs : ¬ cst = (0 : Int32)) (hn : 0 ≤ nn.toInt ∧ nn.toInt ≤ 7) (S_SIOOBE_FORMATTER : Sta Z Z.heap "jdk/internal/util/Preconditions" "SIOOBE_FORMATTER" "Ljava/util/function/BiFunction;" fm) (hfm : own_nr fm) (hqa : own_c16 qa) (hqb : own_c16 qb) (hqc : own_c16 qc) (hqd : own_c16 qd) (hqe : own_c16 qe) (hl : own_lat nn [qa, qb, qc, qd, qe, qf, qg]) :
  MetFree l (⟨"com/example/careful_throttle/carefulthrottle/address/IpAddress", "mayBeIpv6", "(Ljava/lang/String;)Z"⟩ : MethodName) (head1 (Jvm.Cond.code (⟨"com/example/careful_throttle/carefulthrottle/address/IpAddress", "mayBeIpv6", "(Ljava/lang/String;)Z"⟩ : MethodName) prog_39_method_4_code 3 (some .boolean) :: ws) ({ frames := 5, cells := 0, slots := 0, locals := 90 } : Room)) (fun av_ U => av_ = #[(.ref x)] ∧ Z.Warmed39 U.vm ∧ U.heap = h0) (fun _ _ _ _ _ => True) (fun _ U o U' => ∃ v L, o = .returned v ∧ QMBL Z x tv nn qa qb qc qd qe qf qg k_tv cst fm h0 n0 v U'.heap L ∧ FrameEnd U o U' L ({ frames := 5, cells := 0, slots := 0, locals := 90 } : Room).cells ({ frames := 5, cells := 0, slots := 0, locals := 90 } : Room).slots) := by
 refine MetFree.of_bodySF (plainFor_of_name own_pn4) hisR ?_
 intro p e s m args below meth c s₁ Bd hml0 hP hK
 obtain ⟨rfl, hZ, hh⟩ := hP
 have hx := Bd.exec
 have hby := Bd.bytes
 have hml : c.maxLocals = 3 := hml0
 have hown : s.vm.findClass "com/example/careful_throttle/carefulthrottle/address/IpAddress" = some m.cls := findClass_of_methodNamed Bd.named
 have hnm := (name_of_methodNamed Bd.named Bd.method).1
 have X0 : Stand p l e ({ frames := 5, cells := 0, slots := 0, locals := 90 } : Room) s m #[(.ref x)] below meth c s₁ [] 0 0 := Stand.of_body Bd
 have e0 : s₁.heap = h0 := by rw [← hh, Bd.state]; rfl
 have N0 := Fr.nil n0
 have pre0 : ∀ t, Steps p.tables e below (s₁.setTop (mkF m 0 #[.val (.ref x), .unset, .unset] [])) t → Steps p.tables e below (s₁.setTop (entryFrame m #[(.ref x)] 3)) t := fun t k => castTop (efMBL m x) k
 obtain ⟨cq1, kq1, q1a, q1b, q1c⟩ := isOf hZ e0 E_x
 obtain ⟨_, _, ⟨T1, L1, k1, n1⟩, -, X1, ⟨Lc1, hQ1, l1, y1, z1⟩, st1⟩ := X0.virtualBack hx (y := (⟨"java/lang/String", "length", "()I"⟩ : MethodName)) (z := (⟨"java/lang/String", "length", "()I"⟩ : MethodName)) hown (mvT hZ (Wd hw 31 rfl)) (mvT hZ (Wd hw 32 rfl)) (notFace_of_selects (args := #[]) (mvT hZ (Wd hw 34 rfl))) (mvT hZ (Wd hw 34 rfl)) (mvT hZ (Wd hw 33 rfl)) (by decide) (backOf (W := 0) (rmLNL l Z a0 hw [] x tv nn qa qb qc qd qe qf qg k_tv cst h0 n0 Z0 E_x F_value_x F_coder_x V_tv X00 S_COMPACT_STRINGS hcs hn) hZ (Wd hw 35 rfl) (Wd hw 8 rfl) (by decide) (by decide)) q1a q1c (g := (mkF m 1 #[.val (.ref x), .unset, .unset] [(.ref x)])) rfl (by rw [hml]; rfl) (Steps.refl _) (argsL := []) (rest := []) (lenOf own_pd14 rfl) rfl (by show 2 * 0 + _ ≤ _; exact Nat.le_of_eq rfl) (hb hby d5_1) (fun _ _ => ⟨rfl, e0, (by decide : 0 + 0 ≤ _), (by decide : 0 + 0 ≤ _)⟩)
 dsimp only [Pt.U, Pt.locs, Pt.cells, Pt.slots] at X1 l1 y1 z1 st1 hQ1
 subst l1 y1 z1
 obtain ⟨rfl, Nq1, e1⟩ := hQ1
 have N1 := Fr.app N0 Nq1
 obtain ⟨_, _, ⟨T2, L2, k2, n2⟩, -, X2, ⟨Lc2, hQ2, l2, y2, z2⟩, st2⟩ := Jvm.LawKit.callS X1 hx (y := (⟨"java/lang/Math", "min", "(II)I"⟩ : MethodName)) hown (mvT hZ (Wd hw 42 rfl)) (mvT hZ (Wd hw 43 rfl)) (mvT hZ (Wd hw 44 rfl)) (mvT hZ (Wd hw 45 rfl)) (by decide) (backOf (W := 0) (rmMN l Z a0 hw [] nn h0 n0 Z0 ) hZ (Wd hw 45 rfl) (Wd hw 44 rfl) (by decide) (by decide)) (g := (mkF m 5 #[.val (.ref x), .unset, .unset] [(.int (5 : Int32)), (.int nn)])) rfl (by rw [hml]; rfl) (argsL := [(.int nn), (.int (5 : Int32))]) (rest := []) (lenOf own_pd15 rfl) rfl (by show 2 * 0 + _ ≤ _; exact Nat.le_of_eq rfl) (hb hby d5_5) (fun _ _ => ⟨rfl, e1, (by decide : 0 + 0 ≤ _), (by decide : 0 + 0 ≤ _)⟩)
 dsimp only [Pt.U, Pt.locs, Pt.cells, Pt.slots] at X2 l2 y2 z2 st2 hQ2
 subst l2 y2 z2
 obtain ⟨rfl, Nq2, e2⟩ := hQ2
 have N2 := Fr.app N1 Nq2
 have r3 : ∀ t, Steps p.tables e below (T2.setTop (mkF m 13 #[.val (.ref x), .val (.int (own_min5 nn)), .val (.int (0 : Int32))] [(.int (own_min5 nn)), (.int (0 : Int32))])) t → Steps p.tables e below (s₁.setTop (mkF m 0 #[.val (.ref x), .unset, .unset] [])) t := fun t kt => by
  refine XS.aloadN X0.here hx rfl (hb hby d5_0) rfl rfl ?_
  refine st1.trans ?_
  refine XS.iconst X1.here hx rfl (hb hby d5_4) ?_
  refine st2 _ ?_
  refine XS.istoreN X2.here hx rfl (hb hby d5_8) rfl (l' := #[.val (.ref x), .val (.int (own_min5 nn)), .unset]) rfl ?_
  refine XS.iconst X2.here hx rfl (hb hby d5_9) ?_
  refine XS.istoreN X2.here hx rfl (hb hby d5_10) rfl (l' := #[.val (.ref x), .val (.int (own_min5 nn)), .val (.int (0 : Int32))]) rfl ?_
  refine XS.iloadN X2.here hx rfl (hb hby d5_11) rfl ?_
  refine XS.iloadN X2.here hx rfl (hb hby d5_12) rfl ?_
  exact kt
 by_cases hc4 : (0 : Int32) < (own_min5 nn)
 ·obtain ⟨cq5, kq5, q5a, q5b, q5c⟩ := isOf hZ e2 E_x
  obtain ⟨_, _, ⟨T5, L5, k5, n5⟩, -, X5, ⟨Lc5, hQ5, l5, y5, z5⟩, st5⟩ := X2.virtualBack hx (y := (⟨"java/lang/String", "charAt", "(I)C"⟩ : MethodName)) (z := (⟨"java/lang/String", "charAt", "(I)C"⟩ : MethodName)) hown (mvT hZ (Wd hw 56 rfl)) (mvT hZ (Wd hw 57 rfl)) (notFace_of_selects (args := #[]) (mvT hZ (Wd hw 59 rfl))) (mvT hZ (Wd hw 59 rfl)) (mvT hZ (Wd hw 58 rfl)) (by decide) (backOf (W := 0) (rmCHLa l Z a0 hw [] x tv nn qa qb qc qd qe qf qg k_tv cst fm h0 n0 Z0 E_x F_value_x F_coder_x V_tv X00 S_COMPACT_STRINGS hcs hn S_SIOOBE_FORMATTER hfm (own_min_lt hc4 (by decide)) hqa hl) hZ (Wd hw 60 rfl) (Wd hw 8 rfl) (by decide) (by decide)) q5a q5c (g := (mkF m 18 #[.val (.ref x), .val (.int (own_min5 nn)), .val (.int (0 : Int32))] [(.int (0 : Int32)), (.ref x)])) rfl (by rw [hml]; rfl) (Steps.refl _) (argsL := [(.int (0 : Int32))]) (rest := []) (lenOf own_pd16 rfl) rfl (by show 2 * 0 + _ ≤ _; exact Nat.le_of_eq rfl) (hb hby d5_18) (fun _ _ => ⟨rfl, e2, (by decide : 0 + 0 ≤ _), (by decide : 0 + 0 ≤ _)⟩)
  dsimp only [Pt.U, Pt.locs, Pt.cells, Pt.slots] at X5 l5 y5 z5 st5 hQ5
  subst l5 y5 z5
  obtain ⟨rfl, Nq5, e5⟩ := hQ5
  have N5 := Fr.app N2 Nq5
  have r6 : ∀ t, Steps p.tables e below (T5.setTop (mkF m 23 #[.val (.ref x), .val (.int (own_min5 nn)), .val (.int (0 : Int32))] [(.int (58 : Int32)), (.int qa)])) t → Steps p.tables e below (T2.setTop (mkF m 13 #[.val (.ref x), .val (.int (own_min5 nn)), .val (.int (0 : Int32))] [(.int (own_min5 nn)), (.int (0 : Int32))])) t := fun t kt => by
   refine XS.icmpNo X2.here hx rfl (hb hby d5_13) rfl (tlt hc4).2.1 ?_
   refine XS.aloadN X2.here hx rfl (hb hby d5_16) rfl rfl ?_
   refine XS.iloadN X2.here hx rfl (hb hby d5_17) rfl ?_
   refine st5.trans ?_
   refine XS.bipush X5.here hx rfl (hb hby d5_21) ?_
   exact kt
  by_cases hc7 : qa = (58 : Int32)
  ·obtain ⟨fs, hr, hrun, hended, hW, hsame⟩ := X5.leave (v := some (.int (1 : Int32))) (fun h => by rw [Bd.returns] at h; cases h)
   refine ⟨_, _, (pre0 _ (r3 _ (r6 _ ?_))), hrun, hended, _, _, rfl, ?_, ⟨_, rfl⟩, hW, hsame.mono (by decide) (by decide)⟩
   ·show Steps p.tables e below (T5.setTop (mkF m 23 #[.val (.ref x), .val (.int (own_min5 nn)), .val (.int (0 : Int32))] [(.int (58 : Int32)), (.int qa)])) _
    refine XS.icmpNo X5.here hx rfl (hb hby d5_23) rfl (teq hc7).2 ?_
    refine XS.iconst X5.here hx rfl (hb hby d5_26) ?_
    exact retN X5 hx (t := .boolean) Bd.returns (by simp) (hb hby d5_27) hr
   ·show QMBL Z x tv nn qa qb qc qd qe qf qg k_tv cst fm h0 n0 _ T5.heap _
    rw [e5]
    exact ⟨(congrArg (fun w => some (Value.int w)) (by show (1 : Int32) = own_col nn qa qb qc qd qe; unfold own_col; rw [if_pos (Or.inl ⟨own_min_lt hc4 (by decide), hc7⟩)])), N5, rfl⟩
  ·have r8 : ∀ t, Steps p.tables e below (T5.setTop (mkF m 13 #[.val (.ref x), .val (.int (own_min5 nn)), .val (.int (1 : Int32))] [(.int (own_min5 nn)), (.int (1 : Int32))])) t → Steps p.tables e below (T5.setTop (mkF m 23 #[.val (.ref x), .val (.int (own_min5 nn)), .val (.int (0 : Int32))] [(.int (58 : Int32)), (.int qa)])) t := fun t kt => by
    refine XS.icmpYes X5.here hx rfl (pc0 := 23) (pc' := 28) rfl (hb hby d5_23) rfl (feq hc7).2 (by decide) (by decide) ?_
    refine XS.iinc X5.here hx rfl (hb hby d5_28) rfl (l' := #[.val (.ref x), .val (.int (own_min5 nn)), .val (.int (1 : Int32))]) rfl ?_
    refine XS.goto X5.here hx rfl (pc0 := 31) (pc' := 11) rfl (hb hby d5_31) (by decide) (by decide) ?_
    refine XS.iloadN X5.here hx rfl (hb hby d5_11) rfl ?_
    refine XS.iloadN X5.here hx rfl (hb hby d5_12) rfl ?_
    exact kt
   by_cases hc9 : (1 : Int32) < (own_min5 nn)
   ·obtain ⟨cq10, kq10, q10a, q10b, q10c⟩ := isOf hZ e5 E_x
    obtain ⟨_, _, ⟨T10, L10, k10, n10⟩, -, X10, ⟨Lc10, hQ10, l10, y10, z10⟩, st10⟩ := X5.virtualBack hx (y := (⟨"java/lang/String", "charAt", "(I)C"⟩ : MethodName)) (z := (⟨"java/lang/String", "charAt", "(I)C"⟩ : MethodName)) hown (mvT hZ (Wd hw 56 rfl)) (mvT hZ (Wd hw 57 rfl)) (notFace_of_selects (args := #[]) (mvT hZ (Wd hw 59 rfl))) (mvT hZ (Wd hw 59 rfl)) (mvT hZ (Wd hw 58 rfl)) (by decide) (backOf (W := 0) (rmCHLb l Z a0 hw [] x tv nn qa qb qc qd qe qf qg k_tv cst fm h0 n0 Z0 E_x F_value_x F_coder_x V_tv X00 S_COMPACT_STRINGS hcs hn S_SIOOBE_FORMATTER hfm (own_min_lt hc9 (by decide)) hqb hl) hZ (Wd hw 60 rfl) (Wd hw 8 rfl) (by decide) (by decide)) q10a q10c (g := (mkF m 18 #[.val (.ref x), .val (.int (own_min5 nn)), .val (.int (1 : Int32))] [(.int (1 : Int32)), (.ref x)])) rfl (by rw [hml]; rfl) (Steps.refl _) (argsL := [(.int (1 : Int32))]) (rest := []) (lenOf own_pd16 rfl) rfl (by show 2 * 0 + _ ≤ _; exact Nat.le_of_eq rfl) (hb hby d5_18) (fun _ _ => ⟨rfl, e5, (by decide : 0 + 0 ≤ _), (by decide : 0 + 0 ≤ _)⟩)
    dsimp only [Pt.U, Pt.locs, Pt.cells, Pt.slots] at X10 l10 y10 z10 st10 hQ10
    subst l10 y10 z10
    obtain ⟨rfl, Nq10, e10⟩ := hQ10
    have N10 := Fr.app N5 Nq10
    have r11 : ∀ t, Steps p.tables e below (T10.setTop (mkF m 23 #[.val (.ref x), .val (.int (own_min5 nn)), .val (.int (1 : Int32))] [(.int (58 : Int32)), (.int qb)])) t → Steps p.tables e below (T5.setTop (mkF m 13 #[.val (.ref x), .val (.int (own_min5 nn)), .val (.int (1 : Int32))] [(.int (own_min5 nn)), (.int (1 : Int32))])) t := fun t kt => by
     refine XS.icmpNo X5.here hx rfl (hb hby d5_13) rfl (tlt hc9).2.1 ?_
     refine XS.aloadN X5.here hx rfl (hb hby d5_16) rfl rfl ?_
     refine XS.iloadN X5.here hx rfl (hb hby d5_17) rfl ?_
     refine st10.trans ?_
     refine XS.bipush X10.here hx rfl (hb hby d5_21) ?_
     exact kt
    by_cases hc12 : qb = (58 : Int32)
    ·obtain ⟨fs, hr, hrun, hended, hW, hsame⟩ := X10.leave (v := some (.int (1 : Int32))) (fun h => by rw [Bd.returns] at h; cases h)
     refine ⟨_, _, (pre0 _ (r3 _ (r6 _ (r8 _ (r11 _ ?_))))), hrun, hended, _, _, rfl, ?_, ⟨_, rfl⟩, hW, hsame.mono (by decide) (by decide)⟩
     ·show Steps p.tables e below (T10.setTop (mkF m 23 #[.val (.ref x), .val (.int (own_min5 nn)), .val (.int (1 : Int32))] [(.int (58 : Int32)), (.int qb)])) _
      refine XS.icmpNo X10.here hx rfl (hb hby d5_23) rfl (teq hc12).2 ?_
      refine XS.iconst X10.here hx rfl (hb hby d5_26) ?_
      exact retN X10 hx (t := .boolean) Bd.returns (by simp) (hb hby d5_27) hr
     ·show QMBL Z x tv nn qa qb qc qd qe qf qg k_tv cst fm h0 n0 _ T10.heap _
      rw [e10]
      exact ⟨(congrArg (fun w => some (Value.int w)) (by show (1 : Int32) = own_col nn qa qb qc qd qe; unfold own_col; rw [if_pos (Or.inr (Or.inl ⟨own_min_lt hc9 (by decide), hc12⟩))])), N10, rfl⟩
    ·have r13 : ∀ t, Steps p.tables e below (T10.setTop (mkF m 13 #[.val (.ref x), .val (.int (own_min5 nn)), .val (.int (2 : Int32))] [(.int (own_min5 nn)), (.int (2 : Int32))])) t → Steps p.tables e below (T10.setTop (mkF m 23 #[.val (.ref x), .val (.int (own_min5 nn)), .val (.int (1 : Int32))] [(.int (58 : Int32)), (.int qb)])) t := fun t kt => by
      refine XS.icmpYes X10.here hx rfl (pc0 := 23) (pc' := 28) rfl (hb hby d5_23) rfl (feq hc12).2 (by decide) (by decide) ?_
      refine XS.iinc X10.here hx rfl (hb hby d5_28) rfl (l' := #[.val (.ref x), .val (.int (own_min5 nn)), .val (.int (2 : Int32))]) rfl ?_
      refine XS.goto X10.here hx rfl (pc0 := 31) (pc' := 11) rfl (hb hby d5_31) (by decide) (by decide) ?_
      refine XS.iloadN X10.here hx rfl (hb hby d5_11) rfl ?_
      refine XS.iloadN X10.here hx rfl (hb hby d5_12) rfl ?_
      exact kt
     by_cases hc14 : (2 : Int32) < (own_min5 nn)
     ·obtain ⟨cq15, kq15, q15a, q15b, q15c⟩ := isOf hZ e10 E_x
      obtain ⟨_, _, ⟨T15, L15, k15, n15⟩, -, X15, ⟨Lc15, hQ15, l15, y15, z15⟩, st15⟩ := X10.virtualBack hx (y := (⟨"java/lang/String", "charAt", "(I)C"⟩ : MethodName)) (z := (⟨"java/lang/String", "charAt", "(I)C"⟩ : MethodName)) hown (mvT hZ (Wd hw 56 rfl)) (mvT hZ (Wd hw 57 rfl)) (notFace_of_selects (args := #[]) (mvT hZ (Wd hw 59 rfl))) (mvT hZ (Wd hw 59 rfl)) (mvT hZ (Wd hw 58 rfl)) (by decide) (backOf (W := 0) (rmCHLc l Z a0 hw [] x tv nn qa qb qc qd qe qf qg k_tv cst fm h0 n0 Z0 E_x F_value_x F_coder_x V_tv X00 S_COMPACT_STRINGS hcs hn S_SIOOBE_FORMATTER hfm (own_min_lt hc14 (by decide)) hqc hl) hZ (Wd hw 60 rfl) (Wd hw 8 rfl) (by decide) (by decide)) q15a q15c (g := (mkF m 18 #[.val (.ref x), .val (.int (own_min5 nn)), .val (.int (2 : Int32))] [(.int (2 : Int32)), (.ref x)])) rfl (by rw [hml]; rfl) (Steps.refl _) (argsL := [(.int (2 : Int32))]) (rest := []) (lenOf own_pd16 rfl) rfl (by show 2 * 0 + _ ≤ _; exact Nat.le_of_eq rfl) (hb hby d5_18) (fun _ _ => ⟨rfl, e10, (by decide : 0 + 0 ≤ _), (by decide : 0 + 0 ≤ _)⟩)
      dsimp only [Pt.U, Pt.locs, Pt.cells, Pt.slots] at X15 l15 y15 z15 st15 hQ15
      subst l15 y15 z15
      obtain ⟨rfl, Nq15, e15⟩ := hQ15
      have N15 := Fr.app N10 Nq15
      have r16 : ∀ t, Steps p.tables e below (T15.setTop (mkF m 23 #[.val (.ref x), .val (.int (own_min5 nn)), .val (.int (2 : Int32))] [(.int (58 : Int32)), (.int qc)])) t → Steps p.tables e below (T10.setTop (mkF m 13 #[.val (.ref x), .val (.int (own_min5 nn)), .val (.int (2 : Int32))] [(.int (own_min5 nn)), (.int (2 : Int32))])) t := fun t kt => by
       refine XS.icmpNo X10.here hx rfl (hb hby d5_13) rfl (tlt hc14).2.1 ?_
       refine XS.aloadN X10.here hx rfl (hb hby d5_16) rfl rfl ?_
       refine XS.iloadN X10.here hx rfl (hb hby d5_17) rfl ?_
       refine st15.trans ?_
       refine XS.bipush X15.here hx rfl (hb hby d5_21) ?_
       exact kt
      by_cases hc17 : qc = (58 : Int32)
      ·obtain ⟨fs, hr, hrun, hended, hW, hsame⟩ := X15.leave (v := some (.int (1 : Int32))) (fun h => by rw [Bd.returns] at h; cases h)
       refine ⟨_, _, (pre0 _ (r3 _ (r6 _ (r8 _ (r11 _ (r13 _ (r16 _ ?_))))))), hrun, hended, _, _, rfl, ?_, ⟨_, rfl⟩, hW, hsame.mono (by decide) (by decide)⟩
       ·show Steps p.tables e below (T15.setTop (mkF m 23 #[.val (.ref x), .val (.int (own_min5 nn)), .val (.int (2 : Int32))] [(.int (58 : Int32)), (.int qc)])) _
        refine XS.icmpNo X15.here hx rfl (hb hby d5_23) rfl (teq hc17).2 ?_
        refine XS.iconst X15.here hx rfl (hb hby d5_26) ?_
        exact retN X15 hx (t := .boolean) Bd.returns (by simp) (hb hby d5_27) hr
       ·show QMBL Z x tv nn qa qb qc qd qe qf qg k_tv cst fm h0 n0 _ T15.heap _
        rw [e15]
        exact ⟨(congrArg (fun w => some (Value.int w)) (by show (1 : Int32) = own_col nn qa qb qc qd qe; unfold own_col; rw [if_pos (Or.inr (Or.inr (Or.inl ⟨own_min_lt hc14 (by decide), hc17⟩)))])), N15, rfl⟩
      ·have r18 : ∀ t, Steps p.tables e below (T15.setTop (mkF m 13 #[.val (.ref x), .val (.int (own_min5 nn)), .val (.int (3 : Int32))] [(.int (own_min5 nn)), (.int (3 : Int32))])) t → Steps p.tables e below (T15.setTop (mkF m 23 #[.val (.ref x), .val (.int (own_min5 nn)), .val (.int (2 : Int32))] [(.int (58 : Int32)), (.int qc)])) t := fun t kt => by
        refine XS.icmpYes X15.here hx rfl (pc0 := 23) (pc' := 28) rfl (hb hby d5_23) rfl (feq hc17).2 (by decide) (by decide) ?_
        refine XS.iinc X15.here hx rfl (hb hby d5_28) rfl (l' := #[.val (.ref x), .val (.int (own_min5 nn)), .val (.int (3 : Int32))]) rfl ?_
        refine XS.goto X15.here hx rfl (pc0 := 31) (pc' := 11) rfl (hb hby d5_31) (by decide) (by decide) ?_
        refine XS.iloadN X15.here hx rfl (hb hby d5_11) rfl ?_
        refine XS.iloadN X15.here hx rfl (hb hby d5_12) rfl ?_
        exact kt
       by_cases hc19 : (3 : Int32) < (own_min5 nn)
       ·obtain ⟨cq20, kq20, q20a, q20b, q20c⟩ := isOf hZ e15 E_x
        obtain ⟨_, _, ⟨T20, L20, k20, n20⟩, -, X20, ⟨Lc20, hQ20, l20, y20, z20⟩, st20⟩ := X15.virtualBack hx (y := (⟨"java/lang/String", "charAt", "(I)C"⟩ : MethodName)) (z := (⟨"java/lang/String", "charAt", "(I)C"⟩ : MethodName)) hown (mvT hZ (Wd hw 56 rfl)) (mvT hZ (Wd hw 57 rfl)) (notFace_of_selects (args := #[]) (mvT hZ (Wd hw 59 rfl))) (mvT hZ (Wd hw 59 rfl)) (mvT hZ (Wd hw 58 rfl)) (by decide) (backOf (W := 0) (rmCHLd l Z a0 hw [] x tv nn qa qb qc qd qe qf qg k_tv cst fm h0 n0 Z0 E_x F_value_x F_coder_x V_tv X00 S_COMPACT_STRINGS hcs hn S_SIOOBE_FORMATTER hfm (own_min_lt hc19 (by decide)) hqd hl) hZ (Wd hw 60 rfl) (Wd hw 8 rfl) (by decide) (by decide)) q20a q20c (g := (mkF m 18 #[.val (.ref x), .val (.int (own_min5 nn)), .val (.int (3 : Int32))] [(.int (3 : Int32)), (.ref x)])) rfl (by rw [hml]; rfl) (Steps.refl _) (argsL := [(.int (3 : Int32))]) (rest := []) (lenOf own_pd16 rfl) rfl (by show 2 * 0 + _ ≤ _; exact Nat.le_of_eq rfl) (hb hby d5_18) (fun _ _ => ⟨rfl, e15, (by decide : 0 + 0 ≤ _), (by decide : 0 + 0 ≤ _)⟩)
        dsimp only [Pt.U, Pt.locs, Pt.cells, Pt.slots] at X20 l20 y20 z20 st20 hQ20
        subst l20 y20 z20
        obtain ⟨rfl, Nq20, e20⟩ := hQ20
        have N20 := Fr.app N15 Nq20
        have r21 : ∀ t, Steps p.tables e below (T20.setTop (mkF m 23 #[.val (.ref x), .val (.int (own_min5 nn)), .val (.int (3 : Int32))] [(.int (58 : Int32)), (.int qd)])) t → Steps p.tables e below (T15.setTop (mkF m 13 #[.val (.ref x), .val (.int (own_min5 nn)), .val (.int (3 : Int32))] [(.int (own_min5 nn)), (.int (3 : Int32))])) t := fun t kt => by
         refine XS.icmpNo X15.here hx rfl (hb hby d5_13) rfl (tlt hc19).2.1 ?_
         refine XS.aloadN X15.here hx rfl (hb hby d5_16) rfl rfl ?_
         refine XS.iloadN X15.here hx rfl (hb hby d5_17) rfl ?_
         refine st20.trans ?_
         refine XS.bipush X20.here hx rfl (hb hby d5_21) ?_
         exact kt
        by_cases hc22 : qd = (58 : Int32)
        ·obtain ⟨fs, hr, hrun, hended, hW, hsame⟩ := X20.leave (v := some (.int (1 : Int32))) (fun h => by rw [Bd.returns] at h; cases h)
         refine ⟨_, _, (pre0 _ (r3 _ (r6 _ (r8 _ (r11 _ (r13 _ (r16 _ (r18 _ (r21 _ ?_))))))))), hrun, hended, _, _, rfl, ?_, ⟨_, rfl⟩, hW, hsame.mono (by decide) (by decide)⟩
         ·show Steps p.tables e below (T20.setTop (mkF m 23 #[.val (.ref x), .val (.int (own_min5 nn)), .val (.int (3 : Int32))] [(.int (58 : Int32)), (.int qd)])) _
          refine XS.icmpNo X20.here hx rfl (hb hby d5_23) rfl (teq hc22).2 ?_
          refine XS.iconst X20.here hx rfl (hb hby d5_26) ?_
          exact retN X20 hx (t := .boolean) Bd.returns (by simp) (hb hby d5_27) hr
         ·show QMBL Z x tv nn qa qb qc qd qe qf qg k_tv cst fm h0 n0 _ T20.heap _
          rw [e20]
          exact ⟨(congrArg (fun w => some (Value.int w)) (by show (1 : Int32) = own_col nn qa qb qc qd qe; unfold own_col; rw [if_pos (Or.inr (Or.inr (Or.inr (Or.inl ⟨own_min_lt hc19 (by decide), hc22⟩))))])), N20, rfl⟩
        ·have r23 : ∀ t, Steps p.tables e below (T20.setTop (mkF m 13 #[.val (.ref x), .val (.int (own_min5 nn)), .val (.int (4 : Int32))] [(.int (own_min5 nn)), (.int (4 : Int32))])) t → Steps p.tables e below (T20.setTop (mkF m 23 #[.val (.ref x), .val (.int (own_min5 nn)), .val (.int (3 : Int32))] [(.int (58 : Int32)), (.int qd)])) t := fun t kt => by
          refine XS.icmpYes X20.here hx rfl (pc0 := 23) (pc' := 28) rfl (hb hby d5_23) rfl (feq hc22).2 (by decide) (by decide) ?_
          refine XS.iinc X20.here hx rfl (hb hby d5_28) rfl (l' := #[.val (.ref x), .val (.int (own_min5 nn)), .val (.int (4 : Int32))]) rfl ?_
          refine XS.goto X20.here hx rfl (pc0 := 31) (pc' := 11) rfl (hb hby d5_31) (by decide) (by decide) ?_
          refine XS.iloadN X20.here hx rfl (hb hby d5_11) rfl ?_
          refine XS.iloadN X20.here hx rfl (hb hby d5_12) rfl ?_
          exact kt
         by_cases hc24 : (4 : Int32) < (own_min5 nn)
         ·obtain ⟨cq25, kq25, q25a, q25b, q25c⟩ := isOf hZ e20 E_x
          obtain ⟨_, _, ⟨T25, L25, k25, n25⟩, -, X25, ⟨Lc25, hQ25, l25, y25, z25⟩, st25⟩ := X20.virtualBack hx (y := (⟨"java/lang/String", "charAt", "(I)C"⟩ : MethodName)) (z := (⟨"java/lang/String", "charAt", "(I)C"⟩ : MethodName)) hown (mvT hZ (Wd hw 56 rfl)) (mvT hZ (Wd hw 57 rfl)) (notFace_of_selects (args := #[]) (mvT hZ (Wd hw 59 rfl))) (mvT hZ (Wd hw 59 rfl)) (mvT hZ (Wd hw 58 rfl)) (by decide) (backOf (W := 0) (rmCHLe l Z a0 hw [] x tv nn qa qb qc qd qe qf qg k_tv cst fm h0 n0 Z0 E_x F_value_x F_coder_x V_tv X00 S_COMPACT_STRINGS hcs hn S_SIOOBE_FORMATTER hfm (own_min_lt hc24 (by decide)) hqe hl) hZ (Wd hw 60 rfl) (Wd hw 8 rfl) (by decide) (by decide)) q25a q25c (g := (mkF m 18 #[.val (.ref x), .val (.int (own_min5 nn)), .val (.int (4 : Int32))] [(.int (4 : Int32)), (.ref x)])) rfl (by rw [hml]; rfl) (Steps.refl _) (argsL := [(.int (4 : Int32))]) (rest := []) (lenOf own_pd16 rfl) rfl (by show 2 * 0 + _ ≤ _; exact Nat.le_of_eq rfl) (hb hby d5_18) (fun _ _ => ⟨rfl, e20, (by decide : 0 + 0 ≤ _), (by decide : 0 + 0 ≤ _)⟩)
          dsimp only [Pt.U, Pt.locs, Pt.cells, Pt.slots] at X25 l25 y25 z25 st25 hQ25
          subst l25 y25 z25
          obtain ⟨rfl, Nq25, e25⟩ := hQ25
          have N25 := Fr.app N20 Nq25
          have r26 : ∀ t, Steps p.tables e below (T25.setTop (mkF m 23 #[.val (.ref x), .val (.int (own_min5 nn)), .val (.int (4 : Int32))] [(.int (58 : Int32)), (.int qe)])) t → Steps p.tables e below (T20.setTop (mkF m 13 #[.val (.ref x), .val (.int (own_min5 nn)), .val (.int (4 : Int32))] [(.int (own_min5 nn)), (.int (4 : Int32))])) t := fun t kt => by
           refine XS.icmpNo X20.here hx rfl (hb hby d5_13) rfl (tlt hc24).2.1 ?_
           refine XS.aloadN X20.here hx rfl (hb hby d5_16) rfl rfl ?_
           refine XS.iloadN X20.here hx rfl (hb hby d5_17) rfl ?_
           refine st25.trans ?_
           refine XS.bipush X25.here hx rfl (hb hby d5_21) ?_
           exact kt
          by_cases hc27 : qe = (58 : Int32)
          ·obtain ⟨fs, hr, hrun, hended, hW, hsame⟩ := X25.leave (v := some (.int (1 : Int32))) (fun h => by rw [Bd.returns] at h; cases h)
           refine ⟨_, _, (pre0 _ (r3 _ (r6 _ (r8 _ (r11 _ (r13 _ (r16 _ (r18 _ (r21 _ (r23 _ (r26 _ ?_))))))))))), hrun, hended, _, _, rfl, ?_, ⟨_, rfl⟩, hW, hsame.mono (by decide) (by decide)⟩
           ·show Steps p.tables e below (T25.setTop (mkF m 23 #[.val (.ref x), .val (.int (own_min5 nn)), .val (.int (4 : Int32))] [(.int (58 : Int32)), (.int qe)])) _
            refine XS.icmpNo X25.here hx rfl (hb hby d5_23) rfl (teq hc27).2 ?_
            refine XS.iconst X25.here hx rfl (hb hby d5_26) ?_
            exact retN X25 hx (t := .boolean) Bd.returns (by simp) (hb hby d5_27) hr
           ·show QMBL Z x tv nn qa qb qc qd qe qf qg k_tv cst fm h0 n0 _ T25.heap _
            rw [e25]
            exact ⟨(congrArg (fun w => some (Value.int w)) (by show (1 : Int32) = own_col nn qa qb qc qd qe; unfold own_col; rw [if_pos (Or.inr (Or.inr (Or.inr (Or.inr (⟨own_min_lt hc24 (by decide), hc27⟩)))))])), N25, rfl⟩
          ·have hno : ¬ (((0 : Int32) < nn ∧ qa = (58 : Int32)) ∨ ((1 : Int32) < nn ∧ qb = (58 : Int32)) ∨ ((2 : Int32) < nn ∧ qc = (58 : Int32)) ∨ ((3 : Int32) < nn ∧ qd = (58 : Int32)) ∨ ((4 : Int32) < nn ∧ qe = (58 : Int32))) := by
            rintro (⟨a, b⟩ | ⟨a, b⟩ | ⟨a, b⟩ | ⟨a, b⟩ | ⟨a, b⟩)
            ·exact hc7 b
            ·exact hc12 b
            ·exact hc17 b
            ·exact hc22 b
            ·exact hc27 b
           obtain ⟨fs, hr, hrun, hended, hW, hsame⟩ := X25.leave (v := some (.int (0 : Int32))) (fun h => by rw [Bd.returns] at h; cases h)
           refine ⟨_, _, (pre0 _ (r3 _ (r6 _ (r8 _ (r11 _ (r13 _ (r16 _ (r18 _ (r21 _ (r23 _ (r26 _ ?_))))))))))), hrun, hended, _, _, rfl, ?_, ⟨_, rfl⟩, hW, hsame.mono (by decide) (by decide)⟩
           ·show Steps p.tables e below (T25.setTop (mkF m 23 #[.val (.ref x), .val (.int (own_min5 nn)), .val (.int (4 : Int32))] [(.int (58 : Int32)), (.int qe)])) _
            refine XS.icmpYes X25.here hx rfl (pc0 := 23) (pc' := 28) rfl (hb hby d5_23) rfl (feq hc27).2 (by decide) (by decide) ?_
            refine XS.iinc X25.here hx rfl (hb hby d5_28) rfl (l' := #[.val (.ref x), .val (.int (own_min5 nn)), .val (.int (5 : Int32))]) rfl ?_
            refine XS.goto X25.here hx rfl (pc0 := 31) (pc' := 11) rfl (hb hby d5_31) (by decide) (by decide) ?_
            refine XS.iloadN X25.here hx rfl (hb hby d5_11) rfl ?_
            refine XS.iloadN X25.here hx rfl (hb hby d5_12) rfl ?_
            refine XS.icmpYes X25.here hx rfl (pc0 := 13) (pc' := 34) rfl (hb hby d5_13) rfl (flt (own_min_5 nn)).2.1 (by decide) (by decide) ?_
            refine XS.iconst X25.here hx rfl (hb hby d5_34) ?_
            exact retN X25 hx (t := .boolean) Bd.returns (by simp) (hb hby d5_35) hr
           ·show QMBL Z x tv nn qa qb qc qd qe qf qg k_tv cst fm h0 n0 _ T25.heap _
            rw [e25]
            exact ⟨(congrArg (fun w => some (Value.int w)) (by show (0 : Int32) = own_col nn qa qb qc qd qe; unfold own_col; rw [if_neg hno])), N25, rfl⟩
         ·have hno : ¬ (((0 : Int32) < nn ∧ qa = (58 : Int32)) ∨ ((1 : Int32) < nn ∧ qb = (58 : Int32)) ∨ ((2 : Int32) < nn ∧ qc = (58 : Int32)) ∨ ((3 : Int32) < nn ∧ qd = (58 : Int32)) ∨ ((4 : Int32) < nn ∧ qe = (58 : Int32))) := by
           rintro (⟨a, b⟩ | ⟨a, b⟩ | ⟨a, b⟩ | ⟨a, b⟩ | ⟨a, b⟩)
           ·exact hc7 b
           ·exact hc12 b
           ·exact hc17 b
           ·exact hc22 b
           ·exact own_min_ge hc24 (by decide) (own_down a (by decide))
          obtain ⟨fs, hr, hrun, hended, hW, hsame⟩ := X20.leave (v := some (.int (0 : Int32))) (fun h => by rw [Bd.returns] at h; cases h)
          refine ⟨_, _, (pre0 _ (r3 _ (r6 _ (r8 _ (r11 _ (r13 _ (r16 _ (r18 _ (r21 _ (r23 _ ?_)))))))))), hrun, hended, _, _, rfl, ?_, ⟨_, rfl⟩, hW, hsame.mono (by decide) (by decide)⟩
          ·show Steps p.tables e below (T20.setTop (mkF m 13 #[.val (.ref x), .val (.int (own_min5 nn)), .val (.int (4 : Int32))] [(.int (own_min5 nn)), (.int (4 : Int32))])) _
           refine XS.icmpYes X20.here hx rfl (pc0 := 13) (pc' := 34) rfl (hb hby d5_13) rfl (flt hc24).2.1 (by decide) (by decide) ?_
           refine XS.iconst X20.here hx rfl (hb hby d5_34) ?_
           exact retN X20 hx (t := .boolean) Bd.returns (by simp) (hb hby d5_35) hr
          ·show QMBL Z x tv nn qa qb qc qd qe qf qg k_tv cst fm h0 n0 _ T20.heap _
           rw [e20]
           exact ⟨(congrArg (fun w => some (Value.int w)) (by show (0 : Int32) = own_col nn qa qb qc qd qe; unfold own_col; rw [if_neg hno])), N20, rfl⟩
       ·have hno : ¬ (((0 : Int32) < nn ∧ qa = (58 : Int32)) ∨ ((1 : Int32) < nn ∧ qb = (58 : Int32)) ∨ ((2 : Int32) < nn ∧ qc = (58 : Int32)) ∨ ((3 : Int32) < nn ∧ qd = (58 : Int32)) ∨ ((4 : Int32) < nn ∧ qe = (58 : Int32))) := by
         rintro (⟨a, b⟩ | ⟨a, b⟩ | ⟨a, b⟩ | ⟨a, b⟩ | ⟨a, b⟩)
         ·exact hc7 b
         ·exact hc12 b
         ·exact hc17 b
         ·exact own_min_ge hc19 (by decide) (own_down a (by decide))
         ·exact own_min_ge hc19 (by decide) (own_down a (by decide))
        obtain ⟨fs, hr, hrun, hended, hW, hsame⟩ := X15.leave (v := some (.int (0 : Int32))) (fun h => by rw [Bd.returns] at h; cases h)
        refine ⟨_, _, (pre0 _ (r3 _ (r6 _ (r8 _ (r11 _ (r13 _ (r16 _ (r18 _ ?_)))))))), hrun, hended, _, _, rfl, ?_, ⟨_, rfl⟩, hW, hsame.mono (by decide) (by decide)⟩
        ·show Steps p.tables e below (T15.setTop (mkF m 13 #[.val (.ref x), .val (.int (own_min5 nn)), .val (.int (3 : Int32))] [(.int (own_min5 nn)), (.int (3 : Int32))])) _
         refine XS.icmpYes X15.here hx rfl (pc0 := 13) (pc' := 34) rfl (hb hby d5_13) rfl (flt hc19).2.1 (by decide) (by decide) ?_
         refine XS.iconst X15.here hx rfl (hb hby d5_34) ?_
         exact retN X15 hx (t := .boolean) Bd.returns (by simp) (hb hby d5_35) hr
        ·show QMBL Z x tv nn qa qb qc qd qe qf qg k_tv cst fm h0 n0 _ T15.heap _
         rw [e15]
         exact ⟨(congrArg (fun w => some (Value.int w)) (by show (0 : Int32) = own_col nn qa qb qc qd qe; unfold own_col; rw [if_neg hno])), N15, rfl⟩
     ·have hno : ¬ (((0 : Int32) < nn ∧ qa = (58 : Int32)) ∨ ((1 : Int32) < nn ∧ qb = (58 : Int32)) ∨ ((2 : Int32) < nn ∧ qc = (58 : Int32)) ∨ ((3 : Int32) < nn ∧ qd = (58 : Int32)) ∨ ((4 : Int32) < nn ∧ qe = (58 : Int32))) := by
       rintro (⟨a, b⟩ | ⟨a, b⟩ | ⟨a, b⟩ | ⟨a, b⟩ | ⟨a, b⟩)
       ·exact hc7 b
       ·exact hc12 b
       ·exact own_min_ge hc14 (by decide) (own_down a (by decide))
       ·exact own_min_ge hc14 (by decide) (own_down a (by decide))
       ·exact own_min_ge hc14 (by decide) (own_down a (by decide))
      obtain ⟨fs, hr, hrun, hended, hW, hsame⟩ := X10.leave (v := some (.int (0 : Int32))) (fun h => by rw [Bd.returns] at h; cases h)
      refine ⟨_, _, (pre0 _ (r3 _ (r6 _ (r8 _ (r11 _ (r13 _ ?_)))))), hrun, hended, _, _, rfl, ?_, ⟨_, rfl⟩, hW, hsame.mono (by decide) (by decide)⟩
      ·show Steps p.tables e below (T10.setTop (mkF m 13 #[.val (.ref x), .val (.int (own_min5 nn)), .val (.int (2 : Int32))] [(.int (own_min5 nn)), (.int (2 : Int32))])) _
       refine XS.icmpYes X10.here hx rfl (pc0 := 13) (pc' := 34) rfl (hb hby d5_13) rfl (flt hc14).2.1 (by decide) (by decide) ?_
       refine XS.iconst X10.here hx rfl (hb hby d5_34) ?_
       exact retN X10 hx (t := .boolean) Bd.returns (by simp) (hb hby d5_35) hr
      ·show QMBL Z x tv nn qa qb qc qd qe qf qg k_tv cst fm h0 n0 _ T10.heap _
       rw [e10]
       exact ⟨(congrArg (fun w => some (Value.int w)) (by show (0 : Int32) = own_col nn qa qb qc qd qe; unfold own_col; rw [if_neg hno])), N10, rfl⟩
   ·have hno : ¬ (((0 : Int32) < nn ∧ qa = (58 : Int32)) ∨ ((1 : Int32) < nn ∧ qb = (58 : Int32)) ∨ ((2 : Int32) < nn ∧ qc = (58 : Int32)) ∨ ((3 : Int32) < nn ∧ qd = (58 : Int32)) ∨ ((4 : Int32) < nn ∧ qe = (58 : Int32))) := by
     rintro (⟨a, b⟩ | ⟨a, b⟩ | ⟨a, b⟩ | ⟨a, b⟩ | ⟨a, b⟩)
     ·exact hc7 b
     ·exact own_min_ge hc9 (by decide) (own_down a (by decide))
     ·exact own_min_ge hc9 (by decide) (own_down a (by decide))
     ·exact own_min_ge hc9 (by decide) (own_down a (by decide))
     ·exact own_min_ge hc9 (by decide) (own_down a (by decide))
    obtain ⟨fs, hr, hrun, hended, hW, hsame⟩ := X5.leave (v := some (.int (0 : Int32))) (fun h => by rw [Bd.returns] at h; cases h)
    refine ⟨_, _, (pre0 _ (r3 _ (r6 _ (r8 _ ?_)))), hrun, hended, _, _, rfl, ?_, ⟨_, rfl⟩, hW, hsame.mono (by decide) (by decide)⟩
    ·show Steps p.tables e below (T5.setTop (mkF m 13 #[.val (.ref x), .val (.int (own_min5 nn)), .val (.int (1 : Int32))] [(.int (own_min5 nn)), (.int (1 : Int32))])) _
     refine XS.icmpYes X5.here hx rfl (pc0 := 13) (pc' := 34) rfl (hb hby d5_13) rfl (flt hc9).2.1 (by decide) (by decide) ?_
     refine XS.iconst X5.here hx rfl (hb hby d5_34) ?_
     exact retN X5 hx (t := .boolean) Bd.returns (by simp) (hb hby d5_35) hr
    ·show QMBL Z x tv nn qa qb qc qd qe qf qg k_tv cst fm h0 n0 _ T5.heap _
     rw [e5]
     exact ⟨(congrArg (fun w => some (Value.int w)) (by show (0 : Int32) = own_col nn qa qb qc qd qe; unfold own_col; rw [if_neg hno])), N5, rfl⟩
 ·have hno : ¬ (((0 : Int32) < nn ∧ qa = (58 : Int32)) ∨ ((1 : Int32) < nn ∧ qb = (58 : Int32)) ∨ ((2 : Int32) < nn ∧ qc = (58 : Int32)) ∨ ((3 : Int32) < nn ∧ qd = (58 : Int32)) ∨ ((4 : Int32) < nn ∧ qe = (58 : Int32))) := by
   rintro (⟨a, b⟩ | ⟨a, b⟩ | ⟨a, b⟩ | ⟨a, b⟩ | ⟨a, b⟩)
   ·exact own_min_ge hc4 (by decide) (own_down a (by decide))
   ·exact own_min_ge hc4 (by decide) (own_down a (by decide))
   ·exact own_min_ge hc4 (by decide) (own_down a (by decide))
   ·exact own_min_ge hc4 (by decide) (own_down a (by decide))
   ·exact own_min_ge hc4 (by decide) (own_down a (by decide))
  obtain ⟨fs, hr, hrun, hended, hW, hsame⟩ := X2.leave (v := some (.int (0 : Int32))) (fun h => by rw [Bd.returns] at h; cases h)
  refine ⟨_, _, (pre0 _ (r3 _ ?_)), hrun, hended, _, _, rfl, ?_, ⟨_, rfl⟩, hW, hsame.mono (by decide) (by decide)⟩
  ·show Steps p.tables e below (T2.setTop (mkF m 13 #[.val (.ref x), .val (.int (own_min5 nn)), .val (.int (0 : Int32))] [(.int (own_min5 nn)), (.int (0 : Int32))])) _
   refine XS.icmpYes X2.here hx rfl (pc0 := 13) (pc' := 34) rfl (hb hby d5_13) rfl (flt hc4).2.1 (by decide) (by decide) ?_
   refine XS.iconst X2.here hx rfl (hb hby d5_34) ?_
   exact retN X2 hx (t := .boolean) Bd.returns (by simp) (hb hby d5_35) hr
  ·show QMBL Z x tv nn qa qb qc qd qe qf qg k_tv cst fm h0 n0 _ T2.heap _
   rw [e2]
   exact ⟨(congrArg (fun w => some (Value.int w)) (by show (0 : Int32) = own_col nn qa qb qc qd qe; unfold own_col; rw [if_neg hno])), N2, rfl⟩
theorem efMBW (m : MethodId) (x : Addr) : entryFrame m #[(.ref x)] 3 = mkF m 0 #[.val (.ref x), .unset, .unset] [] := by first | (simp [entryFrame, mkF, argsToLocals, Value.category]; done) | rfl
def QMBW (Z : State) (x : Addr) (tv : Addr) (nn : Int32) (qa : Int32) (qb : Int32) (qc : Int32) (qd : Int32) (qe : Int32) (qf : Int32) (qg : Int32) (k_tv : ClassId) (cst : Int32) (fm : Value) (h0 : Heap) (n0 : Nat) (v : Option Value) (h : Heap) (L : List Loc) : Prop := v = some (.int (own_col nn qa qb qc qd qe)) ∧ Fr n0 L ∧ h = h0
set_option maxRecDepth 65536 in
set_option maxHeartbeats 40000000 in
theorem rmMBW (l : Launch) (Z : State) (a0 : Array Value) (hw : ∀ d ∈ tables_1, d.before a0 Z = true) (ws : List Jvm.Cond) (x : Addr) (tv : Addr) (nn : Int32) (qa : Int32) (qb : Int32) (qc : Int32) (qd : Int32) (qe : Int32) (qf : Int32) (qg : Int32) (k_tv : ClassId) (cst : Int32) (fm : Value) (h0 : Heap) (n0 : Nat) (Z0 : n0 ≤ h0.size) (E_x : Exa Z h0 x "java/lang/String") (F_value_x : Fld Z h0 x "java/lang/String" "value" "[B" (.ref tv)) (F_coder_x : Fld Z h0 x "java/lang/String" "coder" "B" (.int (1 : Int32))) (V_tv : Arv Z h0 tv k_tv .byte (nn <<< ((1 : Int32) &&& 31)) [(.int (own_w0 qa)), (.int (own_w1 qa)), (.int (own_w0 qb)), (.int (own_w1 qb)), (.int (own_w0 qc)), (.int (own_w1 qc)), (.int (own_w0 qd)), (.int (own_w1 qd)), (.int (own_w0 qe)), (.int (own_w1 qe)), (.int (own_w0 qf)), (.int (own_w1 qf)), (.int (own_w0 qg)), (.int (own_w1 qg))] (.int (0 : Int32))) (X00 : Old Z n0 h0) (S__assertionsDisabled : Sta Z Z.heap "java/lang/StringUTF16" "$assertionsDisabled" "Z" (.int (1 : Int32))) (S_HI_BYTE_SHIFT : Sta Z Z.heap "java/lang/StringUTF16" "HI_BYTE_SHIFT" "I" (.int (0 : Int32))) (S_LO_BYTE_SHIFT : Sta Z Z.heap "java/lang/StringUTF16" "LO_BYTE_SHIFT" "I" (.int (8 : Int32))) (S_COMPACT_STRINGS : Sta Z Z.heap "java/lang/String" "COMPACT_STRINGS" "Z" (.int cst)) (hcs : ¬ cst = (0 : Int32)) (hn : 0 ≤ nn.toInt ∧ nn.toInt ≤ 7) (S_SIOOBE_FORMATTER : Sta Z Z.heap "jdk/internal/util/Preconditions" "SIOOBE_FORMATTER" "Ljava/util/function/BiFunction;" fm) (hfm : own_nr fm) (hqa : own_c16 qa) (hqb : own_c16 qb) (hqc : own_c16 qc) (hqd : own_c16 qd) (hqe : own_c16 qe) :
  MetFree l (⟨"com/example/careful_throttle/carefulthrottle/address/IpAddress", "mayBeIpv6", "(Ljava/lang/String;)Z"⟩ : MethodName) (head1 (Jvm.Cond.code (⟨"com/example/careful_throttle/carefulthrottle/address/IpAddress", "mayBeIpv6", "(Ljava/lang/String;)Z"⟩ : MethodName) prog_39_method_4_code 3 (some .boolean) :: ws) ({ frames := 5, cells := 0, slots := 0, locals := 90 } : Room)) (fun av_ U => av_ = #[(.ref x)] ∧ Z.Warmed39 U.vm ∧ U.heap = h0) (fun _ _ _ _ _ => True) (fun _ U o U' => ∃ v L, o = .returned v ∧ QMBW Z x tv nn qa qb qc qd qe qf qg k_tv cst fm h0 n0 v U'.heap L ∧ FrameEnd U o U' L ({ frames := 5, cells := 0, slots := 0, locals := 90 } : Room).cells ({ frames := 5, cells := 0, slots := 0, locals := 90 } : Room).slots) := by
 refine MetFree.of_bodySF (plainFor_of_name own_pn4) hisR ?_
 intro p e s m args below meth c s₁ Bd hml0 hP hK
 obtain ⟨rfl, hZ, hh⟩ := hP
 have hx := Bd.exec
 have hby := Bd.bytes
 have hml : c.maxLocals = 3 := hml0
 have hown : s.vm.findClass "com/example/careful_throttle/carefulthrottle/address/IpAddress" = some m.cls := findClass_of_methodNamed Bd.named
 have hnm := (name_of_methodNamed Bd.named Bd.method).1
 have X0 : Stand p l e ({ frames := 5, cells := 0, slots := 0, locals := 90 } : Room) s m #[(.ref x)] below meth c s₁ [] 0 0 := Stand.of_body Bd
 have e0 : s₁.heap = h0 := by rw [← hh, Bd.state]; rfl
 have N0 := Fr.nil n0
 have pre0 : ∀ t, Steps p.tables e below (s₁.setTop (mkF m 0 #[.val (.ref x), .unset, .unset] [])) t → Steps p.tables e below (s₁.setTop (entryFrame m #[(.ref x)] 3)) t := fun t k => castTop (efMBW m x) k
 obtain ⟨cq1, kq1, q1a, q1b, q1c⟩ := isOf hZ e0 E_x
 obtain ⟨_, _, ⟨T1, L1, k1, n1⟩, -, X1, ⟨Lc1, hQ1, l1, y1, z1⟩, st1⟩ := X0.virtualBack hx (y := (⟨"java/lang/String", "length", "()I"⟩ : MethodName)) (z := (⟨"java/lang/String", "length", "()I"⟩ : MethodName)) hown (mvT hZ (Wd hw 31 rfl)) (mvT hZ (Wd hw 32 rfl)) (notFace_of_selects (args := #[]) (mvT hZ (Wd hw 34 rfl))) (mvT hZ (Wd hw 34 rfl)) (mvT hZ (Wd hw 33 rfl)) (by decide) (backOf (W := 0) (rmLNW l Z a0 hw [] x tv nn qa qb qc qd qe qf qg k_tv cst h0 n0 Z0 E_x F_value_x F_coder_x V_tv X00 S__assertionsDisabled S_HI_BYTE_SHIFT S_LO_BYTE_SHIFT S_COMPACT_STRINGS hcs hn) hZ (Wd hw 35 rfl) (Wd hw 8 rfl) (by decide) (by decide)) q1a q1c (g := (mkF m 1 #[.val (.ref x), .unset, .unset] [(.ref x)])) rfl (by rw [hml]; rfl) (Steps.refl _) (argsL := []) (rest := []) (lenOf own_pd14 rfl) rfl (by show 2 * 0 + _ ≤ _; exact Nat.le_of_eq rfl) (hb hby d5_1) (fun _ _ => ⟨rfl, e0, (by decide : 0 + 0 ≤ _), (by decide : 0 + 0 ≤ _)⟩)
 dsimp only [Pt.U, Pt.locs, Pt.cells, Pt.slots] at X1 l1 y1 z1 st1 hQ1
 subst l1 y1 z1
 obtain ⟨rfl, Nq1, e1⟩ := hQ1
 have N1 := Fr.app N0 Nq1
 obtain ⟨_, _, ⟨T2, L2, k2, n2⟩, -, X2, ⟨Lc2, hQ2, l2, y2, z2⟩, st2⟩ := Jvm.LawKit.callS X1 hx (y := (⟨"java/lang/Math", "min", "(II)I"⟩ : MethodName)) hown (mvT hZ (Wd hw 42 rfl)) (mvT hZ (Wd hw 43 rfl)) (mvT hZ (Wd hw 44 rfl)) (mvT hZ (Wd hw 45 rfl)) (by decide) (backOf (W := 0) (rmMN l Z a0 hw [] nn h0 n0 Z0 ) hZ (Wd hw 45 rfl) (Wd hw 44 rfl) (by decide) (by decide)) (g := (mkF m 5 #[.val (.ref x), .unset, .unset] [(.int (5 : Int32)), (.int nn)])) rfl (by rw [hml]; rfl) (argsL := [(.int nn), (.int (5 : Int32))]) (rest := []) (lenOf own_pd15 rfl) rfl (by show 2 * 0 + _ ≤ _; exact Nat.le_of_eq rfl) (hb hby d5_5) (fun _ _ => ⟨rfl, e1, (by decide : 0 + 0 ≤ _), (by decide : 0 + 0 ≤ _)⟩)
 dsimp only [Pt.U, Pt.locs, Pt.cells, Pt.slots] at X2 l2 y2 z2 st2 hQ2
 subst l2 y2 z2
 obtain ⟨rfl, Nq2, e2⟩ := hQ2
 have N2 := Fr.app N1 Nq2
 have r3 : ∀ t, Steps p.tables e below (T2.setTop (mkF m 13 #[.val (.ref x), .val (.int (own_min5 nn)), .val (.int (0 : Int32))] [(.int (own_min5 nn)), (.int (0 : Int32))])) t → Steps p.tables e below (s₁.setTop (mkF m 0 #[.val (.ref x), .unset, .unset] [])) t := fun t kt => by
  refine XS.aloadN X0.here hx rfl (hb hby d5_0) rfl rfl ?_
  refine st1.trans ?_
  refine XS.iconst X1.here hx rfl (hb hby d5_4) ?_
  refine st2 _ ?_
  refine XS.istoreN X2.here hx rfl (hb hby d5_8) rfl (l' := #[.val (.ref x), .val (.int (own_min5 nn)), .unset]) rfl ?_
  refine XS.iconst X2.here hx rfl (hb hby d5_9) ?_
  refine XS.istoreN X2.here hx rfl (hb hby d5_10) rfl (l' := #[.val (.ref x), .val (.int (own_min5 nn)), .val (.int (0 : Int32))]) rfl ?_
  refine XS.iloadN X2.here hx rfl (hb hby d5_11) rfl ?_
  refine XS.iloadN X2.here hx rfl (hb hby d5_12) rfl ?_
  exact kt
 by_cases hc4 : (0 : Int32) < (own_min5 nn)
 ·obtain ⟨cq5, kq5, q5a, q5b, q5c⟩ := isOf hZ e2 E_x
  obtain ⟨_, _, ⟨T5, L5, k5, n5⟩, -, X5, ⟨Lc5, hQ5, l5, y5, z5⟩, st5⟩ := X2.virtualBack hx (y := (⟨"java/lang/String", "charAt", "(I)C"⟩ : MethodName)) (z := (⟨"java/lang/String", "charAt", "(I)C"⟩ : MethodName)) hown (mvT hZ (Wd hw 56 rfl)) (mvT hZ (Wd hw 57 rfl)) (notFace_of_selects (args := #[]) (mvT hZ (Wd hw 59 rfl))) (mvT hZ (Wd hw 59 rfl)) (mvT hZ (Wd hw 58 rfl)) (by decide) (backOf (W := 0) (rmCHWa l Z a0 hw [] x tv nn qa qb qc qd qe qf qg k_tv cst fm h0 n0 Z0 E_x F_value_x F_coder_x V_tv X00 S__assertionsDisabled S_HI_BYTE_SHIFT S_LO_BYTE_SHIFT S_COMPACT_STRINGS hcs hn S_SIOOBE_FORMATTER hfm (own_min_lt hc4 (by decide)) hqa) hZ (Wd hw 60 rfl) (Wd hw 8 rfl) (by decide) (by decide)) q5a q5c (g := (mkF m 18 #[.val (.ref x), .val (.int (own_min5 nn)), .val (.int (0 : Int32))] [(.int (0 : Int32)), (.ref x)])) rfl (by rw [hml]; rfl) (Steps.refl _) (argsL := [(.int (0 : Int32))]) (rest := []) (lenOf own_pd16 rfl) rfl (by show 2 * 0 + _ ≤ _; exact Nat.le_of_eq rfl) (hb hby d5_18) (fun _ _ => ⟨rfl, e2, (by decide : 0 + 0 ≤ _), (by decide : 0 + 0 ≤ _)⟩)
  dsimp only [Pt.U, Pt.locs, Pt.cells, Pt.slots] at X5 l5 y5 z5 st5 hQ5
  subst l5 y5 z5
  obtain ⟨rfl, Nq5, e5⟩ := hQ5
  have N5 := Fr.app N2 Nq5
  have r6 : ∀ t, Steps p.tables e below (T5.setTop (mkF m 23 #[.val (.ref x), .val (.int (own_min5 nn)), .val (.int (0 : Int32))] [(.int (58 : Int32)), (.int qa)])) t → Steps p.tables e below (T2.setTop (mkF m 13 #[.val (.ref x), .val (.int (own_min5 nn)), .val (.int (0 : Int32))] [(.int (own_min5 nn)), (.int (0 : Int32))])) t := fun t kt => by
   refine XS.icmpNo X2.here hx rfl (hb hby d5_13) rfl (tlt hc4).2.1 ?_
   refine XS.aloadN X2.here hx rfl (hb hby d5_16) rfl rfl ?_
   refine XS.iloadN X2.here hx rfl (hb hby d5_17) rfl ?_
   refine st5.trans ?_
   refine XS.bipush X5.here hx rfl (hb hby d5_21) ?_
   exact kt
  by_cases hc7 : qa = (58 : Int32)
  ·obtain ⟨fs, hr, hrun, hended, hW, hsame⟩ := X5.leave (v := some (.int (1 : Int32))) (fun h => by rw [Bd.returns] at h; cases h)
   refine ⟨_, _, (pre0 _ (r3 _ (r6 _ ?_))), hrun, hended, _, _, rfl, ?_, ⟨_, rfl⟩, hW, hsame.mono (by decide) (by decide)⟩
   ·show Steps p.tables e below (T5.setTop (mkF m 23 #[.val (.ref x), .val (.int (own_min5 nn)), .val (.int (0 : Int32))] [(.int (58 : Int32)), (.int qa)])) _
    refine XS.icmpNo X5.here hx rfl (hb hby d5_23) rfl (teq hc7).2 ?_
    refine XS.iconst X5.here hx rfl (hb hby d5_26) ?_
    exact retN X5 hx (t := .boolean) Bd.returns (by simp) (hb hby d5_27) hr
   ·show QMBW Z x tv nn qa qb qc qd qe qf qg k_tv cst fm h0 n0 _ T5.heap _
    rw [e5]
    exact ⟨(congrArg (fun w => some (Value.int w)) (by show (1 : Int32) = own_col nn qa qb qc qd qe; unfold own_col; rw [if_pos (Or.inl ⟨own_min_lt hc4 (by decide), hc7⟩)])), N5, rfl⟩
  ·have r8 : ∀ t, Steps p.tables e below (T5.setTop (mkF m 13 #[.val (.ref x), .val (.int (own_min5 nn)), .val (.int (1 : Int32))] [(.int (own_min5 nn)), (.int (1 : Int32))])) t → Steps p.tables e below (T5.setTop (mkF m 23 #[.val (.ref x), .val (.int (own_min5 nn)), .val (.int (0 : Int32))] [(.int (58 : Int32)), (.int qa)])) t := fun t kt => by
    refine XS.icmpYes X5.here hx rfl (pc0 := 23) (pc' := 28) rfl (hb hby d5_23) rfl (feq hc7).2 (by decide) (by decide) ?_
    refine XS.iinc X5.here hx rfl (hb hby d5_28) rfl (l' := #[.val (.ref x), .val (.int (own_min5 nn)), .val (.int (1 : Int32))]) rfl ?_
    refine XS.goto X5.here hx rfl (pc0 := 31) (pc' := 11) rfl (hb hby d5_31) (by decide) (by decide) ?_
    refine XS.iloadN X5.here hx rfl (hb hby d5_11) rfl ?_
    refine XS.iloadN X5.here hx rfl (hb hby d5_12) rfl ?_
    exact kt
   by_cases hc9 : (1 : Int32) < (own_min5 nn)
   ·obtain ⟨cq10, kq10, q10a, q10b, q10c⟩ := isOf hZ e5 E_x
    obtain ⟨_, _, ⟨T10, L10, k10, n10⟩, -, X10, ⟨Lc10, hQ10, l10, y10, z10⟩, st10⟩ := X5.virtualBack hx (y := (⟨"java/lang/String", "charAt", "(I)C"⟩ : MethodName)) (z := (⟨"java/lang/String", "charAt", "(I)C"⟩ : MethodName)) hown (mvT hZ (Wd hw 56 rfl)) (mvT hZ (Wd hw 57 rfl)) (notFace_of_selects (args := #[]) (mvT hZ (Wd hw 59 rfl))) (mvT hZ (Wd hw 59 rfl)) (mvT hZ (Wd hw 58 rfl)) (by decide) (backOf (W := 0) (rmCHWb l Z a0 hw [] x tv nn qa qb qc qd qe qf qg k_tv cst fm h0 n0 Z0 E_x F_value_x F_coder_x V_tv X00 S__assertionsDisabled S_HI_BYTE_SHIFT S_LO_BYTE_SHIFT S_COMPACT_STRINGS hcs hn S_SIOOBE_FORMATTER hfm (own_min_lt hc9 (by decide)) hqb) hZ (Wd hw 60 rfl) (Wd hw 8 rfl) (by decide) (by decide)) q10a q10c (g := (mkF m 18 #[.val (.ref x), .val (.int (own_min5 nn)), .val (.int (1 : Int32))] [(.int (1 : Int32)), (.ref x)])) rfl (by rw [hml]; rfl) (Steps.refl _) (argsL := [(.int (1 : Int32))]) (rest := []) (lenOf own_pd16 rfl) rfl (by show 2 * 0 + _ ≤ _; exact Nat.le_of_eq rfl) (hb hby d5_18) (fun _ _ => ⟨rfl, e5, (by decide : 0 + 0 ≤ _), (by decide : 0 + 0 ≤ _)⟩)
    dsimp only [Pt.U, Pt.locs, Pt.cells, Pt.slots] at X10 l10 y10 z10 st10 hQ10
    subst l10 y10 z10
    obtain ⟨rfl, Nq10, e10⟩ := hQ10
    have N10 := Fr.app N5 Nq10
    have r11 : ∀ t, Steps p.tables e below (T10.setTop (mkF m 23 #[.val (.ref x), .val (.int (own_min5 nn)), .val (.int (1 : Int32))] [(.int (58 : Int32)), (.int qb)])) t → Steps p.tables e below (T5.setTop (mkF m 13 #[.val (.ref x), .val (.int (own_min5 nn)), .val (.int (1 : Int32))] [(.int (own_min5 nn)), (.int (1 : Int32))])) t := fun t kt => by
     refine XS.icmpNo X5.here hx rfl (hb hby d5_13) rfl (tlt hc9).2.1 ?_
     refine XS.aloadN X5.here hx rfl (hb hby d5_16) rfl rfl ?_
     refine XS.iloadN X5.here hx rfl (hb hby d5_17) rfl ?_
     refine st10.trans ?_
     refine XS.bipush X10.here hx rfl (hb hby d5_21) ?_
     exact kt
    by_cases hc12 : qb = (58 : Int32)
    ·obtain ⟨fs, hr, hrun, hended, hW, hsame⟩ := X10.leave (v := some (.int (1 : Int32))) (fun h => by rw [Bd.returns] at h; cases h)
     refine ⟨_, _, (pre0 _ (r3 _ (r6 _ (r8 _ (r11 _ ?_))))), hrun, hended, _, _, rfl, ?_, ⟨_, rfl⟩, hW, hsame.mono (by decide) (by decide)⟩
     ·show Steps p.tables e below (T10.setTop (mkF m 23 #[.val (.ref x), .val (.int (own_min5 nn)), .val (.int (1 : Int32))] [(.int (58 : Int32)), (.int qb)])) _
      refine XS.icmpNo X10.here hx rfl (hb hby d5_23) rfl (teq hc12).2 ?_
      refine XS.iconst X10.here hx rfl (hb hby d5_26) ?_
      exact retN X10 hx (t := .boolean) Bd.returns (by simp) (hb hby d5_27) hr
     ·show QMBW Z x tv nn qa qb qc qd qe qf qg k_tv cst fm h0 n0 _ T10.heap _
      rw [e10]
      exact ⟨(congrArg (fun w => some (Value.int w)) (by show (1 : Int32) = own_col nn qa qb qc qd qe; unfold own_col; rw [if_pos (Or.inr (Or.inl ⟨own_min_lt hc9 (by decide), hc12⟩))])), N10, rfl⟩
    ·have r13 : ∀ t, Steps p.tables e below (T10.setTop (mkF m 13 #[.val (.ref x), .val (.int (own_min5 nn)), .val (.int (2 : Int32))] [(.int (own_min5 nn)), (.int (2 : Int32))])) t → Steps p.tables e below (T10.setTop (mkF m 23 #[.val (.ref x), .val (.int (own_min5 nn)), .val (.int (1 : Int32))] [(.int (58 : Int32)), (.int qb)])) t := fun t kt => by
      refine XS.icmpYes X10.here hx rfl (pc0 := 23) (pc' := 28) rfl (hb hby d5_23) rfl (feq hc12).2 (by decide) (by decide) ?_
      refine XS.iinc X10.here hx rfl (hb hby d5_28) rfl (l' := #[.val (.ref x), .val (.int (own_min5 nn)), .val (.int (2 : Int32))]) rfl ?_
      refine XS.goto X10.here hx rfl (pc0 := 31) (pc' := 11) rfl (hb hby d5_31) (by decide) (by decide) ?_
      refine XS.iloadN X10.here hx rfl (hb hby d5_11) rfl ?_
      refine XS.iloadN X10.here hx rfl (hb hby d5_12) rfl ?_
      exact kt
     by_cases hc14 : (2 : Int32) < (own_min5 nn)
     ·obtain ⟨cq15, kq15, q15a, q15b, q15c⟩ := isOf hZ e10 E_x
      obtain ⟨_, _, ⟨T15, L15, k15, n15⟩, -, X15, ⟨Lc15, hQ15, l15, y15, z15⟩, st15⟩ := X10.virtualBack hx (y := (⟨"java/lang/String", "charAt", "(I)C"⟩ : MethodName)) (z := (⟨"java/lang/String", "charAt", "(I)C"⟩ : MethodName)) hown (mvT hZ (Wd hw 56 rfl)) (mvT hZ (Wd hw 57 rfl)) (notFace_of_selects (args := #[]) (mvT hZ (Wd hw 59 rfl))) (mvT hZ (Wd hw 59 rfl)) (mvT hZ (Wd hw 58 rfl)) (by decide) (backOf (W := 0) (rmCHWc l Z a0 hw [] x tv nn qa qb qc qd qe qf qg k_tv cst fm h0 n0 Z0 E_x F_value_x F_coder_x V_tv X00 S__assertionsDisabled S_HI_BYTE_SHIFT S_LO_BYTE_SHIFT S_COMPACT_STRINGS hcs hn S_SIOOBE_FORMATTER hfm (own_min_lt hc14 (by decide)) hqc) hZ (Wd hw 60 rfl) (Wd hw 8 rfl) (by decide) (by decide)) q15a q15c (g := (mkF m 18 #[.val (.ref x), .val (.int (own_min5 nn)), .val (.int (2 : Int32))] [(.int (2 : Int32)), (.ref x)])) rfl (by rw [hml]; rfl) (Steps.refl _) (argsL := [(.int (2 : Int32))]) (rest := []) (lenOf own_pd16 rfl) rfl (by show 2 * 0 + _ ≤ _; exact Nat.le_of_eq rfl) (hb hby d5_18) (fun _ _ => ⟨rfl, e10, (by decide : 0 + 0 ≤ _), (by decide : 0 + 0 ≤ _)⟩)
      dsimp only [Pt.U, Pt.locs, Pt.cells, Pt.slots] at X15 l15 y15 z15 st15 hQ15
      subst l15 y15 z15
      obtain ⟨rfl, Nq15, e15⟩ := hQ15
      have N15 := Fr.app N10 Nq15
      have r16 : ∀ t, Steps p.tables e below (T15.setTop (mkF m 23 #[.val (.ref x), .val (.int (own_min5 nn)), .val (.int (2 : Int32))] [(.int (58 : Int32)), (.int qc)])) t → Steps p.tables e below (T10.setTop (mkF m 13 #[.val (.ref x), .val (.int (own_min5 nn)), .val (.int (2 : Int32))] [(.int (own_min5 nn)), (.int (2 : Int32))])) t := fun t kt => by
       refine XS.icmpNo X10.here hx rfl (hb hby d5_13) rfl (tlt hc14).2.1 ?_
       refine XS.aloadN X10.here hx rfl (hb hby d5_16) rfl rfl ?_
       refine XS.iloadN X10.here hx rfl (hb hby d5_17) rfl ?_
       refine st15.trans ?_
       refine XS.bipush X15.here hx rfl (hb hby d5_21) ?_
       exact kt
      by_cases hc17 : qc = (58 : Int32)
      ·obtain ⟨fs, hr, hrun, hended, hW, hsame⟩ := X15.leave (v := some (.int (1 : Int32))) (fun h => by rw [Bd.returns] at h; cases h)
       refine ⟨_, _, (pre0 _ (r3 _ (r6 _ (r8 _ (r11 _ (r13 _ (r16 _ ?_))))))), hrun, hended, _, _, rfl, ?_, ⟨_, rfl⟩, hW, hsame.mono (by decide) (by decide)⟩
       ·show Steps p.tables e below (T15.setTop (mkF m 23 #[.val (.ref x), .val (.int (own_min5 nn)), .val (.int (2 : Int32))] [(.int (58 : Int32)), (.int qc)])) _
        refine XS.icmpNo X15.here hx rfl (hb hby d5_23) rfl (teq hc17).2 ?_
        refine XS.iconst X15.here hx rfl (hb hby d5_26) ?_
        exact retN X15 hx (t := .boolean) Bd.returns (by simp) (hb hby d5_27) hr
       ·show QMBW Z x tv nn qa qb qc qd qe qf qg k_tv cst fm h0 n0 _ T15.heap _
        rw [e15]
        exact ⟨(congrArg (fun w => some (Value.int w)) (by show (1 : Int32) = own_col nn qa qb qc qd qe; unfold own_col; rw [if_pos (Or.inr (Or.inr (Or.inl ⟨own_min_lt hc14 (by decide), hc17⟩)))])), N15, rfl⟩
      ·have r18 : ∀ t, Steps p.tables e below (T15.setTop (mkF m 13 #[.val (.ref x), .val (.int (own_min5 nn)), .val (.int (3 : Int32))] [(.int (own_min5 nn)), (.int (3 : Int32))])) t → Steps p.tables e below (T15.setTop (mkF m 23 #[.val (.ref x), .val (.int (own_min5 nn)), .val (.int (2 : Int32))] [(.int (58 : Int32)), (.int qc)])) t := fun t kt => by
        refine XS.icmpYes X15.here hx rfl (pc0 := 23) (pc' := 28) rfl (hb hby d5_23) rfl (feq hc17).2 (by decide) (by decide) ?_
        refine XS.iinc X15.here hx rfl (hb hby d5_28) rfl (l' := #[.val (.ref x), .val (.int (own_min5 nn)), .val (.int (3 : Int32))]) rfl ?_
        refine XS.goto X15.here hx rfl (pc0 := 31) (pc' := 11) rfl (hb hby d5_31) (by decide) (by decide) ?_
        refine XS.iloadN X15.here hx rfl (hb hby d5_11) rfl ?_
        refine XS.iloadN X15.here hx rfl (hb hby d5_12) rfl ?_
        exact kt
       by_cases hc19 : (3 : Int32) < (own_min5 nn)
       ·obtain ⟨cq20, kq20, q20a, q20b, q20c⟩ := isOf hZ e15 E_x
        obtain ⟨_, _, ⟨T20, L20, k20, n20⟩, -, X20, ⟨Lc20, hQ20, l20, y20, z20⟩, st20⟩ := X15.virtualBack hx (y := (⟨"java/lang/String", "charAt", "(I)C"⟩ : MethodName)) (z := (⟨"java/lang/String", "charAt", "(I)C"⟩ : MethodName)) hown (mvT hZ (Wd hw 56 rfl)) (mvT hZ (Wd hw 57 rfl)) (notFace_of_selects (args := #[]) (mvT hZ (Wd hw 59 rfl))) (mvT hZ (Wd hw 59 rfl)) (mvT hZ (Wd hw 58 rfl)) (by decide) (backOf (W := 0) (rmCHWd l Z a0 hw [] x tv nn qa qb qc qd qe qf qg k_tv cst fm h0 n0 Z0 E_x F_value_x F_coder_x V_tv X00 S__assertionsDisabled S_HI_BYTE_SHIFT S_LO_BYTE_SHIFT S_COMPACT_STRINGS hcs hn S_SIOOBE_FORMATTER hfm (own_min_lt hc19 (by decide)) hqd) hZ (Wd hw 60 rfl) (Wd hw 8 rfl) (by decide) (by decide)) q20a q20c (g := (mkF m 18 #[.val (.ref x), .val (.int (own_min5 nn)), .val (.int (3 : Int32))] [(.int (3 : Int32)), (.ref x)])) rfl (by rw [hml]; rfl) (Steps.refl _) (argsL := [(.int (3 : Int32))]) (rest := []) (lenOf own_pd16 rfl) rfl (by show 2 * 0 + _ ≤ _; exact Nat.le_of_eq rfl) (hb hby d5_18) (fun _ _ => ⟨rfl, e15, (by decide : 0 + 0 ≤ _), (by decide : 0 + 0 ≤ _)⟩)
        dsimp only [Pt.U, Pt.locs, Pt.cells, Pt.slots] at X20 l20 y20 z20 st20 hQ20
        subst l20 y20 z20
        obtain ⟨rfl, Nq20, e20⟩ := hQ20
        have N20 := Fr.app N15 Nq20
        have r21 : ∀ t, Steps p.tables e below (T20.setTop (mkF m 23 #[.val (.ref x), .val (.int (own_min5 nn)), .val (.int (3 : Int32))] [(.int (58 : Int32)), (.int qd)])) t → Steps p.tables e below (T15.setTop (mkF m 13 #[.val (.ref x), .val (.int (own_min5 nn)), .val (.int (3 : Int32))] [(.int (own_min5 nn)), (.int (3 : Int32))])) t := fun t kt => by
         refine XS.icmpNo X15.here hx rfl (hb hby d5_13) rfl (tlt hc19).2.1 ?_
         refine XS.aloadN X15.here hx rfl (hb hby d5_16) rfl rfl ?_
         refine XS.iloadN X15.here hx rfl (hb hby d5_17) rfl ?_
         refine st20.trans ?_
         refine XS.bipush X20.here hx rfl (hb hby d5_21) ?_
         exact kt
        by_cases hc22 : qd = (58 : Int32)
        ·obtain ⟨fs, hr, hrun, hended, hW, hsame⟩ := X20.leave (v := some (.int (1 : Int32))) (fun h => by rw [Bd.returns] at h; cases h)
         refine ⟨_, _, (pre0 _ (r3 _ (r6 _ (r8 _ (r11 _ (r13 _ (r16 _ (r18 _ (r21 _ ?_))))))))), hrun, hended, _, _, rfl, ?_, ⟨_, rfl⟩, hW, hsame.mono (by decide) (by decide)⟩
         ·show Steps p.tables e below (T20.setTop (mkF m 23 #[.val (.ref x), .val (.int (own_min5 nn)), .val (.int (3 : Int32))] [(.int (58 : Int32)), (.int qd)])) _
          refine XS.icmpNo X20.here hx rfl (hb hby d5_23) rfl (teq hc22).2 ?_
          refine XS.iconst X20.here hx rfl (hb hby d5_26) ?_
          exact retN X20 hx (t := .boolean) Bd.returns (by simp) (hb hby d5_27) hr
         ·show QMBW Z x tv nn qa qb qc qd qe qf qg k_tv cst fm h0 n0 _ T20.heap _
          rw [e20]
          exact ⟨(congrArg (fun w => some (Value.int w)) (by show (1 : Int32) = own_col nn qa qb qc qd qe; unfold own_col; rw [if_pos (Or.inr (Or.inr (Or.inr (Or.inl ⟨own_min_lt hc19 (by decide), hc22⟩))))])), N20, rfl⟩
        ·have r23 : ∀ t, Steps p.tables e below (T20.setTop (mkF m 13 #[.val (.ref x), .val (.int (own_min5 nn)), .val (.int (4 : Int32))] [(.int (own_min5 nn)), (.int (4 : Int32))])) t → Steps p.tables e below (T20.setTop (mkF m 23 #[.val (.ref x), .val (.int (own_min5 nn)), .val (.int (3 : Int32))] [(.int (58 : Int32)), (.int qd)])) t := fun t kt => by
          refine XS.icmpYes X20.here hx rfl (pc0 := 23) (pc' := 28) rfl (hb hby d5_23) rfl (feq hc22).2 (by decide) (by decide) ?_
          refine XS.iinc X20.here hx rfl (hb hby d5_28) rfl (l' := #[.val (.ref x), .val (.int (own_min5 nn)), .val (.int (4 : Int32))]) rfl ?_
          refine XS.goto X20.here hx rfl (pc0 := 31) (pc' := 11) rfl (hb hby d5_31) (by decide) (by decide) ?_
          refine XS.iloadN X20.here hx rfl (hb hby d5_11) rfl ?_
          refine XS.iloadN X20.here hx rfl (hb hby d5_12) rfl ?_
          exact kt
         by_cases hc24 : (4 : Int32) < (own_min5 nn)
         ·obtain ⟨cq25, kq25, q25a, q25b, q25c⟩ := isOf hZ e20 E_x
          obtain ⟨_, _, ⟨T25, L25, k25, n25⟩, -, X25, ⟨Lc25, hQ25, l25, y25, z25⟩, st25⟩ := X20.virtualBack hx (y := (⟨"java/lang/String", "charAt", "(I)C"⟩ : MethodName)) (z := (⟨"java/lang/String", "charAt", "(I)C"⟩ : MethodName)) hown (mvT hZ (Wd hw 56 rfl)) (mvT hZ (Wd hw 57 rfl)) (notFace_of_selects (args := #[]) (mvT hZ (Wd hw 59 rfl))) (mvT hZ (Wd hw 59 rfl)) (mvT hZ (Wd hw 58 rfl)) (by decide) (backOf (W := 0) (rmCHWe l Z a0 hw [] x tv nn qa qb qc qd qe qf qg k_tv cst fm h0 n0 Z0 E_x F_value_x F_coder_x V_tv X00 S__assertionsDisabled S_HI_BYTE_SHIFT S_LO_BYTE_SHIFT S_COMPACT_STRINGS hcs hn S_SIOOBE_FORMATTER hfm (own_min_lt hc24 (by decide)) hqe) hZ (Wd hw 60 rfl) (Wd hw 8 rfl) (by decide) (by decide)) q25a q25c (g := (mkF m 18 #[.val (.ref x), .val (.int (own_min5 nn)), .val (.int (4 : Int32))] [(.int (4 : Int32)), (.ref x)])) rfl (by rw [hml]; rfl) (Steps.refl _) (argsL := [(.int (4 : Int32))]) (rest := []) (lenOf own_pd16 rfl) rfl (by show 2 * 0 + _ ≤ _; exact Nat.le_of_eq rfl) (hb hby d5_18) (fun _ _ => ⟨rfl, e20, (by decide : 0 + 0 ≤ _), (by decide : 0 + 0 ≤ _)⟩)
          dsimp only [Pt.U, Pt.locs, Pt.cells, Pt.slots] at X25 l25 y25 z25 st25 hQ25
          subst l25 y25 z25
          obtain ⟨rfl, Nq25, e25⟩ := hQ25
          have N25 := Fr.app N20 Nq25
          have r26 : ∀ t, Steps p.tables e below (T25.setTop (mkF m 23 #[.val (.ref x), .val (.int (own_min5 nn)), .val (.int (4 : Int32))] [(.int (58 : Int32)), (.int qe)])) t → Steps p.tables e below (T20.setTop (mkF m 13 #[.val (.ref x), .val (.int (own_min5 nn)), .val (.int (4 : Int32))] [(.int (own_min5 nn)), (.int (4 : Int32))])) t := fun t kt => by
           refine XS.icmpNo X20.here hx rfl (hb hby d5_13) rfl (tlt hc24).2.1 ?_
           refine XS.aloadN X20.here hx rfl (hb hby d5_16) rfl rfl ?_
           refine XS.iloadN X20.here hx rfl (hb hby d5_17) rfl ?_
           refine st25.trans ?_
           refine XS.bipush X25.here hx rfl (hb hby d5_21) ?_
           exact kt
          by_cases hc27 : qe = (58 : Int32)
          ·obtain ⟨fs, hr, hrun, hended, hW, hsame⟩ := X25.leave (v := some (.int (1 : Int32))) (fun h => by rw [Bd.returns] at h; cases h)
           refine ⟨_, _, (pre0 _ (r3 _ (r6 _ (r8 _ (r11 _ (r13 _ (r16 _ (r18 _ (r21 _ (r23 _ (r26 _ ?_))))))))))), hrun, hended, _, _, rfl, ?_, ⟨_, rfl⟩, hW, hsame.mono (by decide) (by decide)⟩
           ·show Steps p.tables e below (T25.setTop (mkF m 23 #[.val (.ref x), .val (.int (own_min5 nn)), .val (.int (4 : Int32))] [(.int (58 : Int32)), (.int qe)])) _
            refine XS.icmpNo X25.here hx rfl (hb hby d5_23) rfl (teq hc27).2 ?_
            refine XS.iconst X25.here hx rfl (hb hby d5_26) ?_
            exact retN X25 hx (t := .boolean) Bd.returns (by simp) (hb hby d5_27) hr
           ·show QMBW Z x tv nn qa qb qc qd qe qf qg k_tv cst fm h0 n0 _ T25.heap _
            rw [e25]
            exact ⟨(congrArg (fun w => some (Value.int w)) (by show (1 : Int32) = own_col nn qa qb qc qd qe; unfold own_col; rw [if_pos (Or.inr (Or.inr (Or.inr (Or.inr (⟨own_min_lt hc24 (by decide), hc27⟩)))))])), N25, rfl⟩
          ·have hno : ¬ (((0 : Int32) < nn ∧ qa = (58 : Int32)) ∨ ((1 : Int32) < nn ∧ qb = (58 : Int32)) ∨ ((2 : Int32) < nn ∧ qc = (58 : Int32)) ∨ ((3 : Int32) < nn ∧ qd = (58 : Int32)) ∨ ((4 : Int32) < nn ∧ qe = (58 : Int32))) := by
            rintro (⟨a, b⟩ | ⟨a, b⟩ | ⟨a, b⟩ | ⟨a, b⟩ | ⟨a, b⟩)
            ·exact hc7 b
            ·exact hc12 b
            ·exact hc17 b
            ·exact hc22 b
            ·exact hc27 b
           obtain ⟨fs, hr, hrun, hended, hW, hsame⟩ := X25.leave (v := some (.int (0 : Int32))) (fun h => by rw [Bd.returns] at h; cases h)
           refine ⟨_, _, (pre0 _ (r3 _ (r6 _ (r8 _ (r11 _ (r13 _ (r16 _ (r18 _ (r21 _ (r23 _ (r26 _ ?_))))))))))), hrun, hended, _, _, rfl, ?_, ⟨_, rfl⟩, hW, hsame.mono (by decide) (by decide)⟩
           ·show Steps p.tables e below (T25.setTop (mkF m 23 #[.val (.ref x), .val (.int (own_min5 nn)), .val (.int (4 : Int32))] [(.int (58 : Int32)), (.int qe)])) _
            refine XS.icmpYes X25.here hx rfl (pc0 := 23) (pc' := 28) rfl (hb hby d5_23) rfl (feq hc27).2 (by decide) (by decide) ?_
            refine XS.iinc X25.here hx rfl (hb hby d5_28) rfl (l' := #[.val (.ref x), .val (.int (own_min5 nn)), .val (.int (5 : Int32))]) rfl ?_
            refine XS.goto X25.here hx rfl (pc0 := 31) (pc' := 11) rfl (hb hby d5_31) (by decide) (by decide) ?_
            refine XS.iloadN X25.here hx rfl (hb hby d5_11) rfl ?_
            refine XS.iloadN X25.here hx rfl (hb hby d5_12) rfl ?_
            refine XS.icmpYes X25.here hx rfl (pc0 := 13) (pc' := 34) rfl (hb hby d5_13) rfl (flt (own_min_5 nn)).2.1 (by decide) (by decide) ?_
            refine XS.iconst X25.here hx rfl (hb hby d5_34) ?_
            exact retN X25 hx (t := .boolean) Bd.returns (by simp) (hb hby d5_35) hr
           ·show QMBW Z x tv nn qa qb qc qd qe qf qg k_tv cst fm h0 n0 _ T25.heap _
            rw [e25]
            exact ⟨(congrArg (fun w => some (Value.int w)) (by show (0 : Int32) = own_col nn qa qb qc qd qe; unfold own_col; rw [if_neg hno])), N25, rfl⟩
         ·have hno : ¬ (((0 : Int32) < nn ∧ qa = (58 : Int32)) ∨ ((1 : Int32) < nn ∧ qb = (58 : Int32)) ∨ ((2 : Int32) < nn ∧ qc = (58 : Int32)) ∨ ((3 : Int32) < nn ∧ qd = (58 : Int32)) ∨ ((4 : Int32) < nn ∧ qe = (58 : Int32))) := by
           rintro (⟨a, b⟩ | ⟨a, b⟩ | ⟨a, b⟩ | ⟨a, b⟩ | ⟨a, b⟩)
           ·exact hc7 b
           ·exact hc12 b
           ·exact hc17 b
           ·exact hc22 b
           ·exact own_min_ge hc24 (by decide) (own_down a (by decide))
          obtain ⟨fs, hr, hrun, hended, hW, hsame⟩ := X20.leave (v := some (.int (0 : Int32))) (fun h => by rw [Bd.returns] at h; cases h)
          refine ⟨_, _, (pre0 _ (r3 _ (r6 _ (r8 _ (r11 _ (r13 _ (r16 _ (r18 _ (r21 _ (r23 _ ?_)))))))))), hrun, hended, _, _, rfl, ?_, ⟨_, rfl⟩, hW, hsame.mono (by decide) (by decide)⟩
          ·show Steps p.tables e below (T20.setTop (mkF m 13 #[.val (.ref x), .val (.int (own_min5 nn)), .val (.int (4 : Int32))] [(.int (own_min5 nn)), (.int (4 : Int32))])) _
           refine XS.icmpYes X20.here hx rfl (pc0 := 13) (pc' := 34) rfl (hb hby d5_13) rfl (flt hc24).2.1 (by decide) (by decide) ?_
           refine XS.iconst X20.here hx rfl (hb hby d5_34) ?_
           exact retN X20 hx (t := .boolean) Bd.returns (by simp) (hb hby d5_35) hr
          ·show QMBW Z x tv nn qa qb qc qd qe qf qg k_tv cst fm h0 n0 _ T20.heap _
           rw [e20]
           exact ⟨(congrArg (fun w => some (Value.int w)) (by show (0 : Int32) = own_col nn qa qb qc qd qe; unfold own_col; rw [if_neg hno])), N20, rfl⟩
       ·have hno : ¬ (((0 : Int32) < nn ∧ qa = (58 : Int32)) ∨ ((1 : Int32) < nn ∧ qb = (58 : Int32)) ∨ ((2 : Int32) < nn ∧ qc = (58 : Int32)) ∨ ((3 : Int32) < nn ∧ qd = (58 : Int32)) ∨ ((4 : Int32) < nn ∧ qe = (58 : Int32))) := by
         rintro (⟨a, b⟩ | ⟨a, b⟩ | ⟨a, b⟩ | ⟨a, b⟩ | ⟨a, b⟩)
         ·exact hc7 b
         ·exact hc12 b
         ·exact hc17 b
         ·exact own_min_ge hc19 (by decide) (own_down a (by decide))
         ·exact own_min_ge hc19 (by decide) (own_down a (by decide))
        obtain ⟨fs, hr, hrun, hended, hW, hsame⟩ := X15.leave (v := some (.int (0 : Int32))) (fun h => by rw [Bd.returns] at h; cases h)
        refine ⟨_, _, (pre0 _ (r3 _ (r6 _ (r8 _ (r11 _ (r13 _ (r16 _ (r18 _ ?_)))))))), hrun, hended, _, _, rfl, ?_, ⟨_, rfl⟩, hW, hsame.mono (by decide) (by decide)⟩
        ·show Steps p.tables e below (T15.setTop (mkF m 13 #[.val (.ref x), .val (.int (own_min5 nn)), .val (.int (3 : Int32))] [(.int (own_min5 nn)), (.int (3 : Int32))])) _
         refine XS.icmpYes X15.here hx rfl (pc0 := 13) (pc' := 34) rfl (hb hby d5_13) rfl (flt hc19).2.1 (by decide) (by decide) ?_
         refine XS.iconst X15.here hx rfl (hb hby d5_34) ?_
         exact retN X15 hx (t := .boolean) Bd.returns (by simp) (hb hby d5_35) hr
        ·show QMBW Z x tv nn qa qb qc qd qe qf qg k_tv cst fm h0 n0 _ T15.heap _
         rw [e15]
         exact ⟨(congrArg (fun w => some (Value.int w)) (by show (0 : Int32) = own_col nn qa qb qc qd qe; unfold own_col; rw [if_neg hno])), N15, rfl⟩
     ·have hno : ¬ (((0 : Int32) < nn ∧ qa = (58 : Int32)) ∨ ((1 : Int32) < nn ∧ qb = (58 : Int32)) ∨ ((2 : Int32) < nn ∧ qc = (58 : Int32)) ∨ ((3 : Int32) < nn ∧ qd = (58 : Int32)) ∨ ((4 : Int32) < nn ∧ qe = (58 : Int32))) := by
       rintro (⟨a, b⟩ | ⟨a, b⟩ | ⟨a, b⟩ | ⟨a, b⟩ | ⟨a, b⟩)
       ·exact hc7 b
       ·exact hc12 b
       ·exact own_min_ge hc14 (by decide) (own_down a (by decide))
       ·exact own_min_ge hc14 (by decide) (own_down a (by decide))
       ·exact own_min_ge hc14 (by decide) (own_down a (by decide))
      obtain ⟨fs, hr, hrun, hended, hW, hsame⟩ := X10.leave (v := some (.int (0 : Int32))) (fun h => by rw [Bd.returns] at h; cases h)
      refine ⟨_, _, (pre0 _ (r3 _ (r6 _ (r8 _ (r11 _ (r13 _ ?_)))))), hrun, hended, _, _, rfl, ?_, ⟨_, rfl⟩, hW, hsame.mono (by decide) (by decide)⟩
      ·show Steps p.tables e below (T10.setTop (mkF m 13 #[.val (.ref x), .val (.int (own_min5 nn)), .val (.int (2 : Int32))] [(.int (own_min5 nn)), (.int (2 : Int32))])) _
       refine XS.icmpYes X10.here hx rfl (pc0 := 13) (pc' := 34) rfl (hb hby d5_13) rfl (flt hc14).2.1 (by decide) (by decide) ?_
       refine XS.iconst X10.here hx rfl (hb hby d5_34) ?_
       exact retN X10 hx (t := .boolean) Bd.returns (by simp) (hb hby d5_35) hr
      ·show QMBW Z x tv nn qa qb qc qd qe qf qg k_tv cst fm h0 n0 _ T10.heap _
       rw [e10]
       exact ⟨(congrArg (fun w => some (Value.int w)) (by show (0 : Int32) = own_col nn qa qb qc qd qe; unfold own_col; rw [if_neg hno])), N10, rfl⟩
   ·have hno : ¬ (((0 : Int32) < nn ∧ qa = (58 : Int32)) ∨ ((1 : Int32) < nn ∧ qb = (58 : Int32)) ∨ ((2 : Int32) < nn ∧ qc = (58 : Int32)) ∨ ((3 : Int32) < nn ∧ qd = (58 : Int32)) ∨ ((4 : Int32) < nn ∧ qe = (58 : Int32))) := by
     rintro (⟨a, b⟩ | ⟨a, b⟩ | ⟨a, b⟩ | ⟨a, b⟩ | ⟨a, b⟩)
     ·exact hc7 b
     ·exact own_min_ge hc9 (by decide) (own_down a (by decide))
     ·exact own_min_ge hc9 (by decide) (own_down a (by decide))
     ·exact own_min_ge hc9 (by decide) (own_down a (by decide))
     ·exact own_min_ge hc9 (by decide) (own_down a (by decide))
    obtain ⟨fs, hr, hrun, hended, hW, hsame⟩ := X5.leave (v := some (.int (0 : Int32))) (fun h => by rw [Bd.returns] at h; cases h)
    refine ⟨_, _, (pre0 _ (r3 _ (r6 _ (r8 _ ?_)))), hrun, hended, _, _, rfl, ?_, ⟨_, rfl⟩, hW, hsame.mono (by decide) (by decide)⟩
    ·show Steps p.tables e below (T5.setTop (mkF m 13 #[.val (.ref x), .val (.int (own_min5 nn)), .val (.int (1 : Int32))] [(.int (own_min5 nn)), (.int (1 : Int32))])) _
     refine XS.icmpYes X5.here hx rfl (pc0 := 13) (pc' := 34) rfl (hb hby d5_13) rfl (flt hc9).2.1 (by decide) (by decide) ?_
     refine XS.iconst X5.here hx rfl (hb hby d5_34) ?_
     exact retN X5 hx (t := .boolean) Bd.returns (by simp) (hb hby d5_35) hr
    ·show QMBW Z x tv nn qa qb qc qd qe qf qg k_tv cst fm h0 n0 _ T5.heap _
     rw [e5]
     exact ⟨(congrArg (fun w => some (Value.int w)) (by show (0 : Int32) = own_col nn qa qb qc qd qe; unfold own_col; rw [if_neg hno])), N5, rfl⟩
 ·have hno : ¬ (((0 : Int32) < nn ∧ qa = (58 : Int32)) ∨ ((1 : Int32) < nn ∧ qb = (58 : Int32)) ∨ ((2 : Int32) < nn ∧ qc = (58 : Int32)) ∨ ((3 : Int32) < nn ∧ qd = (58 : Int32)) ∨ ((4 : Int32) < nn ∧ qe = (58 : Int32))) := by
   rintro (⟨a, b⟩ | ⟨a, b⟩ | ⟨a, b⟩ | ⟨a, b⟩ | ⟨a, b⟩)
   ·exact own_min_ge hc4 (by decide) (own_down a (by decide))
   ·exact own_min_ge hc4 (by decide) (own_down a (by decide))
   ·exact own_min_ge hc4 (by decide) (own_down a (by decide))
   ·exact own_min_ge hc4 (by decide) (own_down a (by decide))
   ·exact own_min_ge hc4 (by decide) (own_down a (by decide))
  obtain ⟨fs, hr, hrun, hended, hW, hsame⟩ := X2.leave (v := some (.int (0 : Int32))) (fun h => by rw [Bd.returns] at h; cases h)
  refine ⟨_, _, (pre0 _ (r3 _ ?_)), hrun, hended, _, _, rfl, ?_, ⟨_, rfl⟩, hW, hsame.mono (by decide) (by decide)⟩
  ·show Steps p.tables e below (T2.setTop (mkF m 13 #[.val (.ref x), .val (.int (own_min5 nn)), .val (.int (0 : Int32))] [(.int (own_min5 nn)), (.int (0 : Int32))])) _
   refine XS.icmpYes X2.here hx rfl (pc0 := 13) (pc' := 34) rfl (hb hby d5_13) rfl (flt hc4).2.1 (by decide) (by decide) ?_
   refine XS.iconst X2.here hx rfl (hb hby d5_34) ?_
   exact retN X2 hx (t := .boolean) Bd.returns (by simp) (hb hby d5_35) hr
  ·show QMBW Z x tv nn qa qb qc qd qe qf qg k_tv cst fm h0 n0 _ T2.heap _
   rw [e2]
   exact ⟨(congrArg (fun w => some (Value.int w)) (by show (0 : Int32) = own_col nn qa qb qc qd qe; unfold own_col; rw [if_neg hno])), N2, rfl⟩
theorem d3_8 : decode jdk_42_method_149_code 8 = .ok (.aload_n 0, 1) := by decide +kernel
theorem d3_9 : decode jdk_42_method_149_code 9 = .ok (.ldc 7, 2) := by decide +kernel
theorem d3_11 : decode jdk_42_method_149_code 11 = .ok (.getfield 9, 3) := by decide +kernel
theorem d3_14 : decode jdk_42_method_149_code 14 = .ok (.putfield 9, 3) := by decide +kernel
theorem d3_17 : decode jdk_42_method_149_code 17 = .ok (.aload_n 0, 1) := by decide +kernel
theorem d3_18 : decode jdk_42_method_149_code 18 = .ok (.ldc 7, 2) := by decide +kernel
theorem d3_20 : decode jdk_42_method_149_code 20 = .ok (.getfield 15, 3) := by decide +kernel
theorem d3_23 : decode jdk_42_method_149_code 23 = .ok (.putfield 15, 3) := by decide +kernel
theorem d3_26 : decode jdk_42_method_149_code 26 = .ok (.return_, 1) := by decide +kernel
theorem efI4E (m : MethodId) (x : Addr) (a : Addr) : entryFrame m #[(.ref x), (.ref a), (.int (0 : Int32)), (.int (0 : Int32)), .null] 6 = mkF m 0 #[.val (.ref x), .val (.ref a), .val (.int (0 : Int32)), .val (.int (0 : Int32)), .val .null, .unset] [] := by first | (simp [entryFrame, mkF, argsToLocals, Value.category]; done) | rfl
def QI4E (Z : State) (x : Addr) (a : Addr) (h0 : Heap) (n0 : Nat) (v : Option Value) (h : Heap) (L : List Loc) : Prop := ∃ rt : Addr, ∃ k_rt : ClassId, v = none ∧ Fr n0 L ∧ Keep h0 h [x] ∧ Exa Z h x "java/lang/String" ∧ Fld Z h x "java/lang/String" "value" "[B" (.ref rt) ∧ Fld Z h x "java/lang/String" "coder" "B" (.int (0 : Int32)) ∧ Arv Z h rt k_rt .byte (0 : Int32) [] (.int (0 : Int32))
set_option maxRecDepth 65536 in
set_option maxHeartbeats 40000000 in
theorem rmI4E (l : Launch) (Z : State) (a0 : Array Value) (hw : ∀ d ∈ tables_1, d.before a0 Z = true) (ws : List Jvm.Cond) (x : Addr) (a : Addr) (h0 : Heap) (n0 : Nat) (Z0 : n0 ≤ h0.size) (E_x : Exa Z h0 x "java/lang/String") (F_value_x : Fld Z h0 x "java/lang/String" "value" "[B" .null) (F_coder_x : Fld Z h0 x "java/lang/String" "coder" "B" (.int (0 : Int32))) (g_x : n0 ≤ x) :
  MetFree l (⟨"java/lang/String", "<init>", "([CIILjava/lang/Void;)V"⟩ : MethodName) (head1 (Jvm.Cond.code (⟨"java/lang/String", "<init>", "([CIILjava/lang/Void;)V"⟩ : MethodName) jdk_42_method_149_code 6 none :: ws) ({ frames := 1, cells := 4, slots := 8, locals := 40 } : Room)) (fun av_ U => av_ = #[(.ref x), (.ref a), (.int (0 : Int32)), (.int (0 : Int32)), .null] ∧ Z.Warmed39 U.vm ∧ U.heap = h0 ∧ CHv Z own_EL U.vm h0) (fun _ _ _ _ _ => True) (fun _ U o U' => ∃ v L, o = .returned v ∧ QI4E Z x a h0 n0 v U'.heap L ∧ CHr Z own_EL U.vm U.heap U'.vm U'.heap ∧ ReturnedEndW U o U' L ({ frames := 1, cells := 4, slots := 8, locals := 40 } : Room).cells ({ frames := 1, cells := 4, slots := 8, locals := 40 } : Room).slots) := by
 refine MetFree.of_bodySF (plainFor_of_name own_pn1) hisR ?_
 intro p e s m args below meth c s₁ Bd hml0 hP hK
 obtain ⟨rfl, hZ, hh, hCH0⟩ := hP
 have hx := Bd.exec
 have hby := Bd.bytes
 have hml : c.maxLocals = 6 := hml0
 have hown : s.vm.findClass "java/lang/String" = some m.cls := findClass_of_methodNamed Bd.named
 have hnm := (name_of_methodNamed Bd.named Bd.method).1
 have X0 : Stand p l e ({ frames := 1, cells := 4, slots := 8, locals := 40 } : Room) s m #[(.ref x), (.ref a), (.int (0 : Int32)), (.int (0 : Int32)), .null] below meth c s₁ [] 0 0 := Stand.of_body Bd
 have e0 : s₁.heap = h0 := by rw [← hh, Bd.state]; rfl
 have N0 := Fr.nil n0
 have pre0 : ∀ t, Steps p.tables e below (s₁.setTop (mkF m 0 #[.val (.ref x), .val (.ref a), .val (.int (0 : Int32)), .val (.int (0 : Int32)), .val .null, .unset] [])) t → Steps p.tables e below (s₁.setTop (entryFrame m #[(.ref x), (.ref a), (.int (0 : Int32)), (.int (0 : Int32)), .null] 6)) t := fun t k => castTop (efI4E m x a) k
 have hS0 : s.Since s.vm 0 := (State.WarmedH.refl s).since 0
 have hk0 : 0 ≤ h0.size := Nat.zero_le _
 have hSA : ∀ a ∈ Bundle.stringAtoms, a.before a0 Z = true := fun d hd => hw d ((by decide +kernel : ∀ d ∈ Bundle.stringAtoms, d ∈ tables_1) d hd)
 have Xw0 : Stand p l e ({ frames := 1, cells := 4, slots := 8, locals := 40 } : Room) (s.setVm s.vm) m #[(.ref x), (.ref a), (.int (0 : Int32)), (.int (0 : Int32)), .null] below meth c s₁ [] 0 0 := X0
 have hELW : EW Z a0 own_EL := own_EW hw
 have ch0 : CHr Z own_EL s.vm h0 s.vm h0 := CHr.refl hCH0
 have sx0 : Safe Z own_EL s.vm h0 x := own_safe hZ.alike E_x F_value_x
 obtain ⟨T1, X1, e1, st1⟩ := initO Xw0 hx hZ hown (Wd hw 16 rfl) (Wd hw 17 rfl) (Wd hw 18 rfl) e0 (g := (mkF m 1 #[.val (.ref x), .val (.ref a), .val (.int (0 : Int32)), .val (.int (0 : Int32)), .val .null, .unset] [(.ref x)])) rfl (by rw [hml]; rfl) rfl (hb hby d3_1) (by decide) (W := 0) (by show 2 * 0 + _ ≤ _; exact Nat.le_of_eq rfl) (by decide)
 have r2 : ∀ t, Steps p.tables e below (T1.setTop (mkF m 9 #[.val (.ref x), .val (.ref a), .val (.int (0 : Int32)), .val (.int (0 : Int32)), .val .null, .unset] [(.ref x)])) t → Steps p.tables e below (s₁.setTop (mkF m 0 #[.val (.ref x), .val (.ref a), .val (.int (0 : Int32)), .val (.int (0 : Int32)), .val .null, .unset] [])) t := fun t kt => by
  refine XS.aloadN Xw0.here hx rfl (hb hby d3_0) rfl rfl ?_
  refine st1 _ ?_
  refine XS.iloadN X1.here hx rfl (hb hby d3_4) rfl ?_
  refine XS.ifNo X1.here hx rfl (hb hby d3_5) rfl ((if0 _ _).trans (teq (by decide : (0 : Int32) = (0 : Int32))).2) ?_
  refine XS.aloadN X1.here hx rfl (hb hby d3_8) rfl rfl ?_
  exact kt
 obtain ⟨b3, T3, h3, kk3, t3, kc3, X3, e3, E3, hS3, hks3', hZ, hown, As3, Cs3, Vs3, Bs3, lta3, ltb3, cr3, Lt3, sn3, st3⟩   := ldcCH X1 hx hZ hown (Wd hw 19 rfl) hSA e1 hS0 hk0 hELW (List.mem_of_getElem? (i := 0) rfl) ch0.1 (vs := []) (z := (0 : Int32)) ⟨by decide, rfl⟩ (by decide) rfl (g := (mkF m 9 #[.val (.ref x), .val (.ref a), .val (.int (0 : Int32)), .val (.int (0 : Int32)), .val .null, .unset] [(.ref x)])) rfl (hb hby d3_9) (n := 0) (by decide) (by decide) (by decide) (by decide)
 have K3 : Keep h0 h3 [x] := (Keep.refl h0 [x]).ext E3
 have Zs3 : n0 ≤ h3.size := Nat.le_trans Z0 E3.1
 have ch3 := CHr.trans ch0 cr3
 have sf3_x := CHr.safe cr3 E_x.lt sx0
 obtain ⟨T4, X4, e4, st4⟩ := getF X3 hx hZ hown (host := "") (Or.inl (Wd hw 25 rfl)) Via.refl e3 Vs3 (g := (mkF m 11 #[.val (.ref x), .val (.ref a), .val (.int (0 : Int32)), .val (.int (0 : Int32)), .val .null, .unset] [(.ref b3), (.ref x)])) rfl rfl (hb hby d3_11)
 obtain ⟨T5, h5, X5, e5, W5, st5⟩ := putF X4 hx hZ hown (host := "") (Or.inl (Wd hw 25 rfl)) Via.refl e4 (F_value_x.ext E3) (E_x.ext E3) (Or.inr ⟨(Wd hw 21 rfl), rfl, hnm⟩) (Wd hw 7 rfl) (ty := (.array .byte)) (by decide) rfl rfl (g := (mkF m 14 #[.val (.ref x), .val (.ref a), .val (.int (0 : Int32)), .val (.int (0 : Int32)), .val .null, .unset] [(.ref t3), (.ref x)])) rfl rfl (hb hby d3_14)
 have F5 : Fld Z h5 x "java/lang/String" "value" "[B" (.ref t3) := Fld.same W5 (F_value_x.ext E3)
 have K5 : Keep h0 h5 [x] := K3.wr W5 (Or.inl (List.mem_of_getElem? (i := 0) rfl))
 have Zs5 : n0 ≤ h5.size := Nat.le_trans Zs3 (Keep.of_wr W5).1
 have hks5 := Nat.le_trans hks3' (Keep.of_wr W5).1
 have sw5 := sf3_x
 have ch5 := CHr.trans ch3 (CHr.wr W5 sw5 ch3.1)
 have sf5_x := (Safe.wr W5 sw5 ch3.1 sf3_x)
 have N5 := Fr.snoc X5 N0 g_x
 have r6 : ∀ t, Steps p.tables e below (T5.setTop (mkF m 18 #[.val (.ref x), .val (.ref a), .val (.int (0 : Int32)), .val (.int (0 : Int32)), .val .null, .unset] [(.ref x)])) t → Steps p.tables e below (T1.setTop (mkF m 9 #[.val (.ref x), .val (.ref a), .val (.int (0 : Int32)), .val (.int (0 : Int32)), .val .null, .unset] [(.ref x)])) t := fun t kt => by
  refine st3 _ ?_
  refine st4 _ ?_
  refine st5 _ ?_
  refine XS.aloadN X5.here hx rfl (hb hby d3_17) rfl rfl ?_
  exact kt
 obtain ⟨b7, T7, h7, kk7, t7, kc7, X7, e7, E7, hS7, hks7', hZ, hown, As7, Cs7, Vs7, Bs7, lta7, ltb7, cr7, Lt7, sn7, st7⟩   := ldcCH X5 hx hZ hown (Wd hw 19 rfl) hSA e5 hS3 hks5 hELW (List.mem_of_getElem? (i := 0) rfl) ch5.1 (vs := []) (z := (0 : Int32)) ⟨by decide, rfl⟩ (by decide) rfl (g := (mkF m 18 #[.val (.ref x), .val (.ref a), .val (.int (0 : Int32)), .val (.int (0 : Int32)), .val .null, .unset] [(.ref x)])) rfl (hb hby d3_18) (n := 0) (by decide) (by decide) (by decide) (by decide)
 have K7 : Keep h0 h7 [x] := K5.ext E7
 have Zs7 : n0 ≤ h7.size := Nat.le_trans Zs5 E7.1
 have ch7 := CHr.trans ch5 cr7
 have sf7_x := CHr.safe cr7 ((E_x.ext E3).wr W5).lt sf5_x
 obtain ⟨T8, X8, e8, st8⟩ := getF X7 hx hZ hown (host := "") (Or.inl (Wd hw 26 rfl)) Via.refl e7 Cs7 (g := (mkF m 20 #[.val (.ref x), .val (.ref a), .val (.int (0 : Int32)), .val (.int (0 : Int32)), .val .null, .unset] [(.ref b7), (.ref x)])) rfl rfl (hb hby d3_20)
 obtain ⟨T9, h9, X9, e9, W9, st9⟩ := putFN X8 hx hZ hown (Wd hw 26 rfl) Via.refl e8 ((Fld.other W5 (F_coder_x.ext E3) (Or.inr (slot_ne (Or.inr (Wd hw 22 rfl)) (Or.inr (Wd hw 21 rfl)) (by decide) (t := .byte) (t' := (.array .byte)) (by decide) (by decide)))).ext E7) (((E_x.ext E3).wr W5).ext E7) (Or.inr ⟨(Wd hw 22 rfl), rfl, hnm⟩) (Wd hw 7 rfl) (ty := .byte) (v := (.int (0 : Int32))) (v' := (.int (nar .byte (0 : Int32)))) (by decide) rfl (fits_nar_byte _) (g := (mkF m 23 #[.val (.ref x), .val (.ref a), .val (.int (0 : Int32)), .val (.int (0 : Int32)), .val .null, .unset] [(.int (0 : Int32)), (.ref x)])) rfl rfl (hb hby d3_23)
 have F9 : Fld Z h9 x "java/lang/String" "coder" "B" (.int (nar .byte (0 : Int32))) := Fld.same W9 ((Fld.other W5 (F_coder_x.ext E3) (Or.inr (slot_ne (Or.inr (Wd hw 22 rfl)) (Or.inr (Wd hw 21 rfl)) (by decide) (t := .byte) (t' := (.array .byte)) (by decide) (by decide)))).ext E7)
 have K9 : Keep h0 h9 [x] := K7.wr W9 (Or.inl (List.mem_of_getElem? (i := 0) rfl))
 have Zs9 : n0 ≤ h9.size := Nat.le_trans Zs7 (Keep.of_wr W9).1
 have hks9 := Nat.le_trans hks7' (Keep.of_wr W9).1
 have sw9 := sf7_x
 have ch9 := CHr.trans ch7 (CHr.wr W9 sw9 ch7.1)
 have sf9_x := (Safe.wr W9 sw9 ch7.1 sf7_x)
 have N9 := Fr.snoc X9 N5 g_x
 obtain ⟨fs, hr, hrun, hended, hEW⟩ := X9.leaveW hS7 (by rw [e9]; exact hks9) (v := none) (fun _ => rfl)
 have hcr : CHr Z own_EL s.vm s.heap T9.vm T9.heap := by
  rw [hh, e9]
  exact CHr.trans ch9 (CHv.at X9 hZ hELW ch9.1)
 refine ⟨_, _, (pre0 _ (r2 _ (r6 _ ?_))), hrun, hended, _, _, rfl, ?_, hcr, hEW.1, hEW.2.1, hEW.2.2.1, hEW.2.2.2.mono (by decide) (by decide)⟩
 ·show Steps p.tables e below (T5.setTop (mkF m 18 #[.val (.ref x), .val (.ref a), .val (.int (0 : Int32)), .val (.int (0 : Int32)), .val .null, .unset] [(.ref x)])) _
  refine st7 _ ?_
  refine st8 _ ?_
  refine st9 _ ?_
  exact X9.returnOut hx Bd.returns (hb hby d3_26) hr
 ·show QI4E Z x a h0 n0 _ T9.heap _
  rw [e9]
  exact ⟨t3, kc3, rfl, N9, K9, ((((E_x.ext E3).wr W5).ext E7).wr W9), (Fld.other W9 (F5.ext E7) (Or.inr (slot_ne (Or.inr (Wd hw 21 rfl)) (Or.inr (Wd hw 22 rfl)) (by decide) (t := (.array .byte)) (t' := .byte) (by decide) (by decide)))), F9, (((Bs3.other W5 (Ne.symm (sn3 _ sf3_x).2)).ext E7).other W9 (Ne.symm (sn3 _ sf3_x).2))⟩
theorem efI1E (m : MethodId) (x : Addr) (a : Addr) : entryFrame m #[(.ref x), (.ref a)] 2 = mkF m 0 #[.val (.ref x), .val (.ref a)] [] := by first | (simp [entryFrame, mkF, argsToLocals, Value.category]; done) | rfl
def QI1E (Z : State) (x : Addr) (a : Addr) (lb : List Value) (k_a : ClassId) (h0 : Heap) (n0 : Nat) (v : Option Value) (h : Heap) (L : List Loc) : Prop := ∃ rt : Addr, ∃ k_rt : ClassId, v = none ∧ Fr n0 L ∧ Keep h0 h [x] ∧ Exa Z h x "java/lang/String" ∧ Fld Z h x "java/lang/String" "value" "[B" (.ref rt) ∧ Fld Z h x "java/lang/String" "coder" "B" (.int (0 : Int32)) ∧ Arv Z h rt k_rt .byte (0 : Int32) [] (.int (0 : Int32))
set_option maxRecDepth 65536 in
set_option maxHeartbeats 40000000 in
theorem rmI1E (l : Launch) (Z : State) (a0 : Array Value) (hw : ∀ d ∈ tables_1, d.before a0 Z = true) (ws : List Jvm.Cond) (x : Addr) (a : Addr) (lb : List Value) (k_a : ClassId) (h0 : Heap) (n0 : Nat) (Z0 : n0 ≤ h0.size) (V_a : Arv Z h0 a k_a .char (0 : Int32) lb (.int (0 : Int32))) (E_x : Exa Z h0 x "java/lang/String") (F_value_x : Fld Z h0 x "java/lang/String" "value" "[B" .null) (F_coder_x : Fld Z h0 x "java/lang/String" "coder" "B" (.int (0 : Int32))) (g_x : n0 ≤ x) :
  MetFree l (⟨"java/lang/String", "<init>", "([C)V"⟩ : MethodName) (head1 (Jvm.Cond.code (⟨"java/lang/String", "<init>", "([C)V"⟩ : MethodName) jdk_42_method_3_code 2 none :: ws) ({ frames := 2, cells := 4, slots := 8, locals := 70 } : Room)) (fun av_ U => av_ = #[(.ref x), (.ref a)] ∧ Z.Warmed39 U.vm ∧ U.heap = h0 ∧ CHv Z own_EL U.vm h0) (fun _ _ _ _ _ => True) (fun _ U o U' => ∃ v L, o = .returned v ∧ QI1E Z x a lb k_a h0 n0 v U'.heap L ∧ CHr Z own_EL U.vm U.heap U'.vm U'.heap ∧ ReturnedEndW U o U' L ({ frames := 2, cells := 4, slots := 8, locals := 70 } : Room).cells ({ frames := 2, cells := 4, slots := 8, locals := 70 } : Room).slots) := by
 refine MetFree.of_bodySF (plainFor_of_name own_pn1) hisR ?_
 intro p e s m args below meth c s₁ Bd hml0 hP hK
 obtain ⟨rfl, hZ, hh, hCH0⟩ := hP
 have hx := Bd.exec
 have hby := Bd.bytes
 have hml : c.maxLocals = 2 := hml0
 have hown : s.vm.findClass "java/lang/String" = some m.cls := findClass_of_methodNamed Bd.named
 have hnm := (name_of_methodNamed Bd.named Bd.method).1
 have X0 : Stand p l e ({ frames := 2, cells := 4, slots := 8, locals := 70 } : Room) s m #[(.ref x), (.ref a)] below meth c s₁ [] 0 0 := Stand.of_body Bd
 have e0 : s₁.heap = h0 := by rw [← hh, Bd.state]; rfl
 have N0 := Fr.nil n0
 have pre0 : ∀ t, Steps p.tables e below (s₁.setTop (mkF m 0 #[.val (.ref x), .val (.ref a)] [])) t → Steps p.tables e below (s₁.setTop (entryFrame m #[(.ref x), (.ref a)] 2)) t := fun t k => castTop (efI1E m x a) k
 have hS0 : s.Since s.vm 0 := (State.WarmedH.refl s).since 0
 have hk0 : 0 ≤ h0.size := Nat.zero_le _
 have hSA : ∀ a ∈ Bundle.stringAtoms, a.before a0 Z = true := fun d hd => hw d ((by decide +kernel : ∀ d ∈ Bundle.stringAtoms, d ∈ tables_1) d hd)
 have Xw0 : Stand p l e ({ frames := 2, cells := 4, slots := 8, locals := 70 } : Room) (s.setVm s.vm) m #[(.ref x), (.ref a)] below meth c s₁ [] 0 0 := X0
 have hELW : EW Z a0 own_EL := own_EW hw
 have ch0 : CHr Z own_EL s.vm h0 s.vm h0 := CHr.refl hCH0
 have sx0 : Safe Z own_EL s.vm h0 x := own_safe hZ.alike E_x F_value_x
 obtain ⟨cl1, Ar1, q1, S1, M1, Hs1, G1⟩ := (id V_a)
 have r3 : ∀ t, Steps p.tables e below (s₁.setTop (mkF m 6 #[.val (.ref x), .val (.ref a)] [.null, (.int (0 : Int32)), (.int (0 : Int32)), (.ref a), (.ref x)])) t → Steps p.tables e below (s₁.setTop (mkF m 0 #[.val (.ref x), .val (.ref a)] [])) t := fun t kt => by
  refine XS.aloadN Xw0.here hx rfl (hb hby d2_0) rfl rfl ?_
  refine XS.aloadN Xw0.here hx rfl (hb hby d2_1) rfl rfl ?_
  refine XS.iconst Xw0.here hx rfl (hb hby d2_2) ?_
  refine XS.aloadN Xw0.here hx rfl (hb hby d2_3) rfl rfl ?_
  refine Xw0.arraylength hx (by rw [e0]; exact Ar1.1) (State.isArrayOf_alike hZ.alike Ar1.2.1) (g := (mkF m 4 #[.val (.ref x), .val (.ref a)] [(.ref a), (.int (0 : Int32)), (.ref a), (.ref x)])) rfl rfl (hb hby d2_4) _ ?_
  rw [len_of S1 M1]
  refine XS.aconstNull Xw0.here hx rfl (hb hby d2_5) ?_
  exact kt
 obtain ⟨_, _, ⟨T2, L2, k2, n2⟩, -, Xb2, hSb2, hgr2, ⟨Lc2, hQ2, l2, y2, z2, cr2⟩, st2⟩ := Xw0.specialBackS hx (y := (⟨"java/lang/String", "<init>", "([CIILjava/lang/Void;)V"⟩ : MethodName)) rfl hown (mvT hZ (Wd hw 12 rfl)) (mvT hZ (Wd hw 13 rfl)) (mvT hZ (Wd hw 15 rfl)) (by decide) (backOfSH (s := s) (W := 0) (rmI4E l Z a0 hw [] x a h0 n0 Z0 E_x F_value_x F_coder_x g_x) hZ (Wd hw 15 rfl) (Wd hw 8 rfl) (by decide) (by decide) hELW ch0.1) (g := (mkF m 6 #[.val (.ref x), .val (.ref a)] [.null, (.int (0 : Int32)), (.int (0 : Int32)), (.ref a), (.ref x)])) rfl (by rw [hml]; rfl) (Steps.refl _) (a := x) (argsL := [(.ref a), (.int (0 : Int32)), (.int (0 : Int32)), .null]) (rest := []) (lenOf own_pd7 rfl) rfl (by show 2 * 0 + _ ≤ _; exact Nat.le_of_eq rfl) (hb hby d2_6) (fun _ _ => ⟨rfl, e0, (by decide : 0 + 4 ≤ _), (by decide : 0 + 8 ≤ _)⟩)
 dsimp only [Pt.U, Pt.locs, Pt.cells, Pt.slots] at Xb2 hSb2 hgr2 l2 y2 z2 st2 hQ2 cr2
 subst l2 y2 z2
 obtain ⟨X2, hS2, hZ, hown⟩ := rebS hS0 (by rw [e0]; exact hk0) Xb2 hSb2 hgr2 hZ hown
 obtain ⟨rt_2, k_rt_2, rfl, Nq2, Kc2, q2_0, q2_1, q2_2, q2_3⟩ := hQ2
 have K2 : Keep h0 T2.heap [x] := Keep.trans (Keep.refl h0 [x]) Kc2 (allS (Or.inl (List.mem_of_getElem? (i := 0) rfl)) all0)
 have Zs2 : n0 ≤ T2.heap.size := Nat.le_trans Z0 Kc2.1
 have N2 := Fr.app N0 Nq2
 have ch2 := CHr.trans ch0 cr2
 have sf2_x := CHr.safe cr2 E_x.lt sx0
 obtain ⟨fs, hr, hrun, hended, hEW⟩ := X2.leaveW hS2 (Nat.le_refl _) (v := none) (fun _ => rfl)
 have hcr : CHr Z own_EL s.vm s.heap T2.vm T2.heap := by
  rw [hh]
  exact CHr.trans ch2 (CHv.at X2 hZ hELW ch2.1)
 refine ⟨_, _, (pre0 _ (r3 _ ?_)), hrun, hended, _, _, rfl, ?_, hcr, hEW.1, hEW.2.1, hEW.2.2.1, hEW.2.2.2.mono (by decide) (by decide)⟩
 ·show Steps p.tables e below (s₁.setTop (mkF m 6 #[.val (.ref x), .val (.ref a)] [.null, (.int (0 : Int32)), (.int (0 : Int32)), (.ref a), (.ref x)])) _
  refine st2.trans ?_
  exact X2.returnOut hx Bd.returns (hb hby d2_9) hr
 ·show QI1E Z x a lb k_a h0 n0 _ T2.heap _
  exact ⟨rt_2, k_rt_2, rfl, N2, K2, q2_0, q2_1, q2_2, q2_3⟩
theorem efLNE (m : MethodId) (x : Addr) : entryFrame m #[(.ref x)] 1 = mkF m 0 #[.val (.ref x)] [] := by first | (simp [entryFrame, mkF, argsToLocals, Value.category]; done) | rfl
def QLNE (Z : State) (x : Addr) (tv : Addr) (k_tv : ClassId) (cst : Int32) (h0 : Heap) (n0 : Nat) (v : Option Value) (h : Heap) (L : List Loc) : Prop := v = some (.int (0 : Int32)) ∧ Fr n0 L ∧ h = h0
set_option maxRecDepth 65536 in
set_option maxHeartbeats 40000000 in
theorem rmLNE (l : Launch) (Z : State) (a0 : Array Value) (hw : ∀ d ∈ tables_1, d.before a0 Z = true) (ws : List Jvm.Cond) (x : Addr) (tv : Addr) (k_tv : ClassId) (cst : Int32) (h0 : Heap) (n0 : Nat) (Z0 : n0 ≤ h0.size) (E_x : Exa Z h0 x "java/lang/String") (F_value_x : Fld Z h0 x "java/lang/String" "value" "[B" (.ref tv)) (F_coder_x : Fld Z h0 x "java/lang/String" "coder" "B" (.int (0 : Int32))) (V_tv : Arv Z h0 tv k_tv .byte (0 : Int32) [] (.int (0 : Int32))) (X00 : Old Z n0 h0) (S_COMPACT_STRINGS : Sta Z Z.heap "java/lang/String" "COMPACT_STRINGS" "Z" (.int cst)) (hcs : ¬ cst = (0 : Int32)) :
  MetFree l (⟨"java/lang/String", "length", "()I"⟩ : MethodName) (head1 (Jvm.Cond.code (⟨"java/lang/String", "length", "()I"⟩ : MethodName) jdk_42_method_54_code 1 (some .int) :: ws) ({ frames := 1, cells := 0, slots := 0, locals := 14 } : Room)) (fun av_ U => av_ = #[(.ref x)] ∧ Z.Warmed39 U.vm ∧ U.heap = h0) (fun _ _ _ _ _ => True) (fun _ U o U' => ∃ v L, o = .returned v ∧ QLNE Z x tv k_tv cst h0 n0 v U'.heap L ∧ FrameEnd U o U' L ({ frames := 1, cells := 0, slots := 0, locals := 14 } : Room).cells ({ frames := 1, cells := 0, slots := 0, locals := 14 } : Room).slots) := by
 refine MetFree.of_bodySF (plainFor_of_name own_pn1) hisR ?_
 intro p e s m args below meth c s₁ Bd hml0 hP hK
 obtain ⟨rfl, hZ, hh⟩ := hP
 have hx := Bd.exec
 have hby := Bd.bytes
 have hml : c.maxLocals = 1 := hml0
 have hown : s.vm.findClass "java/lang/String" = some m.cls := findClass_of_methodNamed Bd.named
 have hnm := (name_of_methodNamed Bd.named Bd.method).1
 have X0 : Stand p l e ({ frames := 1, cells := 0, slots := 0, locals := 14 } : Room) s m #[(.ref x)] below meth c s₁ [] 0 0 := Stand.of_body Bd
 have e0 : s₁.heap = h0 := by rw [← hh, Bd.state]; rfl
 have N0 := Fr.nil n0
 have pre0 : ∀ t, Steps p.tables e below (s₁.setTop (mkF m 0 #[.val (.ref x)] [])) t → Steps p.tables e below (s₁.setTop (entryFrame m #[(.ref x)] 1)) t := fun t k => castTop (efLNE m x) k
 obtain ⟨T1, X1, e1, st1⟩ := getF X0 hx hZ hown (host := "") (Or.inl (Wd hw 25 rfl)) Via.refl e0 F_value_x (g := (mkF m 1 #[.val (.ref x)] [(.ref x)])) rfl rfl (hb hby d6_1)
 obtain ⟨cl2, Ar2, q2, S2, M2, Hs2, G2⟩ := (id V_tv)
 obtain ⟨cq3, kq3, q3a, q3b, q3c⟩ := isOf hZ e1 E_x
 obtain ⟨_, _, ⟨T3, L3, k3, n3⟩, -, X3, ⟨Lc3, hQ3, l3, y3, z3⟩, st3⟩ := X1.virtualBack hx (y := (⟨"java/lang/String", "coder", "()B"⟩ : MethodName)) (z := (⟨"java/lang/String", "coder", "()B"⟩ : MethodName)) hown (mvT hZ (Wd hw 36 rfl)) (mvT hZ (Wd hw 37 rfl)) (notFace_of_selects (args := #[]) (mvT hZ (Wd hw 39 rfl))) (mvT hZ (Wd hw 39 rfl)) (mvT hZ (Wd hw 38 rfl)) (by decide) (backOf (W := 1) (rmA16 l Z a0 hw [] x tv cst h0 n0 Z0 E_x F_value_x F_coder_x X00 S_COMPACT_STRINGS hcs) hZ (Wd hw 40 rfl) (Wd hw 8 rfl) (by decide) (by decide)) q3a q3c (g := (mkF m 6 #[.val (.ref x)] [(.ref x), (.int (0 : Int32))])) rfl (by rw [hml]; rfl) (Steps.refl _) (argsL := []) (rest := [(.int (0 : Int32))]) (lenOf own_pd9 rfl) rfl (by show 2 * 0 + _ ≤ _; exact Nat.le_of_eq rfl) (hb hby d6_6) (fun _ _ => ⟨rfl, e1, (by decide : 0 + 0 ≤ _), (by decide : 0 + 0 ≤ _)⟩)
 dsimp only [Pt.U, Pt.locs, Pt.cells, Pt.slots] at X3 l3 y3 z3 st3 hQ3
 subst l3 y3 z3
 obtain ⟨rfl, Nq3, e3⟩ := hQ3
 have N3 := Fr.app N0 Nq3
 obtain ⟨fs, hr, hrun, hended, hW, hsame⟩ := X3.leave (v := some (.int ((0 : Int32) >>> ((0 : Int32) &&& 31)))) (fun h => by rw [Bd.returns] at h; cases h)
 refine ⟨_, _, (pre0 _ ?_), hrun, hended, _, _, rfl, ?_, ⟨_, rfl⟩, hW, hsame.mono (by decide) (by decide)⟩
 ·show Steps p.tables e below (s₁.setTop (mkF m 0 #[.val (.ref x)] [])) _
  refine XS.aloadN X0.here hx rfl (hb hby d6_0) rfl rfl ?_
  refine st1 _ ?_
  refine X1.arraylength hx (by rw [e1]; exact Ar2.1) (State.isArrayOf_alike hZ.alike Ar2.2.1) (g := (mkF m 4 #[.val (.ref x)] [(.ref tv)])) rfl rfl (hb hby d6_4) _ ?_
  rw [len_of S2 M2]
  refine XS.aloadN X1.here hx rfl (hb hby d6_5) rfl rfl ?_
  refine st3.trans ?_
  refine XS.ishr X3.here hx rfl (hb hby d6_9) rfl ?_
  exact retI X3 hx Bd.returns (hb hby d6_10) hr
 ·show QLNE Z x tv k_tv cst h0 n0 _ T3.heap _
  rw [e3]
  exact ⟨(congrArg (fun w => some (Value.int w)) (by decide)), N3, rfl⟩
theorem efMBE (m : MethodId) (x : Addr) : entryFrame m #[(.ref x)] 3 = mkF m 0 #[.val (.ref x), .unset, .unset] [] := by first | (simp [entryFrame, mkF, argsToLocals, Value.category]; done) | rfl
def QMBE (Z : State) (x : Addr) (tv : Addr) (k_tv : ClassId) (cst : Int32) (h0 : Heap) (n0 : Nat) (v : Option Value) (h : Heap) (L : List Loc) : Prop := v = some (.int (0 : Int32)) ∧ Fr n0 L ∧ h = h0
set_option maxRecDepth 65536 in
set_option maxHeartbeats 40000000 in
theorem rmMBE (l : Launch) (Z : State) (a0 : Array Value) (hw : ∀ d ∈ tables_1, d.before a0 Z = true) (ws : List Jvm.Cond) (x : Addr) (tv : Addr) (k_tv : ClassId) (cst : Int32) (h0 : Heap) (n0 : Nat) (Z0 : n0 ≤ h0.size) (E_x : Exa Z h0 x "java/lang/String") (F_value_x : Fld Z h0 x "java/lang/String" "value" "[B" (.ref tv)) (F_coder_x : Fld Z h0 x "java/lang/String" "coder" "B" (.int (0 : Int32))) (V_tv : Arv Z h0 tv k_tv .byte (0 : Int32) [] (.int (0 : Int32))) (X00 : Old Z n0 h0) (S_COMPACT_STRINGS : Sta Z Z.heap "java/lang/String" "COMPACT_STRINGS" "Z" (.int cst)) (hcs : ¬ cst = (0 : Int32)) :
  MetFree l (⟨"com/example/careful_throttle/carefulthrottle/address/IpAddress", "mayBeIpv6", "(Ljava/lang/String;)Z"⟩ : MethodName) (head1 (Jvm.Cond.code (⟨"com/example/careful_throttle/carefulthrottle/address/IpAddress", "mayBeIpv6", "(Ljava/lang/String;)Z"⟩ : MethodName) prog_39_method_4_code 3 (some .boolean) :: ws) ({ frames := 2, cells := 0, slots := 0, locals := 40 } : Room)) (fun av_ U => av_ = #[(.ref x)] ∧ Z.Warmed39 U.vm ∧ U.heap = h0) (fun _ _ _ _ _ => True) (fun _ U o U' => ∃ v L, o = .returned v ∧ QMBE Z x tv k_tv cst h0 n0 v U'.heap L ∧ FrameEnd U o U' L ({ frames := 2, cells := 0, slots := 0, locals := 40 } : Room).cells ({ frames := 2, cells := 0, slots := 0, locals := 40 } : Room).slots) := by
 refine MetFree.of_bodySF (plainFor_of_name own_pn4) hisR ?_
 intro p e s m args below meth c s₁ Bd hml0 hP hK
 obtain ⟨rfl, hZ, hh⟩ := hP
 have hx := Bd.exec
 have hby := Bd.bytes
 have hml : c.maxLocals = 3 := hml0
 have hown : s.vm.findClass "com/example/careful_throttle/carefulthrottle/address/IpAddress" = some m.cls := findClass_of_methodNamed Bd.named
 have hnm := (name_of_methodNamed Bd.named Bd.method).1
 have X0 : Stand p l e ({ frames := 2, cells := 0, slots := 0, locals := 40 } : Room) s m #[(.ref x)] below meth c s₁ [] 0 0 := Stand.of_body Bd
 have e0 : s₁.heap = h0 := by rw [← hh, Bd.state]; rfl
 have N0 := Fr.nil n0
 have pre0 : ∀ t, Steps p.tables e below (s₁.setTop (mkF m 0 #[.val (.ref x), .unset, .unset] [])) t → Steps p.tables e below (s₁.setTop (entryFrame m #[(.ref x)] 3)) t := fun t k => castTop (efMBE m x) k
 obtain ⟨cq1, kq1, q1a, q1b, q1c⟩ := isOf hZ e0 E_x
 obtain ⟨_, _, ⟨T1, L1, k1, n1⟩, -, X1, ⟨Lc1, hQ1, l1, y1, z1⟩, st1⟩ := X0.virtualBack hx (y := (⟨"java/lang/String", "length", "()I"⟩ : MethodName)) (z := (⟨"java/lang/String", "length", "()I"⟩ : MethodName)) hown (mvT hZ (Wd hw 31 rfl)) (mvT hZ (Wd hw 32 rfl)) (notFace_of_selects (args := #[]) (mvT hZ (Wd hw 34 rfl))) (mvT hZ (Wd hw 34 rfl)) (mvT hZ (Wd hw 33 rfl)) (by decide) (backOf (W := 0) (rmLNE l Z a0 hw [] x tv k_tv cst h0 n0 Z0 E_x F_value_x F_coder_x V_tv X00 S_COMPACT_STRINGS hcs) hZ (Wd hw 35 rfl) (Wd hw 8 rfl) (by decide) (by decide)) q1a q1c (g := (mkF m 1 #[.val (.ref x), .unset, .unset] [(.ref x)])) rfl (by rw [hml]; rfl) (Steps.refl _) (argsL := []) (rest := []) (lenOf own_pd14 rfl) rfl (by show 2 * 0 + _ ≤ _; exact Nat.le_of_eq rfl) (hb hby d5_1) (fun _ _ => ⟨rfl, e0, (by decide : 0 + 0 ≤ _), (by decide : 0 + 0 ≤ _)⟩)
 dsimp only [Pt.U, Pt.locs, Pt.cells, Pt.slots] at X1 l1 y1 z1 st1 hQ1
 subst l1 y1 z1
 obtain ⟨rfl, Nq1, e1⟩ := hQ1
 have N1 := Fr.app N0 Nq1
 obtain ⟨_, _, ⟨T2, L2, k2, n2⟩, -, X2, ⟨Lc2, hQ2, l2, y2, z2⟩, st2⟩ := Jvm.LawKit.callS X1 hx (y := (⟨"java/lang/Math", "min", "(II)I"⟩ : MethodName)) hown (mvT hZ (Wd hw 42 rfl)) (mvT hZ (Wd hw 43 rfl)) (mvT hZ (Wd hw 44 rfl)) (mvT hZ (Wd hw 45 rfl)) (by decide) (backOf (W := 0) (rmMN l Z a0 hw [] (0 : Int32) h0 n0 Z0 ) hZ (Wd hw 45 rfl) (Wd hw 44 rfl) (by decide) (by decide)) (g := (mkF m 5 #[.val (.ref x), .unset, .unset] [(.int (5 : Int32)), (.int (0 : Int32))])) rfl (by rw [hml]; rfl) (argsL := [(.int (0 : Int32)), (.int (5 : Int32))]) (rest := []) (lenOf own_pd15 rfl) rfl (by show 2 * 0 + _ ≤ _; exact Nat.le_of_eq rfl) (hb hby d5_5) (fun _ _ => ⟨rfl, e1, (by decide : 0 + 0 ≤ _), (by decide : 0 + 0 ≤ _)⟩)
 dsimp only [Pt.U, Pt.locs, Pt.cells, Pt.slots] at X2 l2 y2 z2 st2 hQ2
 subst l2 y2 z2
 obtain ⟨rfl, Nq2, e2⟩ := hQ2
 have N2 := Fr.app N1 Nq2
 obtain ⟨fs, hr, hrun, hended, hW, hsame⟩ := X2.leave (v := some (.int (0 : Int32))) (fun h => by rw [Bd.returns] at h; cases h)
 refine ⟨_, _, (pre0 _ ?_), hrun, hended, _, _, rfl, ?_, ⟨_, rfl⟩, hW, hsame.mono (by decide) (by decide)⟩
 ·show Steps p.tables e below (s₁.setTop (mkF m 0 #[.val (.ref x), .unset, .unset] [])) _
  refine XS.aloadN X0.here hx rfl (hb hby d5_0) rfl rfl ?_
  refine st1.trans ?_
  refine XS.iconst X1.here hx rfl (hb hby d5_4) ?_
  refine st2 _ ?_
  refine XS.istoreN X2.here hx rfl (hb hby d5_8) rfl (l' := #[.val (.ref x), .val (.int (own_min5 (0 : Int32))), .unset]) rfl ?_
  refine XS.iconst X2.here hx rfl (hb hby d5_9) ?_
  refine XS.istoreN X2.here hx rfl (hb hby d5_10) rfl (l' := #[.val (.ref x), .val (.int (own_min5 (0 : Int32))), .val (.int (0 : Int32))]) rfl ?_
  refine XS.iloadN X2.here hx rfl (hb hby d5_11) rfl ?_
  refine XS.iloadN X2.here hx rfl (hb hby d5_12) rfl ?_
  refine XS.icmpYes X2.here hx rfl (pc0 := 13) (pc' := 34) rfl (hb hby d5_13) rfl (flt (by decide)).2.1 (by decide) (by decide) ?_
  refine XS.iconst X2.here hx rfl (hb hby d5_34) ?_
  exact retN X2 hx (t := .boolean) Bd.returns (by simp) (hb hby d5_35) hr
 ·show QMBE Z x tv k_tv cst h0 n0 _ T2.heap _
  rw [e2]
  exact ⟨rfl, N2, rfl⟩
theorem own_pn5 : plainName "com/example/careful_throttle/carefulthrottle/address/IpAddressMayBeIpv6PinLaw" = true := by first | (simp [plainName, overriddenIn]; done) | decide +kernel
theorem d1_0 : decode method_2_code 0 = .ok (.iload_n 0, 1) := by decide +kernel
theorem d1_1 : decode method_2_code 1 = .ok (.iload 5, 2) := by decide +kernel
theorem d1_3 : decode method_2_code 3 = .ok (.iushr, 1) := by decide +kernel
theorem d1_4 : decode method_2_code 4 = .ok (.iconst 1, 1) := by decide +kernel
theorem d1_5 : decode method_2_code 5 = .ok (.iand, 1) := by decide +kernel
theorem d1_6 : decode method_2_code 6 = .ok (.ifCond .eq 6, 3) := by decide +kernel
theorem d1_9 : decode method_2_code 9 = .ok (.bipush 58, 2) := by decide +kernel
theorem d1_11 : decode method_2_code 11 = .ok (.ireturn, 1) := by decide +kernel
theorem d1_12 : decode method_2_code 12 = .ok (.iload 5, 2) := by decide +kernel
theorem d1_14 : decode method_2_code 14 = .ok (.iconst 4, 1) := by decide +kernel
theorem d1_15 : decode method_2_code 15 = .ok (.if_icmp .ge 7, 3) := by decide +kernel
theorem d1_18 : decode method_2_code 18 = .ok (.lload_n 1, 1) := by decide +kernel
theorem d1_19 : decode method_2_code 19 = .ok (.goto 4, 3) := by decide +kernel
theorem d1_22 : decode method_2_code 22 = .ok (.lload_n 3, 1) := by decide +kernel
theorem d1_23 : decode method_2_code 23 = .ok (.lstore 6, 2) := by decide +kernel
theorem d1_25 : decode method_2_code 25 = .ok (.bipush 16, 2) := by decide +kernel
theorem d1_27 : decode method_2_code 27 = .ok (.iload 5, 2) := by decide +kernel
theorem d1_29 : decode method_2_code 29 = .ok (.iconst 3, 1) := by decide +kernel
theorem d1_30 : decode method_2_code 30 = .ok (.iand, 1) := by decide +kernel
theorem d1_31 : decode method_2_code 31 = .ok (.imul, 1) := by decide +kernel
theorem d1_32 : decode method_2_code 32 = .ok (.istore 8, 2) := by decide +kernel
theorem d1_34 : decode method_2_code 34 = .ok (.lload 6, 2) := by decide +kernel
theorem d1_36 : decode method_2_code 36 = .ok (.iload 8, 2) := by decide +kernel
theorem d1_38 : decode method_2_code 38 = .ok (.lushr, 1) := by decide +kernel
theorem d1_39 : decode method_2_code 39 = .ok (.ldc2_w 7, 3) := by decide +kernel
theorem d1_42 : decode method_2_code 42 = .ok (.land, 1) := by decide +kernel
theorem d1_43 : decode method_2_code 43 = .ok (.l2i, 1) := by decide +kernel
theorem d1_44 : decode method_2_code 44 = .ok (.i2c, 1) := by decide +kernel
theorem d1_45 : decode method_2_code 45 = .ok (.ireturn, 1) := by decide +kernel
theorem efHC (m : MethodId) (fl : Int32) (la : Int64) (lz : Int64) (ix : Int32) : entryFrame m #[(.int fl), (.long la), (.long lz), (.int ix)] 9 = mkF m 0 #[.val (.int fl), .val (.long la), .second, .val (.long lz), .second, .val (.int ix), .unset, .unset, .unset] [] := by first | (simp [entryFrame, mkF, argsToLocals, Value.category]; done) | rfl
def QHC (Z : State) (fl : Int32) (la : Int64) (lz : Int64) (ix : Int32) (h0 : Heap) (n0 : Nat) (v : Option Value) (h : Heap) (L : List Loc) : Prop := ∃ cv : Int32, v = some (.int cv) ∧ Fr n0 L ∧ Keep h0 h [] ∧ own_c16 cv
set_option maxRecDepth 65536 in
set_option maxHeartbeats 40000000 in
theorem rmHC (l : Launch) (Z : State) (a0 : Array Value) (hw : ∀ d ∈ tables_1, d.before a0 Z = true) (ws : List Jvm.Cond) (fl : Int32) (la : Int64) (lz : Int64) (ix : Int32) (h0 : Heap) (n0 : Nat) (Z0 : n0 ≤ h0.size) :
  MetFree l (⟨"com/example/careful_throttle/carefulthrottle/address/IpAddressMayBeIpv6PinLaw", "ch", "(IJJI)C"⟩ : MethodName) (head1 (Jvm.Cond.code (⟨"com/example/careful_throttle/carefulthrottle/address/IpAddressMayBeIpv6PinLaw", "ch", "(IJJI)C"⟩ : MethodName) method_2_code 9 (some .char) :: ws) ({ frames := 0, cells := 0, slots := 0, locals := 0 } : Room)) (fun av_ U => av_ = #[(.int fl), (.long la), (.long lz), (.int ix)] ∧ Z.Warmed39 U.vm ∧ U.heap = h0) (fun _ _ _ _ _ => True) (fun _ U o U' => ∃ v L, o = .returned v ∧ QHC Z fl la lz ix h0 n0 v U'.heap L ∧ FrameEnd U o U' L ({ frames := 0, cells := 0, slots := 0, locals := 0 } : Room).cells ({ frames := 0, cells := 0, slots := 0, locals := 0 } : Room).slots) := by
 refine MetFree.of_bodySF (plainFor_of_name own_pn5) hisR ?_
 intro p e s m args below meth c s₁ Bd hml0 hP hK
 obtain ⟨rfl, hZ, hh⟩ := hP
 have hx := Bd.exec
 have hby := Bd.bytes
 have hml : c.maxLocals = 9 := hml0
 have hown : s.vm.findClass "com/example/careful_throttle/carefulthrottle/address/IpAddressMayBeIpv6PinLaw" = some m.cls := findClass_of_methodNamed Bd.named
 have hnm := (name_of_methodNamed Bd.named Bd.method).1
 have X0 : Stand p l e ({ frames := 0, cells := 0, slots := 0, locals := 0 } : Room) s m #[(.int fl), (.long la), (.long lz), (.int ix)] below meth c s₁ [] 0 0 := Stand.of_body Bd
 have e0 : s₁.heap = h0 := by rw [← hh, Bd.state]; rfl
 have N0 := Fr.nil n0
 have pre0 : ∀ t, Steps p.tables e below (s₁.setTop (mkF m 0 #[.val (.int fl), .val (.long la), .second, .val (.long lz), .second, .val (.int ix), .unset, .unset, .unset] [])) t → Steps p.tables e below (s₁.setTop (entryFrame m #[(.int fl), (.long la), (.long lz), (.int ix)] 9)) t := fun t k => castTop (efHC m fl la lz ix) k
 have r1 : ∀ t, Steps p.tables e below (s₁.setTop (mkF m 6 #[.val (.int fl), .val (.long la), .second, .val (.long lz), .second, .val (.int ix), .unset, .unset, .unset] [(.int (((fl.toUInt32 >>> (ix &&& 31).toUInt32).toInt32) &&& (1 : Int32)))])) t → Steps p.tables e below (s₁.setTop (mkF m 0 #[.val (.int fl), .val (.long la), .second, .val (.long lz), .second, .val (.int ix), .unset, .unset, .unset] [])) t := fun t kt => by
  refine XS.iloadN X0.here hx rfl (hb hby d1_0) rfl ?_
  refine XS.iload X0.here hx rfl (hb hby d1_1) rfl ?_
  refine XS.iushr X0.here hx rfl (hb hby d1_3) rfl ?_
  refine XS.iconst X0.here hx rfl (hb hby d1_4) ?_
  refine XS.iand X0.here hx rfl (hb hby d1_5) rfl ?_
  exact kt
 by_cases hc2 : (((fl.toUInt32 >>> (ix &&& 31).toUInt32).toInt32) &&& (1 : Int32)) = (0 : Int32)
 ·have r3 : ∀ t, Steps p.tables e below (s₁.setTop (mkF m 15 #[.val (.int fl), .val (.long la), .second, .val (.long lz), .second, .val (.int ix), .unset, .unset, .unset] [(.int (4 : Int32)), (.int ix)])) t → Steps p.tables e below (s₁.setTop (mkF m 6 #[.val (.int fl), .val (.long la), .second, .val (.long lz), .second, .val (.int ix), .unset, .unset, .unset] [(.int (((fl.toUInt32 >>> (ix &&& 31).toUInt32).toInt32) &&& (1 : Int32)))])) t := fun t kt => by
   refine XS.ifYes X0.here hx rfl (pc0 := 6) (pc' := 12) rfl (hb hby d1_6) rfl ((if0 _ _).trans (teq hc2).1) (by decide) (by decide) ?_
   refine XS.iload X0.here hx rfl (hb hby d1_12) rfl ?_
   refine XS.iconst X0.here hx rfl (hb hby d1_14) ?_
   exact kt
  obtain ⟨v6, hv6⟩ : ∃ zz : Int64, zz = (if ix < (4 : Int32) then la else lz) := ⟨_, rfl⟩
  have r4 : ∀ t, Steps p.tables e below (s₁.setTop (mkF m 23 #[.val (.int fl), .val (.long la), .second, .val (.long lz), .second, .val (.int ix), .unset, .unset, .unset] [(.long v6)])) t → Steps p.tables e below (s₁.setTop (mkF m 15 #[.val (.int fl), .val (.long la), .second, .val (.long lz), .second, .val (.int ix), .unset, .unset, .unset] [(.int (4 : Int32)), (.int ix)])) t := fun t kt => by
   rw [hv6] at kt
   by_cases hd5 : ix < (4 : Int32)
   ·simp only [if_pos hd5] at kt
    refine XS.icmpNo X0.here hx rfl (hb hby d1_15) rfl (tlt hd5).2.1 ?_
    refine XS.lloadN X0.here hx rfl (hb hby d1_18) rfl ?_
    refine XS.goto X0.here hx rfl (pc0 := 19) (pc' := 23) rfl (hb hby d1_19) (by decide) (by decide) ?_
    exact kt
   ·simp only [if_neg hd5] at kt
    refine XS.icmpYes X0.here hx rfl (pc0 := 15) (pc' := 22) rfl (hb hby d1_15) rfl (flt hd5).2.1 (by decide) (by decide) ?_
    refine XS.lloadN X0.here hx rfl (hb hby d1_22) rfl ?_
    exact kt
  obtain ⟨fs, hr, hrun, hended, hW, hsame⟩ := X0.leave (v := some (.int (nar .char (((((v6.toUInt64 >>> (((16 : Int32) * (ix &&& (3 : Int32))) &&& 0x3f).toInt64.toUInt64).toInt64) &&& (65535 : Int64)).toInt32).toUInt32.toUInt16.toUInt32.toInt32)))) (fun h => by rw [Bd.returns] at h; cases h)
  refine ⟨_, _, (pre0 _ (r1 _ (r3 _ (r4 _ ?_)))), hrun, hended, _, _, rfl, ?_, ⟨_, rfl⟩, hW, hsame.mono (by decide) (by decide)⟩
  ·show Steps p.tables e below (s₁.setTop (mkF m 23 #[.val (.int fl), .val (.long la), .second, .val (.long lz), .second, .val (.int ix), .unset, .unset, .unset] [(.long v6)])) _
   refine XS.lstore X0.here hx rfl (hb hby d1_23) rfl (l' := #[.val (.int fl), .val (.long la), .second, .val (.long lz), .second, .val (.int ix), .val (.long v6), .second, .unset]) rfl ?_
   refine XS.bipush X0.here hx rfl (hb hby d1_25) ?_
   refine XS.iload X0.here hx rfl (hb hby d1_27) rfl ?_
   refine XS.iconst X0.here hx rfl (hb hby d1_29) ?_
   refine XS.iand X0.here hx rfl (hb hby d1_30) rfl ?_
   refine XS.imul X0.here hx rfl (hb hby d1_31) rfl ?_
   refine XS.istore X0.here hx rfl (hb hby d1_32) rfl (l' := #[.val (.int fl), .val (.long la), .second, .val (.long lz), .second, .val (.int ix), .val (.long v6), .second, .val (.int ((16 : Int32) * (ix &&& (3 : Int32))))]) rfl ?_
   refine XS.lload X0.here hx rfl (hb hby d1_34) rfl ?_
   refine XS.iload X0.here hx rfl (hb hby d1_36) rfl ?_
   refine XS.lushr X0.here hx rfl (hb hby d1_38) rfl ?_
   refine X0.ldc2Long hx hown (mvT hZ (Wd hw 4 rfl)) (g := (mkF m 39 #[.val (.int fl), .val (.long la), .second, .val (.long lz), .second, .val (.int ix), .val (.long v6), .second, .val (.int ((16 : Int32) * (ix &&& (3 : Int32))))] [(.long ((v6.toUInt64 >>> (((16 : Int32) * (ix &&& (3 : Int32))) &&& 0x3f).toInt64.toUInt64).toInt64))])) rfl (hb hby d1_39) _ ?_
   refine XS.land X0.here hx rfl (hb hby d1_42) rfl ?_
   refine XS.l2i X0.here hx rfl (hb hby d1_43) rfl ?_
   refine XS.i2c X0.here hx rfl (hb hby d1_44) rfl ?_
   exact retN X0 hx (t := .char) Bd.returns (by simp) (hb hby d1_45) hr
  ·show QHC Z fl la lz ix h0 n0 _ s₁.heap _
   rw [e0]
   exact ⟨(nar .char (((((v6.toUInt64 >>> (((16 : Int32) * (ix &&& (3 : Int32))) &&& 0x3f).toInt64.toUInt64).toInt64) &&& (65535 : Int64)).toInt32).toUInt32.toUInt16.toUInt32.toInt32)), rfl, N0, (Keep.refl h0 []), (own_c16nar _)⟩
 ·obtain ⟨fs, hr, hrun, hended, hW, hsame⟩ := X0.leave (v := some (.int (nar .char (58 : Int32)))) (fun h => by rw [Bd.returns] at h; cases h)
  refine ⟨_, _, (pre0 _ (r1 _ ?_)), hrun, hended, _, _, rfl, ?_, ⟨_, rfl⟩, hW, hsame.mono (by decide) (by decide)⟩
  ·show Steps p.tables e below (s₁.setTop (mkF m 6 #[.val (.int fl), .val (.long la), .second, .val (.long lz), .second, .val (.int ix), .unset, .unset, .unset] [(.int (((fl.toUInt32 >>> (ix &&& 31).toUInt32).toInt32) &&& (1 : Int32)))])) _
   refine XS.ifNo X0.here hx rfl (hb hby d1_6) rfl ((if0 _ _).trans (feq hc2).1) ?_
   refine XS.bipush X0.here hx rfl (hb hby d1_9) ?_
   exact retN X0 hx (t := .char) Bd.returns (by simp) (hb hby d1_11) hr
  ·show QHC Z fl la lz ix h0 n0 _ s₁.heap _
   rw [e0]
   exact ⟨(nar .char (58 : Int32)), rfl, N0, (Keep.refl h0 []), (own_c16nar _)⟩
theorem own_pd17 : parseMethodDescriptor "(IJJI)C" = some ⟨[.int, .long, .long, .int], some .char⟩ := by decide +kernel
theorem own_pd18 : parseMethodDescriptor "([C)V" = some ⟨[(.array .char)], none⟩ := by decide +kernel
theorem own_pd19 : parseMethodDescriptor "(Ljava/lang/String;)Z" = some ⟨[(.object "java/lang/String")], some .boolean⟩ := by decide +kernel
theorem efL (m : MethodId) (le : Int32) (fl : Int32) (la : Int64) (lz : Int64) : entryFrame m #[(.int le), (.int fl), (.long la), (.long lz)] maxLocals = mkF m 0 #[.val (.int le), .val (.int fl), .val (.long la), .second, .val (.long lz), .second, .unset, .unset, .unset, .unset, .unset, .unset, .unset, .unset, .unset, .unset, .unset] [] := by first | (simp [entryFrame, mkF, argsToLocals, Value.category, maxLocals]; done) | rfl
def QL (Z : State) (le : Int32) (fl : Int32) (la : Int64) (lz : Int64) (cst : Int32) (fm : Value) (h0 : Heap) (n0 : Nat) (v : Option Value) (h : Heap) (L : List Loc) : Prop := v = some (.int 1) ∧ Fr n0 L
set_option maxRecDepth 65536 in
set_option maxHeartbeats 40000000 in
theorem rmL (l : Launch) (Z : State) (a0 : Array Value) (hw : ∀ d ∈ tables_1, d.before a0 Z = true) (ws : List Jvm.Cond) (le : Int32) (fl : Int32) (la : Int64) (lz : Int64) (cst : Int32) (fm : Value) (h0 : Heap) (n0 : Nat) (Z0 : n0 ≤ h0.size) (X00 : Old Z n0 h0) (S_COMPACT_STRINGS : Sta Z Z.heap "java/lang/String" "COMPACT_STRINGS" "Z" (.int cst)) (hcs : ¬ cst = (0 : Int32)) (S__assertionsDisabled : Sta Z Z.heap "java/lang/StringUTF16" "$assertionsDisabled" "Z" (.int (1 : Int32))) (S_HI_BYTE_SHIFT : Sta Z Z.heap "java/lang/StringUTF16" "HI_BYTE_SHIFT" "I" (.int (0 : Int32))) (S_LO_BYTE_SHIFT : Sta Z Z.heap "java/lang/StringUTF16" "LO_BYTE_SHIFT" "I" (.int (8 : Int32))) (S_SIOOBE_FORMATTER : Sta Z Z.heap "jdk/internal/util/Preconditions" "SIOOBE_FORMATTER" "Ljava/util/function/BiFunction;" fm) (hfm : own_nr fm) (hh0 : h0 = Z.heap) (hn0 : n0 = Z.heap.size) (hheld : ∀ q ∈ own_EL, Jvm.Lit.constHeld Z q.1 q.2) (hcw : Jvm.Lit.compactW.before a0 Z = true) :
  MetFree l x (head1 (Jvm.Cond.code x code maxLocals ret :: ws) room_1) (fun av_ U => av_ = #[(.int le), (.int fl), (.long la), (.long lz)] ∧ U = Z) (fun _ _ _ _ _ => True) (fun _ U o U' => ∃ v L, o = .returned v ∧ QL Z le fl la lz cst fm h0 n0 v U'.heap L ∧ ReturnedEndW U o U' L room_1.cells room_1.slots) := by
 refine MetFree.of_bodySF (plainFor_of_name own_pn5) hisR ?_
 intro p e s m args below meth c s₁ Bd hml0 hP hK
 obtain ⟨rfl, hUZ⟩ := hP
 have hZ : Z.Warmed39 s.vm := by rw [hUZ]; exact State.Warmed39.refl Z
 have hh : s.heap = h0 := by rw [hUZ, hh0]
 have hx := Bd.exec
 have hby := Bd.bytes
 have hml : c.maxLocals = 17 := hml0
 have hown : s.vm.findClass "com/example/careful_throttle/carefulthrottle/address/IpAddressMayBeIpv6PinLaw" = some m.cls := findClass_of_methodNamed Bd.named
 have hnm := (name_of_methodNamed Bd.named Bd.method).1
 have X0 : Stand p l e room_1 s m #[(.int le), (.int fl), (.long la), (.long lz)] below meth c s₁ [] 0 0 := Stand.of_body Bd
 have e0 : s₁.heap = h0 := by rw [← hh, Bd.state]; rfl
 have N0 := Fr.nil n0
 have pre0 : ∀ t, Steps p.tables e below (s₁.setTop (mkF m 0 #[.val (.int le), .val (.int fl), .val (.long la), .second, .val (.long lz), .second, .unset, .unset, .unset, .unset, .unset, .unset, .unset, .unset, .unset, .unset, .unset] [])) t → Steps p.tables e below (s₁.setTop (entryFrame m #[(.int le), (.int fl), (.long la), (.long lz)] maxLocals)) t := fun t k => castTop (efL m le fl la lz) k
 have hS0 : s.Since s.vm 0 := (State.WarmedH.refl s).since 0
 have hk0 : 0 ≤ h0.size := Nat.zero_le _
 have hSA : ∀ a ∈ Bundle.stringAtoms, a.before a0 Z = true := fun d hd => hw d ((by decide +kernel : ∀ d ∈ Bundle.stringAtoms, d ∈ tables_1) d hd)
 have Xw0 : Stand p l e room_1 (s.setVm s.vm) m #[(.int le), (.int fl), (.long la), (.long lz)] below meth c s₁ [] 0 0 := X0
 have hCH0 : CHv Z own_EL s.vm h0 := by rw [hUZ, hh0]; exact CHv.start (own_EW hw) hheld hcw (hSA _ (by simp [Bundle.stringAtoms])) (hSA _ (by simp [Bundle.stringAtoms, Bundle.sN]))
 have hELW : EW Z a0 own_EL := own_EW hw
 have ch0 : CHr Z own_EL s.vm h0 s.vm h0 := CHr.refl hCH0
 have r1 : ∀ t, Steps p.tables e below (s₁.setTop (mkF m 6 #[.val (.int le), .val (.int fl), .val (.long la), .second, .val (.long lz), .second, .val (.int (le &&& (7 : Int32))), .unset, .unset, .unset, .unset, .unset, .unset, .unset, .unset, .unset, .unset] [])) t → Steps p.tables e below (s₁.setTop (mkF m 0 #[.val (.int le), .val (.int fl), .val (.long la), .second, .val (.long lz), .second, .unset, .unset, .unset, .unset, .unset, .unset, .unset, .unset, .unset, .unset, .unset] [])) t := fun t kt => by
  refine XS.iloadN Xw0.here hx rfl (hb hby at_0) rfl ?_
  refine XS.bipush Xw0.here hx rfl (hb hby at_1) ?_
  refine XS.iand Xw0.here hx rfl (hb hby at_3) rfl ?_
  refine XS.istore Xw0.here hx rfl (hb hby at_4) rfl (l' := #[.val (.int le), .val (.int fl), .val (.long la), .second, .val (.long lz), .second, .val (.int (le &&& (7 : Int32))), .unset, .unset, .unset, .unset, .unset, .unset, .unset, .unset, .unset, .unset]) rfl ?_
  exact kt
 obtain ⟨nn, hnn⟩ : ∃ zz : Int32, zz = (le &&& (7 : Int32)) := ⟨_, rfl⟩
 have r2 : ∀ t, Steps p.tables e below (s₁.setTop (mkF m 6 #[.val (.int le), .val (.int fl), .val (.long la), .second, .val (.long lz), .second, .val (.int nn), .unset, .unset, .unset, .unset, .unset, .unset, .unset, .unset, .unset, .unset] [])) t → Steps p.tables e below (s₁.setTop (mkF m 6 #[.val (.int le), .val (.int fl), .val (.long la), .second, .val (.long lz), .second, .val (.int (le &&& (7 : Int32))), .unset, .unset, .unset, .unset, .unset, .unset, .unset, .unset, .unset, .unset] [])) t := fun t kt => by
  subst hnn
  exact kt
 have hn := hnn ▸ own_and7 le
 obtain ⟨_, _, ⟨T3, L3, k3, n3⟩, -, X3, ⟨Lc3, hQ3, l3, y3, z3⟩, st3⟩ := Jvm.LawKit.callS Xw0 hx (y := (⟨"com/example/careful_throttle/carefulthrottle/address/IpAddressMayBeIpv6PinLaw", "ch", "(IJJI)C"⟩ : MethodName)) hown (mvT hZ (Wd hw 0 rfl)) (mvT hZ (Wd hw 1 rfl)) (mvT hZ (Wd hw 2 rfl)) (mvT hZ (Wd hw 3 rfl)) (by decide) (backOf (W := 0) (rmHC l Z a0 hw [] fl la lz (0 : Int32) h0 n0 Z0 ) hZ (Wd hw 3 rfl) (Wd hw 2 rfl) (by decide) (by decide)) (g := (mkF m 11 #[.val (.int le), .val (.int fl), .val (.long la), .second, .val (.long lz), .second, .val (.int nn), .unset, .unset, .unset, .unset, .unset, .unset, .unset, .unset, .unset, .unset] [(.int (0 : Int32)), (.long lz), (.long la), (.int fl)])) rfl (by rw [hml]; rfl) (argsL := [(.int fl), (.long la), (.long lz), (.int (0 : Int32))]) (rest := []) (lenOf own_pd17 rfl) rfl (by show 2 * 0 + _ ≤ _; exact Nat.le_of_eq rfl) (hb hby at_11) (fun _ _ => ⟨rfl, e0, (by decide : 0 + 0 ≤ _), (by decide : 0 + 0 ≤ _)⟩)
 dsimp only [Pt.U, Pt.locs, Pt.cells, Pt.slots] at X3 l3 y3 z3 st3 hQ3
 subst l3 y3 z3
 obtain ⟨cv_3, rfl, Nq3, Kc3, q3_0⟩ := hQ3
 have K3 : Keep h0 T3.heap [] := Keep.trans (Keep.refl h0 []) Kc3 all0
 have Zs3 : n0 ≤ T3.heap.size := Nat.le_trans Z0 Kc3.1
 have hks3 := Nat.le_trans hk0 Kc3.1
 have ch3 := CHr.trans ch0 (CHr.keep Kc3 sf0 ch0.1)
 have hcv_3 := q3_0
 have N3 := Fr.app N0 Nq3
 obtain ⟨_, _, ⟨T4, L4, k4, n4⟩, -, X4, ⟨Lc4, hQ4, l4, y4, z4⟩, st4⟩ := Jvm.LawKit.callS X3 hx (y := (⟨"com/example/careful_throttle/carefulthrottle/address/IpAddressMayBeIpv6PinLaw", "ch", "(IJJI)C"⟩ : MethodName)) hown (mvT hZ (Wd hw 0 rfl)) (mvT hZ (Wd hw 1 rfl)) (mvT hZ (Wd hw 2 rfl)) (mvT hZ (Wd hw 3 rfl)) (by decide) (backOf (W := 0) (rmHC l Z a0 hw [] fl la lz (1 : Int32) T3.heap n0 Zs3 ) hZ (Wd hw 3 rfl) (Wd hw 2 rfl) (by decide) (by decide)) (g := (mkF m 21 #[.val (.int le), .val (.int fl), .val (.long la), .second, .val (.long lz), .second, .val (.int nn), .val (.int cv_3), .unset, .unset, .unset, .unset, .unset, .unset, .unset, .unset, .unset] [(.int (1 : Int32)), (.long lz), (.long la), (.int fl)])) rfl (by rw [hml]; rfl) (argsL := [(.int fl), (.long la), (.long lz), (.int (1 : Int32))]) (rest := []) (lenOf own_pd17 rfl) rfl (by show 2 * 0 + _ ≤ _; exact Nat.le_of_eq rfl) (hb hby at_21) (fun _ _ => ⟨rfl, rfl, (by decide : 0 + 0 ≤ _), (by decide : 0 + 0 ≤ _)⟩)
 dsimp only [Pt.U, Pt.locs, Pt.cells, Pt.slots] at X4 l4 y4 z4 st4 hQ4
 subst l4 y4 z4
 obtain ⟨cv_4, rfl, Nq4, Kc4, q4_0⟩ := hQ4
 have K4 : Keep h0 T4.heap [] := Keep.trans K3 Kc4 all0
 have Zs4 : n0 ≤ T4.heap.size := Nat.le_trans Zs3 Kc4.1
 have hks4 := Nat.le_trans hks3 Kc4.1
 have ch4 := CHr.trans ch3 (CHr.keep Kc4 sf0 ch3.1)
 have hcv_4 := q4_0
 have N4 := Fr.app N3 Nq4
 obtain ⟨_, _, ⟨T5, L5, k5, n5⟩, -, X5, ⟨Lc5, hQ5, l5, y5, z5⟩, st5⟩ := Jvm.LawKit.callS X4 hx (y := (⟨"com/example/careful_throttle/carefulthrottle/address/IpAddressMayBeIpv6PinLaw", "ch", "(IJJI)C"⟩ : MethodName)) hown (mvT hZ (Wd hw 0 rfl)) (mvT hZ (Wd hw 1 rfl)) (mvT hZ (Wd hw 2 rfl)) (mvT hZ (Wd hw 3 rfl)) (by decide) (backOf (W := 0) (rmHC l Z a0 hw [] fl la lz (2 : Int32) T4.heap n0 Zs4 ) hZ (Wd hw 3 rfl) (Wd hw 2 rfl) (by decide) (by decide)) (g := (mkF m 31 #[.val (.int le), .val (.int fl), .val (.long la), .second, .val (.long lz), .second, .val (.int nn), .val (.int cv_3), .val (.int cv_4), .unset, .unset, .unset, .unset, .unset, .unset, .unset, .unset] [(.int (2 : Int32)), (.long lz), (.long la), (.int fl)])) rfl (by rw [hml]; rfl) (argsL := [(.int fl), (.long la), (.long lz), (.int (2 : Int32))]) (rest := []) (lenOf own_pd17 rfl) rfl (by show 2 * 0 + _ ≤ _; exact Nat.le_of_eq rfl) (hb hby at_31) (fun _ _ => ⟨rfl, rfl, (by decide : 0 + 0 ≤ _), (by decide : 0 + 0 ≤ _)⟩)
 dsimp only [Pt.U, Pt.locs, Pt.cells, Pt.slots] at X5 l5 y5 z5 st5 hQ5
 subst l5 y5 z5
 obtain ⟨cv_5, rfl, Nq5, Kc5, q5_0⟩ := hQ5
 have K5 : Keep h0 T5.heap [] := Keep.trans K4 Kc5 all0
 have Zs5 : n0 ≤ T5.heap.size := Nat.le_trans Zs4 Kc5.1
 have hks5 := Nat.le_trans hks4 Kc5.1
 have ch5 := CHr.trans ch4 (CHr.keep Kc5 sf0 ch4.1)
 have hcv_5 := q5_0
 have N5 := Fr.app N4 Nq5
 obtain ⟨_, _, ⟨T6, L6, k6, n6⟩, -, X6, ⟨Lc6, hQ6, l6, y6, z6⟩, st6⟩ := Jvm.LawKit.callS X5 hx (y := (⟨"com/example/careful_throttle/carefulthrottle/address/IpAddressMayBeIpv6PinLaw", "ch", "(IJJI)C"⟩ : MethodName)) hown (mvT hZ (Wd hw 0 rfl)) (mvT hZ (Wd hw 1 rfl)) (mvT hZ (Wd hw 2 rfl)) (mvT hZ (Wd hw 3 rfl)) (by decide) (backOf (W := 0) (rmHC l Z a0 hw [] fl la lz (3 : Int32) T5.heap n0 Zs5 ) hZ (Wd hw 3 rfl) (Wd hw 2 rfl) (by decide) (by decide)) (g := (mkF m 41 #[.val (.int le), .val (.int fl), .val (.long la), .second, .val (.long lz), .second, .val (.int nn), .val (.int cv_3), .val (.int cv_4), .val (.int cv_5), .unset, .unset, .unset, .unset, .unset, .unset, .unset] [(.int (3 : Int32)), (.long lz), (.long la), (.int fl)])) rfl (by rw [hml]; rfl) (argsL := [(.int fl), (.long la), (.long lz), (.int (3 : Int32))]) (rest := []) (lenOf own_pd17 rfl) rfl (by show 2 * 0 + _ ≤ _; exact Nat.le_of_eq rfl) (hb hby at_41) (fun _ _ => ⟨rfl, rfl, (by decide : 0 + 0 ≤ _), (by decide : 0 + 0 ≤ _)⟩)
 dsimp only [Pt.U, Pt.locs, Pt.cells, Pt.slots] at X6 l6 y6 z6 st6 hQ6
 subst l6 y6 z6
 obtain ⟨cv_6, rfl, Nq6, Kc6, q6_0⟩ := hQ6
 have K6 : Keep h0 T6.heap [] := Keep.trans K5 Kc6 all0
 have Zs6 : n0 ≤ T6.heap.size := Nat.le_trans Zs5 Kc6.1
 have hks6 := Nat.le_trans hks5 Kc6.1
 have ch6 := CHr.trans ch5 (CHr.keep Kc6 sf0 ch5.1)
 have hcv_6 := q6_0
 have N6 := Fr.app N5 Nq6
 obtain ⟨_, _, ⟨T7, L7, k7, n7⟩, -, X7, ⟨Lc7, hQ7, l7, y7, z7⟩, st7⟩ := Jvm.LawKit.callS X6 hx (y := (⟨"com/example/careful_throttle/carefulthrottle/address/IpAddressMayBeIpv6PinLaw", "ch", "(IJJI)C"⟩ : MethodName)) hown (mvT hZ (Wd hw 0 rfl)) (mvT hZ (Wd hw 1 rfl)) (mvT hZ (Wd hw 2 rfl)) (mvT hZ (Wd hw 3 rfl)) (by decide) (backOf (W := 0) (rmHC l Z a0 hw [] fl la lz (4 : Int32) T6.heap n0 Zs6 ) hZ (Wd hw 3 rfl) (Wd hw 2 rfl) (by decide) (by decide)) (g := (mkF m 51 #[.val (.int le), .val (.int fl), .val (.long la), .second, .val (.long lz), .second, .val (.int nn), .val (.int cv_3), .val (.int cv_4), .val (.int cv_5), .val (.int cv_6), .unset, .unset, .unset, .unset, .unset, .unset] [(.int (4 : Int32)), (.long lz), (.long la), (.int fl)])) rfl (by rw [hml]; rfl) (argsL := [(.int fl), (.long la), (.long lz), (.int (4 : Int32))]) (rest := []) (lenOf own_pd17 rfl) rfl (by show 2 * 0 + _ ≤ _; exact Nat.le_of_eq rfl) (hb hby at_51) (fun _ _ => ⟨rfl, rfl, (by decide : 0 + 0 ≤ _), (by decide : 0 + 0 ≤ _)⟩)
 dsimp only [Pt.U, Pt.locs, Pt.cells, Pt.slots] at X7 l7 y7 z7 st7 hQ7
 subst l7 y7 z7
 obtain ⟨cv_7, rfl, Nq7, Kc7, q7_0⟩ := hQ7
 have K7 : Keep h0 T7.heap [] := Keep.trans K6 Kc7 all0
 have Zs7 : n0 ≤ T7.heap.size := Nat.le_trans Zs6 Kc7.1
 have hks7 := Nat.le_trans hks6 Kc7.1
 have ch7 := CHr.trans ch6 (CHr.keep Kc7 sf0 ch6.1)
 have hcv_7 := q7_0
 have N7 := Fr.app N6 Nq7
 obtain ⟨_, _, ⟨T8, L8, k8, n8⟩, -, X8, ⟨Lc8, hQ8, l8, y8, z8⟩, st8⟩ := Jvm.LawKit.callS X7 hx (y := (⟨"com/example/careful_throttle/carefulthrottle/address/IpAddressMayBeIpv6PinLaw", "ch", "(IJJI)C"⟩ : MethodName)) hown (mvT hZ (Wd hw 0 rfl)) (mvT hZ (Wd hw 1 rfl)) (mvT hZ (Wd hw 2 rfl)) (mvT hZ (Wd hw 3 rfl)) (by decide) (backOf (W := 0) (rmHC l Z a0 hw [] fl la lz (5 : Int32) T7.heap n0 Zs7 ) hZ (Wd hw 3 rfl) (Wd hw 2 rfl) (by decide) (by decide)) (g := (mkF m 61 #[.val (.int le), .val (.int fl), .val (.long la), .second, .val (.long lz), .second, .val (.int nn), .val (.int cv_3), .val (.int cv_4), .val (.int cv_5), .val (.int cv_6), .val (.int cv_7), .unset, .unset, .unset, .unset, .unset] [(.int (5 : Int32)), (.long lz), (.long la), (.int fl)])) rfl (by rw [hml]; rfl) (argsL := [(.int fl), (.long la), (.long lz), (.int (5 : Int32))]) (rest := []) (lenOf own_pd17 rfl) rfl (by show 2 * 0 + _ ≤ _; exact Nat.le_of_eq rfl) (hb hby at_61) (fun _ _ => ⟨rfl, rfl, (by decide : 0 + 0 ≤ _), (by decide : 0 + 0 ≤ _)⟩)
 dsimp only [Pt.U, Pt.locs, Pt.cells, Pt.slots] at X8 l8 y8 z8 st8 hQ8
 subst l8 y8 z8
 obtain ⟨cv_8, rfl, Nq8, Kc8, q8_0⟩ := hQ8
 have K8 : Keep h0 T8.heap [] := Keep.trans K7 Kc8 all0
 have Zs8 : n0 ≤ T8.heap.size := Nat.le_trans Zs7 Kc8.1
 have hks8 := Nat.le_trans hks7 Kc8.1
 have ch8 := CHr.trans ch7 (CHr.keep Kc8 sf0 ch7.1)
 have hcv_8 := q8_0
 have N8 := Fr.app N7 Nq8
 obtain ⟨_, _, ⟨T9, L9, k9, n9⟩, -, X9, ⟨Lc9, hQ9, l9, y9, z9⟩, st9⟩ := Jvm.LawKit.callS X8 hx (y := (⟨"com/example/careful_throttle/carefulthrottle/address/IpAddressMayBeIpv6PinLaw", "ch", "(IJJI)C"⟩ : MethodName)) hown (mvT hZ (Wd hw 0 rfl)) (mvT hZ (Wd hw 1 rfl)) (mvT hZ (Wd hw 2 rfl)) (mvT hZ (Wd hw 3 rfl)) (by decide) (backOf (W := 0) (rmHC l Z a0 hw [] fl la lz (6 : Int32) T8.heap n0 Zs8 ) hZ (Wd hw 3 rfl) (Wd hw 2 rfl) (by decide) (by decide)) (g := (mkF m 72 #[.val (.int le), .val (.int fl), .val (.long la), .second, .val (.long lz), .second, .val (.int nn), .val (.int cv_3), .val (.int cv_4), .val (.int cv_5), .val (.int cv_6), .val (.int cv_7), .val (.int cv_8), .unset, .unset, .unset, .unset] [(.int (6 : Int32)), (.long lz), (.long la), (.int fl)])) rfl (by rw [hml]; rfl) (argsL := [(.int fl), (.long la), (.long lz), (.int (6 : Int32))]) (rest := []) (lenOf own_pd17 rfl) rfl (by show 2 * 0 + _ ≤ _; exact Nat.le_of_eq rfl) (hb hby at_72) (fun _ _ => ⟨rfl, rfl, (by decide : 0 + 0 ≤ _), (by decide : 0 + 0 ≤ _)⟩)
 dsimp only [Pt.U, Pt.locs, Pt.cells, Pt.slots] at X9 l9 y9 z9 st9 hQ9
 subst l9 y9 z9
 obtain ⟨cv_9, rfl, Nq9, Kc9, q9_0⟩ := hQ9
 have K9 : Keep h0 T9.heap [] := Keep.trans K8 Kc9 all0
 have Zs9 : n0 ≤ T9.heap.size := Nat.le_trans Zs8 Kc9.1
 have hks9 := Nat.le_trans hks8 Kc9.1
 have ch9 := CHr.trans ch8 (CHr.keep Kc9 sf0 ch8.1)
 have hcv_9 := q9_0
 have N9 := Fr.app N8 Nq9
 obtain ⟨T10, h10, k10, X10, e10, E10, A10, st10⟩ := newP X9 hx hZ (Wd hw 5 rfl) rfl (g := (mkF m 79 #[.val (.int le), .val (.int fl), .val (.long la), .second, .val (.long lz), .second, .val (.int nn), .val (.int cv_3), .val (.int cv_4), .val (.int cv_5), .val (.int cv_6), .val (.int cv_7), .val (.int cv_8), .val (.int cv_9), .unset, .unset, .unset] [(.int nn)])) rfl (hb hby at_79) rfl (own_neg7 hn).1 (cap := 7) (own_neg7 hn).2 (by decide) (by decide) (by decide)
 obtain ⟨b10, g10⟩ : ∃ z, z = T9.heap.size := ⟨_, rfl⟩
 rw [← g10] at A10 st10
 have g_b10 : n0 ≤ b10 := Nat.le_trans Zs9 (Nat.le_of_eq g10.symm)
 have sz_b10 : h0.size ≤ b10 := Nat.le_trans K9.1 (Nat.le_of_eq g10.symm)
 have K10 : Keep h0 h10 [] := K9.ext E10
 have Zs10 : n0 ≤ h10.size := Nat.le_trans Zs9 E10.1
 have hks10 := Nat.le_trans hks9 E10.1
 have ch10 := CHr.trans ch9 (CHr.ext E10 ch9.1)
 have V10 : Arv Z h10 b10 k10 .char nn [(.int (0 : Int32)), (.int (0 : Int32)), (.int (0 : Int32)), (.int (0 : Int32)), (.int (0 : Int32)), (.int (0 : Int32)), (.int (0 : Int32))] (.int (0 : Int32)) := (Arv.new A10 (own_neg7 hn).1).pad (pad_rep [] (.int (0 : Int32)) 7)
 have r11 : ∀ t, Steps p.tables e below (T10.setTop (mkF m 85 #[.val (.int le), .val (.int fl), .val (.long la), .second, .val (.long lz), .second, .val (.int nn), .val (.int cv_3), .val (.int cv_4), .val (.int cv_5), .val (.int cv_6), .val (.int cv_7), .val (.int cv_8), .val (.int cv_9), .val (.ref b10), .unset, .unset] [(.int nn)])) t → Steps p.tables e below (s₁.setTop (mkF m 6 #[.val (.int le), .val (.int fl), .val (.long la), .second, .val (.long lz), .second, .val (.int nn), .unset, .unset, .unset, .unset, .unset, .unset, .unset, .unset, .unset, .unset] [])) t := fun t kt => by
  refine XS.iloadN Xw0.here hx rfl (hb hby at_6) rfl ?_
  refine XS.lloadN Xw0.here hx rfl (hb hby at_7) rfl ?_
  refine XS.lload Xw0.here hx rfl (hb hby at_8) rfl ?_
  refine XS.iconst Xw0.here hx rfl (hb hby at_10) ?_
  refine st3 _ ?_
  refine XS.istore X3.here hx rfl (hb hby at_14) rfl (l' := #[.val (.int le), .val (.int fl), .val (.long la), .second, .val (.long lz), .second, .val (.int nn), .val (.int cv_3), .unset, .unset, .unset, .unset, .unset, .unset, .unset, .unset, .unset]) rfl ?_
  refine XS.iloadN X3.here hx rfl (hb hby at_16) rfl ?_
  refine XS.lloadN X3.here hx rfl (hb hby at_17) rfl ?_
  refine XS.lload X3.here hx rfl (hb hby at_18) rfl ?_
  refine XS.iconst X3.here hx rfl (hb hby at_20) ?_
  refine st4 _ ?_
  refine XS.istore X4.here hx rfl (hb hby at_24) rfl (l' := #[.val (.int le), .val (.int fl), .val (.long la), .second, .val (.long lz), .second, .val (.int nn), .val (.int cv_3), .val (.int cv_4), .unset, .unset, .unset, .unset, .unset, .unset, .unset, .unset]) rfl ?_
  refine XS.iloadN X4.here hx rfl (hb hby at_26) rfl ?_
  refine XS.lloadN X4.here hx rfl (hb hby at_27) rfl ?_
  refine XS.lload X4.here hx rfl (hb hby at_28) rfl ?_
  refine XS.iconst X4.here hx rfl (hb hby at_30) ?_
  refine st5 _ ?_
  refine XS.istore X5.here hx rfl (hb hby at_34) rfl (l' := #[.val (.int le), .val (.int fl), .val (.long la), .second, .val (.long lz), .second, .val (.int nn), .val (.int cv_3), .val (.int cv_4), .val (.int cv_5), .unset, .unset, .unset, .unset, .unset, .unset, .unset]) rfl ?_
  refine XS.iloadN X5.here hx rfl (hb hby at_36) rfl ?_
  refine XS.lloadN X5.here hx rfl (hb hby at_37) rfl ?_
  refine XS.lload X5.here hx rfl (hb hby at_38) rfl ?_
  refine XS.iconst X5.here hx rfl (hb hby at_40) ?_
  refine st6 _ ?_
  refine XS.istore X6.here hx rfl (hb hby at_44) rfl (l' := #[.val (.int le), .val (.int fl), .val (.long la), .second, .val (.long lz), .second, .val (.int nn), .val (.int cv_3), .val (.int cv_4), .val (.int cv_5), .val (.int cv_6), .unset, .unset, .unset, .unset, .unset, .unset]) rfl ?_
  refine XS.iloadN X6.here hx rfl (hb hby at_46) rfl ?_
  refine XS.lloadN X6.here hx rfl (hb hby at_47) rfl ?_
  refine XS.lload X6.here hx rfl (hb hby at_48) rfl ?_
  refine XS.iconst X6.here hx rfl (hb hby at_50) ?_
  refine st7 _ ?_
  refine XS.istore X7.here hx rfl (hb hby at_54) rfl (l' := #[.val (.int le), .val (.int fl), .val (.long la), .second, .val (.long lz), .second, .val (.int nn), .val (.int cv_3), .val (.int cv_4), .val (.int cv_5), .val (.int cv_6), .val (.int cv_7), .unset, .unset, .unset, .unset, .unset]) rfl ?_
  refine XS.iloadN X7.here hx rfl (hb hby at_56) rfl ?_
  refine XS.lloadN X7.here hx rfl (hb hby at_57) rfl ?_
  refine XS.lload X7.here hx rfl (hb hby at_58) rfl ?_
  refine XS.iconst X7.here hx rfl (hb hby at_60) ?_
  refine st8 _ ?_
  refine XS.istore X8.here hx rfl (hb hby at_64) rfl (l' := #[.val (.int le), .val (.int fl), .val (.long la), .second, .val (.long lz), .second, .val (.int nn), .val (.int cv_3), .val (.int cv_4), .val (.int cv_5), .val (.int cv_6), .val (.int cv_7), .val (.int cv_8), .unset, .unset, .unset, .unset]) rfl ?_
  refine XS.iloadN X8.here hx rfl (hb hby at_66) rfl ?_
  refine XS.lloadN X8.here hx rfl (hb hby at_67) rfl ?_
  refine XS.lload X8.here hx rfl (hb hby at_68) rfl ?_
  refine XS.bipush X8.here hx rfl (hb hby at_70) ?_
  refine st9 _ ?_
  refine XS.istore X9.here hx rfl (hb hby at_75) rfl (l' := #[.val (.int le), .val (.int fl), .val (.long la), .second, .val (.long lz), .second, .val (.int nn), .val (.int cv_3), .val (.int cv_4), .val (.int cv_5), .val (.int cv_6), .val (.int cv_7), .val (.int cv_8), .val (.int cv_9), .unset, .unset, .unset]) rfl ?_
  refine XS.iload X9.here hx rfl (hb hby at_77) rfl ?_
  refine st10 _ ?_
  refine XS.astore X10.here hx rfl (hb hby at_81) rfl rfl (l' := #[.val (.int le), .val (.int fl), .val (.long la), .second, .val (.long lz), .second, .val (.int nn), .val (.int cv_3), .val (.int cv_4), .val (.int cv_5), .val (.int cv_6), .val (.int cv_7), .val (.int cv_8), .val (.int cv_9), .val (.ref b10), .unset, .unset]) rfl ?_
  refine XS.iload X10.here hx rfl (hb hby at_83) rfl ?_
  exact kt
 obtain ⟨T12, h12, L12, X12, e12, Kc12, j12_0, N12, r12⟩ : ∃ (T' : State) (h' : Heap) (L' : List Loc), Stand p l e room_1 s m #[(.int le), (.int fl), (.long la), (.long lz)] below meth c T' L' 1 7 ∧ T'.heap = h' ∧ Keep h10 h' [b10] ∧ Arv Z h' b10 k10 .char nn [(.int cv_3), (.int (0 : Int32)), (.int (0 : Int32)), (.int (0 : Int32)), (.int (0 : Int32)), (.int (0 : Int32)), (.int (0 : Int32))] (.int (0 : Int32)) ∧ Fr n0 L' ∧ ∀ t, Steps p.tables e below (T'.setTop (mkF m 94 #[.val (.int le), .val (.int fl), .val (.long la), .second, .val (.long lz), .second, .val (.int nn), .val (.int cv_3), .val (.int cv_4), .val (.int cv_5), .val (.int cv_6), .val (.int cv_7), .val (.int cv_8), .val (.int cv_9), .val (.ref b10), .unset, .unset] [])) t → Steps p.tables e below (T10.setTop (mkF m 85 #[.val (.int le), .val (.int fl), .val (.long la), .second, .val (.long lz), .second, .val (.int nn), .val (.int cv_3), .val (.int cv_4), .val (.int cv_5), .val (.int cv_6), .val (.int cv_7), .val (.int cv_8), .val (.int cv_9), .val (.ref b10), .unset, .unset] [(.int nn)])) t := by
  by_cases hc13 : (0 : Int32) < nn
  ·obtain ⟨cl14, Ar14, q14, S14, M14, Hs14, G14⟩ := (id V10)
   have hin14 : ¬ ((0 : Int32) < 0 ∨ cl14.slots.size ≤ ((0 : Int32)).toNatClampNeg) := inb_of S14 ⟨by decide, hc13⟩
   obtain ⟨T15, h15, X15, e15, W15, st15⟩ := stC X10 hx hZ e10 Ar14 (j := (0 : Int32)) hin14 (g := (mkF m 93 #[.val (.int le), .val (.int fl), .val (.long la), .second, .val (.long lz), .second, .val (.int nn), .val (.int cv_3), .val (.int cv_4), .val (.int cv_5), .val (.int cv_6), .val (.int cv_7), .val (.int cv_8), .val (.int cv_9), .val (.ref b10), .unset, .unset] [(.int cv_3), (.int (0 : Int32)), (.ref b10)])) rfl rfl (hb hby at_93)
   have V15 : Arv Z h15 b10 k10 .char nn [(.int (nar .char cv_3)), (.int (0 : Int32)), (.int (0 : Int32)), (.int (0 : Int32)), (.int (0 : Int32)), (.int (0 : Int32)), (.int (0 : Int32))] (.int (0 : Int32)) := Arv.set Ar14 q14 S14 M14 Hs14 G14 (fits_nar_char _) W15 0 rfl (Nat.le_of_ble_eq_true rfl)
   have K15 : Keep h10 h15 [b10] := (Keep.refl h10 [b10]).wr W15 (Or.inl (List.mem_of_getElem? (i := 0) rfl))
   have Zs15 : n0 ≤ h15.size := Nat.le_trans Zs10 (Keep.of_wr W15).1
   have hks15 := Nat.le_trans hks10 (Keep.of_wr W15).1
   have sw15 := (Safe.arv (EL := own_EL) hZ.alike V10 (by decide))
   have ch15 := CHr.trans ch10 (CHr.wr W15 sw15 ch10.1)
   have N15 := Fr.snoc X15 N9 g_b10
   have r16 : ∀ t, Steps p.tables e below (T15.setTop (mkF m 94 #[.val (.int le), .val (.int fl), .val (.long la), .second, .val (.long lz), .second, .val (.int nn), .val (.int cv_3), .val (.int cv_4), .val (.int cv_5), .val (.int cv_6), .val (.int cv_7), .val (.int cv_8), .val (.int cv_9), .val (.ref b10), .unset, .unset] [])) t → Steps p.tables e below (T10.setTop (mkF m 85 #[.val (.int le), .val (.int fl), .val (.long la), .second, .val (.long lz), .second, .val (.int nn), .val (.int cv_3), .val (.int cv_4), .val (.int cv_5), .val (.int cv_6), .val (.int cv_7), .val (.int cv_8), .val (.int cv_9), .val (.ref b10), .unset, .unset] [(.int nn)])) t := fun t kt => by
    refine XS.ifNo X10.here hx rfl (hb hby at_85) rfl ((if0 _ _).trans (tlt hc13).2.2.2) ?_
    refine XS.aload X10.here hx rfl (hb hby at_88) rfl rfl ?_
    refine XS.iconst X10.here hx rfl (hb hby at_90) ?_
    refine XS.iload X10.here hx rfl (hb hby at_91) rfl ?_
    refine st15 _ ?_
    exact kt
   exact ⟨_, _, _, X15, e15, K15, (by have q := V15; rw [own_narid hcv_3] at q; exact q), N15, fun t kt => (r16 _ kt)⟩
  ·have r17 : ∀ t, Steps p.tables e below (T10.setTop (mkF m 94 #[.val (.int le), .val (.int fl), .val (.long la), .second, .val (.long lz), .second, .val (.int nn), .val (.int cv_3), .val (.int cv_4), .val (.int cv_5), .val (.int cv_6), .val (.int cv_7), .val (.int cv_8), .val (.int cv_9), .val (.ref b10), .unset, .unset] [])) t → Steps p.tables e below (T10.setTop (mkF m 85 #[.val (.int le), .val (.int fl), .val (.long la), .second, .val (.long lz), .second, .val (.int nn), .val (.int cv_3), .val (.int cv_4), .val (.int cv_5), .val (.int cv_6), .val (.int cv_7), .val (.int cv_8), .val (.int cv_9), .val (.ref b10), .unset, .unset] [(.int nn)])) t := fun t kt => by
    refine XS.ifYes X10.here hx rfl (pc0 := 85) (pc' := 94) rfl (hb hby at_85) rfl ((if0 _ _).trans (flt hc13).2.2.2) (by decide) (by decide) ?_
    exact kt
   exact ⟨_, _, _, X10, e10, (Keep.refl h10 [b10]), (own_irr V10 (fun i hi => by have q : i < 0 := Nat.lt_of_lt_of_le hi (own_short hc13 (by decide)); exact absurd q (Nat.not_lt_zero _))), N9, fun t kt => (r17 _ kt)⟩
 have K12 : Keep h0 h12 [] := Keep.trans K10 Kc12 (allS (Or.inr sz_b10) all0)
 have Zs12 : n0 ≤ h12.size := Nat.le_trans Zs10 Kc12.1
 have hks12 := Nat.le_trans hks10 Kc12.1
 have ch12 := CHr.trans ch10 (CHr.keep Kc12 (sfS (Safe.arv (EL := own_EL) hZ.alike V10 (by decide)) sf0) ch10.1)
 have r18 : ∀ t, Steps p.tables e below (T12.setTop (mkF m 97 #[.val (.int le), .val (.int fl), .val (.long la), .second, .val (.long lz), .second, .val (.int nn), .val (.int cv_3), .val (.int cv_4), .val (.int cv_5), .val (.int cv_6), .val (.int cv_7), .val (.int cv_8), .val (.int cv_9), .val (.ref b10), .unset, .unset] [(.int (1 : Int32)), (.int nn)])) t → Steps p.tables e below (T12.setTop (mkF m 94 #[.val (.int le), .val (.int fl), .val (.long la), .second, .val (.long lz), .second, .val (.int nn), .val (.int cv_3), .val (.int cv_4), .val (.int cv_5), .val (.int cv_6), .val (.int cv_7), .val (.int cv_8), .val (.int cv_9), .val (.ref b10), .unset, .unset] [])) t := fun t kt => by
  refine XS.iload X12.here hx rfl (hb hby at_94) rfl ?_
  refine XS.iconst X12.here hx rfl (hb hby at_96) ?_
  exact kt
 obtain ⟨T19, h19, L19, X19, e19, Kc19, j19_0, N19, r19⟩ : ∃ (T' : State) (h' : Heap) (L' : List Loc), Stand p l e room_1 s m #[(.int le), (.int fl), (.long la), (.long lz)] below meth c T' L' 1 7 ∧ T'.heap = h' ∧ Keep h12 h' [b10] ∧ Arv Z h' b10 k10 .char nn [(.int cv_3), (.int cv_4), (.int (0 : Int32)), (.int (0 : Int32)), (.int (0 : Int32)), (.int (0 : Int32)), (.int (0 : Int32))] (.int (0 : Int32)) ∧ Fr n0 L' ∧ ∀ t, Steps p.tables e below (T'.setTop (mkF m 106 #[.val (.int le), .val (.int fl), .val (.long la), .second, .val (.long lz), .second, .val (.int nn), .val (.int cv_3), .val (.int cv_4), .val (.int cv_5), .val (.int cv_6), .val (.int cv_7), .val (.int cv_8), .val (.int cv_9), .val (.ref b10), .unset, .unset] [])) t → Steps p.tables e below (T12.setTop (mkF m 97 #[.val (.int le), .val (.int fl), .val (.long la), .second, .val (.long lz), .second, .val (.int nn), .val (.int cv_3), .val (.int cv_4), .val (.int cv_5), .val (.int cv_6), .val (.int cv_7), .val (.int cv_8), .val (.int cv_9), .val (.ref b10), .unset, .unset] [(.int (1 : Int32)), (.int nn)])) t := by
  by_cases hc20 : (1 : Int32) < nn
  ·obtain ⟨cl21, Ar21, q21, S21, M21, Hs21, G21⟩ := (id j12_0)
   have hin21 : ¬ ((1 : Int32) < 0 ∨ cl21.slots.size ≤ ((1 : Int32)).toNatClampNeg) := inb_of S21 ⟨by decide, hc20⟩
   obtain ⟨T22, h22, X22, e22, W22, st22⟩ := stC X12 hx hZ e12 Ar21 (j := (1 : Int32)) hin21 (g := (mkF m 105 #[.val (.int le), .val (.int fl), .val (.long la), .second, .val (.long lz), .second, .val (.int nn), .val (.int cv_3), .val (.int cv_4), .val (.int cv_5), .val (.int cv_6), .val (.int cv_7), .val (.int cv_8), .val (.int cv_9), .val (.ref b10), .unset, .unset] [(.int cv_4), (.int (1 : Int32)), (.ref b10)])) rfl rfl (hb hby at_105)
   have V22 : Arv Z h22 b10 k10 .char nn [(.int cv_3), (.int (nar .char cv_4)), (.int (0 : Int32)), (.int (0 : Int32)), (.int (0 : Int32)), (.int (0 : Int32)), (.int (0 : Int32))] (.int (0 : Int32)) := Arv.set Ar21 q21 S21 M21 Hs21 G21 (fits_nar_char _) W22 1 rfl (Nat.le_of_ble_eq_true rfl)
   have K22 : Keep h12 h22 [b10] := (Keep.refl h12 [b10]).wr W22 (Or.inl (List.mem_of_getElem? (i := 0) rfl))
   have Zs22 : n0 ≤ h22.size := Nat.le_trans Zs12 (Keep.of_wr W22).1
   have hks22 := Nat.le_trans hks12 (Keep.of_wr W22).1
   have sw22 := (Safe.arv (EL := own_EL) hZ.alike j12_0 (by decide))
   have ch22 := CHr.trans ch12 (CHr.wr W22 sw22 ch12.1)
   have N22 := Fr.snoc X22 N12 g_b10
   have r23 : ∀ t, Steps p.tables e below (T22.setTop (mkF m 106 #[.val (.int le), .val (.int fl), .val (.long la), .second, .val (.long lz), .second, .val (.int nn), .val (.int cv_3), .val (.int cv_4), .val (.int cv_5), .val (.int cv_6), .val (.int cv_7), .val (.int cv_8), .val (.int cv_9), .val (.ref b10), .unset, .unset] [])) t → Steps p.tables e below (T12.setTop (mkF m 97 #[.val (.int le), .val (.int fl), .val (.long la), .second, .val (.long lz), .second, .val (.int nn), .val (.int cv_3), .val (.int cv_4), .val (.int cv_5), .val (.int cv_6), .val (.int cv_7), .val (.int cv_8), .val (.int cv_9), .val (.ref b10), .unset, .unset] [(.int (1 : Int32)), (.int nn)])) t := fun t kt => by
    refine XS.icmpNo X12.here hx rfl (hb hby at_97) rfl (tlt hc20).2.2.2 ?_
    refine XS.aload X12.here hx rfl (hb hby at_100) rfl rfl ?_
    refine XS.iconst X12.here hx rfl (hb hby at_102) ?_
    refine XS.iload X12.here hx rfl (hb hby at_103) rfl ?_
    refine st22 _ ?_
    exact kt
   exact ⟨_, _, _, X22, e22, K22, (by have q := V22; rw [own_narid hcv_4] at q; exact q), N22, fun t kt => (r23 _ kt)⟩
  ·have r24 : ∀ t, Steps p.tables e below (T12.setTop (mkF m 106 #[.val (.int le), .val (.int fl), .val (.long la), .second, .val (.long lz), .second, .val (.int nn), .val (.int cv_3), .val (.int cv_4), .val (.int cv_5), .val (.int cv_6), .val (.int cv_7), .val (.int cv_8), .val (.int cv_9), .val (.ref b10), .unset, .unset] [])) t → Steps p.tables e below (T12.setTop (mkF m 97 #[.val (.int le), .val (.int fl), .val (.long la), .second, .val (.long lz), .second, .val (.int nn), .val (.int cv_3), .val (.int cv_4), .val (.int cv_5), .val (.int cv_6), .val (.int cv_7), .val (.int cv_8), .val (.int cv_9), .val (.ref b10), .unset, .unset] [(.int (1 : Int32)), (.int nn)])) t := fun t kt => by
    refine XS.icmpYes X12.here hx rfl (pc0 := 97) (pc' := 106) rfl (hb hby at_97) rfl (flt hc20).2.2.2 (by decide) (by decide) ?_
    exact kt
   exact ⟨_, _, _, X12, e12, (Keep.refl h12 [b10]), (own_irr j12_0 (fun i hi => by have q : i < 1 := Nat.lt_of_lt_of_le hi (own_short hc20 (by decide)); match i, q with | 0, _ => rfl)), N12, fun t kt => (r24 _ kt)⟩
 have K19 : Keep h0 h19 [] := Keep.trans K12 Kc19 (allS (Or.inr sz_b10) all0)
 have Zs19 : n0 ≤ h19.size := Nat.le_trans Zs12 Kc19.1
 have hks19 := Nat.le_trans hks12 Kc19.1
 have ch19 := CHr.trans ch12 (CHr.keep Kc19 (sfS (Safe.arv (EL := own_EL) hZ.alike j12_0 (by decide)) sf0) ch12.1)
 have r25 : ∀ t, Steps p.tables e below (T19.setTop (mkF m 109 #[.val (.int le), .val (.int fl), .val (.long la), .second, .val (.long lz), .second, .val (.int nn), .val (.int cv_3), .val (.int cv_4), .val (.int cv_5), .val (.int cv_6), .val (.int cv_7), .val (.int cv_8), .val (.int cv_9), .val (.ref b10), .unset, .unset] [(.int (2 : Int32)), (.int nn)])) t → Steps p.tables e below (T19.setTop (mkF m 106 #[.val (.int le), .val (.int fl), .val (.long la), .second, .val (.long lz), .second, .val (.int nn), .val (.int cv_3), .val (.int cv_4), .val (.int cv_5), .val (.int cv_6), .val (.int cv_7), .val (.int cv_8), .val (.int cv_9), .val (.ref b10), .unset, .unset] [])) t := fun t kt => by
  refine XS.iload X19.here hx rfl (hb hby at_106) rfl ?_
  refine XS.iconst X19.here hx rfl (hb hby at_108) ?_
  exact kt
 obtain ⟨T26, h26, L26, X26, e26, Kc26, j26_0, N26, r26⟩ : ∃ (T' : State) (h' : Heap) (L' : List Loc), Stand p l e room_1 s m #[(.int le), (.int fl), (.long la), (.long lz)] below meth c T' L' 1 7 ∧ T'.heap = h' ∧ Keep h19 h' [b10] ∧ Arv Z h' b10 k10 .char nn [(.int cv_3), (.int cv_4), (.int cv_5), (.int (0 : Int32)), (.int (0 : Int32)), (.int (0 : Int32)), (.int (0 : Int32))] (.int (0 : Int32)) ∧ Fr n0 L' ∧ ∀ t, Steps p.tables e below (T'.setTop (mkF m 118 #[.val (.int le), .val (.int fl), .val (.long la), .second, .val (.long lz), .second, .val (.int nn), .val (.int cv_3), .val (.int cv_4), .val (.int cv_5), .val (.int cv_6), .val (.int cv_7), .val (.int cv_8), .val (.int cv_9), .val (.ref b10), .unset, .unset] [])) t → Steps p.tables e below (T19.setTop (mkF m 109 #[.val (.int le), .val (.int fl), .val (.long la), .second, .val (.long lz), .second, .val (.int nn), .val (.int cv_3), .val (.int cv_4), .val (.int cv_5), .val (.int cv_6), .val (.int cv_7), .val (.int cv_8), .val (.int cv_9), .val (.ref b10), .unset, .unset] [(.int (2 : Int32)), (.int nn)])) t := by
  by_cases hc27 : (2 : Int32) < nn
  ·obtain ⟨cl28, Ar28, q28, S28, M28, Hs28, G28⟩ := (id j19_0)
   have hin28 : ¬ ((2 : Int32) < 0 ∨ cl28.slots.size ≤ ((2 : Int32)).toNatClampNeg) := inb_of S28 ⟨by decide, hc27⟩
   obtain ⟨T29, h29, X29, e29, W29, st29⟩ := stC X19 hx hZ e19 Ar28 (j := (2 : Int32)) hin28 (g := (mkF m 117 #[.val (.int le), .val (.int fl), .val (.long la), .second, .val (.long lz), .second, .val (.int nn), .val (.int cv_3), .val (.int cv_4), .val (.int cv_5), .val (.int cv_6), .val (.int cv_7), .val (.int cv_8), .val (.int cv_9), .val (.ref b10), .unset, .unset] [(.int cv_5), (.int (2 : Int32)), (.ref b10)])) rfl rfl (hb hby at_117)
   have V29 : Arv Z h29 b10 k10 .char nn [(.int cv_3), (.int cv_4), (.int (nar .char cv_5)), (.int (0 : Int32)), (.int (0 : Int32)), (.int (0 : Int32)), (.int (0 : Int32))] (.int (0 : Int32)) := Arv.set Ar28 q28 S28 M28 Hs28 G28 (fits_nar_char _) W29 2 rfl (Nat.le_of_ble_eq_true rfl)
   have K29 : Keep h19 h29 [b10] := (Keep.refl h19 [b10]).wr W29 (Or.inl (List.mem_of_getElem? (i := 0) rfl))
   have Zs29 : n0 ≤ h29.size := Nat.le_trans Zs19 (Keep.of_wr W29).1
   have hks29 := Nat.le_trans hks19 (Keep.of_wr W29).1
   have sw29 := (Safe.arv (EL := own_EL) hZ.alike j19_0 (by decide))
   have ch29 := CHr.trans ch19 (CHr.wr W29 sw29 ch19.1)
   have N29 := Fr.snoc X29 N19 g_b10
   have r30 : ∀ t, Steps p.tables e below (T29.setTop (mkF m 118 #[.val (.int le), .val (.int fl), .val (.long la), .second, .val (.long lz), .second, .val (.int nn), .val (.int cv_3), .val (.int cv_4), .val (.int cv_5), .val (.int cv_6), .val (.int cv_7), .val (.int cv_8), .val (.int cv_9), .val (.ref b10), .unset, .unset] [])) t → Steps p.tables e below (T19.setTop (mkF m 109 #[.val (.int le), .val (.int fl), .val (.long la), .second, .val (.long lz), .second, .val (.int nn), .val (.int cv_3), .val (.int cv_4), .val (.int cv_5), .val (.int cv_6), .val (.int cv_7), .val (.int cv_8), .val (.int cv_9), .val (.ref b10), .unset, .unset] [(.int (2 : Int32)), (.int nn)])) t := fun t kt => by
    refine XS.icmpNo X19.here hx rfl (hb hby at_109) rfl (tlt hc27).2.2.2 ?_
    refine XS.aload X19.here hx rfl (hb hby at_112) rfl rfl ?_
    refine XS.iconst X19.here hx rfl (hb hby at_114) ?_
    refine XS.iload X19.here hx rfl (hb hby at_115) rfl ?_
    refine st29 _ ?_
    exact kt
   exact ⟨_, _, _, X29, e29, K29, (by have q := V29; rw [own_narid hcv_5] at q; exact q), N29, fun t kt => (r30 _ kt)⟩
  ·have r31 : ∀ t, Steps p.tables e below (T19.setTop (mkF m 118 #[.val (.int le), .val (.int fl), .val (.long la), .second, .val (.long lz), .second, .val (.int nn), .val (.int cv_3), .val (.int cv_4), .val (.int cv_5), .val (.int cv_6), .val (.int cv_7), .val (.int cv_8), .val (.int cv_9), .val (.ref b10), .unset, .unset] [])) t → Steps p.tables e below (T19.setTop (mkF m 109 #[.val (.int le), .val (.int fl), .val (.long la), .second, .val (.long lz), .second, .val (.int nn), .val (.int cv_3), .val (.int cv_4), .val (.int cv_5), .val (.int cv_6), .val (.int cv_7), .val (.int cv_8), .val (.int cv_9), .val (.ref b10), .unset, .unset] [(.int (2 : Int32)), (.int nn)])) t := fun t kt => by
    refine XS.icmpYes X19.here hx rfl (pc0 := 109) (pc' := 118) rfl (hb hby at_109) rfl (flt hc27).2.2.2 (by decide) (by decide) ?_
    exact kt
   exact ⟨_, _, _, X19, e19, (Keep.refl h19 [b10]), (own_irr j19_0 (fun i hi => by have q : i < 2 := Nat.lt_of_lt_of_le hi (own_short hc27 (by decide)); match i, q with | 0, _ => rfl | 1, _ => rfl)), N19, fun t kt => (r31 _ kt)⟩
 have K26 : Keep h0 h26 [] := Keep.trans K19 Kc26 (allS (Or.inr sz_b10) all0)
 have Zs26 : n0 ≤ h26.size := Nat.le_trans Zs19 Kc26.1
 have hks26 := Nat.le_trans hks19 Kc26.1
 have ch26 := CHr.trans ch19 (CHr.keep Kc26 (sfS (Safe.arv (EL := own_EL) hZ.alike j19_0 (by decide)) sf0) ch19.1)
 have r32 : ∀ t, Steps p.tables e below (T26.setTop (mkF m 121 #[.val (.int le), .val (.int fl), .val (.long la), .second, .val (.long lz), .second, .val (.int nn), .val (.int cv_3), .val (.int cv_4), .val (.int cv_5), .val (.int cv_6), .val (.int cv_7), .val (.int cv_8), .val (.int cv_9), .val (.ref b10), .unset, .unset] [(.int (3 : Int32)), (.int nn)])) t → Steps p.tables e below (T26.setTop (mkF m 118 #[.val (.int le), .val (.int fl), .val (.long la), .second, .val (.long lz), .second, .val (.int nn), .val (.int cv_3), .val (.int cv_4), .val (.int cv_5), .val (.int cv_6), .val (.int cv_7), .val (.int cv_8), .val (.int cv_9), .val (.ref b10), .unset, .unset] [])) t := fun t kt => by
  refine XS.iload X26.here hx rfl (hb hby at_118) rfl ?_
  refine XS.iconst X26.here hx rfl (hb hby at_120) ?_
  exact kt
 obtain ⟨T33, h33, L33, X33, e33, Kc33, j33_0, N33, r33⟩ : ∃ (T' : State) (h' : Heap) (L' : List Loc), Stand p l e room_1 s m #[(.int le), (.int fl), (.long la), (.long lz)] below meth c T' L' 1 7 ∧ T'.heap = h' ∧ Keep h26 h' [b10] ∧ Arv Z h' b10 k10 .char nn [(.int cv_3), (.int cv_4), (.int cv_5), (.int cv_6), (.int (0 : Int32)), (.int (0 : Int32)), (.int (0 : Int32))] (.int (0 : Int32)) ∧ Fr n0 L' ∧ ∀ t, Steps p.tables e below (T'.setTop (mkF m 130 #[.val (.int le), .val (.int fl), .val (.long la), .second, .val (.long lz), .second, .val (.int nn), .val (.int cv_3), .val (.int cv_4), .val (.int cv_5), .val (.int cv_6), .val (.int cv_7), .val (.int cv_8), .val (.int cv_9), .val (.ref b10), .unset, .unset] [])) t → Steps p.tables e below (T26.setTop (mkF m 121 #[.val (.int le), .val (.int fl), .val (.long la), .second, .val (.long lz), .second, .val (.int nn), .val (.int cv_3), .val (.int cv_4), .val (.int cv_5), .val (.int cv_6), .val (.int cv_7), .val (.int cv_8), .val (.int cv_9), .val (.ref b10), .unset, .unset] [(.int (3 : Int32)), (.int nn)])) t := by
  by_cases hc34 : (3 : Int32) < nn
  ·obtain ⟨cl35, Ar35, q35, S35, M35, Hs35, G35⟩ := (id j26_0)
   have hin35 : ¬ ((3 : Int32) < 0 ∨ cl35.slots.size ≤ ((3 : Int32)).toNatClampNeg) := inb_of S35 ⟨by decide, hc34⟩
   obtain ⟨T36, h36, X36, e36, W36, st36⟩ := stC X26 hx hZ e26 Ar35 (j := (3 : Int32)) hin35 (g := (mkF m 129 #[.val (.int le), .val (.int fl), .val (.long la), .second, .val (.long lz), .second, .val (.int nn), .val (.int cv_3), .val (.int cv_4), .val (.int cv_5), .val (.int cv_6), .val (.int cv_7), .val (.int cv_8), .val (.int cv_9), .val (.ref b10), .unset, .unset] [(.int cv_6), (.int (3 : Int32)), (.ref b10)])) rfl rfl (hb hby at_129)
   have V36 : Arv Z h36 b10 k10 .char nn [(.int cv_3), (.int cv_4), (.int cv_5), (.int (nar .char cv_6)), (.int (0 : Int32)), (.int (0 : Int32)), (.int (0 : Int32))] (.int (0 : Int32)) := Arv.set Ar35 q35 S35 M35 Hs35 G35 (fits_nar_char _) W36 3 rfl (Nat.le_of_ble_eq_true rfl)
   have K36 : Keep h26 h36 [b10] := (Keep.refl h26 [b10]).wr W36 (Or.inl (List.mem_of_getElem? (i := 0) rfl))
   have Zs36 : n0 ≤ h36.size := Nat.le_trans Zs26 (Keep.of_wr W36).1
   have hks36 := Nat.le_trans hks26 (Keep.of_wr W36).1
   have sw36 := (Safe.arv (EL := own_EL) hZ.alike j26_0 (by decide))
   have ch36 := CHr.trans ch26 (CHr.wr W36 sw36 ch26.1)
   have N36 := Fr.snoc X36 N26 g_b10
   have r37 : ∀ t, Steps p.tables e below (T36.setTop (mkF m 130 #[.val (.int le), .val (.int fl), .val (.long la), .second, .val (.long lz), .second, .val (.int nn), .val (.int cv_3), .val (.int cv_4), .val (.int cv_5), .val (.int cv_6), .val (.int cv_7), .val (.int cv_8), .val (.int cv_9), .val (.ref b10), .unset, .unset] [])) t → Steps p.tables e below (T26.setTop (mkF m 121 #[.val (.int le), .val (.int fl), .val (.long la), .second, .val (.long lz), .second, .val (.int nn), .val (.int cv_3), .val (.int cv_4), .val (.int cv_5), .val (.int cv_6), .val (.int cv_7), .val (.int cv_8), .val (.int cv_9), .val (.ref b10), .unset, .unset] [(.int (3 : Int32)), (.int nn)])) t := fun t kt => by
    refine XS.icmpNo X26.here hx rfl (hb hby at_121) rfl (tlt hc34).2.2.2 ?_
    refine XS.aload X26.here hx rfl (hb hby at_124) rfl rfl ?_
    refine XS.iconst X26.here hx rfl (hb hby at_126) ?_
    refine XS.iload X26.here hx rfl (hb hby at_127) rfl ?_
    refine st36 _ ?_
    exact kt
   exact ⟨_, _, _, X36, e36, K36, (by have q := V36; rw [own_narid hcv_6] at q; exact q), N36, fun t kt => (r37 _ kt)⟩
  ·have r38 : ∀ t, Steps p.tables e below (T26.setTop (mkF m 130 #[.val (.int le), .val (.int fl), .val (.long la), .second, .val (.long lz), .second, .val (.int nn), .val (.int cv_3), .val (.int cv_4), .val (.int cv_5), .val (.int cv_6), .val (.int cv_7), .val (.int cv_8), .val (.int cv_9), .val (.ref b10), .unset, .unset] [])) t → Steps p.tables e below (T26.setTop (mkF m 121 #[.val (.int le), .val (.int fl), .val (.long la), .second, .val (.long lz), .second, .val (.int nn), .val (.int cv_3), .val (.int cv_4), .val (.int cv_5), .val (.int cv_6), .val (.int cv_7), .val (.int cv_8), .val (.int cv_9), .val (.ref b10), .unset, .unset] [(.int (3 : Int32)), (.int nn)])) t := fun t kt => by
    refine XS.icmpYes X26.here hx rfl (pc0 := 121) (pc' := 130) rfl (hb hby at_121) rfl (flt hc34).2.2.2 (by decide) (by decide) ?_
    exact kt
   exact ⟨_, _, _, X26, e26, (Keep.refl h26 [b10]), (own_irr j26_0 (fun i hi => by have q : i < 3 := Nat.lt_of_lt_of_le hi (own_short hc34 (by decide)); match i, q with | 0, _ => rfl | 1, _ => rfl | 2, _ => rfl)), N26, fun t kt => (r38 _ kt)⟩
 have K33 : Keep h0 h33 [] := Keep.trans K26 Kc33 (allS (Or.inr sz_b10) all0)
 have Zs33 : n0 ≤ h33.size := Nat.le_trans Zs26 Kc33.1
 have hks33 := Nat.le_trans hks26 Kc33.1
 have ch33 := CHr.trans ch26 (CHr.keep Kc33 (sfS (Safe.arv (EL := own_EL) hZ.alike j26_0 (by decide)) sf0) ch26.1)
 have r39 : ∀ t, Steps p.tables e below (T33.setTop (mkF m 133 #[.val (.int le), .val (.int fl), .val (.long la), .second, .val (.long lz), .second, .val (.int nn), .val (.int cv_3), .val (.int cv_4), .val (.int cv_5), .val (.int cv_6), .val (.int cv_7), .val (.int cv_8), .val (.int cv_9), .val (.ref b10), .unset, .unset] [(.int (4 : Int32)), (.int nn)])) t → Steps p.tables e below (T33.setTop (mkF m 130 #[.val (.int le), .val (.int fl), .val (.long la), .second, .val (.long lz), .second, .val (.int nn), .val (.int cv_3), .val (.int cv_4), .val (.int cv_5), .val (.int cv_6), .val (.int cv_7), .val (.int cv_8), .val (.int cv_9), .val (.ref b10), .unset, .unset] [])) t := fun t kt => by
  refine XS.iload X33.here hx rfl (hb hby at_130) rfl ?_
  refine XS.iconst X33.here hx rfl (hb hby at_132) ?_
  exact kt
 obtain ⟨T40, h40, L40, X40, e40, Kc40, j40_0, N40, r40⟩ : ∃ (T' : State) (h' : Heap) (L' : List Loc), Stand p l e room_1 s m #[(.int le), (.int fl), (.long la), (.long lz)] below meth c T' L' 1 7 ∧ T'.heap = h' ∧ Keep h33 h' [b10] ∧ Arv Z h' b10 k10 .char nn [(.int cv_3), (.int cv_4), (.int cv_5), (.int cv_6), (.int cv_7), (.int (0 : Int32)), (.int (0 : Int32))] (.int (0 : Int32)) ∧ Fr n0 L' ∧ ∀ t, Steps p.tables e below (T'.setTop (mkF m 142 #[.val (.int le), .val (.int fl), .val (.long la), .second, .val (.long lz), .second, .val (.int nn), .val (.int cv_3), .val (.int cv_4), .val (.int cv_5), .val (.int cv_6), .val (.int cv_7), .val (.int cv_8), .val (.int cv_9), .val (.ref b10), .unset, .unset] [])) t → Steps p.tables e below (T33.setTop (mkF m 133 #[.val (.int le), .val (.int fl), .val (.long la), .second, .val (.long lz), .second, .val (.int nn), .val (.int cv_3), .val (.int cv_4), .val (.int cv_5), .val (.int cv_6), .val (.int cv_7), .val (.int cv_8), .val (.int cv_9), .val (.ref b10), .unset, .unset] [(.int (4 : Int32)), (.int nn)])) t := by
  by_cases hc41 : (4 : Int32) < nn
  ·obtain ⟨cl42, Ar42, q42, S42, M42, Hs42, G42⟩ := (id j33_0)
   have hin42 : ¬ ((4 : Int32) < 0 ∨ cl42.slots.size ≤ ((4 : Int32)).toNatClampNeg) := inb_of S42 ⟨by decide, hc41⟩
   obtain ⟨T43, h43, X43, e43, W43, st43⟩ := stC X33 hx hZ e33 Ar42 (j := (4 : Int32)) hin42 (g := (mkF m 141 #[.val (.int le), .val (.int fl), .val (.long la), .second, .val (.long lz), .second, .val (.int nn), .val (.int cv_3), .val (.int cv_4), .val (.int cv_5), .val (.int cv_6), .val (.int cv_7), .val (.int cv_8), .val (.int cv_9), .val (.ref b10), .unset, .unset] [(.int cv_7), (.int (4 : Int32)), (.ref b10)])) rfl rfl (hb hby at_141)
   have V43 : Arv Z h43 b10 k10 .char nn [(.int cv_3), (.int cv_4), (.int cv_5), (.int cv_6), (.int (nar .char cv_7)), (.int (0 : Int32)), (.int (0 : Int32))] (.int (0 : Int32)) := Arv.set Ar42 q42 S42 M42 Hs42 G42 (fits_nar_char _) W43 4 rfl (Nat.le_of_ble_eq_true rfl)
   have K43 : Keep h33 h43 [b10] := (Keep.refl h33 [b10]).wr W43 (Or.inl (List.mem_of_getElem? (i := 0) rfl))
   have Zs43 : n0 ≤ h43.size := Nat.le_trans Zs33 (Keep.of_wr W43).1
   have hks43 := Nat.le_trans hks33 (Keep.of_wr W43).1
   have sw43 := (Safe.arv (EL := own_EL) hZ.alike j33_0 (by decide))
   have ch43 := CHr.trans ch33 (CHr.wr W43 sw43 ch33.1)
   have N43 := Fr.snoc X43 N33 g_b10
   have r44 : ∀ t, Steps p.tables e below (T43.setTop (mkF m 142 #[.val (.int le), .val (.int fl), .val (.long la), .second, .val (.long lz), .second, .val (.int nn), .val (.int cv_3), .val (.int cv_4), .val (.int cv_5), .val (.int cv_6), .val (.int cv_7), .val (.int cv_8), .val (.int cv_9), .val (.ref b10), .unset, .unset] [])) t → Steps p.tables e below (T33.setTop (mkF m 133 #[.val (.int le), .val (.int fl), .val (.long la), .second, .val (.long lz), .second, .val (.int nn), .val (.int cv_3), .val (.int cv_4), .val (.int cv_5), .val (.int cv_6), .val (.int cv_7), .val (.int cv_8), .val (.int cv_9), .val (.ref b10), .unset, .unset] [(.int (4 : Int32)), (.int nn)])) t := fun t kt => by
    refine XS.icmpNo X33.here hx rfl (hb hby at_133) rfl (tlt hc41).2.2.2 ?_
    refine XS.aload X33.here hx rfl (hb hby at_136) rfl rfl ?_
    refine XS.iconst X33.here hx rfl (hb hby at_138) ?_
    refine XS.iload X33.here hx rfl (hb hby at_139) rfl ?_
    refine st43 _ ?_
    exact kt
   exact ⟨_, _, _, X43, e43, K43, (by have q := V43; rw [own_narid hcv_7] at q; exact q), N43, fun t kt => (r44 _ kt)⟩
  ·have r45 : ∀ t, Steps p.tables e below (T33.setTop (mkF m 142 #[.val (.int le), .val (.int fl), .val (.long la), .second, .val (.long lz), .second, .val (.int nn), .val (.int cv_3), .val (.int cv_4), .val (.int cv_5), .val (.int cv_6), .val (.int cv_7), .val (.int cv_8), .val (.int cv_9), .val (.ref b10), .unset, .unset] [])) t → Steps p.tables e below (T33.setTop (mkF m 133 #[.val (.int le), .val (.int fl), .val (.long la), .second, .val (.long lz), .second, .val (.int nn), .val (.int cv_3), .val (.int cv_4), .val (.int cv_5), .val (.int cv_6), .val (.int cv_7), .val (.int cv_8), .val (.int cv_9), .val (.ref b10), .unset, .unset] [(.int (4 : Int32)), (.int nn)])) t := fun t kt => by
    refine XS.icmpYes X33.here hx rfl (pc0 := 133) (pc' := 142) rfl (hb hby at_133) rfl (flt hc41).2.2.2 (by decide) (by decide) ?_
    exact kt
   exact ⟨_, _, _, X33, e33, (Keep.refl h33 [b10]), (own_irr j33_0 (fun i hi => by have q : i < 4 := Nat.lt_of_lt_of_le hi (own_short hc41 (by decide)); match i, q with | 0, _ => rfl | 1, _ => rfl | 2, _ => rfl | 3, _ => rfl)), N33, fun t kt => (r45 _ kt)⟩
 have K40 : Keep h0 h40 [] := Keep.trans K33 Kc40 (allS (Or.inr sz_b10) all0)
 have Zs40 : n0 ≤ h40.size := Nat.le_trans Zs33 Kc40.1
 have hks40 := Nat.le_trans hks33 Kc40.1
 have ch40 := CHr.trans ch33 (CHr.keep Kc40 (sfS (Safe.arv (EL := own_EL) hZ.alike j33_0 (by decide)) sf0) ch33.1)
 have r46 : ∀ t, Steps p.tables e below (T40.setTop (mkF m 145 #[.val (.int le), .val (.int fl), .val (.long la), .second, .val (.long lz), .second, .val (.int nn), .val (.int cv_3), .val (.int cv_4), .val (.int cv_5), .val (.int cv_6), .val (.int cv_7), .val (.int cv_8), .val (.int cv_9), .val (.ref b10), .unset, .unset] [(.int (5 : Int32)), (.int nn)])) t → Steps p.tables e below (T40.setTop (mkF m 142 #[.val (.int le), .val (.int fl), .val (.long la), .second, .val (.long lz), .second, .val (.int nn), .val (.int cv_3), .val (.int cv_4), .val (.int cv_5), .val (.int cv_6), .val (.int cv_7), .val (.int cv_8), .val (.int cv_9), .val (.ref b10), .unset, .unset] [])) t := fun t kt => by
  refine XS.iload X40.here hx rfl (hb hby at_142) rfl ?_
  refine XS.iconst X40.here hx rfl (hb hby at_144) ?_
  exact kt
 obtain ⟨T47, h47, L47, X47, e47, Kc47, j47_0, N47, r47⟩ : ∃ (T' : State) (h' : Heap) (L' : List Loc), Stand p l e room_1 s m #[(.int le), (.int fl), (.long la), (.long lz)] below meth c T' L' 1 7 ∧ T'.heap = h' ∧ Keep h40 h' [b10] ∧ Arv Z h' b10 k10 .char nn [(.int cv_3), (.int cv_4), (.int cv_5), (.int cv_6), (.int cv_7), (.int cv_8), (.int (0 : Int32))] (.int (0 : Int32)) ∧ Fr n0 L' ∧ ∀ t, Steps p.tables e below (T'.setTop (mkF m 154 #[.val (.int le), .val (.int fl), .val (.long la), .second, .val (.long lz), .second, .val (.int nn), .val (.int cv_3), .val (.int cv_4), .val (.int cv_5), .val (.int cv_6), .val (.int cv_7), .val (.int cv_8), .val (.int cv_9), .val (.ref b10), .unset, .unset] [])) t → Steps p.tables e below (T40.setTop (mkF m 145 #[.val (.int le), .val (.int fl), .val (.long la), .second, .val (.long lz), .second, .val (.int nn), .val (.int cv_3), .val (.int cv_4), .val (.int cv_5), .val (.int cv_6), .val (.int cv_7), .val (.int cv_8), .val (.int cv_9), .val (.ref b10), .unset, .unset] [(.int (5 : Int32)), (.int nn)])) t := by
  by_cases hc48 : (5 : Int32) < nn
  ·obtain ⟨cl49, Ar49, q49, S49, M49, Hs49, G49⟩ := (id j40_0)
   have hin49 : ¬ ((5 : Int32) < 0 ∨ cl49.slots.size ≤ ((5 : Int32)).toNatClampNeg) := inb_of S49 ⟨by decide, hc48⟩
   obtain ⟨T50, h50, X50, e50, W50, st50⟩ := stC X40 hx hZ e40 Ar49 (j := (5 : Int32)) hin49 (g := (mkF m 153 #[.val (.int le), .val (.int fl), .val (.long la), .second, .val (.long lz), .second, .val (.int nn), .val (.int cv_3), .val (.int cv_4), .val (.int cv_5), .val (.int cv_6), .val (.int cv_7), .val (.int cv_8), .val (.int cv_9), .val (.ref b10), .unset, .unset] [(.int cv_8), (.int (5 : Int32)), (.ref b10)])) rfl rfl (hb hby at_153)
   have V50 : Arv Z h50 b10 k10 .char nn [(.int cv_3), (.int cv_4), (.int cv_5), (.int cv_6), (.int cv_7), (.int (nar .char cv_8)), (.int (0 : Int32))] (.int (0 : Int32)) := Arv.set Ar49 q49 S49 M49 Hs49 G49 (fits_nar_char _) W50 5 rfl (Nat.le_of_ble_eq_true rfl)
   have K50 : Keep h40 h50 [b10] := (Keep.refl h40 [b10]).wr W50 (Or.inl (List.mem_of_getElem? (i := 0) rfl))
   have Zs50 : n0 ≤ h50.size := Nat.le_trans Zs40 (Keep.of_wr W50).1
   have hks50 := Nat.le_trans hks40 (Keep.of_wr W50).1
   have sw50 := (Safe.arv (EL := own_EL) hZ.alike j40_0 (by decide))
   have ch50 := CHr.trans ch40 (CHr.wr W50 sw50 ch40.1)
   have N50 := Fr.snoc X50 N40 g_b10
   have r51 : ∀ t, Steps p.tables e below (T50.setTop (mkF m 154 #[.val (.int le), .val (.int fl), .val (.long la), .second, .val (.long lz), .second, .val (.int nn), .val (.int cv_3), .val (.int cv_4), .val (.int cv_5), .val (.int cv_6), .val (.int cv_7), .val (.int cv_8), .val (.int cv_9), .val (.ref b10), .unset, .unset] [])) t → Steps p.tables e below (T40.setTop (mkF m 145 #[.val (.int le), .val (.int fl), .val (.long la), .second, .val (.long lz), .second, .val (.int nn), .val (.int cv_3), .val (.int cv_4), .val (.int cv_5), .val (.int cv_6), .val (.int cv_7), .val (.int cv_8), .val (.int cv_9), .val (.ref b10), .unset, .unset] [(.int (5 : Int32)), (.int nn)])) t := fun t kt => by
    refine XS.icmpNo X40.here hx rfl (hb hby at_145) rfl (tlt hc48).2.2.2 ?_
    refine XS.aload X40.here hx rfl (hb hby at_148) rfl rfl ?_
    refine XS.iconst X40.here hx rfl (hb hby at_150) ?_
    refine XS.iload X40.here hx rfl (hb hby at_151) rfl ?_
    refine st50 _ ?_
    exact kt
   exact ⟨_, _, _, X50, e50, K50, (by have q := V50; rw [own_narid hcv_8] at q; exact q), N50, fun t kt => (r51 _ kt)⟩
  ·have r52 : ∀ t, Steps p.tables e below (T40.setTop (mkF m 154 #[.val (.int le), .val (.int fl), .val (.long la), .second, .val (.long lz), .second, .val (.int nn), .val (.int cv_3), .val (.int cv_4), .val (.int cv_5), .val (.int cv_6), .val (.int cv_7), .val (.int cv_8), .val (.int cv_9), .val (.ref b10), .unset, .unset] [])) t → Steps p.tables e below (T40.setTop (mkF m 145 #[.val (.int le), .val (.int fl), .val (.long la), .second, .val (.long lz), .second, .val (.int nn), .val (.int cv_3), .val (.int cv_4), .val (.int cv_5), .val (.int cv_6), .val (.int cv_7), .val (.int cv_8), .val (.int cv_9), .val (.ref b10), .unset, .unset] [(.int (5 : Int32)), (.int nn)])) t := fun t kt => by
    refine XS.icmpYes X40.here hx rfl (pc0 := 145) (pc' := 154) rfl (hb hby at_145) rfl (flt hc48).2.2.2 (by decide) (by decide) ?_
    exact kt
   exact ⟨_, _, _, X40, e40, (Keep.refl h40 [b10]), (own_irr j40_0 (fun i hi => by have q : i < 5 := Nat.lt_of_lt_of_le hi (own_short hc48 (by decide)); match i, q with | 0, _ => rfl | 1, _ => rfl | 2, _ => rfl | 3, _ => rfl | 4, _ => rfl)), N40, fun t kt => (r52 _ kt)⟩
 have K47 : Keep h0 h47 [] := Keep.trans K40 Kc47 (allS (Or.inr sz_b10) all0)
 have Zs47 : n0 ≤ h47.size := Nat.le_trans Zs40 Kc47.1
 have hks47 := Nat.le_trans hks40 Kc47.1
 have ch47 := CHr.trans ch40 (CHr.keep Kc47 (sfS (Safe.arv (EL := own_EL) hZ.alike j40_0 (by decide)) sf0) ch40.1)
 have r53 : ∀ t, Steps p.tables e below (T47.setTop (mkF m 158 #[.val (.int le), .val (.int fl), .val (.long la), .second, .val (.long lz), .second, .val (.int nn), .val (.int cv_3), .val (.int cv_4), .val (.int cv_5), .val (.int cv_6), .val (.int cv_7), .val (.int cv_8), .val (.int cv_9), .val (.ref b10), .unset, .unset] [(.int (6 : Int32)), (.int nn)])) t → Steps p.tables e below (T47.setTop (mkF m 154 #[.val (.int le), .val (.int fl), .val (.long la), .second, .val (.long lz), .second, .val (.int nn), .val (.int cv_3), .val (.int cv_4), .val (.int cv_5), .val (.int cv_6), .val (.int cv_7), .val (.int cv_8), .val (.int cv_9), .val (.ref b10), .unset, .unset] [])) t := fun t kt => by
  refine XS.iload X47.here hx rfl (hb hby at_154) rfl ?_
  refine XS.bipush X47.here hx rfl (hb hby at_156) ?_
  exact kt
 obtain ⟨T54, h54, L54, X54, e54, Kc54, j54_0, N54, r54⟩ : ∃ (T' : State) (h' : Heap) (L' : List Loc), Stand p l e room_1 s m #[(.int le), (.int fl), (.long la), (.long lz)] below meth c T' L' 1 7 ∧ T'.heap = h' ∧ Keep h47 h' [b10] ∧ Arv Z h' b10 k10 .char nn [(.int cv_3), (.int cv_4), (.int cv_5), (.int cv_6), (.int cv_7), (.int cv_8), (.int cv_9)] (.int (0 : Int32)) ∧ Fr n0 L' ∧ ∀ t, Steps p.tables e below (T'.setTop (mkF m 168 #[.val (.int le), .val (.int fl), .val (.long la), .second, .val (.long lz), .second, .val (.int nn), .val (.int cv_3), .val (.int cv_4), .val (.int cv_5), .val (.int cv_6), .val (.int cv_7), .val (.int cv_8), .val (.int cv_9), .val (.ref b10), .unset, .unset] [])) t → Steps p.tables e below (T47.setTop (mkF m 158 #[.val (.int le), .val (.int fl), .val (.long la), .second, .val (.long lz), .second, .val (.int nn), .val (.int cv_3), .val (.int cv_4), .val (.int cv_5), .val (.int cv_6), .val (.int cv_7), .val (.int cv_8), .val (.int cv_9), .val (.ref b10), .unset, .unset] [(.int (6 : Int32)), (.int nn)])) t := by
  by_cases hc55 : (6 : Int32) < nn
  ·obtain ⟨cl56, Ar56, q56, S56, M56, Hs56, G56⟩ := (id j47_0)
   have hin56 : ¬ ((6 : Int32) < 0 ∨ cl56.slots.size ≤ ((6 : Int32)).toNatClampNeg) := inb_of S56 ⟨by decide, hc55⟩
   obtain ⟨T57, h57, X57, e57, W57, st57⟩ := stC X47 hx hZ e47 Ar56 (j := (6 : Int32)) hin56 (g := (mkF m 167 #[.val (.int le), .val (.int fl), .val (.long la), .second, .val (.long lz), .second, .val (.int nn), .val (.int cv_3), .val (.int cv_4), .val (.int cv_5), .val (.int cv_6), .val (.int cv_7), .val (.int cv_8), .val (.int cv_9), .val (.ref b10), .unset, .unset] [(.int cv_9), (.int (6 : Int32)), (.ref b10)])) rfl rfl (hb hby at_167)
   have V57 : Arv Z h57 b10 k10 .char nn [(.int cv_3), (.int cv_4), (.int cv_5), (.int cv_6), (.int cv_7), (.int cv_8), (.int (nar .char cv_9))] (.int (0 : Int32)) := Arv.set Ar56 q56 S56 M56 Hs56 G56 (fits_nar_char _) W57 6 rfl (Nat.le_of_ble_eq_true rfl)
   have K57 : Keep h47 h57 [b10] := (Keep.refl h47 [b10]).wr W57 (Or.inl (List.mem_of_getElem? (i := 0) rfl))
   have Zs57 : n0 ≤ h57.size := Nat.le_trans Zs47 (Keep.of_wr W57).1
   have hks57 := Nat.le_trans hks47 (Keep.of_wr W57).1
   have sw57 := (Safe.arv (EL := own_EL) hZ.alike j47_0 (by decide))
   have ch57 := CHr.trans ch47 (CHr.wr W57 sw57 ch47.1)
   have N57 := Fr.snoc X57 N47 g_b10
   have r58 : ∀ t, Steps p.tables e below (T57.setTop (mkF m 168 #[.val (.int le), .val (.int fl), .val (.long la), .second, .val (.long lz), .second, .val (.int nn), .val (.int cv_3), .val (.int cv_4), .val (.int cv_5), .val (.int cv_6), .val (.int cv_7), .val (.int cv_8), .val (.int cv_9), .val (.ref b10), .unset, .unset] [])) t → Steps p.tables e below (T47.setTop (mkF m 158 #[.val (.int le), .val (.int fl), .val (.long la), .second, .val (.long lz), .second, .val (.int nn), .val (.int cv_3), .val (.int cv_4), .val (.int cv_5), .val (.int cv_6), .val (.int cv_7), .val (.int cv_8), .val (.int cv_9), .val (.ref b10), .unset, .unset] [(.int (6 : Int32)), (.int nn)])) t := fun t kt => by
    refine XS.icmpNo X47.here hx rfl (hb hby at_158) rfl (tlt hc55).2.2.2 ?_
    refine XS.aload X47.here hx rfl (hb hby at_161) rfl rfl ?_
    refine XS.bipush X47.here hx rfl (hb hby at_163) ?_
    refine XS.iload X47.here hx rfl (hb hby at_165) rfl ?_
    refine st57 _ ?_
    exact kt
   exact ⟨_, _, _, X57, e57, K57, (by have q := V57; rw [own_narid hcv_9] at q; exact q), N57, fun t kt => (r58 _ kt)⟩
  ·have r59 : ∀ t, Steps p.tables e below (T47.setTop (mkF m 168 #[.val (.int le), .val (.int fl), .val (.long la), .second, .val (.long lz), .second, .val (.int nn), .val (.int cv_3), .val (.int cv_4), .val (.int cv_5), .val (.int cv_6), .val (.int cv_7), .val (.int cv_8), .val (.int cv_9), .val (.ref b10), .unset, .unset] [])) t → Steps p.tables e below (T47.setTop (mkF m 158 #[.val (.int le), .val (.int fl), .val (.long la), .second, .val (.long lz), .second, .val (.int nn), .val (.int cv_3), .val (.int cv_4), .val (.int cv_5), .val (.int cv_6), .val (.int cv_7), .val (.int cv_8), .val (.int cv_9), .val (.ref b10), .unset, .unset] [(.int (6 : Int32)), (.int nn)])) t := fun t kt => by
    refine XS.icmpYes X47.here hx rfl (pc0 := 158) (pc' := 168) rfl (hb hby at_158) rfl (flt hc55).2.2.2 (by decide) (by decide) ?_
    exact kt
   exact ⟨_, _, _, X47, e47, (Keep.refl h47 [b10]), (own_irr j47_0 (fun i hi => by have q : i < 6 := Nat.lt_of_lt_of_le hi (own_short hc55 (by decide)); match i, q with | 0, _ => rfl | 1, _ => rfl | 2, _ => rfl | 3, _ => rfl | 4, _ => rfl | 5, _ => rfl)), N47, fun t kt => (r59 _ kt)⟩
 have K54 : Keep h0 h54 [] := Keep.trans K47 Kc54 (allS (Or.inr sz_b10) all0)
 have Zs54 : n0 ≤ h54.size := Nat.le_trans Zs47 Kc54.1
 have hks54 := Nat.le_trans hks47 Kc54.1
 have ch54 := CHr.trans ch47 (CHr.keep Kc54 (sfS (Safe.arv (EL := own_EL) hZ.alike j47_0 (by decide)) sf0) ch47.1)
 obtain ⟨v71, hv71⟩ : ∃ zz : Int32, zz = (if (0 : Int32) < nn then (if cv_3 = (58 : Int32) then (1 : Int32) else (if (1 : Int32) < nn then (if cv_4 = (58 : Int32) then (1 : Int32) else (if (2 : Int32) < nn then (if cv_5 = (58 : Int32) then (1 : Int32) else (if (3 : Int32) < nn then (if cv_6 = (58 : Int32) then (1 : Int32) else (if (4 : Int32) < nn then (if cv_7 = (58 : Int32) then (1 : Int32) else (0 : Int32)) else (0 : Int32))) else (0 : Int32))) else (0 : Int32))) else (0 : Int32))) else (0 : Int32)) := ⟨_, rfl⟩
 have r60 : ∀ (Tg : State) (Lg : List Loc) (kg ng : Nat) (bg : Addr) (Xg : Stand p l e room_1 s m #[(.int le), (.int fl), (.long la), (.long lz)] below meth c Tg Lg kg ng) t, Steps p.tables e below (Tg.setTop (mkF m 248 #[.val (.int le), .val (.int fl), .val (.long la), .second, .val (.long lz), .second, .val (.int nn), .val (.int cv_3), .val (.int cv_4), .val (.int cv_5), .val (.int cv_6), .val (.int cv_7), .val (.int cv_8), .val (.int cv_9), .val (.ref b10), .val (.ref bg), .unset] [(.int v71)])) t → Steps p.tables e below (Tg.setTop (mkF m 181 #[.val (.int le), .val (.int fl), .val (.long la), .second, .val (.long lz), .second, .val (.int nn), .val (.int cv_3), .val (.int cv_4), .val (.int cv_5), .val (.int cv_6), .val (.int cv_7), .val (.int cv_8), .val (.int cv_9), .val (.ref b10), .val (.ref bg), .unset] [(.int nn)])) t := fun Tg Lg kg ng bg Xg t kt => by
  rw [hv71] at kt
  by_cases hd61 : (0 : Int32) < nn
  ·simp only [if_pos hd61] at kt
   by_cases hd62 : cv_3 = (58 : Int32)
   ·simp only [if_pos hd62] at kt
    refine XS.ifNo Xg.here hx rfl (hb hby at_181) rfl ((if0 _ _).trans (tlt hd61).2.2.2) ?_
    refine XS.iload Xg.here hx rfl (hb hby at_184) rfl ?_
    refine XS.bipush Xg.here hx rfl (hb hby at_186) ?_
    refine XS.icmpYes Xg.here hx rfl (pc0 := 188) (pc' := 243) rfl (hb hby at_188) rfl (teq hd62).1 (by decide) (by decide) ?_
    refine XS.iconst Xg.here hx rfl (hb hby at_243) ?_
    refine XS.goto Xg.here hx rfl (pc0 := 244) (pc' := 248) rfl (hb hby at_244) (by decide) (by decide) ?_
    exact kt
   ·simp only [if_neg hd62] at kt
    by_cases hd63 : (1 : Int32) < nn
    ·simp only [if_pos hd63] at kt
     by_cases hd64 : cv_4 = (58 : Int32)
     ·simp only [if_pos hd64] at kt
      refine XS.ifNo Xg.here hx rfl (hb hby at_181) rfl ((if0 _ _).trans (tlt hd61).2.2.2) ?_
      refine XS.iload Xg.here hx rfl (hb hby at_184) rfl ?_
      refine XS.bipush Xg.here hx rfl (hb hby at_186) ?_
      refine XS.icmpNo Xg.here hx rfl (hb hby at_188) rfl (feq hd62).1 ?_
      refine XS.iload Xg.here hx rfl (hb hby at_191) rfl ?_
      refine XS.iconst Xg.here hx rfl (hb hby at_193) ?_
      refine XS.icmpNo Xg.here hx rfl (hb hby at_194) rfl (tlt hd63).2.2.2 ?_
      refine XS.iload Xg.here hx rfl (hb hby at_197) rfl ?_
      refine XS.bipush Xg.here hx rfl (hb hby at_199) ?_
      refine XS.icmpYes Xg.here hx rfl (pc0 := 201) (pc' := 243) rfl (hb hby at_201) rfl (teq hd64).1 (by decide) (by decide) ?_
      refine XS.iconst Xg.here hx rfl (hb hby at_243) ?_
      refine XS.goto Xg.here hx rfl (pc0 := 244) (pc' := 248) rfl (hb hby at_244) (by decide) (by decide) ?_
      exact kt
     ·simp only [if_neg hd64] at kt
      by_cases hd65 : (2 : Int32) < nn
      ·simp only [if_pos hd65] at kt
       by_cases hd66 : cv_5 = (58 : Int32)
       ·simp only [if_pos hd66] at kt
        refine XS.ifNo Xg.here hx rfl (hb hby at_181) rfl ((if0 _ _).trans (tlt hd61).2.2.2) ?_
        refine XS.iload Xg.here hx rfl (hb hby at_184) rfl ?_
        refine XS.bipush Xg.here hx rfl (hb hby at_186) ?_
        refine XS.icmpNo Xg.here hx rfl (hb hby at_188) rfl (feq hd62).1 ?_
        refine XS.iload Xg.here hx rfl (hb hby at_191) rfl ?_
        refine XS.iconst Xg.here hx rfl (hb hby at_193) ?_
        refine XS.icmpNo Xg.here hx rfl (hb hby at_194) rfl (tlt hd63).2.2.2 ?_
        refine XS.iload Xg.here hx rfl (hb hby at_197) rfl ?_
        refine XS.bipush Xg.here hx rfl (hb hby at_199) ?_
        refine XS.icmpNo Xg.here hx rfl (hb hby at_201) rfl (feq hd64).1 ?_
        refine XS.iload Xg.here hx rfl (hb hby at_204) rfl ?_
        refine XS.iconst Xg.here hx rfl (hb hby at_206) ?_
        refine XS.icmpNo Xg.here hx rfl (hb hby at_207) rfl (tlt hd65).2.2.2 ?_
        refine XS.iload Xg.here hx rfl (hb hby at_210) rfl ?_
        refine XS.bipush Xg.here hx rfl (hb hby at_212) ?_
        refine XS.icmpYes Xg.here hx rfl (pc0 := 214) (pc' := 243) rfl (hb hby at_214) rfl (teq hd66).1 (by decide) (by decide) ?_
        refine XS.iconst Xg.here hx rfl (hb hby at_243) ?_
        refine XS.goto Xg.here hx rfl (pc0 := 244) (pc' := 248) rfl (hb hby at_244) (by decide) (by decide) ?_
        exact kt
       ·simp only [if_neg hd66] at kt
        by_cases hd67 : (3 : Int32) < nn
        ·simp only [if_pos hd67] at kt
         by_cases hd68 : cv_6 = (58 : Int32)
         ·simp only [if_pos hd68] at kt
          refine XS.ifNo Xg.here hx rfl (hb hby at_181) rfl ((if0 _ _).trans (tlt hd61).2.2.2) ?_
          refine XS.iload Xg.here hx rfl (hb hby at_184) rfl ?_
          refine XS.bipush Xg.here hx rfl (hb hby at_186) ?_
          refine XS.icmpNo Xg.here hx rfl (hb hby at_188) rfl (feq hd62).1 ?_
          refine XS.iload Xg.here hx rfl (hb hby at_191) rfl ?_
          refine XS.iconst Xg.here hx rfl (hb hby at_193) ?_
          refine XS.icmpNo Xg.here hx rfl (hb hby at_194) rfl (tlt hd63).2.2.2 ?_
          refine XS.iload Xg.here hx rfl (hb hby at_197) rfl ?_
          refine XS.bipush Xg.here hx rfl (hb hby at_199) ?_
          refine XS.icmpNo Xg.here hx rfl (hb hby at_201) rfl (feq hd64).1 ?_
          refine XS.iload Xg.here hx rfl (hb hby at_204) rfl ?_
          refine XS.iconst Xg.here hx rfl (hb hby at_206) ?_
          refine XS.icmpNo Xg.here hx rfl (hb hby at_207) rfl (tlt hd65).2.2.2 ?_
          refine XS.iload Xg.here hx rfl (hb hby at_210) rfl ?_
          refine XS.bipush Xg.here hx rfl (hb hby at_212) ?_
          refine XS.icmpNo Xg.here hx rfl (hb hby at_214) rfl (feq hd66).1 ?_
          refine XS.iload Xg.here hx rfl (hb hby at_217) rfl ?_
          refine XS.iconst Xg.here hx rfl (hb hby at_219) ?_
          refine XS.icmpNo Xg.here hx rfl (hb hby at_220) rfl (tlt hd67).2.2.2 ?_
          refine XS.iload Xg.here hx rfl (hb hby at_223) rfl ?_
          refine XS.bipush Xg.here hx rfl (hb hby at_225) ?_
          refine XS.icmpYes Xg.here hx rfl (pc0 := 227) (pc' := 243) rfl (hb hby at_227) rfl (teq hd68).1 (by decide) (by decide) ?_
          refine XS.iconst Xg.here hx rfl (hb hby at_243) ?_
          refine XS.goto Xg.here hx rfl (pc0 := 244) (pc' := 248) rfl (hb hby at_244) (by decide) (by decide) ?_
          exact kt
         ·simp only [if_neg hd68] at kt
          by_cases hd69 : (4 : Int32) < nn
          ·simp only [if_pos hd69] at kt
           by_cases hd70 : cv_7 = (58 : Int32)
           ·simp only [if_pos hd70] at kt
            refine XS.ifNo Xg.here hx rfl (hb hby at_181) rfl ((if0 _ _).trans (tlt hd61).2.2.2) ?_
            refine XS.iload Xg.here hx rfl (hb hby at_184) rfl ?_
            refine XS.bipush Xg.here hx rfl (hb hby at_186) ?_
            refine XS.icmpNo Xg.here hx rfl (hb hby at_188) rfl (feq hd62).1 ?_
            refine XS.iload Xg.here hx rfl (hb hby at_191) rfl ?_
            refine XS.iconst Xg.here hx rfl (hb hby at_193) ?_
            refine XS.icmpNo Xg.here hx rfl (hb hby at_194) rfl (tlt hd63).2.2.2 ?_
            refine XS.iload Xg.here hx rfl (hb hby at_197) rfl ?_
            refine XS.bipush Xg.here hx rfl (hb hby at_199) ?_
            refine XS.icmpNo Xg.here hx rfl (hb hby at_201) rfl (feq hd64).1 ?_
            refine XS.iload Xg.here hx rfl (hb hby at_204) rfl ?_
            refine XS.iconst Xg.here hx rfl (hb hby at_206) ?_
            refine XS.icmpNo Xg.here hx rfl (hb hby at_207) rfl (tlt hd65).2.2.2 ?_
            refine XS.iload Xg.here hx rfl (hb hby at_210) rfl ?_
            refine XS.bipush Xg.here hx rfl (hb hby at_212) ?_
            refine XS.icmpNo Xg.here hx rfl (hb hby at_214) rfl (feq hd66).1 ?_
            refine XS.iload Xg.here hx rfl (hb hby at_217) rfl ?_
            refine XS.iconst Xg.here hx rfl (hb hby at_219) ?_
            refine XS.icmpNo Xg.here hx rfl (hb hby at_220) rfl (tlt hd67).2.2.2 ?_
            refine XS.iload Xg.here hx rfl (hb hby at_223) rfl ?_
            refine XS.bipush Xg.here hx rfl (hb hby at_225) ?_
            refine XS.icmpNo Xg.here hx rfl (hb hby at_227) rfl (feq hd68).1 ?_
            refine XS.iload Xg.here hx rfl (hb hby at_230) rfl ?_
            refine XS.iconst Xg.here hx rfl (hb hby at_232) ?_
            refine XS.icmpNo Xg.here hx rfl (hb hby at_233) rfl (tlt hd69).2.2.2 ?_
            refine XS.iload Xg.here hx rfl (hb hby at_236) rfl ?_
            refine XS.bipush Xg.here hx rfl (hb hby at_238) ?_
            refine XS.icmpNo Xg.here hx rfl (hb hby at_240) rfl (teq hd70).2 ?_
            refine XS.iconst Xg.here hx rfl (hb hby at_243) ?_
            refine XS.goto Xg.here hx rfl (pc0 := 244) (pc' := 248) rfl (hb hby at_244) (by decide) (by decide) ?_
            exact kt
           ·simp only [if_neg hd70] at kt
            refine XS.ifNo Xg.here hx rfl (hb hby at_181) rfl ((if0 _ _).trans (tlt hd61).2.2.2) ?_
            refine XS.iload Xg.here hx rfl (hb hby at_184) rfl ?_
            refine XS.bipush Xg.here hx rfl (hb hby at_186) ?_
            refine XS.icmpNo Xg.here hx rfl (hb hby at_188) rfl (feq hd62).1 ?_
            refine XS.iload Xg.here hx rfl (hb hby at_191) rfl ?_
            refine XS.iconst Xg.here hx rfl (hb hby at_193) ?_
            refine XS.icmpNo Xg.here hx rfl (hb hby at_194) rfl (tlt hd63).2.2.2 ?_
            refine XS.iload Xg.here hx rfl (hb hby at_197) rfl ?_
            refine XS.bipush Xg.here hx rfl (hb hby at_199) ?_
            refine XS.icmpNo Xg.here hx rfl (hb hby at_201) rfl (feq hd64).1 ?_
            refine XS.iload Xg.here hx rfl (hb hby at_204) rfl ?_
            refine XS.iconst Xg.here hx rfl (hb hby at_206) ?_
            refine XS.icmpNo Xg.here hx rfl (hb hby at_207) rfl (tlt hd65).2.2.2 ?_
            refine XS.iload Xg.here hx rfl (hb hby at_210) rfl ?_
            refine XS.bipush Xg.here hx rfl (hb hby at_212) ?_
            refine XS.icmpNo Xg.here hx rfl (hb hby at_214) rfl (feq hd66).1 ?_
            refine XS.iload Xg.here hx rfl (hb hby at_217) rfl ?_
            refine XS.iconst Xg.here hx rfl (hb hby at_219) ?_
            refine XS.icmpNo Xg.here hx rfl (hb hby at_220) rfl (tlt hd67).2.2.2 ?_
            refine XS.iload Xg.here hx rfl (hb hby at_223) rfl ?_
            refine XS.bipush Xg.here hx rfl (hb hby at_225) ?_
            refine XS.icmpNo Xg.here hx rfl (hb hby at_227) rfl (feq hd68).1 ?_
            refine XS.iload Xg.here hx rfl (hb hby at_230) rfl ?_
            refine XS.iconst Xg.here hx rfl (hb hby at_232) ?_
            refine XS.icmpNo Xg.here hx rfl (hb hby at_233) rfl (tlt hd69).2.2.2 ?_
            refine XS.iload Xg.here hx rfl (hb hby at_236) rfl ?_
            refine XS.bipush Xg.here hx rfl (hb hby at_238) ?_
            refine XS.icmpYes Xg.here hx rfl (pc0 := 240) (pc' := 247) rfl (hb hby at_240) rfl (feq hd70).2 (by decide) (by decide) ?_
            refine XS.iconst Xg.here hx rfl (hb hby at_247) ?_
            exact kt
          ·simp only [if_neg hd69] at kt
           refine XS.ifNo Xg.here hx rfl (hb hby at_181) rfl ((if0 _ _).trans (tlt hd61).2.2.2) ?_
           refine XS.iload Xg.here hx rfl (hb hby at_184) rfl ?_
           refine XS.bipush Xg.here hx rfl (hb hby at_186) ?_
           refine XS.icmpNo Xg.here hx rfl (hb hby at_188) rfl (feq hd62).1 ?_
           refine XS.iload Xg.here hx rfl (hb hby at_191) rfl ?_
           refine XS.iconst Xg.here hx rfl (hb hby at_193) ?_
           refine XS.icmpNo Xg.here hx rfl (hb hby at_194) rfl (tlt hd63).2.2.2 ?_
           refine XS.iload Xg.here hx rfl (hb hby at_197) rfl ?_
           refine XS.bipush Xg.here hx rfl (hb hby at_199) ?_
           refine XS.icmpNo Xg.here hx rfl (hb hby at_201) rfl (feq hd64).1 ?_
           refine XS.iload Xg.here hx rfl (hb hby at_204) rfl ?_
           refine XS.iconst Xg.here hx rfl (hb hby at_206) ?_
           refine XS.icmpNo Xg.here hx rfl (hb hby at_207) rfl (tlt hd65).2.2.2 ?_
           refine XS.iload Xg.here hx rfl (hb hby at_210) rfl ?_
           refine XS.bipush Xg.here hx rfl (hb hby at_212) ?_
           refine XS.icmpNo Xg.here hx rfl (hb hby at_214) rfl (feq hd66).1 ?_
           refine XS.iload Xg.here hx rfl (hb hby at_217) rfl ?_
           refine XS.iconst Xg.here hx rfl (hb hby at_219) ?_
           refine XS.icmpNo Xg.here hx rfl (hb hby at_220) rfl (tlt hd67).2.2.2 ?_
           refine XS.iload Xg.here hx rfl (hb hby at_223) rfl ?_
           refine XS.bipush Xg.here hx rfl (hb hby at_225) ?_
           refine XS.icmpNo Xg.here hx rfl (hb hby at_227) rfl (feq hd68).1 ?_
           refine XS.iload Xg.here hx rfl (hb hby at_230) rfl ?_
           refine XS.iconst Xg.here hx rfl (hb hby at_232) ?_
           refine XS.icmpYes Xg.here hx rfl (pc0 := 233) (pc' := 247) rfl (hb hby at_233) rfl (flt hd69).2.2.2 (by decide) (by decide) ?_
           refine XS.iconst Xg.here hx rfl (hb hby at_247) ?_
           exact kt
        ·simp only [if_neg hd67] at kt
         refine XS.ifNo Xg.here hx rfl (hb hby at_181) rfl ((if0 _ _).trans (tlt hd61).2.2.2) ?_
         refine XS.iload Xg.here hx rfl (hb hby at_184) rfl ?_
         refine XS.bipush Xg.here hx rfl (hb hby at_186) ?_
         refine XS.icmpNo Xg.here hx rfl (hb hby at_188) rfl (feq hd62).1 ?_
         refine XS.iload Xg.here hx rfl (hb hby at_191) rfl ?_
         refine XS.iconst Xg.here hx rfl (hb hby at_193) ?_
         refine XS.icmpNo Xg.here hx rfl (hb hby at_194) rfl (tlt hd63).2.2.2 ?_
         refine XS.iload Xg.here hx rfl (hb hby at_197) rfl ?_
         refine XS.bipush Xg.here hx rfl (hb hby at_199) ?_
         refine XS.icmpNo Xg.here hx rfl (hb hby at_201) rfl (feq hd64).1 ?_
         refine XS.iload Xg.here hx rfl (hb hby at_204) rfl ?_
         refine XS.iconst Xg.here hx rfl (hb hby at_206) ?_
         refine XS.icmpNo Xg.here hx rfl (hb hby at_207) rfl (tlt hd65).2.2.2 ?_
         refine XS.iload Xg.here hx rfl (hb hby at_210) rfl ?_
         refine XS.bipush Xg.here hx rfl (hb hby at_212) ?_
         refine XS.icmpNo Xg.here hx rfl (hb hby at_214) rfl (feq hd66).1 ?_
         refine XS.iload Xg.here hx rfl (hb hby at_217) rfl ?_
         refine XS.iconst Xg.here hx rfl (hb hby at_219) ?_
         refine XS.icmpYes Xg.here hx rfl (pc0 := 220) (pc' := 230) rfl (hb hby at_220) rfl (flt hd67).2.2.2 (by decide) (by decide) ?_
         refine XS.iload Xg.here hx rfl (hb hby at_230) rfl ?_
         refine XS.iconst Xg.here hx rfl (hb hby at_232) ?_
         refine XS.icmpYes Xg.here hx rfl (pc0 := 233) (pc' := 247) rfl (hb hby at_233) rfl (flt (own_up hd67 (by decide))).2.2.2 (by decide) (by decide) ?_
         refine XS.iconst Xg.here hx rfl (hb hby at_247) ?_
         exact kt
      ·simp only [if_neg hd65] at kt
       refine XS.ifNo Xg.here hx rfl (hb hby at_181) rfl ((if0 _ _).trans (tlt hd61).2.2.2) ?_
       refine XS.iload Xg.here hx rfl (hb hby at_184) rfl ?_
       refine XS.bipush Xg.here hx rfl (hb hby at_186) ?_
       refine XS.icmpNo Xg.here hx rfl (hb hby at_188) rfl (feq hd62).1 ?_
       refine XS.iload Xg.here hx rfl (hb hby at_191) rfl ?_
       refine XS.iconst Xg.here hx rfl (hb hby at_193) ?_
       refine XS.icmpNo Xg.here hx rfl (hb hby at_194) rfl (tlt hd63).2.2.2 ?_
       refine XS.iload Xg.here hx rfl (hb hby at_197) rfl ?_
       refine XS.bipush Xg.here hx rfl (hb hby at_199) ?_
       refine XS.icmpNo Xg.here hx rfl (hb hby at_201) rfl (feq hd64).1 ?_
       refine XS.iload Xg.here hx rfl (hb hby at_204) rfl ?_
       refine XS.iconst Xg.here hx rfl (hb hby at_206) ?_
       refine XS.icmpYes Xg.here hx rfl (pc0 := 207) (pc' := 217) rfl (hb hby at_207) rfl (flt hd65).2.2.2 (by decide) (by decide) ?_
       refine XS.iload Xg.here hx rfl (hb hby at_217) rfl ?_
       refine XS.iconst Xg.here hx rfl (hb hby at_219) ?_
       refine XS.icmpYes Xg.here hx rfl (pc0 := 220) (pc' := 230) rfl (hb hby at_220) rfl (flt (own_up hd65 (by decide))).2.2.2 (by decide) (by decide) ?_
       refine XS.iload Xg.here hx rfl (hb hby at_230) rfl ?_
       refine XS.iconst Xg.here hx rfl (hb hby at_232) ?_
       refine XS.icmpYes Xg.here hx rfl (pc0 := 233) (pc' := 247) rfl (hb hby at_233) rfl (flt (own_up hd65 (by decide))).2.2.2 (by decide) (by decide) ?_
       refine XS.iconst Xg.here hx rfl (hb hby at_247) ?_
       exact kt
    ·simp only [if_neg hd63] at kt
     refine XS.ifNo Xg.here hx rfl (hb hby at_181) rfl ((if0 _ _).trans (tlt hd61).2.2.2) ?_
     refine XS.iload Xg.here hx rfl (hb hby at_184) rfl ?_
     refine XS.bipush Xg.here hx rfl (hb hby at_186) ?_
     refine XS.icmpNo Xg.here hx rfl (hb hby at_188) rfl (feq hd62).1 ?_
     refine XS.iload Xg.here hx rfl (hb hby at_191) rfl ?_
     refine XS.iconst Xg.here hx rfl (hb hby at_193) ?_
     refine XS.icmpYes Xg.here hx rfl (pc0 := 194) (pc' := 204) rfl (hb hby at_194) rfl (flt hd63).2.2.2 (by decide) (by decide) ?_
     refine XS.iload Xg.here hx rfl (hb hby at_204) rfl ?_
     refine XS.iconst Xg.here hx rfl (hb hby at_206) ?_
     refine XS.icmpYes Xg.here hx rfl (pc0 := 207) (pc' := 217) rfl (hb hby at_207) rfl (flt (own_up hd63 (by decide))).2.2.2 (by decide) (by decide) ?_
     refine XS.iload Xg.here hx rfl (hb hby at_217) rfl ?_
     refine XS.iconst Xg.here hx rfl (hb hby at_219) ?_
     refine XS.icmpYes Xg.here hx rfl (pc0 := 220) (pc' := 230) rfl (hb hby at_220) rfl (flt (own_up hd63 (by decide))).2.2.2 (by decide) (by decide) ?_
     refine XS.iload Xg.here hx rfl (hb hby at_230) rfl ?_
     refine XS.iconst Xg.here hx rfl (hb hby at_232) ?_
     refine XS.icmpYes Xg.here hx rfl (pc0 := 233) (pc' := 247) rfl (hb hby at_233) rfl (flt (own_up hd63 (by decide))).2.2.2 (by decide) (by decide) ?_
     refine XS.iconst Xg.here hx rfl (hb hby at_247) ?_
     exact kt
  ·simp only [if_neg hd61] at kt
   refine XS.ifYes Xg.here hx rfl (pc0 := 181) (pc' := 191) rfl (hb hby at_181) rfl ((if0 _ _).trans (flt hd61).2.2.2) (by decide) (by decide) ?_
   refine XS.iload Xg.here hx rfl (hb hby at_191) rfl ?_
   refine XS.iconst Xg.here hx rfl (hb hby at_193) ?_
   refine XS.icmpYes Xg.here hx rfl (pc0 := 194) (pc' := 204) rfl (hb hby at_194) rfl (flt (own_up hd61 (by decide))).2.2.2 (by decide) (by decide) ?_
   refine XS.iload Xg.here hx rfl (hb hby at_204) rfl ?_
   refine XS.iconst Xg.here hx rfl (hb hby at_206) ?_
   refine XS.icmpYes Xg.here hx rfl (pc0 := 207) (pc' := 217) rfl (hb hby at_207) rfl (flt (own_up hd61 (by decide))).2.2.2 (by decide) (by decide) ?_
   refine XS.iload Xg.here hx rfl (hb hby at_217) rfl ?_
   refine XS.iconst Xg.here hx rfl (hb hby at_219) ?_
   refine XS.icmpYes Xg.here hx rfl (pc0 := 220) (pc' := 230) rfl (hb hby at_220) rfl (flt (own_up hd61 (by decide))).2.2.2 (by decide) (by decide) ?_
   refine XS.iload Xg.here hx rfl (hb hby at_230) rfl ?_
   refine XS.iconst Xg.here hx rfl (hb hby at_232) ?_
   refine XS.icmpYes Xg.here hx rfl (pc0 := 233) (pc' := 247) rfl (hb hby at_233) rfl (flt (own_up hd61 (by decide))).2.2.2 (by decide) (by decide) ?_
   refine XS.iconst Xg.here hx rfl (hb hby at_247) ?_
   exact kt
 by_cases hz : nn = (0 : Int32)
 ·have VE : Arv Z h54 b10 k10 .char (0 : Int32) [(.int cv_3), (.int cv_4), (.int cv_5), (.int cv_6), (.int cv_7), (.int cv_8), (.int cv_9)] (.int (0 : Int32)) := by
   have q := j54_0
   rw [hz] at q
   exact q
  obtain ⟨T72, h72, X72, e72, E72, A72, D72, -, st72⟩ := newO X54 hx hZ hown (Wd hw 6 rfl) (Wd hw 7 rfl) (Wd hw 8 rfl) e54 (g := (mkF m 168 #[.val (.int le), .val (.int fl), .val (.long la), .second, .val (.long lz), .second, .val (.int nn), .val (.int cv_3), .val (.int cv_4), .val (.int cv_5), .val (.int cv_6), .val (.int cv_7), .val (.int cv_8), .val (.int cv_9), .val (.ref b10), .unset, .unset] [])) rfl (hb hby at_168) (by decide) (by decide)
  obtain ⟨b72, g72⟩ : ∃ z, z = h54.size := ⟨_, rfl⟩
  rw [← g72] at A72 D72 st72
  have ne_b10_b72 : b10 ≠ b72 := Nat.ne_of_lt (Nat.lt_of_lt_of_le VE.lt (Nat.le_of_eq g72.symm))
  have g_b72 : n0 ≤ b72 := Nat.le_trans Zs54 (Nat.le_of_eq g72.symm)
  have sz_b72 : h0.size ≤ b72 := Nat.le_trans K54.1 (Nat.le_of_eq g72.symm)
  have K72 : Keep h0 h72 [] := K54.ext E72
  have Zs72 : n0 ≤ h72.size := Nat.le_trans Zs54 E72.1
  have hks72 := Nat.le_trans hks54 E72.1
  have ch72 := CHr.trans ch54 (CHr.ext E72 ch54.1)
  have sf72_b72 := (Safe.ext E72 ch54.1 (Safe.new (Nat.le_of_eq g72.symm)))
  have F72_value : Fld Z h72 b72 "java/lang/String" "value" "[B" .null := D72 (Or.inr (Wd hw 21 rfl)) (ty := (.array .byte)) (by decide)
  have F72_coder : Fld Z h72 b72 "java/lang/String" "coder" "B" (.int (0 : Int32)) := D72 (Or.inr (Wd hw 22 rfl)) (ty := .byte) (by decide)
  have r74 : ∀ t, Steps p.tables e below (T72.setTop (mkF m 174 #[.val (.int le), .val (.int fl), .val (.long la), .second, .val (.long lz), .second, .val (.int nn), .val (.int cv_3), .val (.int cv_4), .val (.int cv_5), .val (.int cv_6), .val (.int cv_7), .val (.int cv_8), .val (.int cv_9), .val (.ref b10), .unset, .unset] [(.ref b10), (.ref b72), (.ref b72)])) t → Steps p.tables e below (T54.setTop (mkF m 168 #[.val (.int le), .val (.int fl), .val (.long la), .second, .val (.long lz), .second, .val (.int nn), .val (.int cv_3), .val (.int cv_4), .val (.int cv_5), .val (.int cv_6), .val (.int cv_7), .val (.int cv_8), .val (.int cv_9), .val (.ref b10), .unset, .unset] [])) t := fun t kt => by
   refine st72 _ ?_
   refine XS.dup X72.here hx rfl (hb hby at_171) rfl rfl ?_
   refine XS.aload X72.here hx rfl (hb hby at_172) rfl rfl ?_
   exact kt
  obtain ⟨_, _, ⟨T73, L73, k73, n73⟩, -, Xb73, hSb73, hgr73, ⟨Lc73, hQ73, l73, y73, z73, cr73⟩, st73⟩ := X72.specialBackS hx (y := (⟨"java/lang/String", "<init>", "([C)V"⟩ : MethodName)) rfl hown (mvT hZ (Wd hw 9 rfl)) (mvT hZ (Wd hw 10 rfl)) (mvT hZ (Wd hw 11 rfl)) (by decide) (backOfSH (s := s) (W := 1) (rmI1E l Z a0 hw [] b72 b10 ([(.int cv_3), (.int cv_4), (.int cv_5), (.int cv_6), (.int cv_7), (.int cv_8), (.int cv_9)]) k10 h72 n0 Zs72 (VE.ext E72) A72 F72_value F72_coder g_b72) hZ (Wd hw 11 rfl) (Wd hw 8 rfl) (by decide) (by decide) hELW ch72.1) (g := (mkF m 174 #[.val (.int le), .val (.int fl), .val (.long la), .second, .val (.long lz), .second, .val (.int nn), .val (.int cv_3), .val (.int cv_4), .val (.int cv_5), .val (.int cv_6), .val (.int cv_7), .val (.int cv_8), .val (.int cv_9), .val (.ref b10), .unset, .unset] [(.ref b10), (.ref b72), (.ref b72)])) rfl (by rw [hml]; rfl) (Steps.refl _) (a := b72) (argsL := [(.ref b10)]) (rest := [(.ref b72)]) (lenOf own_pd18 rfl) rfl (by show 2 * 0 + _ ≤ _; exact Nat.le_of_eq rfl) (hb hby at_174) (fun _ _ => ⟨rfl, e72, (by decide : 2 + 4 ≤ _), (by decide : 11 + 8 ≤ _)⟩)
  dsimp only [Pt.U, Pt.locs, Pt.cells, Pt.slots] at Xb73 hSb73 hgr73 l73 y73 z73 st73 hQ73 cr73
  subst l73 y73 z73
  obtain ⟨X73, hS73, hZ, hown⟩ := rebS hS0 (by rw [e72]; exact hks72) Xb73 hSb73 hgr73 hZ hown
  obtain ⟨rt_73, k_rt_73, rfl, Nq73, Kc73, q73_0, q73_1, q73_2, q73_3⟩ := hQ73
  have K73 : Keep h0 T73.heap [] := Keep.trans K72 Kc73 (allS (Or.inr sz_b72) all0)
  have Zs73 : n0 ≤ T73.heap.size := Nat.le_trans Zs72 Kc73.1
  have N73 := Fr.app N54 Nq73
  have ch73 := CHr.trans ch72 cr73
  have sf73_b72 := CHr.safe cr73 A72.lt sf72_b72
  obtain ⟨_, _, ⟨T75, L75, k75, n75⟩, -, X75, ⟨Lc75, hQ75, l75, y75, z75⟩, st75⟩ := Jvm.LawKit.callS X73 hx (y := (⟨"com/example/careful_throttle/carefulthrottle/address/IpAddress", "mayBeIpv6", "(Ljava/lang/String;)Z"⟩ : MethodName)) hown (mvT hZ (Wd hw 27 rfl)) (mvT hZ (Wd hw 28 rfl)) (mvT hZ (Wd hw 29 rfl)) (mvT hZ (Wd hw 30 rfl)) (by decide) (backOf (W := 0) (rmMBE l Z a0 hw [] b72 rt_73 k_rt_73 cst T73.heap n0 Zs73 q73_0 q73_1 q73_2 q73_3 (X00.keep K73 all0) S_COMPACT_STRINGS hcs) hZ (Wd hw 30 rfl) (Wd hw 29 rfl) (by decide) (by decide)) (g := (mkF m 252 #[.val (.int le), .val (.int fl), .val (.long la), .second, .val (.long lz), .second, .val (.int nn), .val (.int cv_3), .val (.int cv_4), .val (.int cv_5), .val (.int cv_6), .val (.int cv_7), .val (.int cv_8), .val (.int cv_9), .val (.ref b10), .val (.ref b72), .val (.int (0 : Int32))] [(.ref b72)])) rfl (by rw [hml]; rfl) (argsL := [(.ref b72)]) (rest := []) (lenOf own_pd19 rfl) rfl (by show 2 * 0 + _ ≤ _; exact Nat.le_of_eq rfl) (hb hby at_252) (fun _ _ => ⟨rfl, rfl, (by decide : 6 + 0 ≤ _), (by decide : 19 + 0 ≤ _)⟩)
  dsimp only [Pt.U, Pt.locs, Pt.cells, Pt.slots] at X75 l75 y75 z75 st75 hQ75
  subst l75 y75 z75
  obtain ⟨rfl, Nq75, e75⟩ := hQ75
  have N75 := Fr.app N73 Nq75
  obtain ⟨fs, hr, hrun, hended, hEW⟩ := X75.leaveW hS73 (by rw [e75]; exact (Nat.le_refl _)) (v := some (.int (1 : Int32))) (fun h => by rw [Bd.returns] at h; cases h)
  refine ⟨_, _, (pre0 _ (r1 _ (r2 _ (r11 _ (r12 _ (r18 _ (r19 _ (r25 _ (r26 _ (r32 _ (r33 _ (r39 _ (r40 _ (r46 _ (r47 _ (r53 _ (r54 _ (r74 _ ?_)))))))))))))))))), hrun, hended, _, _, rfl, ?_, hEW.1, hEW.2.1, hEW.2.2.1, hEW.2.2.2.mono (by decide) (by decide)⟩
  ·show Steps p.tables e below (T72.setTop (mkF m 174 #[.val (.int le), .val (.int fl), .val (.long la), .second, .val (.long lz), .second, .val (.int nn), .val (.int cv_3), .val (.int cv_4), .val (.int cv_5), .val (.int cv_6), .val (.int cv_7), .val (.int cv_8), .val (.int cv_9), .val (.ref b10), .unset, .unset] [(.ref b10), (.ref b72), (.ref b72)])) _
   refine st73.trans ?_
   refine XS.astore X73.here hx rfl (hb hby at_177) rfl rfl (l' := #[.val (.int le), .val (.int fl), .val (.long la), .second, .val (.long lz), .second, .val (.int nn), .val (.int cv_3), .val (.int cv_4), .val (.int cv_5), .val (.int cv_6), .val (.int cv_7), .val (.int cv_8), .val (.int cv_9), .val (.ref b10), .val (.ref b72), .unset]) rfl ?_
   refine XS.iload X73.here hx rfl (hb hby at_179) rfl ?_
   refine XS.ifYes X73.here hx rfl (pc0 := 181) (pc' := 191) rfl (hb hby at_181) rfl ((if0 _ _).trans (flt (own_nz hz (by decide))).2.2.2) (by decide) (by decide) ?_
   refine XS.iload X73.here hx rfl (hb hby at_191) rfl ?_
   refine XS.iconst X73.here hx rfl (hb hby at_193) ?_
   refine XS.icmpYes X73.here hx rfl (pc0 := 194) (pc' := 204) rfl (hb hby at_194) rfl (flt (own_nz hz (by decide))).2.2.2 (by decide) (by decide) ?_
   refine XS.iload X73.here hx rfl (hb hby at_204) rfl ?_
   refine XS.iconst X73.here hx rfl (hb hby at_206) ?_
   refine XS.icmpYes X73.here hx rfl (pc0 := 207) (pc' := 217) rfl (hb hby at_207) rfl (flt (own_nz hz (by decide))).2.2.2 (by decide) (by decide) ?_
   refine XS.iload X73.here hx rfl (hb hby at_217) rfl ?_
   refine XS.iconst X73.here hx rfl (hb hby at_219) ?_
   refine XS.icmpYes X73.here hx rfl (pc0 := 220) (pc' := 230) rfl (hb hby at_220) rfl (flt (own_nz hz (by decide))).2.2.2 (by decide) (by decide) ?_
   refine XS.iload X73.here hx rfl (hb hby at_230) rfl ?_
   refine XS.iconst X73.here hx rfl (hb hby at_232) ?_
   refine XS.icmpYes X73.here hx rfl (pc0 := 233) (pc' := 247) rfl (hb hby at_233) rfl (flt (own_nz hz (by decide))).2.2.2 (by decide) (by decide) ?_
   refine XS.iconst X73.here hx rfl (hb hby at_247) ?_
   refine XS.istore X73.here hx rfl (hb hby at_248) rfl (l' := #[.val (.int le), .val (.int fl), .val (.long la), .second, .val (.long lz), .second, .val (.int nn), .val (.int cv_3), .val (.int cv_4), .val (.int cv_5), .val (.int cv_6), .val (.int cv_7), .val (.int cv_8), .val (.int cv_9), .val (.ref b10), .val (.ref b72), .val (.int (0 : Int32))]) rfl ?_
   refine XS.aload X73.here hx rfl (hb hby at_250) rfl rfl ?_
   refine st75 _ ?_
   refine XS.iload X75.here hx rfl (hb hby at_255) rfl ?_
   refine XS.icmpNo X75.here hx rfl (hb hby at_257) rfl (teq (by decide : (0 : Int32) = (0 : Int32))).2 ?_
   refine XS.iconst X75.here hx rfl (hb hby at_260) ?_
   refine XS.goto X75.here hx rfl (pc0 := 261) (pc' := 265) rfl (hb hby at_261) (by decide) (by decide) ?_
   exact retN X75 hx (t := .boolean) Bd.returns (by simp) (hb hby at_265) hr
  ·show QL Z le fl la lz cst fm h0 n0 _ T75.heap _
   rw [e75]
   exact ⟨rfl, N75⟩
 ·have hp : 1 ≤ nn.toInt ∧ nn.toInt ≤ 7 := own_pos1 hn hz
  by_cases hl : own_lat nn [cv_3, cv_4, cv_5, cv_6, cv_7, cv_8, cv_9]
  ·obtain ⟨T76, h76, X76, e76, E76, A76, D76, -, st76⟩ := newO X54 hx hZ hown (Wd hw 6 rfl) (Wd hw 7 rfl) (Wd hw 8 rfl) e54 (g := (mkF m 168 #[.val (.int le), .val (.int fl), .val (.long la), .second, .val (.long lz), .second, .val (.int nn), .val (.int cv_3), .val (.int cv_4), .val (.int cv_5), .val (.int cv_6), .val (.int cv_7), .val (.int cv_8), .val (.int cv_9), .val (.ref b10), .unset, .unset] [])) rfl (hb hby at_168) (by decide) (by decide)
   obtain ⟨b76, g76⟩ : ∃ z, z = h54.size := ⟨_, rfl⟩
   rw [← g76] at A76 D76 st76
   have ne_b10_b76 : b10 ≠ b76 := Nat.ne_of_lt (Nat.lt_of_lt_of_le j54_0.lt (Nat.le_of_eq g76.symm))
   have g_b76 : n0 ≤ b76 := Nat.le_trans Zs54 (Nat.le_of_eq g76.symm)
   have sz_b76 : h0.size ≤ b76 := Nat.le_trans K54.1 (Nat.le_of_eq g76.symm)
   have K76 : Keep h0 h76 [] := K54.ext E76
   have Zs76 : n0 ≤ h76.size := Nat.le_trans Zs54 E76.1
   have hks76 := Nat.le_trans hks54 E76.1
   have ch76 := CHr.trans ch54 (CHr.ext E76 ch54.1)
   have sf76_b76 := (Safe.ext E76 ch54.1 (Safe.new (Nat.le_of_eq g76.symm)))
   have F76_value : Fld Z h76 b76 "java/lang/String" "value" "[B" .null := D76 (Or.inr (Wd hw 21 rfl)) (ty := (.array .byte)) (by decide)
   have F76_coder : Fld Z h76 b76 "java/lang/String" "coder" "B" (.int (0 : Int32)) := D76 (Or.inr (Wd hw 22 rfl)) (ty := .byte) (by decide)
   obtain ⟨_, _, ⟨T77, L77, k77, n77⟩, -, X77, ⟨Lc77, hQ77, l77, y77, z77⟩, st77⟩ := X76.specialBack hx (y := (⟨"java/lang/String", "<init>", "([C)V"⟩ : MethodName)) rfl hown (mvT hZ (Wd hw 9 rfl)) (mvT hZ (Wd hw 10 rfl)) (mvT hZ (Wd hw 11 rfl)) (by decide) (backOf (W := 1) (rmI1L l Z a0 hw [] b76 b10 nn cst cv_3 cv_4 cv_5 cv_6 cv_7 cv_8 cv_9 k10 h76 n0 Zs76 A76 F76_value F76_coder g_b76 (X00.keep K76 all0) S_COMPACT_STRINGS hcs (j54_0.ext E76) hp hl) hZ (Wd hw 11 rfl) (Wd hw 8 rfl) (by decide) (by decide)) (g := (mkF m 174 #[.val (.int le), .val (.int fl), .val (.long la), .second, .val (.long lz), .second, .val (.int nn), .val (.int cv_3), .val (.int cv_4), .val (.int cv_5), .val (.int cv_6), .val (.int cv_7), .val (.int cv_8), .val (.int cv_9), .val (.ref b10), .unset, .unset] [(.ref b10), (.ref b76), (.ref b76)])) rfl (by rw [hml]; rfl) (Steps.refl _) (a := b76) (argsL := [(.ref b10)]) (rest := [(.ref b76)]) (lenOf own_pd18 rfl) rfl (by show 2 * 0 + _ ≤ _; exact Nat.le_of_eq rfl) (hb hby at_174) (fun _ _ => ⟨rfl, e76, (by decide : 2 + 1 ≤ _), (by decide : 11 + 7 ≤ _)⟩)
   dsimp only [Pt.U, Pt.locs, Pt.cells, Pt.slots] at X77 l77 y77 z77 st77 hQ77
   subst l77 y77 z77
   obtain ⟨rt_77, k_rt_77, rfl, Nq77, Kc77, g_rt_77, zq_rt_77, q77_0, q77_1, q77_2, q77_3⟩ := hQ77
   have sz_rt_77 : h0.size ≤ rt_77 := Nat.le_trans K76.1 zq_rt_77
   have ne_b10_rt_77 : b10 ≠ rt_77 := Nat.ne_of_lt (Nat.lt_of_lt_of_le (j54_0.ext E76).lt zq_rt_77)
   have ne_b76_rt_77 : b76 ≠ rt_77 := Nat.ne_of_lt (Nat.lt_of_lt_of_le A76.lt zq_rt_77)
   have K77 : Keep h0 T77.heap [] := Keep.trans K76 Kc77 (allS (Or.inr sz_b76) all0)
   have Zs77 : n0 ≤ T77.heap.size := Nat.le_trans Zs76 Kc77.1
   have hks77 := Nat.le_trans hks76 Kc77.1
   have ch77 := CHr.trans ch76 (CHr.keep Kc77 (sfS sf76_b76 sf0) ch76.1)
   have sf77_b76 := (Safe.keep Kc77 (sfS sf76_b76 sf0) ch76.1 sf76_b76)
   have sf77_rt_77 := Safe.keep Kc77 (sfS sf76_b76 sf0) ch76.1 (Safe.new zq_rt_77)
   have N77 := Fr.app N54 Nq77
   have r78 : ∀ t, Steps p.tables e below (T77.setTop (mkF m 181 #[.val (.int le), .val (.int fl), .val (.long la), .second, .val (.long lz), .second, .val (.int nn), .val (.int cv_3), .val (.int cv_4), .val (.int cv_5), .val (.int cv_6), .val (.int cv_7), .val (.int cv_8), .val (.int cv_9), .val (.ref b10), .val (.ref b76), .unset] [(.int nn)])) t → Steps p.tables e below (T54.setTop (mkF m 168 #[.val (.int le), .val (.int fl), .val (.long la), .second, .val (.long lz), .second, .val (.int nn), .val (.int cv_3), .val (.int cv_4), .val (.int cv_5), .val (.int cv_6), .val (.int cv_7), .val (.int cv_8), .val (.int cv_9), .val (.ref b10), .unset, .unset] [])) t := fun t kt => by
    refine st76 _ ?_
    refine XS.dup X76.here hx rfl (hb hby at_171) rfl rfl ?_
    refine XS.aload X76.here hx rfl (hb hby at_172) rfl rfl ?_
    refine st77.trans ?_
    refine XS.astore X77.here hx rfl (hb hby at_177) rfl rfl (l' := #[.val (.int le), .val (.int fl), .val (.long la), .second, .val (.long lz), .second, .val (.int nn), .val (.int cv_3), .val (.int cv_4), .val (.int cv_5), .val (.int cv_6), .val (.int cv_7), .val (.int cv_8), .val (.int cv_9), .val (.ref b10), .val (.ref b76), .unset]) rfl ?_
    refine XS.iload X77.here hx rfl (hb hby at_179) rfl ?_
    exact kt
   obtain ⟨_, _, ⟨T79, L79, k79, n79⟩, -, X79, ⟨Lc79, hQ79, l79, y79, z79⟩, st79⟩ := Jvm.LawKit.callS X77 hx (y := (⟨"com/example/careful_throttle/carefulthrottle/address/IpAddress", "mayBeIpv6", "(Ljava/lang/String;)Z"⟩ : MethodName)) hown (mvT hZ (Wd hw 27 rfl)) (mvT hZ (Wd hw 28 rfl)) (mvT hZ (Wd hw 29 rfl)) (mvT hZ (Wd hw 30 rfl)) (by decide) (backOf (W := 0) (rmMBL l Z a0 hw [] b76 rt_77 nn cv_3 cv_4 cv_5 cv_6 cv_7 cv_8 cv_9 k_rt_77 cst fm T77.heap n0 Zs77 q77_0 q77_1 q77_2 q77_3 (X00.keep K77 all0) S_COMPACT_STRINGS hcs hn S_SIOOBE_FORMATTER hfm hcv_3 hcv_4 hcv_5 hcv_6 hcv_7 hl) hZ (Wd hw 30 rfl) (Wd hw 29 rfl) (by decide) (by decide)) (g := (mkF m 252 #[.val (.int le), .val (.int fl), .val (.long la), .second, .val (.long lz), .second, .val (.int nn), .val (.int cv_3), .val (.int cv_4), .val (.int cv_5), .val (.int cv_6), .val (.int cv_7), .val (.int cv_8), .val (.int cv_9), .val (.ref b10), .val (.ref b76), .val (.int v71)] [(.ref b76)])) rfl (by rw [hml]; rfl) (argsL := [(.ref b76)]) (rest := []) (lenOf own_pd19 rfl) rfl (by show 2 * 0 + _ ≤ _; exact Nat.le_of_eq rfl) (hb hby at_252) (fun _ _ => ⟨rfl, rfl, (by decide : 3 + 0 ≤ _), (by decide : 18 + 0 ≤ _)⟩)
   dsimp only [Pt.U, Pt.locs, Pt.cells, Pt.slots] at X79 l79 y79 z79 st79 hQ79
   subst l79 y79 z79
   obtain ⟨rfl, Nq79, e79⟩ := hQ79
   have N79 := Fr.app N77 Nq79
   obtain ⟨fs, hr, hrun, hended, hEW⟩ := X79.leaveW hS0 (by rw [e79]; exact hks77) (v := some (.int (1 : Int32))) (fun h => by rw [Bd.returns] at h; cases h)
   refine ⟨_, _, (pre0 _ (r1 _ (r2 _ (r11 _ (r12 _ (r18 _ (r19 _ (r25 _ (r26 _ (r32 _ (r33 _ (r39 _ (r40 _ (r46 _ (r47 _ (r53 _ (r54 _ (r78 _ (r60 _ _ _ _ _ X77 _ ?_))))))))))))))))))), hrun, hended, _, _, rfl, ?_, hEW.1, hEW.2.1, hEW.2.2.1, hEW.2.2.2.mono (by decide) (by decide)⟩
   ·show Steps p.tables e below (T77.setTop (mkF m 248 #[.val (.int le), .val (.int fl), .val (.long la), .second, .val (.long lz), .second, .val (.int nn), .val (.int cv_3), .val (.int cv_4), .val (.int cv_5), .val (.int cv_6), .val (.int cv_7), .val (.int cv_8), .val (.int cv_9), .val (.ref b10), .val (.ref b76), .unset] [(.int v71)])) _
    refine XS.istore X77.here hx rfl (hb hby at_248) rfl (l' := #[.val (.int le), .val (.int fl), .val (.long la), .second, .val (.long lz), .second, .val (.int nn), .val (.int cv_3), .val (.int cv_4), .val (.int cv_5), .val (.int cv_6), .val (.int cv_7), .val (.int cv_8), .val (.int cv_9), .val (.ref b10), .val (.ref b76), .val (.int v71)]) rfl ?_
    refine XS.aload X77.here hx rfl (hb hby at_250) rfl rfl ?_
    refine st79 _ ?_
    refine XS.iload X79.here hx rfl (hb hby at_255) rfl ?_
    refine XS.icmpNo X79.here hx rfl (hb hby at_257) rfl (teq (by rw [hv71]; exact own_same _ _ _ _ _ _)).2 ?_
    refine XS.iconst X79.here hx rfl (hb hby at_260) ?_
    refine XS.goto X79.here hx rfl (pc0 := 261) (pc' := 265) rfl (hb hby at_261) (by decide) (by decide) ?_
    exact retN X79 hx (t := .boolean) Bd.returns (by simp) (hb hby at_265) hr
   ·show QL Z le fl la lz cst fm h0 n0 _ T79.heap _
    rw [e79]
    exact ⟨rfl, N79⟩
  ·have hwd : own_wide nn [cv_3, cv_4, cv_5, cv_6, cv_7, cv_8, cv_9] := own_notlat hn hl
   obtain ⟨T80, h80, X80, e80, E80, A80, D80, -, st80⟩ := newO X54 hx hZ hown (Wd hw 6 rfl) (Wd hw 7 rfl) (Wd hw 8 rfl) e54 (g := (mkF m 168 #[.val (.int le), .val (.int fl), .val (.long la), .second, .val (.long lz), .second, .val (.int nn), .val (.int cv_3), .val (.int cv_4), .val (.int cv_5), .val (.int cv_6), .val (.int cv_7), .val (.int cv_8), .val (.int cv_9), .val (.ref b10), .unset, .unset] [])) rfl (hb hby at_168) (by decide) (by decide)
   obtain ⟨b80, g80⟩ : ∃ z, z = h54.size := ⟨_, rfl⟩
   rw [← g80] at A80 D80 st80
   have ne_b10_b80 : b10 ≠ b80 := Nat.ne_of_lt (Nat.lt_of_lt_of_le j54_0.lt (Nat.le_of_eq g80.symm))
   have g_b80 : n0 ≤ b80 := Nat.le_trans Zs54 (Nat.le_of_eq g80.symm)
   have sz_b80 : h0.size ≤ b80 := Nat.le_trans K54.1 (Nat.le_of_eq g80.symm)
   have K80 : Keep h0 h80 [] := K54.ext E80
   have Zs80 : n0 ≤ h80.size := Nat.le_trans Zs54 E80.1
   have hks80 := Nat.le_trans hks54 E80.1
   have ch80 := CHr.trans ch54 (CHr.ext E80 ch54.1)
   have sf80_b80 := (Safe.ext E80 ch54.1 (Safe.new (Nat.le_of_eq g80.symm)))
   have F80_value : Fld Z h80 b80 "java/lang/String" "value" "[B" .null := D80 (Or.inr (Wd hw 21 rfl)) (ty := (.array .byte)) (by decide)
   have F80_coder : Fld Z h80 b80 "java/lang/String" "coder" "B" (.int (0 : Int32)) := D80 (Or.inr (Wd hw 22 rfl)) (ty := .byte) (by decide)
   obtain ⟨_, _, ⟨T81, L81, k81, n81⟩, -, X81, ⟨Lc81, hQ81, l81, y81, z81⟩, st81⟩ := X80.specialBack hx (y := (⟨"java/lang/String", "<init>", "([C)V"⟩ : MethodName)) rfl hown (mvT hZ (Wd hw 9 rfl)) (mvT hZ (Wd hw 10 rfl)) (mvT hZ (Wd hw 11 rfl)) (by decide) (backOf (W := 1) (rmI1W l Z a0 hw [] b80 b10 nn cst cv_3 cv_4 cv_5 cv_6 cv_7 cv_8 cv_9 k10 h80 n0 Zs80 A80 F80_value F80_coder g_b80 (X00.keep K80 all0) S__assertionsDisabled S_HI_BYTE_SHIFT S_LO_BYTE_SHIFT S_COMPACT_STRINGS hcs (j54_0.ext E80) hp hwd hcv_3 hcv_4 hcv_5 hcv_6 hcv_7 hcv_8 hcv_9) hZ (Wd hw 11 rfl) (Wd hw 8 rfl) (by decide) (by decide)) (g := (mkF m 174 #[.val (.int le), .val (.int fl), .val (.long la), .second, .val (.long lz), .second, .val (.int nn), .val (.int cv_3), .val (.int cv_4), .val (.int cv_5), .val (.int cv_6), .val (.int cv_7), .val (.int cv_8), .val (.int cv_9), .val (.ref b10), .unset, .unset] [(.ref b10), (.ref b80), (.ref b80)])) rfl (by rw [hml]; rfl) (Steps.refl _) (a := b80) (argsL := [(.ref b10)]) (rest := [(.ref b80)]) (lenOf own_pd18 rfl) rfl (by show 2 * 0 + _ ≤ _; exact Nat.le_of_eq rfl) (hb hby at_174) (fun _ _ => ⟨rfl, e80, (by decide : 2 + 2 ≤ _), (by decide : 11 + 21 ≤ _)⟩)
   dsimp only [Pt.U, Pt.locs, Pt.cells, Pt.slots] at X81 l81 y81 z81 st81 hQ81
   subst l81 y81 z81
   obtain ⟨rt_81, k_rt_81, rfl, Nq81, Kc81, g_rt_81, zq_rt_81, q81_0, q81_1, q81_2, q81_3⟩ := hQ81
   have sz_rt_81 : h0.size ≤ rt_81 := Nat.le_trans K80.1 zq_rt_81
   have ne_b10_rt_81 : b10 ≠ rt_81 := Nat.ne_of_lt (Nat.lt_of_lt_of_le (j54_0.ext E80).lt zq_rt_81)
   have ne_b80_rt_81 : b80 ≠ rt_81 := Nat.ne_of_lt (Nat.lt_of_lt_of_le A80.lt zq_rt_81)
   have K81 : Keep h0 T81.heap [] := Keep.trans K80 Kc81 (allS (Or.inr sz_b80) all0)
   have Zs81 : n0 ≤ T81.heap.size := Nat.le_trans Zs80 Kc81.1
   have hks81 := Nat.le_trans hks80 Kc81.1
   have ch81 := CHr.trans ch80 (CHr.keep Kc81 (sfS sf80_b80 sf0) ch80.1)
   have sf81_b80 := (Safe.keep Kc81 (sfS sf80_b80 sf0) ch80.1 sf80_b80)
   have sf81_rt_81 := Safe.keep Kc81 (sfS sf80_b80 sf0) ch80.1 (Safe.new zq_rt_81)
   have N81 := Fr.app N54 Nq81
   have r82 : ∀ t, Steps p.tables e below (T81.setTop (mkF m 181 #[.val (.int le), .val (.int fl), .val (.long la), .second, .val (.long lz), .second, .val (.int nn), .val (.int cv_3), .val (.int cv_4), .val (.int cv_5), .val (.int cv_6), .val (.int cv_7), .val (.int cv_8), .val (.int cv_9), .val (.ref b10), .val (.ref b80), .unset] [(.int nn)])) t → Steps p.tables e below (T54.setTop (mkF m 168 #[.val (.int le), .val (.int fl), .val (.long la), .second, .val (.long lz), .second, .val (.int nn), .val (.int cv_3), .val (.int cv_4), .val (.int cv_5), .val (.int cv_6), .val (.int cv_7), .val (.int cv_8), .val (.int cv_9), .val (.ref b10), .unset, .unset] [])) t := fun t kt => by
    refine st80 _ ?_
    refine XS.dup X80.here hx rfl (hb hby at_171) rfl rfl ?_
    refine XS.aload X80.here hx rfl (hb hby at_172) rfl rfl ?_
    refine st81.trans ?_
    refine XS.astore X81.here hx rfl (hb hby at_177) rfl rfl (l' := #[.val (.int le), .val (.int fl), .val (.long la), .second, .val (.long lz), .second, .val (.int nn), .val (.int cv_3), .val (.int cv_4), .val (.int cv_5), .val (.int cv_6), .val (.int cv_7), .val (.int cv_8), .val (.int cv_9), .val (.ref b10), .val (.ref b80), .unset]) rfl ?_
    refine XS.iload X81.here hx rfl (hb hby at_179) rfl ?_
    exact kt
   obtain ⟨_, _, ⟨T83, L83, k83, n83⟩, -, X83, ⟨Lc83, hQ83, l83, y83, z83⟩, st83⟩ := Jvm.LawKit.callS X81 hx (y := (⟨"com/example/careful_throttle/carefulthrottle/address/IpAddress", "mayBeIpv6", "(Ljava/lang/String;)Z"⟩ : MethodName)) hown (mvT hZ (Wd hw 27 rfl)) (mvT hZ (Wd hw 28 rfl)) (mvT hZ (Wd hw 29 rfl)) (mvT hZ (Wd hw 30 rfl)) (by decide) (backOf (W := 0) (rmMBW l Z a0 hw [] b80 rt_81 nn cv_3 cv_4 cv_5 cv_6 cv_7 cv_8 cv_9 k_rt_81 cst fm T81.heap n0 Zs81 q81_0 q81_1 q81_2 q81_3 (X00.keep K81 all0) S__assertionsDisabled S_HI_BYTE_SHIFT S_LO_BYTE_SHIFT S_COMPACT_STRINGS hcs hn S_SIOOBE_FORMATTER hfm hcv_3 hcv_4 hcv_5 hcv_6 hcv_7) hZ (Wd hw 30 rfl) (Wd hw 29 rfl) (by decide) (by decide)) (g := (mkF m 252 #[.val (.int le), .val (.int fl), .val (.long la), .second, .val (.long lz), .second, .val (.int nn), .val (.int cv_3), .val (.int cv_4), .val (.int cv_5), .val (.int cv_6), .val (.int cv_7), .val (.int cv_8), .val (.int cv_9), .val (.ref b10), .val (.ref b80), .val (.int v71)] [(.ref b80)])) rfl (by rw [hml]; rfl) (argsL := [(.ref b80)]) (rest := []) (lenOf own_pd19 rfl) rfl (by show 2 * 0 + _ ≤ _; exact Nat.le_of_eq rfl) (hb hby at_252) (fun _ _ => ⟨rfl, rfl, (by decide : 4 + 0 ≤ _), (by decide : 32 + 0 ≤ _)⟩)
   dsimp only [Pt.U, Pt.locs, Pt.cells, Pt.slots] at X83 l83 y83 z83 st83 hQ83
   subst l83 y83 z83
   obtain ⟨rfl, Nq83, e83⟩ := hQ83
   have N83 := Fr.app N81 Nq83
   obtain ⟨fs, hr, hrun, hended, hEW⟩ := X83.leaveW hS0 (by rw [e83]; exact hks81) (v := some (.int (1 : Int32))) (fun h => by rw [Bd.returns] at h; cases h)
   refine ⟨_, _, (pre0 _ (r1 _ (r2 _ (r11 _ (r12 _ (r18 _ (r19 _ (r25 _ (r26 _ (r32 _ (r33 _ (r39 _ (r40 _ (r46 _ (r47 _ (r53 _ (r54 _ (r82 _ (r60 _ _ _ _ _ X81 _ ?_))))))))))))))))))), hrun, hended, _, _, rfl, ?_, hEW.1, hEW.2.1, hEW.2.2.1, hEW.2.2.2.mono (by decide) (by decide)⟩
   ·show Steps p.tables e below (T81.setTop (mkF m 248 #[.val (.int le), .val (.int fl), .val (.long la), .second, .val (.long lz), .second, .val (.int nn), .val (.int cv_3), .val (.int cv_4), .val (.int cv_5), .val (.int cv_6), .val (.int cv_7), .val (.int cv_8), .val (.int cv_9), .val (.ref b10), .val (.ref b80), .unset] [(.int v71)])) _
    refine XS.istore X81.here hx rfl (hb hby at_248) rfl (l' := #[.val (.int le), .val (.int fl), .val (.long la), .second, .val (.long lz), .second, .val (.int nn), .val (.int cv_3), .val (.int cv_4), .val (.int cv_5), .val (.int cv_6), .val (.int cv_7), .val (.int cv_8), .val (.int cv_9), .val (.ref b10), .val (.ref b80), .val (.int v71)]) rfl ?_
    refine XS.aload X81.here hx rfl (hb hby at_250) rfl rfl ?_
    refine st83 _ ?_
    refine XS.iload X83.here hx rfl (hb hby at_255) rfl ?_
    refine XS.icmpNo X83.here hx rfl (hb hby at_257) rfl (teq (by rw [hv71]; exact own_same _ _ _ _ _ _)).2 ?_
    refine XS.iconst X83.here hx rfl (hb hby at_260) ?_
    refine XS.goto X83.here hx rfl (pc0 := 261) (pc' := 265) rfl (hb hby at_261) (by decide) (by decide) ?_
    exact retN X83 hx (t := .boolean) Bd.returns (by simp) (hb hby at_265) hr
   ·show QL Z le fl la lz cst fm h0 n0 _ T83.heap _
    rw [e83]
    exact ⟨rfl, N83⟩
set_option maxRecDepth 65536 in
set_option maxHeartbeats 40000000 in
theorem comes_1 {Post : Tables → Env → Array Value → State → Outcome → State → Prop} (hpost : ∀ tb e args s v u, (limb_1_1.after args s (.returned v) u = true ∧ limb_1_2.after args s (.returned v) u = true ∧ True) → ReturnedEndW s (.returned v) u (Jvm.fieldLocs frame_1_writes args s ++ Jvm.arrayLocs frame_1_arrays args s ++ Jvm.staticLocs frame_1_statics s) 24 1216 → Post tb e args s (.returned v) u) :
  ArmFor flags0 classFile x code maxLocals ret World_1 tables_1 room_1 Calls_1 rest_1 Pre_1 Post := by
 intro l hfl _ _ p e ha hc hk s m args below hf hA hF happ hP
 obtain ⟨hcalls, hrest, hpre⟩ := hP
 obtain ⟨-, -, -, hnamed, -, -, -, hat⟩ := (Spec.applies_iff hf).mp happ
 obtain ⟨hg, hn⟩ := and_e (Cond.before_iff.mp (show (Jvm.Cond.and given_1 narrow_1).before args s = true from hpre))
 obtain ⟨hcount, gr0⟩ := and_e hg
 obtain ⟨ga0, gr1⟩ := and_e gr0
 obtain ⟨ga1, gr2⟩ := and_e gr1
 obtain ⟨ga2, gr3⟩ := and_e gr2
 have ga3 := gr3
 obtain ⟨w0, w1, w2, w3, rfl⟩ : ∃ w0 w1 w2 w3 : Value, args = #[w0, w1, w2, w3] := by
  have hs : args.size = 4 := by simpa [Cond.value, given_1] using hcount
  obtain ⟨L⟩ := args
  match L, hs with
  | [w0, w1, w2, w3], _ => exact ⟨w0, w1, w2, w3, rfl⟩
 have hw := fun d (hd : d ∈ tables_1) => atoms_spec (ws := Jvm.Cond.code x code maxLocals ret :: tables_1) hat d (List.mem_cons_of_mem _ hd)
 have hfit : Fit s := fun {y c} hc i hi => by
  obtain ⟨ha, rfl⟩ := Array.getElem?_eq_some_iff.mp hc
  have q := List.all_eq_true.mp ((Array.all_eq_true_iff_forall_mem.mp hF) _ (Array.getElem_mem ha)) i (List.mem_range.mpr hi)
  simpa [Array.getElem?_eq_getElem hi] using q
 obtain ⟨hsets, hown0⟩ := atoms_of _ (rest_1_c_eq ▸ (show rest_1_c.before _ s = true from hrest))
 obtain ⟨i0, ei0⟩ := is_v ga0
 obtain rfl : w0 = (.int i0) := Option.some.inj ei0
 obtain ⟨i1, ei1⟩ := is_v ga1
 obtain rfl : w1 = (.int i1) := Option.some.inj ei1
 obtain ⟨i2, ei2⟩ := isL_v ga2
 obtain rfl : w2 = (.long i2) := Option.some.inj ei2
 obtain ⟨i3, ei3⟩ := isL_v ga3
 obtain rfl : w3 = (.long i3) := Option.some.inj ei3
 have n3 := not_v (Cond.before_iff.mp (hsets _ (List.mem_of_getElem? (i := 2) rfl)))
 obtain ⟨ics, eics⟩ := is_v (Cond.before_iff.mp (hsets _ (List.mem_of_getElem? (i := 1) rfl)))
 have S8 : Sta s s.heap "java/lang/String" "COMPACT_STRINGS" "Z" (.int ics) := Sta.start eics (Or.inl (hsets _ (List.mem_of_getElem? (i := 0) rfl)))
 have c9 : ¬ (ics = (0 : Int32)) := gotF (Cond.eq_ints eics (Term.int_eval (0))) n3
 have Sad : Sta s s.heap "java/lang/StringUTF16" "$assertionsDisabled" "Z" (.int (1 : Int32)) := Sta.start (own_eqw (Cond.before_iff.mp (hsets _ (List.mem_of_getElem? (i := 12) rfl)))) (Or.inl (hsets _ (List.mem_of_getElem? (i := 11) rfl)))
 have Shi : Sta s s.heap "java/lang/StringUTF16" "HI_BYTE_SHIFT" "I" (.int (0 : Int32)) := Sta.start (own_eqw (Cond.before_iff.mp (hsets _ (List.mem_of_getElem? (i := 15) rfl)))) (Or.inl (hsets _ (List.mem_of_getElem? (i := 14) rfl)))
 have Slo : Sta s s.heap "java/lang/StringUTF16" "LO_BYTE_SHIFT" "I" (.int (8 : Int32)) := Sta.start (own_eqw (Cond.before_iff.mp (hsets _ (List.mem_of_getElem? (i := 18) rfl)))) (Or.inl (hsets _ (List.mem_of_getElem? (i := 17) rfl)))
 obtain ⟨fm, efm, hfr⟩ := isR_v (Cond.before_iff.mp (hsets _ (List.mem_of_getElem? (i := 8) rfl)))
 have Sfm : Sta s s.heap "jdk/internal/util/Preconditions" "SIOOBE_FORMATTER" "Ljava/util/function/BiFunction;" fm := Sta.start efm (Or.inl (hsets _ (List.mem_of_getElem? (i := 7) rfl)))
 obtain ⟨n, o, h1, h2, h3, _, L, rfl, ⟨rfl, N⟩, hq⟩ := rmL l s _ hw tables_1 i0 i1 i2 i3 ics fm s.heap s.heap.size (Nat.le_refl _) (Old.start s) S8 c9 Sad Shi Slo Sfm (ref_cases hfr) rfl rfl (fun q hq => hcalls.1 q (show q ∈ consts_1 from hq)) (hsets _ (List.mem_of_getElem? (i := 2) rfl)) p e ha hc hk s m _ below hf ((Spec.applies_iff_loose hf).mp happ).1 ⟨rfl, rfl⟩ trivial
 refine ⟨n, _, h1, h2, h3, hpost _ _ _ _ _ _ ⟨Cond.after_iff.mpr rfl, Cond.after_iff.mpr (eq_i res_at (Term.int_eval (1)) rfl), trivial⟩ ⟨hq.1, hq.2.1, hq.2.2.1, (hq.2.2.2.sift fun y hy => Or.inr (N y hy)).mono (by decide) (by decide)⟩⟩
theorem main_1_1 : Claimed_1_1 := comes_1 fun _ _ _ _ _ _ h hF => ⟨h.1, hF⟩
theorem main_1_2 : Claimed_1_2 := comes_1 fun _ _ _ _ _ _ h hF => ⟨h.2.1, hF⟩
end Jvm.Pilot.@@N@@
namespace Jvm.Pilot.@@N@@
open Jvm Jvm.ClassFile Sem Op Lib Jvm.Free Jvm.Stand Jvm.Pilot.@@N@@.Jvm.D
/-! MADE BY PROGRAM (witnessworld.py) out of the Statement's table words and the real class files: 21 classes; the members and pool entries that the words name. The judged class is class 1, her method 2. -/
namespace start1
open Jvm.ClassFile
def u (s : String) : CpInfo := .utf8 (stringToUtf16 s)
/-- a pool by its gaps: so many unusable entries, then the entry; so many at the end -/
def gap : Nat → List CpInfo → List CpInfo
  | 0, r => r
  | n + 1, r => .unusable :: gap n r
def poolList (es : List (Nat × CpInfo)) (last : Nat) : List CpInfo := es.foldr (fun e r => gap e.1 (e.2 :: r)) (gap last [])
def pool (es : List (Nat × CpInfo)) (last : Nat) : Array CpInfo := ⟨poolList es last⟩
def fileOf (pool : Array CpInfo) (this : Nat) (attrs : Array Attribute := #[]) (ms : Array MethodInfo := #[]) (fl : Nat := 33) (sup : Nat := 0) (ifs : Array Nat := #[]) (fds : Array FieldInfo := #[]) : ClassFile where
  minorVersion := 0
  majorVersion := 65
  constantPool := pool
  accessFlags := fl
  thisClass := this
  superClass := sup
  interfaces := ifs
  fields := fds
  methods := ms
  attributes := attrs
def plain (name : String) (sup : Option ClassId) : Class where
  name := name
  kind := .ordinary
  loader := none
  accessFlags := 33
  super := sup
  interfaces := #[]
  cf := none
  fields := #[]
  methods := #[]
  instanceTypes := #[]
  staticTypes := #[]
  resolved := #[]
  callSites := []
  init := .initialized
  statics := none
  mirror := none

def pool0 : Array CpInfo := pool [(5, u "<init>"), (0, u "()V"), (1, .class_ 10), (1, u "java/lang/Object")] 113

def k0c0 : Code := { maxStack := 0, maxLocals := 1, code := object_method_1_code, exceptionTable := #[], attributes := #[] }
def k0m0 : Method := { name := "<init>", desc := "()V", sig := { parameters := [], returnType := none }, accessFlags := 1, code := some k0c0 }
/-- java/lang/Object -/
def k0 : Class := { plain "java/lang/Object" none with
  accessFlags := 33
  interfaces := #[]
  cf := some (fileOf pool0 8 #[] #[{ accessFlags := 1, nameIndex := 5, descriptorIndex := 6, attributes := #[] }] 33 0 #[] #[])
  fields := #[]
  methods := #[k0m0]
  instanceTypes := #[]
  staticTypes := #[]
  resolved := Array.replicate 124 none
  statics := none }

def pool1 : Array CpInfo := pool [(2, .class_ 4), (1, u "java/lang/Object"), (0, u "<init>"), (0, u "()V"), (0, .long 65535), (1, .methodref 10 11), (0, .class_ 12), (0, .nameAndType 13 14), (0, u "com/example/careful_throttle/carefulthrottle/address/IpAddressMayBeIpv6PinLaw"), (0, u "ch"), (0, u "(IJJI)C"), (0, .class_ 16), (0, u "java/lang/String"), (0, .methodref 15 18), (0, .nameAndType 5 19), (0, u "([C)V"), (0, .methodref 21 22), (0, .class_ 23), (0, .nameAndType 24 25), (0, u "com/example/careful_throttle/carefulthrottle/address/IpAddress"), (0, u "mayBeIpv6"), (0, u "(Ljava/lang/String;)Z"), (3, u "law"), (0, u "(IIJJ)Z")] 4

def k1m0 : Method := { name := "<init>", desc := "()V", sig := { parameters := [], returnType := none }, accessFlags := 2, code := none }
def k1c1 : Code := { maxStack := 4, maxLocals := 9, code := method_2_code, exceptionTable := #[], attributes := #[] }
def k1m1 : Method := { name := "ch", desc := "(IJJI)C", sig := { parameters := [.int, .long, .long, .int], returnType := some .char }, accessFlags := 10, code := some k1c1 }
def k1c2 : Code := { maxStack := 6, maxLocals := 17, code := code, exceptionTable := #[], attributes := #[] }
def k1m2 : Method := { name := "law", desc := "(IIJJ)Z", sig := { parameters := [.int, .int, .long, .long], returnType := some .boolean }, accessFlags := 9, code := some k1c2 }
/-- com/example/careful_throttle/carefulthrottle/address/IpAddressMayBeIpv6PinLaw -/
def k1 : Class := { plain "com/example/careful_throttle/carefulthrottle/address/IpAddressMayBeIpv6PinLaw" (some 0) with
  accessFlags := 49
  interfaces := #[]
  cf := some (fileOf pool1 10 #[] #[{ accessFlags := 2, nameIndex := 5, descriptorIndex := 6, attributes := #[] }, { accessFlags := 10, nameIndex := 13, descriptorIndex := 14, attributes := #[] }, { accessFlags := 9, nameIndex := 29, descriptorIndex := 30, attributes := #[] }] 49 2 #[] #[])
  fields := #[]
  methods := #[k1m0, k1m1, k1m2]
  instanceTypes := #[]
  staticTypes := #[]
  resolved := Array.replicate 35 none
  statics := none }

def pool2 : Array CpInfo := pool [(1, .class_ 2), (0, u "java/io/Serializable"), (0, .class_ 4), (0, u "java/lang/Object")] 2

/-- java/io/Serializable -/
def k2 : Class := { plain "java/io/Serializable" (some 0) with
  accessFlags := 1537
  interfaces := #[]
  cf := some (fileOf pool2 1 #[] #[] 1537 3 #[] #[])
  fields := #[]
  methods := #[]
  instanceTypes := #[]
  staticTypes := #[]
  resolved := Array.replicate 7 none
  statics := none }

def pool3 : Array CpInfo := pool [(1, .class_ 2), (0, u "java/lang/Comparable"), (0, .class_ 4), (0, u "java/lang/Object")] 7

/-- java/lang/Comparable -/
def k3 : Class := { plain "java/lang/Comparable" (some 0) with
  accessFlags := 1537
  interfaces := #[]
  cf := some (fileOf pool3 1 #[] #[] 1537 3 #[] #[])
  fields := #[]
  methods := #[]
  instanceTypes := #[]
  staticTypes := #[]
  resolved := Array.replicate 12 none
  statics := none }

def pool4 : Array CpInfo := pool [(2, .class_ 4), (1, u "java/lang/CharSequence"), (42, .class_ 48), (0, u "java/lang/CharSequence$1CodePointIterator"), (10, .class_ 60), (0, u "java/lang/CharSequence$1CharIterator"), (5, .class_ 67), (0, u "java/lang/Object")] 63

/-- java/lang/CharSequence -/
def k4 : Class := { plain "java/lang/CharSequence" (some 0) with
  accessFlags := 1537
  interfaces := #[]
  cf := some (fileOf pool4 2 #[.nestMembers #[47, 59]] #[] 1537 66 #[] #[])
  fields := #[]
  methods := #[]
  instanceTypes := #[]
  staticTypes := #[]
  resolved := Array.replicate 131 none
  statics := none }

def pool5 : Array CpInfo := pool [(1, .class_ 2), (0, u "java/lang/constant/Constable"), (0, .class_ 4), (0, u "java/lang/Object")] 6

/-- java/lang/constant/Constable -/
def k5 : Class := { plain "java/lang/constant/Constable" (some 0) with
  accessFlags := 1537
  interfaces := #[]
  cf := some (fileOf pool5 1 #[] #[] 1537 3 #[] #[])
  fields := #[]
  methods := #[]
  instanceTypes := #[]
  staticTypes := #[]
  resolved := Array.replicate 11 none
  statics := none }

def pool6 : Array CpInfo := pool [(1, .class_ 2), (0, u "java/lang/constant/ConstantDesc"), (0, .class_ 4), (0, u "java/lang/Object")] 32

/-- java/lang/constant/ConstantDesc -/
def k6 : Class := { plain "java/lang/constant/ConstantDesc" (some 0) with
  accessFlags := 1537
  interfaces := #[]
  cf := some (fileOf pool6 1 #[] #[] 1537 3 #[] #[])
  fields := #[]
  methods := #[]
  instanceTypes := #[]
  staticTypes := #[]
  resolved := Array.replicate 37 none
  statics := none }

def pool7 : Array CpInfo := pool [(1, .methodref 2 3), (0, .class_ 4), (0, .nameAndType 5 6), (0, u "java/lang/Object"), (0, u "<init>"), (0, u "()V"), (0, .string 8), (0, u ""), (0, .fieldref 10 11), (0, .class_ 12), (0, .nameAndType 13 14), (0, u "java/lang/String"), (0, u "value"), (0, u "[B"), (0, .fieldref 10 16), (0, .nameAndType 17 18), (0, u "coder"), (0, u "B"), (2, u "hash"), (0, u "I"), (2, u "hashIsZero"), (0, u "Z"), (0, .methodref 10 28), (0, .nameAndType 5 29), (0, u "([CIILjava/lang/Void;)V"), (8, .fieldref 10 39), (0, .nameAndType 40 26), (0, u "COMPACT_STRINGS"), (1, .class_ 44), (1, u "java/lang/StringUTF16"), (0, u "compress"), (1, .methodref 42 48), (0, .nameAndType 49 50), (0, u "coderFromArrayLen"), (0, u "([BI)B"), (56, .class_ 109), (1, u "java/lang/StringLatin1"), (32, u "()Z"), (34, .methodref 42 178), (0, .nameAndType 45 179), (0, u "([CII)[B"), (154, u "()I"), (0, .methodref 10 336), (0, .nameAndType 17 337), (0, u "()B"), (25, u "([BI)C"), (27, u "(II)V"), (35, u "(I)C"), (64, .methodref 10 493), (0, .nameAndType 494 142), (0, u "isLatin1"), (0, .methodref 107 496), (0, .nameAndType 497 363), (0, u "charAt"), (0, .methodref 42 496), (2, u "checkIndex"), (5, u "length"), (67, .class_ 576), (0, u "java/lang/CharSequence"), (22, u "CASE_INSENSITIVE_ORDER"), (0, u "Ljava/util/Comparator;"), (409, u "([C)V"), (42, .fieldref 1054 1055), (0, .class_ 1056), (0, .nameAndType 1057 1058), (0, u "jdk/internal/util/Preconditions"), (0, u "SIOOBE_FORMATTER"), (0, u "Ljava/util/function/BiFunction;"), (0, .methodref 1054 1060), (0, .nameAndType 501 1061), (0, u "(IILjava/util/function/BiFunction;)I"), (39, u "serialPersistentFields"), (0, u "[Ljava/io/ObjectStreamField;"), (0, .class_ 1104), (0, u "java/lang/String$CaseInsensitiveComparator"), (1, .class_ 1107), (0, u "java/io/Serializable"), (0, .class_ 1109), (0, u "java/lang/Comparable"), (0, .class_ 1111), (0, u "java/lang/constant/Constable"), (0, .class_ 1113), (0, u "java/lang/constant/ConstantDesc"), (2, u "serialVersionUID"), (0, u "J"), (3, u "REPL"), (0, u "C"), (2, u "LATIN1"), (1, u "UTF16")] 323

def k7m0 : Method := { name := "<init>", desc := "()V", sig := { parameters := [], returnType := none }, accessFlags := 1, code := none }
def k7c1 : Code := { maxStack := 5, maxLocals := 2, code := jdk_42_method_3_code, exceptionTable := #[], attributes := #[] }
def k7m1 : Method := { name := "<init>", desc := "([C)V", sig := { parameters := [(.array .char)], returnType := none }, accessFlags := 1, code := some k7c1 }
def k7c2 : Code := { maxStack := 2, maxLocals := 1, code := jdk_42_method_54_code, exceptionTable := #[], attributes := #[] }
def k7m2 : Method := { name := "length", desc := "()I", sig := { parameters := [], returnType := some .int }, accessFlags := 1, code := some k7c2 }
def k7c3 : Code := { maxStack := 2, maxLocals := 2, code := jdk_42_method_56_code, exceptionTable := #[], attributes := #[] }
def k7m3 : Method := { name := "charAt", desc := "(I)C", sig := { parameters := [.int], returnType := some .char }, accessFlags := 1, code := some k7c3 }
def k7c4 : Code := { maxStack := 4, maxLocals := 6, code := jdk_42_method_149_code, exceptionTable := #[], attributes := #[] }
def k7m4 : Method := { name := "<init>", desc := "([CIILjava/lang/Void;)V", sig := { parameters := [(.array .char), .int, .int, (.object "java/lang/Void")], returnType := none }, accessFlags := 2, code := some k7c4 }
def k7c5 : Code := { maxStack := 1, maxLocals := 1, code := jdk_42_method_152_code, exceptionTable := #[], attributes := #[] }
def k7m5 : Method := { name := "coder", desc := "()B", sig := { parameters := [], returnType := some .byte }, accessFlags := 0, code := some k7c5 }
def k7c6 : Code := { maxStack := 1, maxLocals := 1, code := jdk_42_method_154_code, exceptionTable := #[], attributes := #[] }
def k7m6 : Method := { name := "isLatin1", desc := "()Z", sig := { parameters := [], returnType := some .boolean }, accessFlags := 0, code := some k7c6 }
def k7c7 : Code := { maxStack := 3, maxLocals := 2, code := jdk_42_method_155_code, exceptionTable := #[], attributes := #[] }
def k7m7 : Method := { name := "checkIndex", desc := "(II)V", sig := { parameters := [.int, .int], returnType := none }, accessFlags := 8, code := some k7c7 }
/-- java/lang/String -/
def k7 : Class := { plain "java/lang/String" (some 0) with
  accessFlags := 49
  interfaces := #[2, 3, 4, 5, 6]
  cf := some (fileOf pool7 10 #[.nestMembers #[1103]] #[{ accessFlags := 1, nameIndex := 5, descriptorIndex := 6, attributes := #[] }, { accessFlags := 1, nameIndex := 5, descriptorIndex := 1010, attributes := #[] }, { accessFlags := 1, nameIndex := 507, descriptorIndex := 334, attributes := #[] }, { accessFlags := 1, nameIndex := 497, descriptorIndex := 427, attributes := #[] }, { accessFlags := 2, nameIndex := 5, descriptorIndex := 29, attributes := #[] }, { accessFlags := 0, nameIndex := 17, descriptorIndex := 337, attributes := #[] }, { accessFlags := 0, nameIndex := 494, descriptorIndex := 142, attributes := #[] }, { accessFlags := 8, nameIndex := 501, descriptorIndex := 391, attributes := #[] }] 49 2 #[1106, 1108, 575, 1110, 1112] #[{ accessFlags := 18, nameIndex := 13, descriptorIndex := 14, attributes := #[] }, { accessFlags := 18, nameIndex := 17, descriptorIndex := 18, attributes := #[] }, { accessFlags := 2, nameIndex := 21, descriptorIndex := 22, attributes := #[] }, { accessFlags := 2, nameIndex := 25, descriptorIndex := 26, attributes := #[] }, { accessFlags := 26, nameIndex := 1116, descriptorIndex := 1117, attributes := #[] }, { accessFlags := 24, nameIndex := 40, descriptorIndex := 26, attributes := #[] }, { accessFlags := 26, nameIndex := 1101, descriptorIndex := 1102, attributes := #[] }, { accessFlags := 26, nameIndex := 1121, descriptorIndex := 1122, attributes := #[] }, { accessFlags := 25, nameIndex := 599, descriptorIndex := 600, attributes := #[] }, { accessFlags := 24, nameIndex := 1125, descriptorIndex := 18, attributes := #[] }, { accessFlags := 24, nameIndex := 1127, descriptorIndex := 18, attributes := #[] }])
  fields := #[{ name := "value", type := (.array .byte), accessFlags := 18, slot := 0, constantValue := 0 }, { name := "coder", type := .byte, accessFlags := 18, slot := 1, constantValue := 0 }, { name := "hash", type := .int, accessFlags := 2, slot := 2, constantValue := 0 }, { name := "hashIsZero", type := .boolean, accessFlags := 2, slot := 3, constantValue := 0 }, { name := "serialVersionUID", type := .long, accessFlags := 26, slot := 0, constantValue := 0 }, { name := "COMPACT_STRINGS", type := .boolean, accessFlags := 24, slot := 1, constantValue := 0 }, { name := "serialPersistentFields", type := (.array (.object "java/io/ObjectStreamField")), accessFlags := 26, slot := 2, constantValue := 0 }, { name := "REPL", type := .char, accessFlags := 26, slot := 3, constantValue := 0 }, { name := "CASE_INSENSITIVE_ORDER", type := (.object "java/util/Comparator"), accessFlags := 25, slot := 4, constantValue := 0 }, { name := "LATIN1", type := .byte, accessFlags := 24, slot := 5, constantValue := 0 }, { name := "UTF16", type := .byte, accessFlags := 24, slot := 6, constantValue := 0 }]
  methods := #[k7m0, k7m1, k7m2, k7m3, k7m4, k7m5, k7m6, k7m7]
  instanceTypes := #[(.array .byte), .byte, .int, .boolean]
  staticTypes := #[.long, .boolean, (.array (.object "java/io/ObjectStreamField")), .char, (.object "java/util/Comparator"), .byte, .byte]
  resolved := Array.replicate 1451 none
  statics := some 0 }

def pool8 : Array CpInfo := pool [(2, .class_ 4), (1, u "java/lang/Object"), (3, .class_ 10), (1, u "com/example/careful_throttle/carefulthrottle/address/IpAddress"), (0, u "high"), (0, u "J"), (2, u "low"), (2, u "bits"), (0, u "I"), (2, u "text"), (0, u "Ljava/lang/String;"), (2, u "mayBeIpv6"), (0, u "(Ljava/lang/String;)Z"), (11, .methodref 40 41), (0, .class_ 42), (0, .nameAndType 43 44), (0, u "java/lang/String"), (0, u "length"), (0, u "()I"), (21, .methodref 67 68), (0, .class_ 69), (0, .nameAndType 70 71), (0, u "java/lang/Math"), (0, u "min"), (0, u "(II)I"), (0, .methodref 40 73), (0, .nameAndType 74 75), (0, u "charAt"), (0, u "(I)C"), (31, u "HEX_VALUES"), (0, u "[B"), (53, u "IPV4_BITS"), (2, u "IPV6_BITS"), (1, u "IPV6_GROUPS"), (1, u "GROUP_BITS"), (1, u "IPV6_GROUP_DIGITS"), (1, u "IPV4_PARTS"), (0, u "MAPPED_PREFIX")] 31

def k8c0 : Code := { maxStack := 2, maxLocals := 3, code := prog_39_method_4_code, exceptionTable := #[], attributes := #[] }
def k8m0 : Method := { name := "mayBeIpv6", desc := "(Ljava/lang/String;)Z", sig := { parameters := [(.object "java/lang/String")], returnType := some .boolean }, accessFlags := 9, code := some k8c0 }
/-- com/example/careful_throttle/carefulthrottle/address/IpAddress -/
def k8 : Class := { plain "com/example/careful_throttle/carefulthrottle/address/IpAddress" (some 0) with
  accessFlags := 49
  interfaces := #[]
  cf := some (fileOf pool8 8 #[] #[{ accessFlags := 9, nameIndex := 26, descriptorIndex := 27, attributes := #[] }] 49 2 #[] #[{ accessFlags := 26, nameIndex := 162, descriptorIndex := 19, attributes := #[] }, { accessFlags := 26, nameIndex := 165, descriptorIndex := 19, attributes := #[] }, { accessFlags := 26, nameIndex := 167, descriptorIndex := 19, attributes := #[] }, { accessFlags := 26, nameIndex := 169, descriptorIndex := 19, attributes := #[] }, { accessFlags := 26, nameIndex := 171, descriptorIndex := 19, attributes := #[] }, { accessFlags := 26, nameIndex := 173, descriptorIndex := 19, attributes := #[] }, { accessFlags := 26, nameIndex := 107, descriptorIndex := 108, attributes := #[] }, { accessFlags := 26, nameIndex := 174, descriptorIndex := 12, attributes := #[] }, { accessFlags := 18, nameIndex := 11, descriptorIndex := 12, attributes := #[] }, { accessFlags := 18, nameIndex := 15, descriptorIndex := 12, attributes := #[] }, { accessFlags := 18, nameIndex := 18, descriptorIndex := 19, attributes := #[] }, { accessFlags := 2, nameIndex := 22, descriptorIndex := 23, attributes := #[] }])
  fields := #[{ name := "IPV4_BITS", type := .int, accessFlags := 26, slot := 0, constantValue := 0 }, { name := "IPV6_BITS", type := .int, accessFlags := 26, slot := 1, constantValue := 0 }, { name := "IPV6_GROUPS", type := .int, accessFlags := 26, slot := 2, constantValue := 0 }, { name := "GROUP_BITS", type := .int, accessFlags := 26, slot := 3, constantValue := 0 }, { name := "IPV6_GROUP_DIGITS", type := .int, accessFlags := 26, slot := 4, constantValue := 0 }, { name := "IPV4_PARTS", type := .int, accessFlags := 26, slot := 5, constantValue := 0 }, { name := "HEX_VALUES", type := (.array .byte), accessFlags := 26, slot := 6, constantValue := 0 }, { name := "MAPPED_PREFIX", type := .long, accessFlags := 26, slot := 7, constantValue := 0 }, { name := "high", type := .long, accessFlags := 18, slot := 0, constantValue := 0 }, { name := "low", type := .long, accessFlags := 18, slot := 1, constantValue := 0 }, { name := "bits", type := .int, accessFlags := 18, slot := 2, constantValue := 0 }, { name := "text", type := (.object "java/lang/String"), accessFlags := 2, slot := 3, constantValue := 0 }]
  methods := #[k8m0]
  instanceTypes := #[.long, .long, .int, (.object "java/lang/String")]
  staticTypes := #[.int, .int, .int, .int, .int, .int, (.array .byte), .long]
  resolved := Array.replicate 206 none
  statics := none }

def pool9 : Array CpInfo := pool [(1, .class_ 2), (0, u "java/lang/Math"), (1, .class_ 6), (1, u "java/lang/Object"), (0, u "<init>"), (0, u "()V"), (89, .class_ 100), (1, u "java/lang/Math$RandomNumberGeneratorHolder"), (71, u "negativeZeroFloatBits"), (0, u "J"), (2, u "negativeZeroDoubleBits"), (24, u "min"), (43, u "$assertionsDisabled"), (0, u "Z"), (88, u "(II)I"), (2, u "twoToTheDoubleScaleDown"), (0, u "D"), (4, u "twoToTheDoubleScaleUp"), (9, u "E"), (3, u "PI"), (2, u "TAU"), (2, u "DEGREES_TO_RADIANS"), (0, u "RADIANS_TO_DEGREES")] 94

def k9m0 : Method := { name := "<init>", desc := "()V", sig := { parameters := [], returnType := none }, accessFlags := 2, code := none }
def k9c1 : Code := { maxStack := 2, maxLocals := 2, code := jdk_29_method_69_code, exceptionTable := #[], attributes := #[] }
def k9m1 : Method := { name := "min", desc := "(II)I", sig := { parameters := [.int, .int], returnType := some .int }, accessFlags := 9, code := some k9c1 }
/-- java/lang/Math -/
def k9 : Class := { plain "java/lang/Math" (some 0) with
  accessFlags := 49
  interfaces := #[]
  cf := some (fileOf pool9 1 #[.nestMembers #[98]] #[{ accessFlags := 2, nameIndex := 7, descriptorIndex := 8, attributes := #[] }, { accessFlags := 9, nameIndex := 201, descriptorIndex := 335, attributes := #[] }] 49 4 #[] #[{ accessFlags := 25, nameIndex := 354, descriptorIndex := 339, attributes := #[] }, { accessFlags := 25, nameIndex := 358, descriptorIndex := 339, attributes := #[] }, { accessFlags := 25, nameIndex := 361, descriptorIndex := 339, attributes := #[] }, { accessFlags := 26, nameIndex := 364, descriptorIndex := 339, attributes := #[] }, { accessFlags := 26, nameIndex := 365, descriptorIndex := 339, attributes := #[] }, { accessFlags := 26, nameIndex := 172, descriptorIndex := 173, attributes := #[] }, { accessFlags := 26, nameIndex := 176, descriptorIndex := 173, attributes := #[] }, { accessFlags := 8, nameIndex := 344, descriptorIndex := 339, attributes := #[] }, { accessFlags := 8, nameIndex := 338, descriptorIndex := 339, attributes := #[] }, { accessFlags := 4120, nameIndex := 245, descriptorIndex := 246, attributes := #[] }])
  fields := #[{ name := "E", type := .double, accessFlags := 25, slot := 0, constantValue := 0 }, { name := "PI", type := .double, accessFlags := 25, slot := 1, constantValue := 0 }, { name := "TAU", type := .double, accessFlags := 25, slot := 2, constantValue := 0 }, { name := "DEGREES_TO_RADIANS", type := .double, accessFlags := 26, slot := 3, constantValue := 0 }, { name := "RADIANS_TO_DEGREES", type := .double, accessFlags := 26, slot := 4, constantValue := 0 }, { name := "negativeZeroFloatBits", type := .long, accessFlags := 26, slot := 5, constantValue := 0 }, { name := "negativeZeroDoubleBits", type := .long, accessFlags := 26, slot := 6, constantValue := 0 }, { name := "twoToTheDoubleScaleUp", type := .double, accessFlags := 8, slot := 7, constantValue := 0 }, { name := "twoToTheDoubleScaleDown", type := .double, accessFlags := 8, slot := 8, constantValue := 0 }, { name := "$assertionsDisabled", type := .boolean, accessFlags := 4120, slot := 9, constantValue := 0 }]
  methods := #[k9m0, k9m1]
  instanceTypes := #[]
  staticTypes := #[.double, .double, .double, .double, .double, .long, .long, .double, .double, .boolean]
  resolved := Array.replicate 460 none
  statics := none }

def pool10 : Array CpInfo := pool [(3, .class_ 4), (0, u "java/lang/String"), (1, .class_ 8), (1, u "java/lang/Object"), (0, u "<init>"), (0, u "()V"), (0, .methodref 12 13), (0, .class_ 14), (0, .nameAndType 15 16), (0, u "java/lang/StringUTF16"), (0, u "newBytesLength"), (0, u "(I)I"), (3, .integer 1073741823), (23, .fieldref 12 45), (0, .nameAndType 46 47), (0, u "$assertionsDisabled"), (0, u "Z"), (0, .methodref 12 49), (0, .nameAndType 50 51), (0, u "length"), (0, u "([B)I"), (7, .fieldref 12 60), (0, .nameAndType 61 62), (0, u "HI_BYTE_SHIFT"), (0, u "I"), (0, .fieldref 12 64), (0, .nameAndType 65 62), (0, u "LO_BYTE_SHIFT"), (1, .methodref 12 68), (0, .nameAndType 69 70), (0, u "checkIndex"), (0, u "(I[B)V"), (0, .methodref 12 72), (0, .nameAndType 73 74), (0, u "getChar"), (0, u "([BI)C"), (32, .methodref 12 108), (0, .nameAndType 109 110), (0, u "newBytesFor"), (0, u "(I)[B"), (0, .methodref 12 112), (0, .nameAndType 113 114), (0, u "putChar"), (0, u "([BII)V"), (0, .methodref 12 116), (0, .nameAndType 117 118), (0, u "compress"), (0, u "([CI[BII)I"), (0, .methodref 12 120), (0, .nameAndType 121 122), (0, u "toBytes"), (0, u "([CII)[B"), (138, u "coderFromArrayLen"), (0, u "([BI)B"), (106, .class_ 371), (1, u "java/lang/StringUTF16$LinesSpliterator"), (20, u "charAt"), (21, .methodref 3 415), (0, .nameAndType 69 416), (0, u "(II)V"), (13, u "MAX_LENGTH"), (196, .class_ 628), (0, u "java/lang/StringUTF16$CodePointsSpliterator"), (0, .class_ 630), (0, u "java/lang/StringUTF16$CharsSpliterator")] 4

def k10m0 : Method := { name := "<init>", desc := "()V", sig := { parameters := [], returnType := none }, accessFlags := 0, code := none }
def k10c1 : Code := { maxStack := 1, maxLocals := 1, code := jdk_52_method_2_code, exceptionTable := #[], attributes := #[] }
def k10m1 : Method := { name := "newBytesFor", desc := "(I)[B", sig := { parameters := [.int], returnType := some (.array .byte) }, accessFlags := 9, code := some k10c1 }
def k10c2 : Code := { maxStack := 4, maxLocals := 1, code := jdk_52_method_3_code, exceptionTable := #[], attributes := #[] }
def k10m2 : Method := { name := "newBytesLength", desc := "(I)I", sig := { parameters := [.int], returnType := some .int }, accessFlags := 9, code := some k10c2 }
def k10c3 : Code := { maxStack := 4, maxLocals := 3, code := jdk_52_method_4_code, exceptionTable := #[], attributes := #[] }
def k10m3 : Method := { name := "putChar", desc := "([BII)V", sig := { parameters := [(.array .byte), .int, .int], returnType := none }, accessFlags := 8, code := some k10c3 }
def k10c4 : Code := { maxStack := 3, maxLocals := 2, code := jdk_52_method_5_code, exceptionTable := #[], attributes := #[] }
def k10m4 : Method := { name := "getChar", desc := "([BI)C", sig := { parameters := [(.array .byte), .int], returnType := some .char }, accessFlags := 8, code := some k10c4 }
def k10c5 : Code := { maxStack := 2, maxLocals := 1, code := jdk_52_method_6_code, exceptionTable := #[], attributes := #[] }
def k10m5 : Method := { name := "length", desc := "([B)I", sig := { parameters := [(.array .byte)], returnType := some .int }, accessFlags := 9, code := some k10c5 }
def k10c6 : Code := { maxStack := 4, maxLocals := 5, code := jdk_52_method_14_code, exceptionTable := #[], attributes := #[] }
def k10m6 : Method := { name := "toBytes", desc := "([CII)[B", sig := { parameters := [(.array .char), .int, .int], returnType := some (.array .byte) }, accessFlags := 9, code := some k10c6 }
def k10c7 : Code := { maxStack := 2, maxLocals := 2, code := jdk_52_method_15_code, exceptionTable := #[], attributes := #[] }
def k10m7 : Method := { name := "coderFromArrayLen", desc := "([BI)B", sig := { parameters := [(.array .byte), .int], returnType := some .byte }, accessFlags := 8, code := some k10c7 }
def k10c8 : Code := { maxStack := 5, maxLocals := 6, code := jdk_52_method_16_code, exceptionTable := #[], attributes := #[] }
def k10m8 : Method := { name := "compress", desc := "([CII)[B", sig := { parameters := [(.array .char), .int, .int], returnType := some (.array .byte) }, accessFlags := 9, code := some k10c8 }
def k10c9 : Code := { maxStack := 3, maxLocals := 7, code := jdk_52_method_21_code, exceptionTable := #[], attributes := #[] }
def k10m9 : Method := { name := "compress", desc := "([CI[BII)I", sig := { parameters := [(.array .char), .int, (.array .byte), .int, .int], returnType := some .int }, accessFlags := 9, code := some k10c9 }
def k10c10 : Code := { maxStack := 2, maxLocals := 2, code := jdk_52_method_83_code, exceptionTable := #[], attributes := #[] }
def k10m10 : Method := { name := "charAt", desc := "([BI)C", sig := { parameters := [(.array .byte), .int], returnType := some .char }, accessFlags := 9, code := some k10c10 }
def k10c11 : Code := { maxStack := 2, maxLocals := 2, code := jdk_52_method_91_code, exceptionTable := #[], attributes := #[] }
def k10m11 : Method := { name := "checkIndex", desc := "(I[B)V", sig := { parameters := [.int, (.array .byte)], returnType := none }, accessFlags := 9, code := some k10c11 }
/-- java/lang/StringUTF16 -/
def k10 : Class := { plain "java/lang/StringUTF16" (some 0) with
  accessFlags := 48
  interfaces := #[]
  cf := some (fileOf pool10 12 #[.nestMembers #[627, 629, 369]] #[{ accessFlags := 0, nameIndex := 9, descriptorIndex := 10, attributes := #[] }, { accessFlags := 9, nameIndex := 109, descriptorIndex := 110, attributes := #[] }, { accessFlags := 9, nameIndex := 15, descriptorIndex := 16, attributes := #[] }, { accessFlags := 8, nameIndex := 113, descriptorIndex := 114, attributes := #[] }, { accessFlags := 8, nameIndex := 73, descriptorIndex := 74, attributes := #[] }, { accessFlags := 9, nameIndex := 50, descriptorIndex := 51, attributes := #[] }, { accessFlags := 9, nameIndex := 121, descriptorIndex := 122, attributes := #[] }, { accessFlags := 8, nameIndex := 261, descriptorIndex := 262, attributes := #[] }, { accessFlags := 9, nameIndex := 117, descriptorIndex := 122, attributes := #[] }, { accessFlags := 9, nameIndex := 117, descriptorIndex := 118, attributes := #[] }, { accessFlags := 9, nameIndex := 392, descriptorIndex := 74, attributes := #[] }, { accessFlags := 9, nameIndex := 69, descriptorIndex := 70, attributes := #[] }] 48 6 #[] #[{ accessFlags := 26, nameIndex := 61, descriptorIndex := 62, attributes := #[] }, { accessFlags := 26, nameIndex := 65, descriptorIndex := 62, attributes := #[] }, { accessFlags := 24, nameIndex := 430, descriptorIndex := 62, attributes := #[] }, { accessFlags := 4120, nameIndex := 46, descriptorIndex := 47, attributes := #[] }])
  fields := #[{ name := "HI_BYTE_SHIFT", type := .int, accessFlags := 26, slot := 0, constantValue := 0 }, { name := "LO_BYTE_SHIFT", type := .int, accessFlags := 26, slot := 1, constantValue := 0 }, { name := "MAX_LENGTH", type := .int, accessFlags := 24, slot := 2, constantValue := 0 }, { name := "$assertionsDisabled", type := .boolean, accessFlags := 4120, slot := 3, constantValue := 0 }]
  methods := #[k10m0, k10m1, k10m2, k10m3, k10m4, k10m5, k10m6, k10m7, k10m8, k10m9, k10m10, k10m11]
  instanceTypes := #[]
  staticTypes := #[.int, .int, .int, .boolean]
  resolved := Array.replicate 635 none
  statics := some 1 }

def pool11 : Array CpInfo := pool [(1, .class_ 2), (0, u "java/lang/String"), (1, .class_ 6), (1, u "java/lang/Object"), (0, u "<init>"), (0, u "()V"), (0, .methodref 1 10), (0, .nameAndType 11 12), (0, u "checkIndex"), (0, u "(II)V"), (1, .class_ 16), (1, u "java/lang/StringLatin1"), (36, u "([BI)C"), (67, u "$assertionsDisabled"), (0, u "Z"), (98, .class_ 223), (1, u "java/lang/StringLatin1$LinesSpliterator"), (28, u "charAt"), (137, .class_ 391), (0, u "java/lang/StringLatin1$CharsSpliterator")] 3

def k11m0 : Method := { name := "<init>", desc := "()V", sig := { parameters := [], returnType := none }, accessFlags := 0, code := none }
def k11c1 : Code := { maxStack := 2, maxLocals := 2, code := jdk_43_method_2_code, exceptionTable := #[], attributes := #[] }
def k11m1 : Method := { name := "charAt", desc := "([BI)C", sig := { parameters := [(.array .byte), .int], returnType := some .char }, accessFlags := 9, code := some k11c1 }
/-- java/lang/StringLatin1 -/
def k11 : Class := { plain "java/lang/StringLatin1" (some 0) with
  accessFlags := 48
  interfaces := #[]
  cf := some (fileOf pool11 14 #[.nestMembers #[390, 221]] #[{ accessFlags := 0, nameIndex := 7, descriptorIndex := 8, attributes := #[] }, { accessFlags := 9, nameIndex := 252, descriptorIndex := 53, attributes := #[] }] 48 4 #[] #[{ accessFlags := 4120, nameIndex := 121, descriptorIndex := 122, attributes := #[] }])
  fields := #[{ name := "$assertionsDisabled", type := .boolean, accessFlags := 4120, slot := 0, constantValue := 0 }]
  methods := #[k11m0, k11m1]
  instanceTypes := #[]
  staticTypes := #[.boolean]
  resolved := Array.replicate 395 none
  statics := none }

def pool12 : Array CpInfo := pool [(2, .class_ 4), (1, u "java/lang/Object"), (0, u "<init>"), (0, u "()V"), (17, .class_ 26), (1, u "jdk/internal/util/Preconditions"), (6, u "checkIndex"), (21, .class_ 56), (0, u "jdk/internal/util/Preconditions$4"), (57, .class_ 115), (0, u "jdk/internal/util/Preconditions$1"), (7, u "SIOOBE_FORMATTER"), (0, u "Ljava/util/function/BiFunction;"), (0, .class_ 126), (0, u "jdk/internal/util/Preconditions$2"), (3, u "AIOOBE_FORMATTER"), (0, .class_ 132), (0, u "jdk/internal/util/Preconditions$3"), (3, u "IOOBE_FORMATTER"), (41, u "(IILjava/util/function/BiFunction;)I")] 15

def k12m0 : Method := { name := "<init>", desc := "()V", sig := { parameters := [], returnType := none }, accessFlags := 1, code := none }
def k12c1 : Code := { maxStack := 3, maxLocals := 3, code := jdk_41_method_11_code, exceptionTable := #[], attributes := #[] }
def k12m1 : Method := { name := "checkIndex", desc := "(IILjava/util/function/BiFunction;)I", sig := { parameters := [.int, .int, (.object "java/util/function/BiFunction")], returnType := some .int }, accessFlags := 9, code := some k12c1 }
/-- jdk/internal/util/Preconditions -/
def k12 : Class := { plain "jdk/internal/util/Preconditions" (some 0) with
  accessFlags := 33
  interfaces := #[]
  cf := some (fileOf pool12 24 #[.nestMembers #[55, 131, 125, 114]] #[{ accessFlags := 1, nameIndex := 5, descriptorIndex := 6, attributes := #[] }, { accessFlags := 9, nameIndex := 33, descriptorIndex := 178, attributes := #[] }] 33 2 #[] #[{ accessFlags := 25, nameIndex := 123, descriptorIndex := 124, attributes := #[] }, { accessFlags := 25, nameIndex := 130, descriptorIndex := 124, attributes := #[] }, { accessFlags := 25, nameIndex := 136, descriptorIndex := 124, attributes := #[] }])
  fields := #[{ name := "SIOOBE_FORMATTER", type := (.object "java/util/function/BiFunction"), accessFlags := 25, slot := 0, constantValue := 0 }, { name := "AIOOBE_FORMATTER", type := (.object "java/util/function/BiFunction"), accessFlags := 25, slot := 1, constantValue := 0 }, { name := "IOOBE_FORMATTER", type := (.object "java/util/function/BiFunction"), accessFlags := 25, slot := 2, constantValue := 0 }]
  methods := #[k12m0, k12m1]
  instanceTypes := #[]
  staticTypes := #[(.object "java/util/function/BiFunction"), (.object "java/util/function/BiFunction"), (.object "java/util/function/BiFunction")]
  resolved := Array.replicate 194 none
  statics := some 2 }

def pool13 : Array CpInfo := pool [(9, u "<init>"), (6, .class_ 18), (1, u "java/lang/Object"), (0, u "()V"), (1, .class_ 23), (1, u "jdk/internal/util/ArraysSupport"), (0, u "LOG2_ARRAY_LONG_INDEX_SCALE"), (0, u "I"), (2, u "U"), (0, u "Ljdk/internal/misc/Unsafe;"), (8, u "BIG_ENDIAN"), (0, u "Z"), (8, u "LOG2_BYTE_BIT_SIZE"), (4, u "LOG2_ARRAY_INT_INDEX_SCALE"), (54, u "JLA"), (0, u "Ljdk/internal/access/JavaLangAccess;"), (11, u "LOG2_ARRAY_BOOLEAN_INDEX_SCALE"), (9, u "LOG2_ARRAY_BYTE_INDEX_SCALE"), (5, u "LOG2_ARRAY_CHAR_INDEX_SCALE"), (5, u "LOG2_ARRAY_SHORT_INDEX_SCALE"), (18, u "LOG2_ARRAY_FLOAT_INDEX_SCALE"), (24, u "LOG2_ARRAY_DOUBLE_INDEX_SCALE"), (89, u "T_BOOLEAN"), (2, u "T_CHAR"), (1, u "T_FLOAT"), (1, u "T_DOUBLE"), (1, u "T_BYTE"), (1, u "T_SHORT"), (1, u "T_INT"), (1, u "T_LONG"), (1, u "SOFT_MAX_ARRAY_LENGTH")] 83

def k13m0 : Method := { name := "<init>", desc := "()V", sig := { parameters := [], returnType := none }, accessFlags := 2, code := none }
/-- jdk/internal/util/ArraysSupport -/
def k13 : Class := { plain "jdk/internal/util/ArraysSupport" (some 0) with
  accessFlags := 33
  interfaces := #[]
  cf := some (fileOf pool13 21 #[] #[{ accessFlags := 2, nameIndex := 9, descriptorIndex := 19, attributes := #[] }] 33 16 #[] #[{ accessFlags := 24, nameIndex := 28, descriptorIndex := 29, attributes := #[] }, { accessFlags := 26, nameIndex := 38, descriptorIndex := 39, attributes := #[] }, { accessFlags := 25, nameIndex := 121, descriptorIndex := 25, attributes := #[] }, { accessFlags := 25, nameIndex := 131, descriptorIndex := 25, attributes := #[] }, { accessFlags := 25, nameIndex := 137, descriptorIndex := 25, attributes := #[] }, { accessFlags := 25, nameIndex := 143, descriptorIndex := 25, attributes := #[] }, { accessFlags := 25, nameIndex := 53, descriptorIndex := 25, attributes := #[] }, { accessFlags := 25, nameIndex := 24, descriptorIndex := 25, attributes := #[] }, { accessFlags := 25, nameIndex := 162, descriptorIndex := 25, attributes := #[] }, { accessFlags := 25, nameIndex := 187, descriptorIndex := 25, attributes := #[] }, { accessFlags := 26, nameIndex := 48, descriptorIndex := 25, attributes := #[] }, { accessFlags := 25, nameIndex := 277, descriptorIndex := 25, attributes := #[] }, { accessFlags := 25, nameIndex := 280, descriptorIndex := 25, attributes := #[] }, { accessFlags := 25, nameIndex := 282, descriptorIndex := 25, attributes := #[] }, { accessFlags := 25, nameIndex := 284, descriptorIndex := 25, attributes := #[] }, { accessFlags := 25, nameIndex := 286, descriptorIndex := 25, attributes := #[] }, { accessFlags := 25, nameIndex := 288, descriptorIndex := 25, attributes := #[] }, { accessFlags := 25, nameIndex := 290, descriptorIndex := 25, attributes := #[] }, { accessFlags := 25, nameIndex := 292, descriptorIndex := 25, attributes := #[] }, { accessFlags := 26, nameIndex := 108, descriptorIndex := 109, attributes := #[] }, { accessFlags := 25, nameIndex := 294, descriptorIndex := 25, attributes := #[] }])
  fields := #[{ name := "U", type := (.object "jdk/internal/misc/Unsafe"), accessFlags := 24, slot := 0, constantValue := 0 }, { name := "BIG_ENDIAN", type := .boolean, accessFlags := 26, slot := 1, constantValue := 0 }, { name := "LOG2_ARRAY_BOOLEAN_INDEX_SCALE", type := .int, accessFlags := 25, slot := 2, constantValue := 0 }, { name := "LOG2_ARRAY_BYTE_INDEX_SCALE", type := .int, accessFlags := 25, slot := 3, constantValue := 0 }, { name := "LOG2_ARRAY_CHAR_INDEX_SCALE", type := .int, accessFlags := 25, slot := 4, constantValue := 0 }, { name := "LOG2_ARRAY_SHORT_INDEX_SCALE", type := .int, accessFlags := 25, slot := 5, constantValue := 0 }, { name := "LOG2_ARRAY_INT_INDEX_SCALE", type := .int, accessFlags := 25, slot := 6, constantValue := 0 }, { name := "LOG2_ARRAY_LONG_INDEX_SCALE", type := .int, accessFlags := 25, slot := 7, constantValue := 0 }, { name := "LOG2_ARRAY_FLOAT_INDEX_SCALE", type := .int, accessFlags := 25, slot := 8, constantValue := 0 }, { name := "LOG2_ARRAY_DOUBLE_INDEX_SCALE", type := .int, accessFlags := 25, slot := 9, constantValue := 0 }, { name := "LOG2_BYTE_BIT_SIZE", type := .int, accessFlags := 26, slot := 10, constantValue := 0 }, { name := "T_BOOLEAN", type := .int, accessFlags := 25, slot := 11, constantValue := 0 }, { name := "T_CHAR", type := .int, accessFlags := 25, slot := 12, constantValue := 0 }, { name := "T_FLOAT", type := .int, accessFlags := 25, slot := 13, constantValue := 0 }, { name := "T_DOUBLE", type := .int, accessFlags := 25, slot := 14, constantValue := 0 }, { name := "T_BYTE", type := .int, accessFlags := 25, slot := 15, constantValue := 0 }, { name := "T_SHORT", type := .int, accessFlags := 25, slot := 16, constantValue := 0 }, { name := "T_INT", type := .int, accessFlags := 25, slot := 17, constantValue := 0 }, { name := "T_LONG", type := .int, accessFlags := 25, slot := 18, constantValue := 0 }, { name := "JLA", type := (.object "jdk/internal/access/JavaLangAccess"), accessFlags := 26, slot := 19, constantValue := 0 }, { name := "SOFT_MAX_ARRAY_LENGTH", type := .int, accessFlags := 25, slot := 20, constantValue := 0 }]
  methods := #[k13m0]
  instanceTypes := #[]
  staticTypes := #[(.object "jdk/internal/misc/Unsafe"), .boolean, .int, .int, .int, .int, .int, .int, .int, .int, .int, .int, .int, .int, .int, .int, .int, .int, .int, (.object "jdk/internal/access/JavaLangAccess"), .int]
  resolved := Array.replicate 378 none
  statics := none }

def pool14 : Array CpInfo := pool [(1, u "java/lang/Cloneable"), (0, .class_ 1), (0, u "java/lang/Object"), (0, .class_ 3)] 3

/-- java/lang/Cloneable -/
def k14 : Class := { plain "java/lang/Cloneable" (some 0) with
  accessFlags := 1537
  interfaces := #[]
  cf := some (fileOf pool14 2 #[] #[] 1537 4 #[] #[])
  fields := #[]
  methods := #[]
  instanceTypes := #[]
  staticTypes := #[]
  resolved := Array.replicate 8 none
  statics := none }

/-- the primitive byte -/
def k15 : Class := { plain "byte" none with kind := .primitive 'B', accessFlags := 0x411 }
/-- [B -/
def k16 : Class := { plain "[B" (some 0) with kind := .array 15 .byte, interfaces := #[14, 2], accessFlags := 1041 }

/-- the primitive char -/
def k17 : Class := { plain "char" none with kind := .primitive 'C', accessFlags := 0x411 }
/-- [C -/
def k18 : Class := { plain "[C" (some 0) with kind := .array 17 .char, interfaces := #[14, 2], accessFlags := 1041 }

/-- the primitive int -/
def k19 : Class := { plain "int" none with kind := .primitive 'I', accessFlags := 0x411 }
/-- [I -/
def k20 : Class := { plain "[I" (some 0) with kind := .array 19 .int, interfaces := #[14, 2], accessFlags := 1041 }

def heap : Heap := #[{ cls := 7, slots := #[.long 0, .int 1, .null, .int 0, .null, .int 0, .int 0], vm := .statics 7 },
  { cls := 10, slots := #[.int 0, .int 8, .int 0, .int 1], vm := .statics 10 },
  { cls := 12, slots := #[.null, .null, .null], vm := .statics 12 }]
def classes : Array Class := #[k0, k1, k2, k3, k4, k5, k6, k7, k8, k9, k10, k11, k12, k13, k14, k15, k16, k17, k18, k19, k20]
def interned : List (Array UInt16 × Addr) := []
def slotsUsed : Nat := 14
def theMethod : MethodId := ⟨1, 2⟩
def args0 : Array Value := #[.int 5, .int 3, .long 58, .long 7]
def aboutOver (below : List Frame) : State where
  vm := { classes := classes, interned := interned.toArray }
  heap := heap
  slotsUsed := slotsUsed
  threads := #[{ frames := .invoking theMethod args0 :: below }]
def below0 : List Frame := [.native { method := ⟨0, 0⟩, args := #[] }]
def about1 : State := aboutOver below0
def p0 : Program := .bare "" "" ""
def e0 : Env := launch0.env 0 0 0
theorem w_frames : about1.frames = Frame.invoking theMethod args0 :: below0 := rfl
set_option maxRecDepth 65536 in
theorem w_args : argsFit about1.vm theMethod args0 = true := by decide +kernel
set_option maxRecDepth 65536 in
theorem w_heap : heapFits about1 = true := by decide +kernel
set_option maxRecDepth 65536 in
theorem w_runnable : about1.curStatus? = some .runnable := by decide +kernel
set_option maxRecDepth 65536 in
theorem w_alone : about1.alone = true := by decide +kernel
set_option maxRecDepth 65536 in
theorem w_named : about1.methodNamed? x = some theMethod := by decide +kernel
set_option maxRecDepth 65536 in
theorem w_hears : about1.hears theMethod below0 = true := by decide +kernel
set_option maxRecDepth 65536 in
theorem w_ripe : about1.ripe theMethod args0 below0 = true := by decide +kernel
theorem w_running : about1.status = .running := rfl
set_option maxRecDepth 65536 in
theorem w_room : about1.hasRoom e0.platform room_1 = true :=
  launch0.hasRoom_least _ room_1 (by decide +kernel) (by decide +kernel) (by decide +kernel) (by decide +kernel) (by decide +kernel) (by decide +kernel)
theorem allAtoms_all (ts : List Jvm.Cond) (a : Array Jvm.Value) (st : Jvm.State) : (allAtoms ts).before a st = ts.all (fun c => c.before a st) := by
  induction ts with
  | nil => rfl
  | cons c t ih =>
    show (Jvm.Cond.and c (allAtoms t)).before a st = _
    rw [Jvm.Cond.before_and, ih, List.all_cons]
def words1 : List Jvm.Cond := Jvm.Cond.code x code maxLocals ret :: tables_1
/-- a 'code' word, met by the world's own term for the bytes: nothing is compared byte by byte -/
theorem code_word {y : MethodName} {bytes : ByteArray} {mx : Nat} {rt : Option FieldType} {a : Array Value} {s : State} {m : MethodId} {meth : Method} {c : Code} (h1 : s.methodNamed? y = some m) (h2 : s.vm.method? m = some meth) (h3 : meth.code = some c) (h4 : c.code = bytes)
    (h5 : (c.maxLocals == mx && c.exceptionTable.isEmpty && decide (c.maxStack ≤ mostOperands) && decide (meth.sig.returnType = rt) && !meth.locks && decide (parseMethodDescriptor y.desc = some meth.sig)) = true) : (Jvm.Cond.code y bytes mx rt).before a s = true := by
  simp only [Bool.and_eq_true, beq_iff_eq, Bool.not_eq_true', decide_eq_true_eq] at h5
  obtain ⟨⟨⟨⟨⟨g1, g2⟩, g3⟩, g4⟩, g5⟩, g6⟩ := h5
  simp [Cond.before, Cond.holds, Cond.value, h1, h2, h3, h4, g1, g2, g3, g4, g5, g6]
def isCode : Jvm.Cond → Bool
  | .code _ _ _ _ => true
  | _ => false
theorem all_split {L : List Jvm.Cond} {P : Jvm.Cond → Bool} (h1 : L.all (fun c => isCode c || P c) = true) (h2 : ∀ c ∈ L.filter isCode, P c = true) : L.all P = true := by
  refine List.all_eq_true.mpr fun c hc => ?_
  have h := List.all_eq_true.mp h1 c hc
  rcases Bool.eq_false_or_eq_true (isCode c) with hi | hi
  · exact h2 c (List.mem_filter.mpr ⟨hc, hi⟩)
  · simpa [hi] using h
set_option maxRecDepth 65536 in
theorem w_c0 : (Jvm.Cond.code x code maxLocals ret).before args0 about1 = true := code_word (m := ⟨1, 2⟩) (meth := k1m2) (c := k1c2) (by decide +kernel) rfl rfl rfl (by decide +kernel)
set_option maxRecDepth 65536 in
theorem w_c1 : (Jvm.Cond.code ({ cls := "com/example/careful_throttle/carefulthrottle/address/IpAddressMayBeIpv6PinLaw", name := "ch", desc := "(IJJI)C" } : Jvm.MethodName) method_2_code (9 : Nat) (Option.some Jvm.ClassFile.FieldType.char)).before args0 about1 = true := code_word (m := ⟨1, 1⟩) (meth := k1m1) (c := k1c1) (by decide +kernel) rfl rfl rfl (by decide +kernel)
set_option maxRecDepth 65536 in
theorem w_c2 : (Jvm.Cond.code ({ cls := "java/lang/String", name := "<init>", desc := "([C)V" } : Jvm.MethodName) jdk_42_method_3_code (2 : Nat) (Option.none : Option Jvm.ClassFile.FieldType)).before args0 about1 = true := code_word (m := ⟨7, 1⟩) (meth := k7m1) (c := k7c1) (by decide +kernel) rfl rfl rfl (by decide +kernel)
set_option maxRecDepth 65536 in
theorem w_c3 : (Jvm.Cond.code ({ cls := "java/lang/String", name := "<init>", desc := "([CIILjava/lang/Void;)V" } : Jvm.MethodName) jdk_42_method_149_code (6 : Nat) (Option.none : Option Jvm.ClassFile.FieldType)).before args0 about1 = true := code_word (m := ⟨7, 4⟩) (meth := k7m4) (c := k7c4) (by decide +kernel) rfl rfl rfl (by decide +kernel)
set_option maxRecDepth 65536 in
theorem w_c4 : (Jvm.Cond.code ({ cls := "java/lang/Object", name := "<init>", desc := "()V" } : Jvm.MethodName) object_method_1_code (1 : Nat) (Option.none : Option Jvm.ClassFile.FieldType)).before args0 about1 = true := code_word (m := ⟨0, 0⟩) (meth := k0m0) (c := k0c0) (by decide +kernel) rfl rfl rfl (by decide +kernel)
set_option maxRecDepth 65536 in
theorem w_c5 : (Jvm.Cond.code ({ cls := "com/example/careful_throttle/carefulthrottle/address/IpAddress", name := "mayBeIpv6", desc := "(Ljava/lang/String;)Z" } : Jvm.MethodName) prog_39_method_4_code (3 : Nat) (Option.some Jvm.ClassFile.FieldType.boolean)).before args0 about1 = true := code_word (m := ⟨8, 0⟩) (meth := k8m0) (c := k8c0) (by decide +kernel) rfl rfl rfl (by decide +kernel)
set_option maxRecDepth 65536 in
theorem w_c6 : (Jvm.Cond.code ({ cls := "java/lang/String", name := "length", desc := "()I" } : Jvm.MethodName) jdk_42_method_54_code (1 : Nat) (Option.some Jvm.ClassFile.FieldType.int)).before args0 about1 = true := code_word (m := ⟨7, 2⟩) (meth := k7m2) (c := k7c2) (by decide +kernel) rfl rfl rfl (by decide +kernel)
set_option maxRecDepth 65536 in
theorem w_c7 : (Jvm.Cond.code ({ cls := "java/lang/String", name := "coder", desc := "()B" } : Jvm.MethodName) jdk_42_method_152_code (1 : Nat) (Option.some Jvm.ClassFile.FieldType.byte)).before args0 about1 = true := code_word (m := ⟨7, 5⟩) (meth := k7m5) (c := k7c5) (by decide +kernel) rfl rfl rfl (by decide +kernel)
set_option maxRecDepth 65536 in
theorem w_c8 : (Jvm.Cond.code ({ cls := "java/lang/Math", name := "min", desc := "(II)I" } : Jvm.MethodName) jdk_29_method_69_code (2 : Nat) (Option.some Jvm.ClassFile.FieldType.int)).before args0 about1 = true := code_word (m := ⟨9, 1⟩) (meth := k9m1) (c := k9c1) (by decide +kernel) rfl rfl rfl (by decide +kernel)
set_option maxRecDepth 65536 in
theorem w_c9 : (Jvm.Cond.code ({ cls := "java/lang/StringUTF16", name := "compress", desc := "([CII)[B" } : Jvm.MethodName) jdk_52_method_16_code (6 : Nat) (Option.some (Jvm.ClassFile.FieldType.array Jvm.ClassFile.FieldType.byte))).before args0 about1 = true := code_word (m := ⟨10, 8⟩) (meth := k10m8) (c := k10c8) (by decide +kernel) rfl rfl rfl (by decide +kernel)
set_option maxRecDepth 65536 in
theorem w_c10 : (Jvm.Cond.code ({ cls := "java/lang/StringUTF16", name := "compress", desc := "([CI[BII)I" } : Jvm.MethodName) jdk_52_method_21_code (7 : Nat) (Option.some Jvm.ClassFile.FieldType.int)).before args0 about1 = true := code_word (m := ⟨10, 9⟩) (meth := k10m9) (c := k10c9) (by decide +kernel) rfl rfl rfl (by decide +kernel)
set_option maxRecDepth 65536 in
theorem w_c11 : (Jvm.Cond.code ({ cls := "java/lang/StringUTF16", name := "coderFromArrayLen", desc := "([BI)B" } : Jvm.MethodName) jdk_52_method_15_code (2 : Nat) (Option.some Jvm.ClassFile.FieldType.byte)).before args0 about1 = true := code_word (m := ⟨10, 7⟩) (meth := k10m7) (c := k10c7) (by decide +kernel) rfl rfl rfl (by decide +kernel)
set_option maxRecDepth 65536 in
theorem w_c12 : (Jvm.Cond.code ({ cls := "java/lang/String", name := "charAt", desc := "(I)C" } : Jvm.MethodName) jdk_42_method_56_code (2 : Nat) (Option.some Jvm.ClassFile.FieldType.char)).before args0 about1 = true := code_word (m := ⟨7, 3⟩) (meth := k7m3) (c := k7c3) (by decide +kernel) rfl rfl rfl (by decide +kernel)
set_option maxRecDepth 65536 in
theorem w_c13 : (Jvm.Cond.code ({ cls := "java/lang/String", name := "isLatin1", desc := "()Z" } : Jvm.MethodName) jdk_42_method_154_code (1 : Nat) (Option.some Jvm.ClassFile.FieldType.boolean)).before args0 about1 = true := code_word (m := ⟨7, 6⟩) (meth := k7m6) (c := k7c6) (by decide +kernel) rfl rfl rfl (by decide +kernel)
set_option maxRecDepth 65536 in
theorem w_c14 : (Jvm.Cond.code ({ cls := "java/lang/StringLatin1", name := "charAt", desc := "([BI)C" } : Jvm.MethodName) jdk_43_method_2_code (2 : Nat) (Option.some Jvm.ClassFile.FieldType.char)).before args0 about1 = true := code_word (m := ⟨11, 1⟩) (meth := k11m1) (c := k11c1) (by decide +kernel) rfl rfl rfl (by decide +kernel)
set_option maxRecDepth 65536 in
theorem w_c15 : (Jvm.Cond.code ({ cls := "java/lang/String", name := "checkIndex", desc := "(II)V" } : Jvm.MethodName) jdk_42_method_155_code (2 : Nat) (Option.none : Option Jvm.ClassFile.FieldType)).before args0 about1 = true := code_word (m := ⟨7, 7⟩) (meth := k7m7) (c := k7c7) (by decide +kernel) rfl rfl rfl (by decide +kernel)
set_option maxRecDepth 65536 in
theorem w_c16 : (Jvm.Cond.code ({ cls := "jdk/internal/util/Preconditions", name := "checkIndex", desc := "(IILjava/util/function/BiFunction;)I" } : Jvm.MethodName) jdk_41_method_11_code (3 : Nat) (Option.some Jvm.ClassFile.FieldType.int)).before args0 about1 = true := code_word (m := ⟨12, 1⟩) (meth := k12m1) (c := k12c1) (by decide +kernel) rfl rfl rfl (by decide +kernel)
set_option maxRecDepth 65536 in
theorem w_c17 : (Jvm.Cond.code ({ cls := "java/lang/StringUTF16", name := "toBytes", desc := "([CII)[B" } : Jvm.MethodName) jdk_52_method_14_code (5 : Nat) (Option.some (Jvm.ClassFile.FieldType.array Jvm.ClassFile.FieldType.byte))).before args0 about1 = true := code_word (m := ⟨10, 6⟩) (meth := k10m6) (c := k10c6) (by decide +kernel) rfl rfl rfl (by decide +kernel)
set_option maxRecDepth 65536 in
theorem w_c18 : (Jvm.Cond.code ({ cls := "java/lang/StringUTF16", name := "newBytesFor", desc := "(I)[B" } : Jvm.MethodName) jdk_52_method_2_code (1 : Nat) (Option.some (Jvm.ClassFile.FieldType.array Jvm.ClassFile.FieldType.byte))).before args0 about1 = true := code_word (m := ⟨10, 1⟩) (meth := k10m1) (c := k10c1) (by decide +kernel) rfl rfl rfl (by decide +kernel)
set_option maxRecDepth 65536 in
theorem w_c19 : (Jvm.Cond.code ({ cls := "java/lang/StringUTF16", name := "newBytesLength", desc := "(I)I" } : Jvm.MethodName) jdk_52_method_3_code (1 : Nat) (Option.some Jvm.ClassFile.FieldType.int)).before args0 about1 = true := code_word (m := ⟨10, 2⟩) (meth := k10m2) (c := k10c2) (by decide +kernel) rfl rfl rfl (by decide +kernel)
set_option maxRecDepth 65536 in
theorem w_c20 : (Jvm.Cond.code ({ cls := "java/lang/StringUTF16", name := "putChar", desc := "([BII)V" } : Jvm.MethodName) jdk_52_method_4_code (3 : Nat) (Option.none : Option Jvm.ClassFile.FieldType)).before args0 about1 = true := code_word (m := ⟨10, 3⟩) (meth := k10m3) (c := k10c3) (by decide +kernel) rfl rfl rfl (by decide +kernel)
set_option maxRecDepth 65536 in
theorem w_c21 : (Jvm.Cond.code ({ cls := "java/lang/StringUTF16", name := "getChar", desc := "([BI)C" } : Jvm.MethodName) jdk_52_method_5_code (2 : Nat) (Option.some Jvm.ClassFile.FieldType.char)).before args0 about1 = true := code_word (m := ⟨10, 4⟩) (meth := k10m4) (c := k10c4) (by decide +kernel) rfl rfl rfl (by decide +kernel)
set_option maxRecDepth 65536 in
theorem w_c22 : (Jvm.Cond.code ({ cls := "java/lang/StringUTF16", name := "charAt", desc := "([BI)C" } : Jvm.MethodName) jdk_52_method_83_code (2 : Nat) (Option.some Jvm.ClassFile.FieldType.char)).before args0 about1 = true := code_word (m := ⟨10, 10⟩) (meth := k10m10) (c := k10c10) (by decide +kernel) rfl rfl rfl (by decide +kernel)
set_option maxRecDepth 65536 in
theorem w_c23 : (Jvm.Cond.code ({ cls := "java/lang/StringUTF16", name := "checkIndex", desc := "(I[B)V" } : Jvm.MethodName) jdk_52_method_91_code (2 : Nat) (Option.none : Option Jvm.ClassFile.FieldType)).before args0 about1 = true := code_word (m := ⟨10, 11⟩) (meth := k10m11) (c := k10c11) (by decide +kernel) rfl rfl rfl (by decide +kernel)
set_option maxRecDepth 65536 in
theorem w_c24 : (Jvm.Cond.code ({ cls := "java/lang/StringUTF16", name := "length", desc := "([B)I" } : Jvm.MethodName) jdk_52_method_6_code (1 : Nat) (Option.some Jvm.ClassFile.FieldType.int)).before args0 about1 = true := code_word (m := ⟨10, 5⟩) (meth := k10m5) (c := k10c5) (by decide +kernel) rfl rfl rfl (by decide +kernel)
def codes1 : List Jvm.Cond := [Jvm.Cond.code x code maxLocals ret, Jvm.Cond.code ({ cls := "com/example/careful_throttle/carefulthrottle/address/IpAddressMayBeIpv6PinLaw", name := "ch", desc := "(IJJI)C" } : Jvm.MethodName) method_2_code (9 : Nat) (Option.some Jvm.ClassFile.FieldType.char), Jvm.Cond.code ({ cls := "java/lang/String", name := "<init>", desc := "([C)V" } : Jvm.MethodName) jdk_42_method_3_code (2 : Nat) (Option.none : Option Jvm.ClassFile.FieldType), Jvm.Cond.code ({ cls := "java/lang/String", name := "<init>", desc := "([CIILjava/lang/Void;)V" } : Jvm.MethodName) jdk_42_method_149_code (6 : Nat) (Option.none : Option Jvm.ClassFile.FieldType), Jvm.Cond.code ({ cls := "java/lang/Object", name := "<init>", desc := "()V" } : Jvm.MethodName) object_method_1_code (1 : Nat) (Option.none : Option Jvm.ClassFile.FieldType), Jvm.Cond.code ({ cls := "com/example/careful_throttle/carefulthrottle/address/IpAddress", name := "mayBeIpv6", desc := "(Ljava/lang/String;)Z" } : Jvm.MethodName) prog_39_method_4_code (3 : Nat) (Option.some Jvm.ClassFile.FieldType.boolean), Jvm.Cond.code ({ cls := "java/lang/String", name := "length", desc := "()I" } : Jvm.MethodName) jdk_42_method_54_code (1 : Nat) (Option.some Jvm.ClassFile.FieldType.int), Jvm.Cond.code ({ cls := "java/lang/String", name := "coder", desc := "()B" } : Jvm.MethodName) jdk_42_method_152_code (1 : Nat) (Option.some Jvm.ClassFile.FieldType.byte), Jvm.Cond.code ({ cls := "java/lang/Math", name := "min", desc := "(II)I" } : Jvm.MethodName) jdk_29_method_69_code (2 : Nat) (Option.some Jvm.ClassFile.FieldType.int), Jvm.Cond.code ({ cls := "java/lang/StringUTF16", name := "compress", desc := "([CII)[B" } : Jvm.MethodName) jdk_52_method_16_code (6 : Nat) (Option.some (Jvm.ClassFile.FieldType.array Jvm.ClassFile.FieldType.byte)), Jvm.Cond.code ({ cls := "java/lang/StringUTF16", name := "compress", desc := "([CI[BII)I" } : Jvm.MethodName) jdk_52_method_21_code (7 : Nat) (Option.some Jvm.ClassFile.FieldType.int), Jvm.Cond.code ({ cls := "java/lang/StringUTF16", name := "coderFromArrayLen", desc := "([BI)B" } : Jvm.MethodName) jdk_52_method_15_code (2 : Nat) (Option.some Jvm.ClassFile.FieldType.byte), Jvm.Cond.code ({ cls := "java/lang/String", name := "charAt", desc := "(I)C" } : Jvm.MethodName) jdk_42_method_56_code (2 : Nat) (Option.some Jvm.ClassFile.FieldType.char), Jvm.Cond.code ({ cls := "java/lang/String", name := "isLatin1", desc := "()Z" } : Jvm.MethodName) jdk_42_method_154_code (1 : Nat) (Option.some Jvm.ClassFile.FieldType.boolean), Jvm.Cond.code ({ cls := "java/lang/StringLatin1", name := "charAt", desc := "([BI)C" } : Jvm.MethodName) jdk_43_method_2_code (2 : Nat) (Option.some Jvm.ClassFile.FieldType.char), Jvm.Cond.code ({ cls := "java/lang/String", name := "checkIndex", desc := "(II)V" } : Jvm.MethodName) jdk_42_method_155_code (2 : Nat) (Option.none : Option Jvm.ClassFile.FieldType), Jvm.Cond.code ({ cls := "jdk/internal/util/Preconditions", name := "checkIndex", desc := "(IILjava/util/function/BiFunction;)I" } : Jvm.MethodName) jdk_41_method_11_code (3 : Nat) (Option.some Jvm.ClassFile.FieldType.int), Jvm.Cond.code ({ cls := "java/lang/StringUTF16", name := "toBytes", desc := "([CII)[B" } : Jvm.MethodName) jdk_52_method_14_code (5 : Nat) (Option.some (Jvm.ClassFile.FieldType.array Jvm.ClassFile.FieldType.byte)), Jvm.Cond.code ({ cls := "java/lang/StringUTF16", name := "newBytesFor", desc := "(I)[B" } : Jvm.MethodName) jdk_52_method_2_code (1 : Nat) (Option.some (Jvm.ClassFile.FieldType.array Jvm.ClassFile.FieldType.byte)), Jvm.Cond.code ({ cls := "java/lang/StringUTF16", name := "newBytesLength", desc := "(I)I" } : Jvm.MethodName) jdk_52_method_3_code (1 : Nat) (Option.some Jvm.ClassFile.FieldType.int), Jvm.Cond.code ({ cls := "java/lang/StringUTF16", name := "putChar", desc := "([BII)V" } : Jvm.MethodName) jdk_52_method_4_code (3 : Nat) (Option.none : Option Jvm.ClassFile.FieldType), Jvm.Cond.code ({ cls := "java/lang/StringUTF16", name := "getChar", desc := "([BI)C" } : Jvm.MethodName) jdk_52_method_5_code (2 : Nat) (Option.some Jvm.ClassFile.FieldType.char), Jvm.Cond.code ({ cls := "java/lang/StringUTF16", name := "charAt", desc := "([BI)C" } : Jvm.MethodName) jdk_52_method_83_code (2 : Nat) (Option.some Jvm.ClassFile.FieldType.char), Jvm.Cond.code ({ cls := "java/lang/StringUTF16", name := "checkIndex", desc := "(I[B)V" } : Jvm.MethodName) jdk_52_method_91_code (2 : Nat) (Option.none : Option Jvm.ClassFile.FieldType), Jvm.Cond.code ({ cls := "java/lang/StringUTF16", name := "length", desc := "([B)I" } : Jvm.MethodName) jdk_52_method_6_code (1 : Nat) (Option.some Jvm.ClassFile.FieldType.int)]
set_option maxRecDepth 65536 in
theorem codes_eq : words1.filter isCode = codes1 := rfl
theorem w_codes : ∀ c ∈ words1.filter isCode, c.before args0 about1 = true := by
  rw [codes_eq]
  intro c hc
  simp only [codes1, List.mem_cons, List.not_mem_nil, or_false] at hc
  rcases hc with rfl | rfl | rfl | rfl | rfl | rfl | rfl | rfl | rfl | rfl | rfl | rfl | rfl | rfl | rfl | rfl | rfl | rfl | rfl | rfl | rfl | rfl | rfl | rfl | rfl
  · exact w_c0
  · exact w_c1
  · exact w_c2
  · exact w_c3
  · exact w_c4
  · exact w_c5
  · exact w_c6
  · exact w_c7
  · exact w_c8
  · exact w_c9
  · exact w_c10
  · exact w_c11
  · exact w_c12
  · exact w_c13
  · exact w_c14
  · exact w_c15
  · exact w_c16
  · exact w_c17
  · exact w_c18
  · exact w_c19
  · exact w_c20
  · exact w_c21
  · exact w_c22
  · exact w_c23
  · exact w_c24
set_option maxRecDepth 65536 in
theorem w_t1 : (words1.take 24).all (fun c => isCode c || c.before args0 about1) = true := by decide +kernel
set_option maxRecDepth 65536 in
theorem w_t2 : ((words1.drop 24).take 24).all (fun c => isCode c || c.before args0 about1) = true := by decide +kernel
set_option maxRecDepth 65536 in
theorem w_t3 : (((words1.drop 24).drop 24).take 24).all (fun c => isCode c || c.before args0 about1) = true := by decide +kernel
set_option maxRecDepth 65536 in
theorem w_t4 : ((((words1.drop 24).drop 24).drop 24).take 24).all (fun c => isCode c || c.before args0 about1) = true := by decide +kernel
set_option maxRecDepth 65536 in
theorem w_t5 : ((((words1.drop 24).drop 24).drop 24).drop 24).all (fun c => isCode c || c.before args0 about1) = true := by decide +kernel
theorem w_tables : (allAtoms (Jvm.Cond.code x code maxLocals ret :: tables_1)).before args0 about1 = true := by
  rw [allAtoms_all]
  show words1.all (fun c => c.before args0 about1) = true
  refine all_split ?_ w_codes
  rw [← List.take_append_drop 24 words1, List.all_append, w_t1, ← List.take_append_drop 24 (words1.drop 24), List.all_append, w_t2, ← List.take_append_drop 24 ((words1.drop 24).drop 24), List.all_append, w_t3, ← List.take_append_drop 24 (((words1.drop 24).drop 24).drop 24), List.all_append, w_t4, w_t5]
  rfl
set_option maxRecDepth 65536 in
theorem w_rest : rest_1_c.before args0 about1 = true := by decide +kernel
set_option maxRecDepth 65536 in
theorem w_case : (Jvm.Cond.and given_1 narrow_1).before args0 about1 = true := by decide +kernel
set_option maxRecDepth 65536 in
theorem w_consts : constsHeld consts_1 about1 := Jvm.Lit.constsHeldB_iff.mp (by decide +kernel)
theorem w_applies : (headSpec (Jvm.Cond.code x code maxLocals ret :: tables_1) room_1).applies x e0.platform about1 = true :=
  (Spec.applies_iff w_frames).mpr ⟨w_running, w_runnable, w_alone, w_named, w_hears, w_ripe, w_room, w_tables⟩
theorem atStart : AtStart classFile x code maxLocals ret World_1 tables_1 room_1 Calls_1 rest_1 Pre_1 launch0 p0 e0 about1 theMethod args0 below0 :=
  ⟨lists_1, trivial, launch0.admits_env _ _ _, launch0.least_env, fairChoices_fair.cas, fairChoices_fair.clock, w_frames, w_args, w_heap, w_applies, ⟨w_consts, trivial⟩, w_rest, w_case⟩
end start1
theorem witness_1 : WitnessClaimed_1 := ⟨start1.p0, start1.e0, start1.about1, start1.theMethod, start1.args0, start1.below0, start1.atStart⟩
end Jvm.Pilot.@@N@@
