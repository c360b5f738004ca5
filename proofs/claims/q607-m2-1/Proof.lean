import JvmDerived
import JvmDerived.Pilot.@@N@@Statement
import JvmDerived.Pilot.@@N@@Code
set_option linter.unusedVariables false
set_option linter.unusedSimpArgs false
namespace Jvm.RoadKit
open Sem ClassFile Op Lib Jvm.Stand Jvm.Free Jvm.LawKit
section New
variable {p : Program} {l : Launch} {e : Env} {R : Room} {s : State} {m : MethodId} {args : Array Value} {below : List Frame} {meth : Method} {c : Code} {T : State} {locs : List Loc} {cells slots : Nat}
theorem retI (X : Stand p l e R s m args below meth c T locs cells slots) (hx : p.tables.exec = Jvm.exec) {pc : Nat} {Ls : Array Slot} {z : Int32} {rest : List Value} (hret : meth.sig.returnType = some .int) (hd : decode c.code pc = .ok (.ireturn, 1)) {fs : List Frame}
    (hl : ∀ (f : JFrame) (acts : List Action), f.method = m → f.locked = none → f.entered = [] → (doReturn e (T.setTop f) acts (some (.int z))).1 = T.setFrames fs) : Steps p.tables e below (T.setTop (mkF m pc Ls (.int z :: rest))) (T.setFrames fs) := by
  have hm' : T.vm.method? m = some meth := X.method'
  have hn : narrow .int (.int z) = .int z := rfl
  show Steps p.tables e below (T.setTop { method := m, pc := pc, locals := Ls, stack := _ :: rest, locked := none }) _
  jvm_step X.here [X.here.top, hx, hd, hm', hret, hn]
  first | (intro acts; rw [hl _ acts rfl rfl rfl]) | rw [hl _ _ rfl rfl rfl]
  exact Steps.refl _
end New
end Jvm.RoadKit
namespace Jvm.Pilot.@@N@@
open Jvm Jvm.ClassFile Sem Op Lib Jvm.Free Jvm.Stand Jvm.LawKit Jvm.RoadKit Bundle Jvm.Pilot.@@N@@.Jvm.D
theorem nlt {a b c : Nat} (h : a < b) (k : b ≤ c) : a ≠ c := Nat.ne_of_lt (Nat.lt_of_lt_of_le h k)
abbrev cLH : String := "com/example/tallysketch/tallysketch/LargestHashes"
abbrev cRE : String := "com/example/tallysketch/tallysketch/Recordinality"
abbrev cMM : String := "com/example/tallysketch/tallysketch/MurmurHash3"
abbrev cSK : String := "com/example/tallysketch/tallysketch/Sketch"
abbrev cLW : String := "com/example/tallysketch/tallysketch/RecordinalityContentLengthPinLaw"
theorem Wd {a0 : Array Value} {Z : State} (hw : ∀ d ∈ tables_1, d.before a0 Z = true) (i : Nat) {d : Jvm.Cond} (h : tables_1[i]? = some d) : d.before a0 Z = true := hw d (List.mem_of_getElem? h)
def own_get (l : List Int32) (j : Int32) : Int32 := l.getD j.toNatClampNeg 0
theorem own_getV (l : List Int32) (j : Int32) : (l.map Value.int).getD j.toNatClampNeg (.int (0 : Int32)) = .int (own_get l j) := by
 unfold own_get
 rw [List.getD_eq_getElem?_getD, List.getD_eq_getElem?_getD, List.getElem?_map]
 cases l[j.toNatClampNeg]? <;> rfl
theorem selfInst {Z s : State} {a0 args : Array Value} {n : Nat} {y : MethodName} (hZ : Z.Warmed39 s.vm) (hs : (Cond.instantiable y.cls n).before a0 Z = true) (hi : (Cond.instanceMethod y).before a0 Z = true) (hp : (Cond.privateMethod y).before a0 Z = true)
  (hy : y.cls ≠ "java/lang/invoke/MethodHandle" ∧ y.cls ≠ "java/lang/invoke/VarHandle") : (Cond.selects y.cls y y).before args s = true := by
 obtain ⟨c, k, h1, h2, -, h3, -⟩ := Cond.instantiable_spec hs
 have h4 : k.isInterface = false := by
  cases q : k.isInterface
  ·rfl
  ·rw [q] at h3; simp at h3
 obtain ⟨k', q2, he⟩ := hZ.alike.2.2 _ _ h2
 have h5 : k'.isInterface = k.isInterface := by rw [he]; rfl
 exact Stand.selects_self_of_private (by rw [hZ.alike.findClass]; exact h1) q2 (h5.trans h4) (Cond.privateMethod_at (mvP hZ hp (args := #[]))) (mvT hZ hi) hy
theorem own_getVL (l : List Int64) (j : Int32) : (l.map Value.long).getD j.toNatClampNeg (.long (0 : Int64)) = .long (l.getD j.toNatClampNeg 0) := by
 rw [List.getD_eq_getElem?_getD, List.getD_eq_getElem?_getD, List.getElem?_map]
 cases l[j.toNatClampNeg]? <;> rfl
theorem own_irr {Z : State} {h : Heap} {a : Addr} {k : ClassId} {ty : FieldType} {n : Int32} {vs vs' : List Value} {d : Value} (F : Arv Z h a k ty n vs d) (q : ∀ i, i < n.toNatClampNeg → vs'.getD i d = vs.getD i d) : Arv Z h a k ty n vs' d := by
 obtain ⟨c, A, r1, r2, r3, H, G⟩ := F
 exact ⟨c, A, r1, r2, r3, fun i hi => by rw [q i (by omega)]; exact H i hi, fun i hi => by rw [q i (by omega)]; exact G i hi⟩
theorem own_short {w c : Int32} {n : Nat} (h : ¬ c < w) (hc : c.toInt = (n : Int)) : w.toNatClampNeg ≤ n := by
 rw [Int32.lt_iff_toInt_lt] at h; simp only [Int32.toNatClampNeg]; omega
theorem own_neT {Z : State} {h : Heap} {a b : Addr} {k k' : ClassId} {ty ty' : FieldType} {n n' : Int32} {vs vs' : List Value} {d d' : Value} (A : Arv Z h a k ty n vs d) (B : Arv Z h b k' ty' n' vs' d') (q : ty ≠ ty') : a ≠ b := by
 rintro rfl
 obtain ⟨c1, ⟨a1, ⟨-, k1, a2, p1, a3⟩, -⟩, -⟩ := A
 obtain ⟨c2, ⟨b1, ⟨-, k2, b2, p2, b3⟩, -⟩, -⟩ := B
 cases a1.symm.trans b1; cases a2.symm.trans b2
 have e := a3.symm.trans b3
 cases e; exact q rfl
def own_getL (l : List Int64) (j : Int32) : Int64 := l.getD j.toNatClampNeg 0
theorem own_addxor (x : Int64) : x + (-9223372036854775808 : Int64) = x ^^^ (-9223372036854775808 : Int64) := by
 apply Int64.toBitVec_inj.mp
 rw [Int64.toBitVec_add, Int64.toBitVec_xor]
 generalize x.toBitVec = b
 have e : (-9223372036854775808 : Int64).toBitVec = BitVec.twoPow 64 63 := by decide
 rw [e]
 apply BitVec.eq_of_toNat_eq
 rw [BitVec.toNat_add, BitVec.toNat_xor]
 have k : (BitVec.twoPow 64 63).toNat = 2 ^ 63 := by decide
 rw [k]
 have hb := b.isLt
 generalize b.toNat = n at hb
 have key : ∀ m, m < 2 ^ 63 → m ^^^ 2 ^ 63 = m + 2 ^ 63 := by
  intro m hm
  have h1 := Nat.two_pow_add_eq_or_of_lt hm 1
  rw [Nat.mul_one] at h1
  rw [Nat.add_comm, h1]
  apply Nat.eq_of_testBit_eq; intro i
  rw [Nat.testBit_xor, Nat.testBit_or, Nat.testBit_two_pow]
  by_cases hi : 63 = i
  ·subst hi; rw [Nat.testBit_lt_two_pow hm]; rfl
  ·simp [hi]
 by_cases q : n < 2 ^ 63
 ·rw [key n q, Nat.mod_eq_of_lt (by omega)]
 ·obtain ⟨m, rfl⟩ : ∃ m, n = m + 2 ^ 63 := ⟨n - 2 ^ 63, by omega⟩
  have hm : m < 2 ^ 63 := by omega
  rw [← key m hm, Nat.xor_assoc, Nat.xor_self, Nat.xor_zero, key m hm]
  omega
/-- a hash as the unsigned order sees it -/
def own_key (x : Int64) : Int := (x ^^^ (-9223372036854775808 : Int64)).toInt
abbrev own_lt (x y : Int64) : Prop := own_key x < own_key y
theorem own_keyinj {x y : Int64} (h : own_key x = own_key y) : x = y := by
 have e := Int64.toInt_inj.mp h
 have := congrArg (· ^^^ (-9223372036854775808 : Int64)) e
 simpa [Int64.xor_assoc] using this
theorem own_keyne {x y : Int64} (h : ¬ x = y) : own_key x ≠ own_key y := fun e => h (own_keyinj e)
def own_cp (a b : Int64) : Int32 := if a < b then (-1 : Int32) else if a = b then (0 : Int32) else (1 : Int32)
def own_cu (a b : Int64) : Int32 := own_cp (a + (-9223372036854775808 : Int64)) (b + (-9223372036854775808 : Int64))
theorem own_cul {a b : Int64} : own_cu a b < (0 : Int32) ↔ own_lt a b := by
 unfold own_cu own_cp own_lt own_key
 rw [own_addxor, own_addxor]
 split
 ·rename_i h; rw [Int64.lt_iff_toInt_lt] at h; simp [h]
 ·rename_i h; rw [Int64.lt_iff_toInt_lt] at h
  split
  ·simp [h]
  ·simp [h]
theorem own_cug {a b : Int64} : (0 : Int32) < own_cu a b ↔ own_lt b a := by
 unfold own_cu own_cp own_lt own_key
 rw [own_addxor, own_addxor]
 split
 ·rename_i h; rw [Int64.lt_iff_toInt_lt] at h; simp; omega
 ·rename_i h; rw [Int64.lt_iff_toInt_lt] at h; split
  ·rename_i q; rw [q]; simp
  ·rename_i q
   have : (a ^^^ (-9223372036854775808 : Int64)).toInt ≠ (b ^^^ (-9223372036854775808 : Int64)).toInt := fun e => q (Int64.toInt_inj.mp e)
   simp; omega
def own_fl (sz kl : Int32) : Int32 := if sz = kl then (1 : Int32) else (0 : Int32)
theorem own_fl1 {sz kl : Int32} (h : ¬ own_fl sz kl = (0 : Int32)) : sz = kl := by unfold own_fl at h; split at h; assumption; exact absurd rfl h
theorem own_fl0 {sz kl : Int32} (h : own_fl sz kl = (0 : Int32)) : ¬ sz = kl := by unfold own_fl at h; split at h; exact absurd h (by decide); assumption
/-- what indexOf answers -/
def own_ix (sz kl : Int32) (hs xa : Int64) (iv : List Int32) (r : Int32) : Int32 := if sz = kl ∧ own_lt hs xa then (-1 : Int32) else own_get iv r
def own_ad (sz kl : Int32) (hs xa : Int64) : Int32 := if sz = kl ∧ ¬ own_lt xa hs then (0 : Int32) else (1 : Int32)
def own_mn (x y : Int64) : Int64 := if own_lt x y then x else y
def own_mx (x y : Int64) : Int64 := if own_lt x y then y else x
/-- the walk of slotOf -/
def own_run (sv : List Int64) (iv : List Int32) (mk : Int32) (h : Int64) : Nat → Int32 → Option Int32
 | 0, _ => none
 | n + 1, p => if own_get iv p = (-1 : Int32) then some p else if own_getL sv p = h then some p else own_run sv iv mk h n ((p + (1 : Int32)) &&& mk)
/-- k, the mask and the number of slots -/
abbrev own_kmn (kl mk nl : Int32) : Prop := (kl = 1 ∧ mk = 1 ∧ nl = 2) ∨ (kl = 2 ∧ mk = 3 ∧ nl = 4) ∨ (kl = 3 ∧ mk = 7 ∧ nl = 8)
abbrev own_in (mk p : Int32) : Prop := 0 ≤ p.toInt ∧ p.toInt ≤ mk.toInt
theorem own_m7 {kl mk nl : Int32} (K : own_kmn kl mk nl) : 1 ≤ mk.toInt ∧ mk.toInt ≤ 7 := by rcases K with ⟨-, rfl, -⟩ | ⟨-, rfl, -⟩ | ⟨-, rfl, -⟩ <;> decide
theorem own_andin {kl mk nl : Int32} (K : own_kmn kl mk nl) (x : Int32) : own_in mk (x &&& mk) := by
 rcases K with ⟨-, rfl, -⟩ | ⟨-, rfl, -⟩ | ⟨-, rfl, -⟩
 ·have a : (x &&& (1 : Int32)).toInt = x.toInt % (2 ^ 1 : Nat) := c_mask x 1 1 (by decide) (by decide)
  have : (1 : Int32).toInt = 1 := by decide
  unfold own_in; omega
 ·have a : (x &&& (3 : Int32)).toInt = x.toInt % (2 ^ 2 : Nat) := c_mask x 3 2 (by decide) (by decide)
  have : (3 : Int32).toInt = 3 := by decide
  unfold own_in; omega
 ·have a : (x &&& (7 : Int32)).toInt = x.toInt % (2 ^ 3 : Nat) := c_mask x 7 3 (by decide) (by decide)
  have : (7 : Int32).toInt = 7 := by decide
  unfold own_in; omega
theorem own_runin {kl mk nl : Int32} (K : own_kmn kl mk nl) {sv : List Int64} {iv : List Int32} {h : Int64} {r : Int32} : ∀ (n : Nat) (p : Int32), own_in mk p → own_run sv iv mk h n p = some r → own_in mk r
 | 0, _, _, q => nomatch q
 | n + 1, p, hp, q => by
  unfold own_run at q
  split at q
  ·cases q; exact hp
  ·split at q
   ·cases q; exact hp
   ·exact own_runin K n _ (own_andin K _) q
theorem own_inb {kl mk nl : Int32} (K : own_kmn kl mk nl) {r : Int32} (h : own_in mk r) : ¬ r < 0 ∧ r < nl := by
 rw [Int32.lt_iff_toInt_lt, Int32.lt_iff_toInt_lt]
 rcases K with ⟨-, rfl, rfl⟩ | ⟨-, rfl, rfl⟩ | ⟨-, rfl, rfl⟩
 ·have : (1 : Int32).toInt = 1 ∧ (2 : Int32).toInt = 2 ∧ (0 : Int32).toInt = 0 := by decide
  unfold own_in at h; omega
 ·have : (3 : Int32).toInt = 3 ∧ (4 : Int32).toInt = 4 ∧ (0 : Int32).toInt = 0 := by decide
  unfold own_in at h; omega
 ·have : (7 : Int32).toInt = 7 ∧ (8 : Int32).toInt = 8 ∧ (0 : Int32).toInt = 0 := by decide
  unfold own_in at h; omega
theorem own_nat {kl mk nl : Int32} (K : own_kmn kl mk nl) {r : Int32} (h : own_in mk r) : r.toNatClampNeg < 8 ∧ r.toInt = (r.toNatClampNeg : Int) := by
 have := own_m7 K; unfold own_in at h; simp only [Int32.toNatClampNeg]; omega
theorem own_sl {kl mk nl : Int32} (K : own_kmn kl mk nl) {r : Int32} (h : own_in mk r) {α : Type} {l : List α} (hl : l.length = 8) : r.toNatClampNeg < l.length := by have := own_nat K h; omega
theorem own_set {kl mk nl : Int32} (K : own_kmn kl mk nl) {iv : List Int32} (hl : iv.length = 8) {r p : Int32} (hr : own_in mk r) (hp : own_in mk p) (v : Int32) : own_get (iv.set r.toNatClampNeg v) p = if p = r then v else own_get iv p := by
 obtain ⟨r1, r2⟩ := own_nat K hr
 obtain ⟨p1, p2⟩ := own_nat K hp
 unfold own_get
 rw [List.getD_eq_getElem?_getD, List.getElem?_set]
 by_cases q : p = r
 ·subst q; rw [if_pos rfl, if_pos rfl, if_pos (by omega)]; rfl
 ·rw [if_neg q, if_neg (fun e => q (Int32.toInt_inj.mp (by rw [p2, r2, e]))), ← List.getD_eq_getElem?_getD]
theorem own_setL {kl mk nl : Int32} (K : own_kmn kl mk nl) {sv : List Int64} (hl : sv.length = 8) {r p : Int32} (hr : own_in mk r) (hp : own_in mk p) (v : Int64) : own_getL (sv.set r.toNatClampNeg v) p = if p = r then v else own_getL sv p := by
 obtain ⟨r1, r2⟩ := own_nat K hr
 obtain ⟨p1, p2⟩ := own_nat K hp
 unfold own_getL
 rw [List.getD_eq_getElem?_getD, List.getElem?_set]
 by_cases q : p = r
 ·subst q; rw [if_pos rfl, if_pos rfl, if_pos (by omega)]; rfl
 ·rw [if_neg q, if_neg (fun e => q (Int32.toInt_inj.mp (by rw [p2, r2, e]))), ← List.getD_eq_getElem?_getD]
abbrev own_nx (mk p : Int32) : Int32 := (p + (1 : Int32)) &&& mk
theorem own_cases {kl mk nl : Int32} (K : own_kmn kl mk nl) {p : Int32} (h : own_in mk p) : (mk = 1 ∧ (p = 0 ∨ p = 1)) ∨ (mk = 3 ∧ (p = 0 ∨ p = 1 ∨ p = 2 ∨ p = 3)) ∨ (mk = 7 ∧ (p = 0 ∨ p = 1 ∨ p = 2 ∨ p = 3 ∨ p = 4 ∨ p = 5 ∨ p = 6 ∨ p = 7)) := by
 have k : ∀ y : Int32, p.toInt = y.toInt → p = y := fun y q => Int32.toInt_inj.mp q
 unfold own_in at h
 rcases K with ⟨-, rfl, -⟩ | ⟨-, rfl, -⟩ | ⟨-, rfl, -⟩
 ·have : (1 : Int32).toInt = 1 := by decide
  refine Or.inl ⟨rfl, ?_⟩
  have e : p.toInt = 0 ∨ p.toInt = 1 := by omega
  exact e.imp (k 0) (k 1)
 ·have : (3 : Int32).toInt = 3 := by decide
  refine Or.inr (Or.inl ⟨rfl, ?_⟩)
  have e : p.toInt = 0 ∨ p.toInt = 1 ∨ p.toInt = 2 ∨ p.toInt = 3 := by omega
  exact e.imp (k 0) (Or.imp (k 1) (Or.imp (k 2) (k 3)))
 ·have : (7 : Int32).toInt = 7 := by decide
  refine Or.inr (Or.inr ⟨rfl, ?_⟩)
  have e : p.toInt = 0 ∨ p.toInt = 1 ∨ p.toInt = 2 ∨ p.toInt = 3 ∨ p.toInt = 4 ∨ p.toInt = 5 ∨ p.toInt = 6 ∨ p.toInt = 7 := by omega
  exact e.imp (k 0) (Or.imp (k 1) (Or.imp (k 2) (Or.imp (k 3) (Or.imp (k 4) (Or.imp (k 5) (Or.imp (k 6) (k 7)))))))
theorem own_nx1 {kl mk nl : Int32} (K : own_kmn kl mk nl) {p : Int32} (h : own_in mk p) : own_nx mk p ≠ p := by
 rcases own_cases K h with ⟨rfl, g⟩ | ⟨rfl, g⟩ | ⟨rfl, g⟩
 ·rcases g with rfl | rfl <;> decide
 ·rcases g with rfl | rfl | rfl | rfl <;> decide
 ·rcases g with rfl | rfl | rfl | rfl | rfl | rfl | rfl | rfl <;> decide
theorem own_nx2 {kl mk nl : Int32} (K : own_kmn kl mk nl) (hk : ¬ kl = 1) {p : Int32} (h : own_in mk p) : own_nx mk (own_nx mk p) ≠ p := by
 rcases own_cases K h with ⟨rfl, g⟩ | ⟨rfl, g⟩ | ⟨rfl, g⟩
 ·rcases K with ⟨a, -⟩ | ⟨-, a, -⟩ | ⟨-, a, -⟩
  ·exact absurd a hk
  ·exact absurd a (by decide)
  ·exact absurd a (by decide)
 ·rcases g with rfl | rfl | rfl | rfl <;> decide
 ·rcases g with rfl | rfl | rfl | rfl | rfl | rfl | rfl | rfl <;> decide
abbrev own_hm (mk : Int32) (h : Int64) : Int32 := h.toInt32 &&& mk
/-- one hash is held, at its home, with the index 0 -/
def own_t1 (mk : Int32) (sv : List Int64) (iv : List Int32) (c : Int64) : Prop := sv.length = 8 ∧ iv.length = 8 ∧ own_getL sv (own_hm mk c) = c ∧ own_get iv (own_hm mk c) = 0 ∧ ∀ p, own_in mk p → p ≠ own_hm mk c → own_get iv p = -1
/-- two are held: a with the index 0, then b with the index 1 -/
def own_t2 (mk : Int32) (sv : List Int64) (iv : List Int32) (a b : Int64) : Prop := sv.length = 8 ∧ iv.length = 8 ∧ ∃ q : Int32, own_in mk q ∧ q ≠ own_hm mk a ∧ (own_hm mk b = own_hm mk a → q = own_nx mk (own_hm mk a)) ∧ (own_hm mk b ≠ own_hm mk a → q = own_hm mk b) ∧
 own_getL sv (own_hm mk a) = a ∧ own_get iv (own_hm mk a) = 0 ∧ own_getL sv q = b ∧ own_get iv q = 1 ∧ ∀ p, own_in mk p → p ≠ own_hm mk a → p ≠ q → own_get iv p = -1
theorem own_s1 {sv : List Int64} {iv : List Int32} {mk : Int32} {h : Int64} {n : Nat} {p : Int32} (q : own_get iv p = -1) : own_run sv iv mk h (n + 1) p = some p := by unfold own_run; rw [if_pos q]
theorem own_s2 {sv : List Int64} {iv : List Int32} {mk : Int32} {h : Int64} {n : Nat} {p : Int32} (q : own_getL sv p = h) : own_run sv iv mk h (n + 1) p = some p := by
 rw [own_run, if_pos q]; split <;> rfl
theorem own_s3 {sv : List Int64} {iv : List Int32} {mk : Int32} {h : Int64} {n : Nat} {p : Int32} (q : ¬ own_get iv p = -1) (q2 : ¬ own_getL sv p = h) : own_run sv iv mk h (n + 1) p = own_run sv iv mk h n (own_nx mk p) := by
 rw [own_run, if_neg q, if_neg q2]
abbrev own_z8 : List Int64 := [0, 0, 0, 0, 0, 0, 0, 0]
abbrev own_n8 : List Int32 := [-1, -1, -1, -1, -1, -1, -1, -1]
theorem own_g8 {kl mk nl : Int32} (K : own_kmn kl mk nl) {p : Int32} (h : own_in mk p) : own_get own_n8 p = -1 := by
 rcases own_cases K h with ⟨-, g⟩ | ⟨-, g⟩ | ⟨-, g⟩
 ·rcases g with rfl | rfl <;> decide
 ·rcases g with rfl | rfl | rfl | rfl <;> decide
 ·rcases g with rfl | rfl | rfl | rfl | rfl | rfl | rfl | rfl <;> decide
theorem own_mk1 {kl mk nl : Int32} (K : own_kmn kl mk nl) {sv : List Int64} {iv : List Int32} (l1 : sv.length = 8) (l2 : iv.length = 8) (h : Int64) (e : ∀ p, own_in mk p → own_get iv p = -1) :
  own_t1 mk (sv.set (own_hm mk h).toNatClampNeg h) (iv.set (own_hm mk h).toNatClampNeg 0) h := by
 have hi := own_andin K h.toInt32
 refine ⟨by simp [l1], by simp [l2], ?_, ?_, fun p hp q => ?_⟩
 ·rw [own_setL K l1 hi hi, if_pos rfl]
 ·rw [own_set K l2 hi hi, if_pos rfl]
 ·rw [own_set K l2 hi hp, if_neg q]; exact e p hp
theorem own_f0 {kl mk nl : Int32} (K : own_kmn kl mk nl) (h : Int64) : ∃ r, own_run own_z8 own_n8 mk h 8 (own_hm mk h) = some r ∧ own_in mk r ∧ own_get own_n8 r = -1 ∧ own_t1 mk (own_z8.set r.toNatClampNeg h) (own_n8.set r.toNatClampNeg 0) h := by
 have hi := own_andin K h.toInt32
 exact ⟨own_hm mk h, own_s1 (own_g8 K hi), hi, own_g8 K hi, own_mk1 K rfl rfl h (fun p hp => own_g8 K hp)⟩
theorem own_f1 {kl mk nl : Int32} (K : own_kmn kl mk nl) {sv : List Int64} {iv : List Int32} {c : Int64} (t : own_t1 mk sv iv c) (h : Int64) :
  ∃ r, own_run sv iv mk h 8 (own_hm mk h) = some r ∧ own_in mk r ∧ (h = c → r = own_hm mk c ∧ own_get iv r = 0) ∧ (¬ h = c → own_get iv r = -1 ∧ own_t2 mk (sv.set r.toNatClampNeg h) (iv.set r.toNatClampNeg 1) c h) := by
 obtain ⟨l1, l2, a1, a2, a3⟩ := t
 have hc : own_in mk (own_hm mk c) := own_andin K _
 have hh : own_in mk (own_hm mk h) := own_andin K _
 have fin : ∀ r, own_in mk r → r ≠ own_hm mk c → (own_hm mk h = own_hm mk c → r = own_nx mk (own_hm mk c)) → (own_hm mk h ≠ own_hm mk c → r = own_hm mk h) → own_t2 mk (sv.set r.toNatClampNeg h) (iv.set r.toNatClampNeg 1) c h := fun r ri rn b1 b2 =>
  ⟨by simp [l1], by simp [l2], r, ri, rn, b1, b2, by rw [own_setL K l1 ri hc, if_neg (Ne.symm rn)]; exact a1, by rw [own_set K l2 ri hc, if_neg (Ne.symm rn)]; exact a2, by rw [own_setL K l1 ri ri, if_pos rfl], by rw [own_set K l2 ri ri, if_pos rfl],
   fun p hp p1 p2 => by rw [own_set K l2 ri hp, if_neg p2]; exact a3 p hp p1⟩
 by_cases e : own_hm mk h = own_hm mk c
 ·by_cases q : h = c
  ·subst q; exact ⟨_, own_s2 a1, hh, fun _ => ⟨rfl, a2⟩, fun z => absurd rfl z⟩
  ·have n1 := own_nx1 K hc
   have ni : own_in mk (own_nx mk (own_hm mk c)) := own_andin K _
   refine ⟨own_nx mk (own_hm mk c), ?_, ni, fun z => absurd z q, fun _ => ⟨a3 _ ni n1, fin _ ni n1 (fun _ => rfl) (fun z => absurd e z)⟩⟩
   rw [e, own_s3 (by rw [a2]; decide) (by rw [a1]; exact fun z => q z.symm)]
   exact own_s1 (a3 _ ni n1)
 ·refine ⟨own_hm mk h, own_s1 (a3 _ hh e), hh, fun z => absurd (by rw [z]) e, fun _ => ⟨a3 _ hh e, fin _ hh e (fun z => absurd z e) (fun _ => rfl)⟩⟩
theorem own_f2 {kl mk nl : Int32} (K : own_kmn kl mk nl) (hk : ¬ kl = 1) {sv : List Int64} {iv : List Int32} {a b : Int64} (hab : ¬ b = a) (t : own_t2 mk sv iv a b) (h : Int64) :
  ∃ r, own_run sv iv mk h 8 (own_hm mk h) = some r ∧ own_in mk r ∧ (h = a → own_get iv r = 0) ∧ (h = b → own_get iv r = 1) ∧ (¬ h = a → ¬ h = b → own_get iv r = -1) ∧ (own_get iv r ≠ -1 → own_get iv (own_nx mk r) = -1 ∨ own_get iv (own_nx mk (own_nx mk r)) = -1) := by
 obtain ⟨l1, l2, q, hq, qa, q1, q2, a1, a2, b1, b2, fr⟩ := t
 have ha : own_in mk (own_hm mk a) := own_andin K _
 have hh : own_in mk (own_hm mk h) := own_andin K _
 have na := own_nx1 K ha
 have nq := own_nx1 K hq
 have naa := own_nx2 K hk ha
 have nqq := own_nx2 K hk hq
 have ia : own_in mk (own_nx mk (own_hm mk a)) := own_andin K _
 have iq : own_in mk (own_nx mk q) := own_andin K _
 have iaa : own_in mk (own_nx mk (own_nx mk (own_hm mk a))) := own_andin K _
 have iqq : own_in mk (own_nx mk (own_nx mk q)) := own_andin K _
 have frA : own_get iv (own_nx mk (own_hm mk a)) = -1 ∨ own_get iv (own_nx mk (own_nx mk (own_hm mk a))) = -1 := by
  by_cases z : own_nx mk (own_hm mk a) = q
  ·refine Or.inr (fr _ iaa naa ?_); rw [z]; exact nq
  ·exact Or.inl (fr _ ia na z)
 have frQ : own_get iv (own_nx mk q) = -1 ∨ own_get iv (own_nx mk (own_nx mk q)) = -1 := by
  by_cases z : own_nx mk q = own_hm mk a
  ·refine Or.inr (fr _ iqq ?_ nqq); rw [z]; exact na
  ·exact Or.inl (fr _ iq z nq)
 by_cases e : own_hm mk h = own_hm mk a
 ·by_cases c : h = a
  ·subst c
   exact ⟨_, own_s2 a1, ha, fun _ => a2, fun z => absurd z.symm hab, fun z => absurd rfl z, fun _ => frA⟩
  ·have s0 : own_run sv iv mk h 8 (own_hm mk h) = own_run sv iv mk h 7 (own_nx mk (own_hm mk a)) := by
    rw [e, own_s3 (by rw [a2]; decide) (by rw [a1]; exact fun z => c z.symm)]
   by_cases z : own_nx mk (own_hm mk a) = q
   ·by_cases d : h = b
    ·subst d
     exact ⟨q, by rw [s0, z]; exact own_s2 b1, hq, fun z => absurd z hab, fun _ => b2, fun _ z => absurd rfl z, fun _ => frQ⟩
    ·have f3 : own_get iv (own_nx mk q) = -1 := fr _ iq (by rw [← z]; exact naa) nq
     refine ⟨own_nx mk q, ?_, iq, fun z => absurd z c, fun z => absurd z d, fun _ _ => f3, fun z => absurd f3 z⟩
     rw [s0, z, own_s3 (by rw [b2]; decide) (by rw [b1]; exact fun z => d z.symm)]
     exact own_s1 f3
   ·have f3 := fr _ ia na z
    refine ⟨own_nx mk (own_hm mk a), by rw [s0]; exact own_s1 f3, ia, fun z => absurd z c, fun y => ?_, fun _ _ => f3, fun z => absurd f3 z⟩
    subst y; exact absurd (q1 e).symm z
 ·have ca : ¬ h = a := fun z => e (by rw [z])
  by_cases y : own_hm mk h = q
  ·by_cases d : h = b
   ·subst d
    exact ⟨q, by rw [y]; exact own_s2 b1, hq, fun z => absurd z ca, fun _ => b2, fun _ z => absurd rfl z, fun _ => frQ⟩
   ·have s0 : own_run sv iv mk h 8 (own_hm mk h) = own_run sv iv mk h 7 (own_nx mk q) := by
     rw [y, own_s3 (by rw [b2]; decide) (by rw [b1]; exact fun z => d z.symm)]
    by_cases z : own_nx mk q = own_hm mk a
    ·have f3 : own_get iv (own_nx mk (own_hm mk a)) = -1 := fr _ ia na (by rw [← z]; exact nqq)
     refine ⟨own_nx mk (own_hm mk a), ?_, ia, fun z => absurd z ca, fun z => absurd z d, fun _ _ => f3, fun z => absurd f3 z⟩
     rw [s0, z, own_s3 (by rw [a2]; decide) (by rw [a1]; exact fun z => ca z.symm)]
     exact own_s1 f3
    ·have f3 := fr _ iq z nq
     exact ⟨own_nx mk q, by rw [s0]; exact own_s1 f3, iq, fun z => absurd z ca, fun z => absurd z d, fun _ _ => f3, fun z => absurd f3 z⟩
  ·have f3 := fr _ hh e y
   refine ⟨own_hm mk h, own_s1 f3, hh, fun z => absurd z ca, fun z => ?_, fun _ _ => f3, fun z => absurd f3 z⟩
   subst z; exact absurd (q2 e).symm y
/-- the one that is held goes, another takes its place -/
theorem own_u1 {kl mk nl : Int32} (K : own_kmn kl mk nl) {sv : List Int64} {iv : List Int32} {c : Int64} (t : own_t1 mk sv iv c) (h : Int64) :
  own_run sv (iv.set (own_hm mk c).toNatClampNeg (-1)) mk h 8 (own_hm mk h) = some (own_hm mk h) ∧ own_t1 mk (sv.set (own_hm mk h).toNatClampNeg h) ((iv.set (own_hm mk c).toNatClampNeg (-1)).set (own_hm mk h).toNatClampNeg 0) h := by
 obtain ⟨l1, l2, a1, a2, a3⟩ := t
 have hc : own_in mk (own_hm mk c) := own_andin K _
 have hh : own_in mk (own_hm mk h) := own_andin K _
 have e : ∀ p, own_in mk p → own_get (iv.set (own_hm mk c).toNatClampNeg (-1)) p = -1 := fun p hp => by
  rw [own_set K l2 hc hp]; split
  ·rfl
  ·exact a3 p hp ‹_›
 exact ⟨own_s1 (e _ hh), own_mk1 K l1 (by simp [l2]) h e⟩
/-- a free slot there is: four steps come to it -/
theorem own_term {kl mk nl : Int32} (K : own_kmn kl mk nl) (hk : kl = 2) {sv : List Int64} {iv : List Int32} (f : ∃ p, own_in mk p ∧ own_get iv p = -1) (h : Int64) : ∃ r, own_run sv iv mk h 8 (own_hm mk h) = some r := by
 have hh : own_in mk (own_hm mk h) := own_andin K _
 generalize own_hm mk h = q at hh
 obtain ⟨p, hp, fp⟩ := f
 have m3 : mk = 3 := by
  rcases K with ⟨a, -⟩ | ⟨-, a, -⟩ | ⟨a, -⟩
  ·rw [hk] at a; exact absurd a (by decide)
  ·exact a
  ·rw [hk] at a; exact absurd a (by decide)
 have cov : p = q ∨ p = own_nx mk q ∨ p = own_nx mk (own_nx mk q) ∨ p = own_nx mk (own_nx mk (own_nx mk q)) := by
  subst m3
  have f : ∀ {z : Int32}, own_in 3 z → z = 0 ∨ z = 1 ∨ z = 2 ∨ z = 3 := fun {z} hz => by
   rcases own_cases K hz with ⟨a, -⟩ | ⟨-, a⟩ | ⟨a, -⟩
   ·exact absurd a (by decide)
   ·exact a
   ·exact absurd a (by decide)
  rcases f hp with rfl | rfl | rfl | rfl <;> rcases f hh with rfl | rfl | rfl | rfl <;> decide
 have step : ∀ (n : Nat) (z : Int32), (∃ r, own_run sv iv mk h n (own_nx mk z) = some r) → ∃ r, own_run sv iv mk h (n + 1) z = some r := fun n z ⟨r, hr⟩ => by
  by_cases c1 : own_get iv z = -1
  ·exact ⟨_, own_s1 c1⟩
  ·by_cases c2 : own_getL sv z = h
   ·exact ⟨_, own_s2 c2⟩
   ·exact ⟨r, by rw [own_s3 c1 c2]; exact hr⟩
 rcases cov with rfl | rfl | rfl | rfl
 ·exact ⟨_, own_s1 fp⟩
 ·exact step 7 _ ⟨_, own_s1 fp⟩
 ·exact step 7 _ (step 6 _ ⟨_, own_s1 fp⟩)
 ·exact step 7 _ (step 6 _ (step 5 _ ⟨_, own_s1 fp⟩))
abbrev own_gb (x y : Int64) : Int32 := if own_lt y x then (1 : Int32) else (0 : Int32)
abbrev own_g (f : Int32) (x y : Int64) : Int32 := if f = (0 : Int32) then (0 : Int32) else own_gb x y
abbrev own_one (b : Int32) : Int32 := if b = (0 : Int32) then (0 : Int32) else (1 : Int32)
abbrev own_v0 (nn : Int32) : Int32 := if (0 : Int32) < nn then (1 : Int32) else (0 : Int32)
abbrev own_v1 (nn : Int32) (a b : Int64) : Int32 := if (1 : Int32) < nn then (if b = a then (0 : Int32) else (1 : Int32)) else (0 : Int32)
abbrev own_v2 (nn : Int32) (a b c : Int64) : Int32 := if (2 : Int32) < nn then (if c = a then (0 : Int32) else (if c = b then (0 : Int32) else (1 : Int32))) else (0 : Int32)
abbrev own_e (acc : Int64) (f r kl ln : Int32) : Int64 := if f = (0 : Int32) then acc else (if r < kl then (acc + ((12 : Int64) + (ln.toInt64))) else acc)
abbrev own_r0 (nn : Int32) (a b c : Int64) : Int32 := own_one (own_g (own_v1 nn a b) b a) + own_one (own_g (own_v2 nn a b c) c a)
abbrev own_r1 (nn : Int32) (a b c : Int64) : Int32 := own_one (own_g (own_v0 nn) a b) + own_one (own_g (own_v2 nn a b c) c b)
abbrev own_r2 (nn : Int32) (a b c : Int64) : Int32 := own_one (own_g (own_v0 nn) a c) + own_one (own_g (own_v1 nn a b) b c)
/-- the law's own figure -/
def own_exp (nn kl : Int32) (a b c : Int64) (la lb lc : Int32) : Int64 :=
 own_e (own_e (own_e (12 : Int64) (own_v0 nn) (own_r0 nn a b c) kl la) (own_v1 nn a b) (own_r1 nn a b c) kl lb) (own_v2 nn a b c) (own_r2 nn a b c) kl lc
theorem own_lt0 {i nn : Int32} {j : Int32} (h : ¬ i < nn) (q : ¬ j < i) : ¬ j < nn := by rw [Int32.lt_iff_toInt_lt] at *; omega
theorem own_gt0 {i nn : Int32} {j : Int32} (h : i < nn) (q : ¬ i < j) : j < nn := by rw [Int32.lt_iff_toInt_lt] at *; omega
abbrev own_k3 (kl : Int32) : Prop := kl = 1 ∨ kl = 2 ∨ kl = 3
theorem own_x0 {nn kl : Int32} {a b c : Int64} {la lb lc : Int32} (n0 : ¬ (0 : Int32) < nn) : (12 : Int64) = own_exp nn kl a b c la lb lc := by
 have n1 := own_lt0 (j := 1) n0 (by decide)
 have n2 := own_lt0 (j := 2) n0 (by decide)
 simp [own_exp, own_e, own_v0, own_v1, own_v2, n0, n1, n2]
theorem own_x1 {nn kl : Int32} {a b c : Int64} {la lb lc : Int32} (k : own_k3 kl) (n0 : (0 : Int32) < nn) (n1 : ¬ (1 : Int32) < nn) : (12 : Int64) + ((12 : Int64) + la.toInt64) = own_exp nn kl a b c la lb lc := by
 have n2 := own_lt0 (j := 2) n1 (by decide)
 rcases k with rfl | rfl | rfl <;> simp [own_exp, own_e, own_v0, own_v1, own_v2, own_r0, own_g, own_one, n0, n1, n2]
theorem own_x2a {nn kl : Int32} {a b c : Int64} {la lb lc : Int32} (k : own_k3 kl) (n1 : (1 : Int32) < nn) (n2 : ¬ (2 : Int32) < nn) (h : b = a) : (12 : Int64) + ((12 : Int64) + la.toInt64) = own_exp nn kl a b c la lb lc := by
 have n0 := own_gt0 (j := 0) n1 (by decide)
 rcases k with rfl | rfl | rfl <;> simp [own_exp, own_e, own_v0, own_v1, own_v2, own_r0, own_g, own_one, n0, n1, n2, h]
theorem own_x2b {nn kl : Int32} {a b c : Int64} {la lb lc nz : Int32} (k : kl = 1) (n1 : (1 : Int32) < nn) (n2 : ¬ (2 : Int32) < nn) (h : ¬ b = a) {xz : Int64} (u : (own_lt a b ∧ xz = b ∧ nz = lb) ∨ (¬ own_lt a b ∧ xz = a ∧ nz = la)) : (12 : Int64) + ((12 : Int64) + nz.toInt64) = own_exp nn kl a b c la lb lc := by
 have n0 := own_gt0 (j := 0) n1 (by decide)
 have hk := own_keyne h
 subst k
 rcases u with ⟨u, -, rfl⟩ | ⟨u, -, rfl⟩
 ·have v : ¬ own_lt b a := by unfold own_lt at *; omega
  simp [own_exp, own_e, own_v0, own_v1, own_v2, own_r0, own_r1, own_g, own_gb, own_one, n0, n1, n2, h, u, v]
 ·have v : own_lt b a := by unfold own_lt at *; omega
  simp [own_exp, own_e, own_v0, own_v1, own_v2, own_r0, own_r1, own_g, own_gb, own_one, n0, n1, n2, h, u, v]
theorem own_x2c {nn kl : Int32} {a b c : Int64} {la lb lc : Int32} (k : own_k3 kl) (k1 : ¬ kl = 1) (n1 : (1 : Int32) < nn) (n2 : ¬ (2 : Int32) < nn) (h : ¬ b = a) : ((12 : Int64) + ((12 : Int64) + la.toInt64)) + ((12 : Int64) + lb.toInt64) = own_exp nn kl a b c la lb lc := by
 have n0 := own_gt0 (j := 0) n1 (by decide)
 rcases k with rfl | rfl | rfl
 ·exact absurd rfl k1
 all_goals
  by_cases u : own_lt a b <;> by_cases v : own_lt b a <;> simp [own_exp, own_e, own_v0, own_v1, own_v2, own_r0, own_r1, own_g, own_gb, own_one, n0, n1, n2, h, u, v]
theorem own_x3aa {nn kl : Int32} {a b c : Int64} {la lb lc : Int32} (k : own_k3 kl) (n2 : (2 : Int32) < nn) (h : b = a) (h2 : c = a) : (12 : Int64) + ((12 : Int64) + la.toInt64) = own_exp nn kl a b c la lb lc := by
 have n0 := own_gt0 (j := 0) n2 (by decide)
 have n1 := own_gt0 (j := 1) n2 (by decide)
 subst h; subst h2
 rcases k with rfl | rfl | rfl <;> simp [own_exp, own_e, own_v0, own_v1, own_v2, own_r0, own_g, own_one, n0, n1, n2]
theorem own_x3ab {nn kl : Int32} {a b c : Int64} {la lb lc nz : Int32} (k : kl = 1) (n2 : (2 : Int32) < nn) (h : b = a) (h2 : ¬ c = a) {xz : Int64} (u : (own_lt a c ∧ xz = c ∧ nz = lc) ∨ (¬ own_lt a c ∧ xz = a ∧ nz = la)) : (12 : Int64) + ((12 : Int64) + nz.toInt64) = own_exp nn kl a b c la lb lc := by
 have n0 := own_gt0 (j := 0) n2 (by decide)
 have n1 := own_gt0 (j := 1) n2 (by decide)
 have hk := own_keyne h2
 subst k; subst h
 rcases u with ⟨u, -, rfl⟩ | ⟨u, -, rfl⟩
 ·have v : ¬ own_lt c b := by unfold own_lt at *; omega
  simp [own_exp, own_e, own_v0, own_v1, own_v2, own_r0, own_r1, own_r2, own_g, own_gb, own_one, n0, n1, n2, h2, u, v]
 ·have v : own_lt c b := by unfold own_lt at *; omega
  simp [own_exp, own_e, own_v0, own_v1, own_v2, own_r0, own_r1, own_r2, own_g, own_gb, own_one, n0, n1, n2, h2, u, v]
theorem own_x3ac {nn kl : Int32} {a b c : Int64} {la lb lc : Int32} (k : own_k3 kl) (k1 : ¬ kl = 1) (n2 : (2 : Int32) < nn) (h : b = a) (h2 : ¬ c = a) : ((12 : Int64) + ((12 : Int64) + la.toInt64)) + ((12 : Int64) + lc.toInt64) = own_exp nn kl a b c la lb lc := by
 have n0 := own_gt0 (j := 0) n2 (by decide)
 have n1 := own_gt0 (j := 1) n2 (by decide)
 subst h
 rcases k with rfl | rfl | rfl
 ·exact absurd rfl k1
 all_goals
  by_cases u : own_lt b c <;> by_cases v : own_lt c b <;> simp [own_exp, own_e, own_v0, own_v1, own_v2, own_r0, own_r1, own_r2, own_g, own_gb, own_one, n0, n1, n2, h2, u, v]
theorem own_x3bu {nn kl : Int32} {a b c : Int64} {la lb lc nz ny : Int32} (k : kl = 1) (n2 : (2 : Int32) < nn) (h : ¬ b = a) {xz xy : Int64} (u : (own_lt a b ∧ xz = b ∧ nz = lb) ∨ (¬ own_lt a b ∧ xz = a ∧ nz = la)) (w : (own_lt xz c ∧ xy = c ∧ ny = lc) ∨ (¬ own_lt xz c ∧ xy = xz ∧ ny = nz)) : (12 : Int64) + ((12 : Int64) + ny.toInt64) = own_exp nn kl a b c la lb lc := by
 have n0 := own_gt0 (j := 0) n2 (by decide)
 have n1 := own_gt0 (j := 1) n2 (by decide)
 have hk := own_keyne h
 subst k
 by_cases e1 : c = a
 ·subst e1
  rcases u with ⟨u, rfl, rfl⟩ | ⟨u, rfl, rfl⟩ <;> rcases w with ⟨w, -, rfl⟩ | ⟨w, -, rfl⟩
  ·exfalso; unfold own_lt at *; omega
  ·have v : ¬ own_lt xz c := by unfold own_lt at *; omega
   simp [own_exp, own_e, own_v0, own_v1, own_v2, own_r0, own_r1, own_r2, own_g, own_gb, own_one, n0, n1, n2, h, u, v]
  ·exfalso; unfold own_lt at *; omega
  ·have v : own_lt b xz := by unfold own_lt at *; omega
   simp [own_exp, own_e, own_v0, own_v1, own_v2, own_r0, own_r1, own_r2, own_g, own_gb, own_one, n0, n1, n2, h, u, v]
 ·have hk2 := own_keyne e1
  by_cases e2 : c = b
  ·subst e2
   rcases u with ⟨u, rfl, rfl⟩ | ⟨u, rfl, rfl⟩ <;> rcases w with ⟨w, -, rfl⟩ | ⟨w, -, rfl⟩
   ·exfalso; unfold own_lt at *; omega
   ·have v : ¬ own_lt xz a := by unfold own_lt at *; omega
    simp [own_exp, own_e, own_v0, own_v1, own_v2, own_r0, own_r1, own_r2, own_g, own_gb, own_one, n0, n1, n2, h, u, v]
   ·exfalso; unfold own_lt at *; omega
   ·have v : own_lt c xz := by unfold own_lt at *; omega
    simp [own_exp, own_e, own_v0, own_v1, own_v2, own_r0, own_r1, own_r2, own_g, own_gb, own_one, n0, n1, n2, h, u, v]
  ·have hk3 := own_keyne e2
   rcases u with ⟨u, rfl, rfl⟩ | ⟨u, rfl, rfl⟩ <;> rcases w with ⟨w, -, rfl⟩ | ⟨w, -, rfl⟩
   ·have v1 : ¬ own_lt xz a := by unfold own_lt at *; omega
    have v2 : ¬ own_lt c a := by unfold own_lt at *; omega
    have v3 : own_lt a c := by unfold own_lt at *; omega
    have v4 : ¬ own_lt c xz := by unfold own_lt at *; omega
    simp [own_exp, own_e, own_v0, own_v1, own_v2, own_r0, own_r1, own_r2, own_g, own_gb, own_one, n0, n1, n2, h, e1, e2, u, w, v1, v2, v3, v4]
   ·have v1 : ¬ own_lt xz a := by unfold own_lt at *; omega
    have v4 : own_lt c xz := by unfold own_lt at *; omega
    by_cases v2 : own_lt c a <;> by_cases v3 : own_lt a c <;> simp [own_exp, own_e, own_v0, own_v1, own_v2, own_r0, own_r1, own_r2, own_g, own_gb, own_one, n0, n1, n2, h, e1, e2, u, w, v1, v2, v3, v4]
   ·have v1 : own_lt b xz := by unfold own_lt at *; omega
    have v2 : ¬ own_lt c xz := by unfold own_lt at *; omega
    have v3 : own_lt b c := by unfold own_lt at *; omega
    have v4 : ¬ own_lt c b := by unfold own_lt at *; omega
    simp [own_exp, own_e, own_v0, own_v1, own_v2, own_r0, own_r1, own_r2, own_g, own_gb, own_one, n0, n1, n2, h, e1, e2, u, w, v1, v2, v3, v4]
   ·have v1 : own_lt b xz := by unfold own_lt at *; omega
    have v2 : own_lt c xz := by unfold own_lt at *; omega
    by_cases v3 : own_lt b c <;> by_cases v4 : own_lt c b <;> simp [own_exp, own_e, own_v0, own_v1, own_v2, own_r0, own_r1, own_r2, own_g, own_gb, own_one, n0, n1, n2, h, e1, e2, u, w, v1, v2, v3, v4]
theorem own_x3cf {nn kl : Int32} {a b c : Int64} {la lb lc : Int32} (k : own_k3 kl) (k1 : ¬ kl = 1) (n2 : (2 : Int32) < nn) (h : ¬ b = a) (h2 : c = a ∨ c = b) : ((12 : Int64) + ((12 : Int64) + la.toInt64)) + ((12 : Int64) + lb.toInt64) = own_exp nn kl a b c la lb lc := by
 have n0 := own_gt0 (j := 0) n2 (by decide)
 have n1 := own_gt0 (j := 1) n2 (by decide)
 have h' : ¬ a = b := fun z => h z.symm
 rcases k with rfl | rfl | rfl
 ·exact absurd rfl k1
 all_goals
  rcases h2 with rfl | rfl
  ·by_cases u : own_lt c b <;> by_cases v : own_lt b c <;> simp [own_exp, own_e, own_v0, own_v1, own_v2, own_r0, own_r1, own_g, own_gb, own_one, n0, n1, n2, h, u, v]
  ·by_cases u : own_lt a c <;> by_cases v : own_lt c a <;> simp [own_exp, own_e, own_v0, own_v1, own_v2, own_r0, own_r1, own_g, own_gb, own_one, n0, n1, n2, h, h', u, v]
theorem own_swap (a b c : Int64) : (a + b) + c = (a + c) + b := by rw [Int64.add_assoc, Int64.add_comm b c, ← Int64.add_assoc]
theorem own_x3cu {nn kl : Int32} {a b c : Int64} {la lb lc nz oz : Int32} (k : kl = 2) (n2 : (2 : Int32) < nn) (h : ¬ b = a) (ha : ¬ c = a) (hb : ¬ c = b) {xa : Int64} (hx : xa = own_mn b a)
  (u : (¬ own_lt xa c ∧ nz = la ∧ oz = lb) ∨ (own_lt xa c ∧ ((xa = a ∧ nz = lc ∧ oz = lb) ∨ (xa = b ∧ nz = la ∧ oz = lc)))) : ((12 : Int64) + ((12 : Int64) + nz.toInt64)) + ((12 : Int64) + oz.toInt64) = own_exp nn kl a b c la lb lc := by
 have n0 := own_gt0 (j := 0) n2 (by decide)
 have n1 := own_gt0 (j := 1) n2 (by decide)
 have k1 := own_keyne h
 have k2 := own_keyne ha
 have k3 := own_keyne hb
 subst k
 unfold own_mn at hx
 rcases u with ⟨u, rfl, rfl⟩ | ⟨u, ⟨hxa, rfl, rfl⟩ | ⟨hxb, rfl, rfl⟩⟩
 ·by_cases q : own_lt b a
  ·rw [if_pos q] at hx; subst hx
   have v1 : ¬ own_lt a xa := by unfold own_lt at *; omega
   have v2 : own_lt c xa := by unfold own_lt at *; omega
   have v3 : own_lt c a := by unfold own_lt at *; omega
   have v4 : ¬ own_lt a c := by unfold own_lt at *; omega
   simp [own_exp, own_e, own_v0, own_v1, own_v2, own_r0, own_r1, own_r2, own_g, own_gb, own_one, n0, n1, n2, h, ha, hb, u, q, v1, v2, v3, v4]
  ·rw [if_neg q] at hx; subst hx
   have v1 : own_lt xa b := by unfold own_lt at *; omega
   have v2 : own_lt c xa := by unfold own_lt at *; omega
   have v3 : own_lt c b := by unfold own_lt at *; omega
   have v4 : ¬ own_lt b c := by unfold own_lt at *; omega
   simp [own_exp, own_e, own_v0, own_v1, own_v2, own_r0, own_r1, own_r2, own_g, own_gb, own_one, n0, n1, n2, h, ha, hb, u, q, v1, v2, v3, v4]
 ·by_cases q : own_lt b a
  ·rw [if_pos q, hxa] at hx; exact absurd hx.symm h
  ·subst hxa
   have v1 : own_lt xa b := by unfold own_lt at *; omega
   have v2 : ¬ own_lt c xa := by unfold own_lt at *; omega
   rw [own_swap]
   by_cases v3 : own_lt b c
   ·have v4 : ¬ own_lt c b := by unfold own_lt at *; omega
    simp [own_exp, own_e, own_v0, own_v1, own_v2, own_r0, own_r1, own_r2, own_g, own_gb, own_one, n0, n1, n2, h, ha, hb, u, q, v1, v2, v3, v4]
   ·have v4 : own_lt c b := by unfold own_lt at *; omega
    simp [own_exp, own_e, own_v0, own_v1, own_v2, own_r0, own_r1, own_r2, own_g, own_gb, own_one, n0, n1, n2, h, ha, hb, u, q, v1, v2, v3, v4]
 ·by_cases q : own_lt b a
  ·subst hxb
   have v1 : ¬ own_lt a xa := by unfold own_lt at *; omega
   have v2 : ¬ own_lt c xa := by unfold own_lt at *; omega
   by_cases v3 : own_lt a c
   ·have v4 : ¬ own_lt c a := by unfold own_lt at *; omega
    simp [own_exp, own_e, own_v0, own_v1, own_v2, own_r0, own_r1, own_r2, own_g, own_gb, own_one, n0, n1, n2, h, ha, hb, u, q, v1, v2, v3, v4]
   ·have v4 : own_lt c a := by unfold own_lt at *; omega
    simp [own_exp, own_e, own_v0, own_v1, own_v2, own_r0, own_r1, own_r2, own_g, own_gb, own_one, n0, n1, n2, h, ha, hb, u, q, v1, v2, v3, v4]
  ·rw [if_neg q, hxb] at hx; exact absurd hx h
theorem own_x3cn {nn kl : Int32} {a b c : Int64} {la lb lc : Int32} (k : kl = 3) (n2 : (2 : Int32) < nn) (h : ¬ b = a) (ha : ¬ c = a) (hb : ¬ c = b) : (((12 : Int64) + ((12 : Int64) + la.toInt64)) + ((12 : Int64) + lb.toInt64)) + ((12 : Int64) + lc.toInt64) = own_exp nn kl a b c la lb lc := by
 have n0 := own_gt0 (j := 0) n2 (by decide)
 have n1 := own_gt0 (j := 1) n2 (by decide)
 subst k
 have one : ∀ f x y, own_one (own_g f x y) = 0 ∨ own_one (own_g f x y) = 1 := fun f x y => by unfold own_one; split; exact Or.inl rfl; exact Or.inr rfl
 have sum : ∀ f x y f' x' y', own_one (own_g f x y) + own_one (own_g f' x' y') < (3 : Int32) := fun f x y f' x' y' => by
  rcases one f x y with e | e <;> rcases one f' x' y' with e' | e' <;> rw [e, e'] <;> decide
 have s0 : own_r0 nn a b c < 3 := sum _ _ _ _ _ _
 have s1 : own_r1 nn a b c < 3 := sum _ _ _ _ _ _
 have s2 : own_r2 nn a b c < 3 := sum _ _ _ _ _ _
 unfold own_exp
 generalize own_r0 nn a b c = q0 at s0 ⊢
 generalize own_r1 nn a b c = q1 at s1 ⊢
 generalize own_r2 nn a b c = q2 at s2 ⊢
 simp [own_v0, own_v1, own_v2, own_e, n0, n1, n2, h, ha, hb, s0, s1, s2]
theorem own_kpos {kl mk nl : Int32} (K : own_kmn kl mk nl) : (0 : Int32) < kl := by rcases K with ⟨rfl, -⟩ | ⟨rfl, -⟩ | ⟨rfl, -⟩ <;> decide
theorem own_ixA {sz kl : Int32} {hs xa : Int64} {iv : List Int32} {r : Int32} (h : own_fl sz kl = (0 : Int32)) : own_ix sz kl hs xa iv r = own_get iv r := if_neg fun q => own_fl0 h q.1
theorem own_ixB {sz kl : Int32} {hs xa : Int64} {iv : List Int32} {r : Int32} (h : ¬ own_fl sz kl = (0 : Int32)) (c : own_cu hs xa < (0 : Int32)) : own_ix sz kl hs xa iv r = (-1 : Int32) := if_pos ⟨own_fl1 h, own_cul.mp c⟩
theorem own_ixC {sz kl : Int32} {hs xa : Int64} {iv : List Int32} {r : Int32} (c : ¬ own_cu hs xa < (0 : Int32)) : own_ix sz kl hs xa iv r = own_get iv r := if_neg fun q => c (own_cul.mpr q.2)
theorem own_adA {sz kl : Int32} {hs xa : Int64} (h : own_fl sz kl = (0 : Int32)) : own_ad sz kl hs xa = (1 : Int32) := if_neg fun q => own_fl0 h q.1
theorem own_adB {sz kl : Int32} {hs xa : Int64} (c : (0 : Int32) < own_cu hs xa) : own_ad sz kl hs xa = (1 : Int32) := if_neg fun q => q.2 (own_cug.mp c)
theorem own_adC {sz kl : Int32} {hs xa : Int64} (h : ¬ own_fl sz kl = (0 : Int32)) (c : ¬ (0 : Int32) < own_cu hs xa) : own_ad sz kl hs xa = (0 : Int32) := if_pos ⟨own_fl1 h, fun q => c (own_cug.mpr q)⟩
theorem own_flN {sz kl : Int32} (h : sz < kl) : own_fl sz kl = (0 : Int32) := if_neg (by rintro rfl; exact absurd h (by rw [Int32.lt_iff_toInt_lt]; omega))
theorem own_flT {sz kl : Int32} (h : sz = kl) : ¬ own_fl sz kl = (0 : Int32) := by unfold own_fl; rw [if_pos h]; decide
theorem own_set1 {kl mk nl : Int32} (K : own_kmn kl mk nl) {iv : List Int32} (hl : iv.length = 8) {r : Int32} (hr : own_in mk r) (v : Int32) : own_get (iv.set r.toNatClampNeg v) r = v := by rw [own_set K hl hr hr, if_pos rfl]
def own_mi (a b : Int32) : Int32 := if b < a then b else a
theorem own_asub (a b : Int32) : (a + b) - a = b := by rw [Int32.add_comm, Int32.add_sub_cancel]
theorem own_len7 {x : Int32} (h : 0 ≤ x.toInt ∧ x.toInt ≤ 7) : ¬ x < 0 ∧ x.toNatClampNeg ≤ 7 := by
 rw [Int32.lt_iff_toInt_lt]; have : (0 : Int32).toInt = 0 := by decide
 simp only [Int32.toNatClampNeg]; omega
theorem own_len3 {x : Int32} (h : 0 ≤ x.toInt ∧ x.toInt ≤ 3) : ¬ x < 0 := by
 rw [Int32.lt_iff_toInt_lt]; have : (0 : Int32).toInt = 0 := by decide
 omega
theorem own_sumI {a b : Int32} (h : 0 ≤ a.toInt ∧ a.toInt ≤ 3) (g : 0 ≤ b.toInt ∧ b.toInt ≤ 7) : (a + b).toInt = a.toInt + b.toInt := by
 rw [Int32.toInt_add]; exact Int.bmod_eq_of_le (by omega) (by omega)
theorem own_ck {a b : Int32} (h : 0 ≤ a.toInt ∧ a.toInt ≤ 3) (g : 0 ≤ b.toInt ∧ b.toInt ≤ 7) : ¬ (a + b) < a := by rw [Int32.lt_iff_toInt_lt, own_sumI h g]; omega
theorem own_not10 {a b : Int32} (h : 0 ≤ a.toInt ∧ a.toInt ≤ 3) (g : 0 ≤ b.toInt ∧ b.toInt ≤ 7) (ha : a = (0 : Int32)) : ¬ (a + b) = (10 : Int32) := fun q => by
 have e := own_sumI h g; rw [q, ha] at e; have : (10 : Int32).toInt = 10 ∧ (0 : Int32).toInt = 0 := by decide
 omega
theorem own_mi7 {a b : Int32} (h : 0 ≤ a.toInt ∧ a.toInt ≤ 3) (g : 0 ≤ b.toInt ∧ b.toInt ≤ 7) : own_mi ((10 : Int32) - a) b = b := by
 have k : (10 : Int32).toInt = 10 := by decide
 have e : ((10 : Int32) - a).toInt = 10 - a.toInt := by rw [Int32.toInt_sub, k]; exact Int.bmod_eq_of_le (by omega) (by omega)
 unfold own_mi; split
 ·rfl
 ·rename_i q; rw [Int32.lt_iff_toInt_lt, e] at q; exact Int32.toInt_inj.mp (by rw [e]; omega)
theorem own_c10 {a b : Int32} (h : 0 ≤ a.toInt ∧ a.toInt ≤ 3) (g : 0 ≤ b.toInt ∧ b.toInt ≤ 7) : a.toNatClampNeg + b.toNatClampNeg ≤ (10 : Int32).toNatClampNeg := by
 have : (10 : Int32).toNatClampNeg = 10 := by decide
 simp only [Int32.toNatClampNeg] at *; omega
theorem own_c0 (b : Int32) : (0 : Int32).toNatClampNeg + b.toNatClampNeg ≤ b.toNatClampNeg := by
 have : (0 : Int32).toNatClampNeg = 0 := by decide
 omega
theorem own_c07 {b : Int32} (g : 0 ≤ b.toInt ∧ b.toInt ≤ 7) {x : Value} : (0 : Int32).toNatClampNeg + b.toNatClampNeg ≤ [x, x, x, x, x, x, x].length := by
 have : (0 : Int32).toNatClampNeg = 0 := by decide
 have := (own_len7 g).2
 simp only [List.length_cons, List.length_nil]; omega
theorem own_ixm {sz kl : Int32} {hs xa : Int64} {iv : List Int32} {r : Int32} (h : own_get iv r = (-1 : Int32)) : own_ix sz kl hs xa iv r = (-1 : Int32) := by
 unfold own_ix; split
 ·rfl
 ·exact h
theorem own_ltne {sz kl : Int32} (h : sz < kl) : ¬ sz = kl := by rintro rfl; rw [Int32.lt_iff_toInt_lt] at h; omega
theorem own_ad1 {sz kl : Int32} {hs xa : Int64} (h : ¬ sz = kl) : ¬ own_ad sz kl hs xa = (0 : Int32) := by
 unfold own_ad; rw [if_neg (fun q => h q.1)]; decide
theorem own_adN {sz kl : Int32} {hs xa : Int64} (h : own_ad sz kl hs xa = (0 : Int32)) : ¬ own_lt xa hs := by
 unfold own_ad at h; split at h
 ·rename_i q; exact q.2
 ·exact absurd h (by decide)
theorem own_adY {sz kl : Int32} {hs xa : Int64} (e : sz = kl) (h : ¬ own_ad sz kl hs xa = (0 : Int32)) : own_lt xa hs := Classical.byContradiction fun q => h (if_pos ⟨e, q⟩)
def own_hob (x : Int32) : Int32 := if x = 1 then 1 else if x = 3 then 2 else 4
theorem own_ha {kl : Int32} (hk : own_k3 kl) : ((2 : Int32) * kl) - (1 : Int32) = (1 : Int32) ∨ ((2 : Int32) * kl) - (1 : Int32) = (3 : Int32) ∨ ((2 : Int32) * kl) - (1 : Int32) = (5 : Int32) := by rcases hk with rfl | rfl | rfl <;> decide
theorem own_K {kl nl : Int32} (hk : own_k3 kl) (h : nl = (own_hob (((2 : Int32) * kl) - (1 : Int32))) <<< ((1 : Int32) &&& 31)) : own_kmn kl (nl - (1 : Int32)) nl := by subst h; rcases hk with rfl | rfl | rfl <;> decide
theorem own_kl3 {kl : Int32} (hk : own_k3 kl) : ¬ kl < 0 ∧ kl.toNatClampNeg ≤ 3 := by rcases hk with rfl | rfl | rfl <;> decide
theorem own_k1le {kl : Int32} (hk : own_k3 kl) : ¬ kl < (1 : Int32) := by rcases hk with rfl | rfl | rfl <;> decide
theorem own_kle {kl : Int32} (hk : own_k3 kl) : ¬ (1048576 : Int32) < kl := by rcases hk with rfl | rfl | rfl <;> decide
theorem own_n8b {kl mk nl : Int32} (K : own_kmn kl mk nl) : ¬ nl < 0 ∧ nl.toNatClampNeg ≤ 8 ∧ ¬ (8 : Int32) < nl := by rcases K with ⟨-, -, rfl⟩ | ⟨-, -, rfl⟩ | ⟨-, -, rfl⟩ <;> decide
theorem own_k1 {kl mk nl : Int32} (K : own_kmn kl mk nl) (h : ¬ kl = 1) : (1 : Int32) < kl := by
 rcases K with ⟨rfl, -⟩ | ⟨rfl, -⟩ | ⟨rfl, -⟩
 ·exact absurd rfl h
 ·decide
 ·decide
theorem own_is3 {kl mk nl : Int32} (K : own_kmn kl mk nl) (h : ¬ kl = 1) (h2 : ¬ kl = 2) : kl = 3 := by
 rcases K with ⟨rfl, -⟩ | ⟨rfl, -⟩ | ⟨rfl, -⟩
 ·exact absurd rfl h
 ·exact absurd rfl h2
 ·rfl
theorem own_gb1 {x y : Int64} (h : ¬ own_gb x y = (0 : Int32)) : own_gb x y = (1 : Int32) := by
 unfold own_gb at *; split
 ·rfl
 ·rename_i q; rw [if_neg q] at h; exact absurd rfl h
theorem own_mnl1 {x y : Int64} : ¬ own_lt y (own_mn x y) := by
 unfold own_mn; split
 ·rename_i q; unfold own_lt at *; omega
 ·exact Int.lt_irrefl _
theorem own_mnl2 {x y : Int64} : ¬ own_lt x (own_mn x y) := by
 unfold own_mn; split
 ·exact Int.lt_irrefl _
 ·rename_i q; exact q
theorem own_mnc (x y : Int64) : own_mn x y = y ∨ own_mn x y = x := by
 unfold own_mn; split
 ·exact Or.inr rfl
 ·exact Or.inl rfl
theorem own_b7 (x : Int32) : 0 ≤ (x &&& (7 : Int32)).toInt ∧ (x &&& (7 : Int32)).toInt ≤ 7 := by
 have a : (x &&& (7 : Int32)).toInt = x.toInt % (2 ^ 3 : Nat) := c_mask x 7 3 (by decide) (by decide)
 omega
theorem own_b3 (x : Int32) : 0 ≤ (x &&& (3 : Int32)).toInt ∧ (x &&& (3 : Int32)).toInt ≤ 3 := by
 have a : (x &&& (3 : Int32)).toInt = x.toInt % (2 ^ 2 : Nat) := c_mask x 3 2 (by decide) (by decide)
 omega
theorem own_kk (x : Int32) : own_k3 ((1 : Int32) + ((x &&& (3 : Int32)) % (3 : Int32))) := by
 have b := own_b3 x
 generalize x &&& (3 : Int32) = y at b
 have k : ∀ z : Int32, y.toInt = z.toInt → y = z := fun z q => Int32.toInt_inj.mp q
 have e : y.toInt = 0 ∨ y.toInt = 1 ∨ y.toInt = 2 ∨ y.toInt = 3 := by omega
 rcases e with e | e | e | e
 ·rw [k 0 e]; decide
 ·rw [k 1 e]; decide
 ·rw [k 2 e]; decide
 ·rw [k 3 e]; decide
theorem own_fin {nn kl : Int32} {a b c : Int64} {la lb lc : Int32} {av : Int64} (H : av = own_exp nn kl a b c la lb lc) {f0 f1 f2 ga gb gc gd ge gf : Int32} {e0 e1 e2 : Int64} (h0 : f0 = own_v0 nn) (h1 : f1 = own_v1 nn a b) (h2 : f2 = own_v2 nn a b c) (g1 : ga = own_g f1 b a) (g2 : gb = own_g f2 c a) (g3 : gc = own_g f0 a b) (g4 : gd = own_g f2 c b) (g5 : ge = own_g f0 a c) (g6 : gf = own_g f1 b c)
  (k0 : e0 = own_e (12 : Int64) f0 (own_one ga + own_one gb) kl la) (k1 : e1 = own_e e0 f1 (own_one gc + own_one gd) kl lb) (k2 : e2 = own_e e1 f2 (own_one ge + own_one gf) kl lc) : av = e2 := by
 subst h0 h1 h2 g1 g2 g3 g4 g5 g6 k0 k1 k2; exact H
theorem own_pn0 : plainName "java/lang/Long" = true := by first | (simp [plainName, overriddenIn]; done) | decide +kernel
theorem d23_0 : decode jdk_35_method_42_code 0 = .ok (.lload_n 0, 1) := by decide +kernel
theorem d23_1 : decode jdk_35_method_42_code 1 = .ok (.lload_n 2, 1) := by decide +kernel
theorem d23_2 : decode jdk_35_method_42_code 2 = .ok (.lcmp, 1) := by decide +kernel
theorem d23_3 : decode jdk_35_method_42_code 3 = .ok (.ifCond .ge 7, 3) := by decide +kernel
theorem d23_6 : decode jdk_35_method_42_code 6 = .ok (.iconst (-1), 1) := by decide +kernel
theorem d23_7 : decode jdk_35_method_42_code 7 = .ok (.goto 14, 3) := by decide +kernel
theorem d23_10 : decode jdk_35_method_42_code 10 = .ok (.lload_n 0, 1) := by decide +kernel
theorem d23_11 : decode jdk_35_method_42_code 11 = .ok (.lload_n 2, 1) := by decide +kernel
theorem d23_12 : decode jdk_35_method_42_code 12 = .ok (.lcmp, 1) := by decide +kernel
theorem d23_13 : decode jdk_35_method_42_code 13 = .ok (.ifCond .ne 7, 3) := by decide +kernel
theorem d23_16 : decode jdk_35_method_42_code 16 = .ok (.iconst 0, 1) := by decide +kernel
theorem d23_17 : decode jdk_35_method_42_code 17 = .ok (.goto 4, 3) := by decide +kernel
theorem d23_20 : decode jdk_35_method_42_code 20 = .ok (.iconst 1, 1) := by decide +kernel
theorem d23_21 : decode jdk_35_method_42_code 21 = .ok (.ireturn, 1) := by decide +kernel
theorem efCP (m : MethodId) (pa : Int64) (pb : Int64) : entryFrame m #[(.long pa), (.long pb)] 4 = mkF m 0 #[.val (.long pa), .second, .val (.long pb), .second] [] := by first | (simp [entryFrame, mkF, argsToLocals, Value.category]; done) | rfl
def QCP (Z : State) (pa : Int64) (pb : Int64) (h0 : Heap) (n0 : Nat) (v : Option Value) (h : Heap) (L : List Loc) : Prop := v = some (.int (own_cp pa pb)) ∧ Fr n0 L ∧ h = h0
set_option maxRecDepth 65536 in
set_option maxHeartbeats 40000000 in
theorem rmCP (l : Launch) (Z : State) (a0 : Array Value) (hw : ∀ d ∈ tables_1, d.before a0 Z = true) (ws : List Jvm.Cond) (pa : Int64) (pb : Int64) (h0 : Heap) (n0 : Nat) (Z0 : n0 ≤ h0.size) :
  MetFree l (⟨"java/lang/Long", "compare", "(JJ)I"⟩ : MethodName) (head1 (Jvm.Cond.code (⟨"java/lang/Long", "compare", "(JJ)I"⟩ : MethodName) jdk_35_method_42_code 4 (some .int) :: ws) ({ frames := 0, cells := 0, slots := 0, locals := 0 } : Room)) (fun av_ U => av_ = #[(.long pa), (.long pb)] ∧ Z.Warmed39 U.vm ∧ U.heap = h0) (fun _ _ _ _ _ => True) (fun _ U o U' => ∃ v L, o = .returned v ∧ QCP Z pa pb h0 n0 v U'.heap L ∧ FrameEnd U o U' L ({ frames := 0, cells := 0, slots := 0, locals := 0 } : Room).cells ({ frames := 0, cells := 0, slots := 0, locals := 0 } : Room).slots) := by
 refine MetFree.of_bodySF (plainFor_of_name own_pn0) hisR ?_
 intro p e s m args below meth c s₁ Bd hml0 hP hK
 obtain ⟨rfl, hZ, hh⟩ := hP
 have hx := Bd.exec
 have hby := Bd.bytes
 have hml : c.maxLocals = 4 := hml0
 have hown : s.vm.findClass "java/lang/Long" = some m.cls := findClass_of_methodNamed Bd.named
 have hnm := (name_of_methodNamed Bd.named Bd.method).1
 have X0 : Stand p l e ({ frames := 0, cells := 0, slots := 0, locals := 0 } : Room) s m #[(.long pa), (.long pb)] below meth c s₁ [] 0 0 := Stand.of_body Bd
 have e0 : s₁.heap = h0 := by rw [← hh, Bd.state]; rfl
 have N0 := Fr.nil n0
 have hlk : meth.locks = false := Bd.notSynchronized
 have pre0 : ∀ t, Steps p.tables e below (s₁.setTop (mkF m 0 #[.val (.long pa), .second, .val (.long pb), .second] [])) t → Steps p.tables e below (s₁.setTop (entryFrame m #[(.long pa), (.long pb)] 4)) t := fun t k => castTop (efCP m pa pb) k
 have r1 : ∀ t, Steps p.tables e below (s₁.setTop (mkF m 3 #[.val (.long pa), .second, .val (.long pb), .second] [(.int (lcmpW pa pb))])) t → Steps p.tables e below (s₁.setTop (mkF m 0 #[.val (.long pa), .second, .val (.long pb), .second] [])) t := fun t kt => by
  refine XS.lloadN X0.here hx rfl (hb hby d23_0) rfl ?_
  refine XS.lloadN X0.here hx rfl (hb hby d23_1) rfl ?_
  refine XS.lcmp X0.here hx rfl (hb hby d23_2) rfl ?_
  exact kt
 by_cases hc2 : pa < pb
 ·obtain ⟨fs, hr, hrun, hended, hW, hsame⟩ := X0.leave (v := some (.int (-1 : Int32))) (fun h => by rw [Bd.returns] at h; cases h) hlk
  refine ⟨_, _, (pre0 _ (r1 _ ?_)), hrun, hended, _, _, rfl, ?_, ⟨_, rfl⟩, hW, hsame.mono (by decide) (by decide)⟩
  ·show Steps p.tables e below (s₁.setTop (mkF m 3 #[.val (.long pa), .second, .val (.long pb), .second] [(.int (lcmpW pa pb))])) _
   refine XS.ifNo X0.here hx rfl (hb hby d23_3) rfl ((if0 _ _).trans (tlt ((lw_lt _ _).mpr hc2)).2.1) ?_
   refine XS.iconst X0.here hx rfl (hb hby d23_6) ?_
   refine XS.goto X0.here hx rfl (pc0 := 7) (pc' := 21) rfl (hb hby d23_7) (by decide) (by decide) ?_
   exact retI X0 hx Bd.returns (hb hby d23_21) hr
  ·show QCP Z pa pb h0 n0 _ s₁.heap _
   rw [e0]
   exact ⟨(by simp [own_cp, hc2]), N0, rfl⟩
 ·have r3 : ∀ t, Steps p.tables e below (s₁.setTop (mkF m 13 #[.val (.long pa), .second, .val (.long pb), .second] [(.int (lcmpW pa pb))])) t → Steps p.tables e below (s₁.setTop (mkF m 3 #[.val (.long pa), .second, .val (.long pb), .second] [(.int (lcmpW pa pb))])) t := fun t kt => by
   refine XS.ifYes X0.here hx rfl (pc0 := 3) (pc' := 10) rfl (hb hby d23_3) rfl ((if0 _ _).trans (flt (fun q => hc2 ((lw_lt _ _).mp q))).2.1) (by decide) (by decide) ?_
   refine XS.lloadN X0.here hx rfl (hb hby d23_10) rfl ?_
   refine XS.lloadN X0.here hx rfl (hb hby d23_11) rfl ?_
   refine XS.lcmp X0.here hx rfl (hb hby d23_12) rfl ?_
   exact kt
  by_cases hc4 : pa = pb
  ·obtain ⟨fs, hr, hrun, hended, hW, hsame⟩ := X0.leave (v := some (.int (0 : Int32))) (fun h => by rw [Bd.returns] at h; cases h) hlk
   refine ⟨_, _, (pre0 _ (r1 _ (r3 _ ?_))), hrun, hended, _, _, rfl, ?_, ⟨_, rfl⟩, hW, hsame.mono (by decide) (by decide)⟩
   ·show Steps p.tables e below (s₁.setTop (mkF m 13 #[.val (.long pa), .second, .val (.long pb), .second] [(.int (lcmpW pa pb))])) _
    refine XS.ifNo X0.here hx rfl (hb hby d23_13) rfl ((if0 _ _).trans (teq ((lw_eq _ _).mpr hc4)).2) ?_
    refine XS.iconst X0.here hx rfl (hb hby d23_16) ?_
    refine XS.goto X0.here hx rfl (pc0 := 17) (pc' := 21) rfl (hb hby d23_17) (by decide) (by decide) ?_
    exact retI X0 hx Bd.returns (hb hby d23_21) hr
   ·show QCP Z pa pb h0 n0 _ s₁.heap _
    rw [e0]
    exact ⟨(by simp [own_cp, hc2, hc4]), N0, rfl⟩
  ·obtain ⟨fs, hr, hrun, hended, hW, hsame⟩ := X0.leave (v := some (.int (1 : Int32))) (fun h => by rw [Bd.returns] at h; cases h) hlk
   refine ⟨_, _, (pre0 _ (r1 _ (r3 _ ?_))), hrun, hended, _, _, rfl, ?_, ⟨_, rfl⟩, hW, hsame.mono (by decide) (by decide)⟩
   ·show Steps p.tables e below (s₁.setTop (mkF m 13 #[.val (.long pa), .second, .val (.long pb), .second] [(.int (lcmpW pa pb))])) _
    refine XS.ifYes X0.here hx rfl (pc0 := 13) (pc' := 20) rfl (hb hby d23_13) rfl ((if0 _ _).trans (feq (fun q => hc4 ((lw_eq _ _).mp q))).2) (by decide) (by decide) ?_
    refine XS.iconst X0.here hx rfl (hb hby d23_20) ?_
    exact retI X0 hx Bd.returns (hb hby d23_21) hr
   ·show QCP Z pa pb h0 n0 _ s₁.heap _
    rw [e0]
    exact ⟨(by simp [own_cp, hc2, hc4]), N0, rfl⟩
theorem own_pd0 : parseMethodDescriptor "(JJ)I" = some ⟨[.long, .long], some .int⟩ := by decide +kernel
theorem d22_0 : decode jdk_35_method_43_code 0 = .ok (.lload_n 0, 1) := by decide +kernel
theorem d22_1 : decode jdk_35_method_43_code 1 = .ok (.ldc2_w 168, 3) := by decide +kernel
theorem d22_4 : decode jdk_35_method_43_code 4 = .ok (.ladd, 1) := by decide +kernel
theorem d22_5 : decode jdk_35_method_43_code 5 = .ok (.lload_n 2, 1) := by decide +kernel
theorem d22_6 : decode jdk_35_method_43_code 6 = .ok (.ldc2_w 168, 3) := by decide +kernel
theorem d22_9 : decode jdk_35_method_43_code 9 = .ok (.ladd, 1) := by decide +kernel
theorem d22_10 : decode jdk_35_method_43_code 10 = .ok (.invokestatic 302, 3) := by decide +kernel
theorem d22_13 : decode jdk_35_method_43_code 13 = .ok (.ireturn, 1) := by decide +kernel
theorem efCU (m : MethodId) (pa : Int64) (pb : Int64) : entryFrame m #[(.long pa), (.long pb)] 4 = mkF m 0 #[.val (.long pa), .second, .val (.long pb), .second] [] := by first | (simp [entryFrame, mkF, argsToLocals, Value.category]; done) | rfl
def QCU (Z : State) (pa : Int64) (pb : Int64) (h0 : Heap) (n0 : Nat) (v : Option Value) (h : Heap) (L : List Loc) : Prop := v = some (.int (own_cu pa pb)) ∧ Fr n0 L ∧ h = h0
set_option maxRecDepth 65536 in
set_option maxHeartbeats 40000000 in
theorem rmCU (l : Launch) (Z : State) (a0 : Array Value) (hw : ∀ d ∈ tables_1, d.before a0 Z = true) (ws : List Jvm.Cond) (pa : Int64) (pb : Int64) (h0 : Heap) (n0 : Nat) (Z0 : n0 ≤ h0.size) :
  MetFree l (⟨"java/lang/Long", "compareUnsigned", "(JJ)I"⟩ : MethodName) (head1 (Jvm.Cond.code (⟨"java/lang/Long", "compareUnsigned", "(JJ)I"⟩ : MethodName) jdk_35_method_43_code 4 (some .int) :: ws) ({ frames := 1, cells := 0, slots := 0, locals := 30 } : Room)) (fun av_ U => av_ = #[(.long pa), (.long pb)] ∧ Z.Warmed39 U.vm ∧ U.heap = h0) (fun _ _ _ _ _ => True) (fun _ U o U' => ∃ v L, o = .returned v ∧ QCU Z pa pb h0 n0 v U'.heap L ∧ FrameEnd U o U' L ({ frames := 1, cells := 0, slots := 0, locals := 30 } : Room).cells ({ frames := 1, cells := 0, slots := 0, locals := 30 } : Room).slots) := by
 refine MetFree.of_bodySF (plainFor_of_name own_pn0) hisR ?_
 intro p e s m args below meth c s₁ Bd hml0 hP hK
 obtain ⟨rfl, hZ, hh⟩ := hP
 have hx := Bd.exec
 have hby := Bd.bytes
 have hml : c.maxLocals = 4 := hml0
 have hown : s.vm.findClass "java/lang/Long" = some m.cls := findClass_of_methodNamed Bd.named
 have hnm := (name_of_methodNamed Bd.named Bd.method).1
 have X0 : Stand p l e ({ frames := 1, cells := 0, slots := 0, locals := 30 } : Room) s m #[(.long pa), (.long pb)] below meth c s₁ [] 0 0 := Stand.of_body Bd
 have e0 : s₁.heap = h0 := by rw [← hh, Bd.state]; rfl
 have N0 := Fr.nil n0
 have hlk : meth.locks = false := Bd.notSynchronized
 have pre0 : ∀ t, Steps p.tables e below (s₁.setTop (mkF m 0 #[.val (.long pa), .second, .val (.long pb), .second] [])) t → Steps p.tables e below (s₁.setTop (entryFrame m #[(.long pa), (.long pb)] 4)) t := fun t k => castTop (efCU m pa pb) k
 obtain ⟨_, _, ⟨T1, L1, k1, n1⟩, -, X1, ⟨Lc1, hQ1, l1, y1, z1⟩, st1⟩ := Jvm.LawKit.callS X0 hx (y := (⟨"java/lang/Long", "compare", "(JJ)I"⟩ : MethodName)) hown (mvT hZ (Wd hw 144 rfl)) (mvT hZ (Wd hw 145 rfl)) (mvT hZ (Wd hw 141 rfl)) (mvT hZ (Wd hw 146 rfl)) (by decide) (backOf (W := 0) (rmCP l Z a0 hw [] (pa + (-9223372036854775808 : Int64)) (pb + (-9223372036854775808 : Int64)) h0 n0 Z0 ) hZ (Wd hw 146 rfl) (Wd hw 141 rfl) (by decide) (by decide)) (g := (mkF m 10 #[.val (.long pa), .second, .val (.long pb), .second] [(.long (pb + (-9223372036854775808 : Int64))), (.long (pa + (-9223372036854775808 : Int64)))])) rfl (by rw [hml]; rfl) (argsL := [(.long (pa + (-9223372036854775808 : Int64))), (.long (pb + (-9223372036854775808 : Int64)))]) (rest := []) (lenOf own_pd0 rfl) rfl (by show 2 * 0 + _ ≤ _; exact Nat.le_of_eq rfl) (hb hby d22_10) (fun _ _ => ⟨rfl, e0, (by decide : 0 + 0 ≤ _), (by decide : 0 + 0 ≤ _)⟩)
 dsimp only [Pt.U, Pt.locs, Pt.cells, Pt.slots] at X1 l1 y1 z1 st1 hQ1
 subst l1 y1 z1
 obtain ⟨rfl, Nq1, e1⟩ := hQ1
 have N1 := Fr.app N0 Nq1
 obtain ⟨fs, hr, hrun, hended, hW, hsame⟩ := X1.leave (v := some (.int (own_cp (pa + (-9223372036854775808 : Int64)) (pb + (-9223372036854775808 : Int64))))) (fun h => by rw [Bd.returns] at h; cases h) hlk
 refine ⟨_, _, (pre0 _ ?_), hrun, hended, _, _, rfl, ?_, ⟨_, rfl⟩, hW, hsame.mono (by decide) (by decide)⟩
 ·show Steps p.tables e below (s₁.setTop (mkF m 0 #[.val (.long pa), .second, .val (.long pb), .second] [])) _
  refine XS.lloadN X0.here hx rfl (hb hby d22_0) rfl ?_
  refine X0.ldc2Long hx hown (mvT hZ (Wd hw 143 rfl)) (g := (mkF m 1 #[.val (.long pa), .second, .val (.long pb), .second] [(.long pa)])) rfl (hb hby d22_1) _ ?_
  refine XS.ladd X0.here hx rfl (hb hby d22_4) rfl ?_
  refine XS.lloadN X0.here hx rfl (hb hby d22_5) rfl ?_
  refine X0.ldc2Long hx hown (mvT hZ (Wd hw 143 rfl)) (g := (mkF m 6 #[.val (.long pa), .second, .val (.long pb), .second] [(.long pb), (.long (pa + (-9223372036854775808 : Int64)))])) rfl (hb hby d22_6) _ ?_
  refine XS.ladd X0.here hx rfl (hb hby d22_9) rfl ?_
  refine st1 _ ?_
  exact retI X1 hx Bd.returns (hb hby d22_13) hr
 ·show QCU Z pa pb h0 n0 _ T1.heap _
  rw [e1]
  exact ⟨rfl, N1, rfl⟩
theorem own_pn1 : plainName cLH = true := by first | (simp [plainName, overriddenIn]; done) | decide +kernel
theorem d13_0 : decode prog_2_method_7_code 0 = .ok (.aload_n 0, 1) := by decide +kernel
theorem d13_1 : decode prog_2_method_7_code 1 = .ok (.getfield 36, 3) := by decide +kernel
theorem d13_4 : decode prog_2_method_7_code 4 = .ok (.aload_n 0, 1) := by decide +kernel
theorem d13_5 : decode prog_2_method_7_code 5 = .ok (.getfield 7, 3) := by decide +kernel
theorem d13_8 : decode prog_2_method_7_code 8 = .ok (.arraylength, 1) := by decide +kernel
theorem d13_9 : decode prog_2_method_7_code 9 = .ok (.if_icmp .ne 7, 3) := by decide +kernel
theorem d13_12 : decode prog_2_method_7_code 12 = .ok (.iconst 1, 1) := by decide +kernel
theorem d13_13 : decode prog_2_method_7_code 13 = .ok (.goto 4, 3) := by decide +kernel
theorem d13_16 : decode prog_2_method_7_code 16 = .ok (.iconst 0, 1) := by decide +kernel
theorem d13_17 : decode prog_2_method_7_code 17 = .ok (.ireturn, 1) := by decide +kernel
theorem efFU (m : MethodId) (lh : Addr) : entryFrame m #[(.ref lh)] 1 = mkF m 0 #[.val (.ref lh)] [] := by first | (simp [entryFrame, mkF, argsToLocals, Value.category]; done) | rfl
def QFU (Z : State) (lh : Addr) (hp : Addr) (sz : Int32) (xa : Int64) (xb : Int64) (xc : Int64) (kl : Int32) (k_hp : ClassId) (h0 : Heap) (n0 : Nat) (v : Option Value) (h : Heap) (L : List Loc) : Prop := v = some (.int (own_fl sz kl)) ∧ Fr n0 L ∧ h = h0
set_option maxRecDepth 65536 in
set_option maxHeartbeats 40000000 in
theorem rmFU (l : Launch) (Z : State) (a0 : Array Value) (hw : ∀ d ∈ tables_1, d.before a0 Z = true) (ws : List Jvm.Cond) (lh : Addr) (hp : Addr) (sz : Int32) (xa : Int64) (xb : Int64) (xc : Int64) (kl : Int32) (k_hp : ClassId) (h0 : Heap) (n0 : Nat) (Z0 : n0 ≤ h0.size) (E_lh : Exa Z h0 lh cLH) (F_heap_lh : Fld Z h0 lh cLH "heap" "[J" (.ref hp)) (F_size_lh : Fld Z h0 lh cLH "size" "I" (.int sz)) (V_hp : Arv Z h0 hp k_hp .long kl [(.long xa), (.long xb), (.long xc)] (.long (0 : Int64))) :
  MetFree l (⟨cLH, "full", "()Z"⟩ : MethodName) (head1 (Jvm.Cond.code (⟨cLH, "full", "()Z"⟩ : MethodName) prog_2_method_7_code 1 (some .boolean) :: ws) ({ frames := 0, cells := 0, slots := 0, locals := 0 } : Room)) (fun av_ U => av_ = #[(.ref lh)] ∧ Z.Warmed39 U.vm ∧ U.heap = h0) (fun _ _ _ _ _ => True) (fun _ U o U' => ∃ v L, o = .returned v ∧ QFU Z lh hp sz xa xb xc kl k_hp h0 n0 v U'.heap L ∧ FrameEnd U o U' L ({ frames := 0, cells := 0, slots := 0, locals := 0 } : Room).cells ({ frames := 0, cells := 0, slots := 0, locals := 0 } : Room).slots) := by
 refine MetFree.of_bodySF (plainFor_of_name own_pn1) hisR ?_
 intro p e s m args below meth c s₁ Bd hml0 hP hK
 obtain ⟨rfl, hZ, hh⟩ := hP
 have hx := Bd.exec
 have hby := Bd.bytes
 have hml : c.maxLocals = 1 := hml0
 have hown : s.vm.findClass cLH = some m.cls := findClass_of_methodNamed Bd.named
 have hnm := (name_of_methodNamed Bd.named Bd.method).1
 have X0 : Stand p l e ({ frames := 0, cells := 0, slots := 0, locals := 0 } : Room) s m #[(.ref lh)] below meth c s₁ [] 0 0 := Stand.of_body Bd
 have e0 : s₁.heap = h0 := by rw [← hh, Bd.state]; rfl
 have N0 := Fr.nil n0
 have hlk : meth.locks = false := Bd.notSynchronized
 have pre0 : ∀ t, Steps p.tables e below (s₁.setTop (mkF m 0 #[.val (.ref lh)] [])) t → Steps p.tables e below (s₁.setTop (entryFrame m #[(.ref lh)] 1)) t := fun t k => castTop (efFU m lh) k
 obtain ⟨T1, X1, e1, st1⟩ := getF X0 hx hZ hown (host := "") (Or.inl (Wd hw 99 rfl)) Via.refl e0 F_size_lh (g := (mkF m 1 #[.val (.ref lh)] [(.ref lh)])) rfl rfl (hb hby d13_1)
 obtain ⟨T2, X2, e2, st2⟩ := getF X1 hx hZ hown (host := "") (Or.inl (Wd hw 56 rfl)) Via.refl e1 F_heap_lh (g := (mkF m 5 #[.val (.ref lh)] [(.ref lh), (.int sz)])) rfl rfl (hb hby d13_5)
 obtain ⟨cl3, Ar3, q3, S3, M3, Hs3, G3⟩ := (id V_hp)
 have r4 : ∀ t, Steps p.tables e below (T2.setTop (mkF m 9 #[.val (.ref lh)] [(.int kl), (.int sz)])) t → Steps p.tables e below (s₁.setTop (mkF m 0 #[.val (.ref lh)] [])) t := fun t kt => by
  refine XS.aloadN X0.here hx rfl (hb hby d13_0) rfl rfl ?_
  refine st1 _ ?_
  refine XS.aloadN X1.here hx rfl (hb hby d13_4) rfl rfl ?_
  refine st2 _ ?_
  refine X2.arraylength hx (by rw [e2]; exact Ar3.1) (State.isArrayOf_alike hZ.alike Ar3.2.1) (g := (mkF m 8 #[.val (.ref lh)] [(.ref hp), (.int sz)])) rfl rfl (hb hby d13_8) _ ?_
  rw [len_of S3 M3]
  exact kt
 by_cases hc5 : sz = kl
 ·obtain ⟨fs, hr, hrun, hended, hW, hsame⟩ := X2.leave (v := some (.int (nar .boolean (1 : Int32)))) (fun h => by rw [Bd.returns] at h; cases h) hlk
  refine ⟨_, _, (pre0 _ (r4 _ ?_)), hrun, hended, _, _, rfl, ?_, ⟨_, rfl⟩, hW, hsame.mono (by decide) (by decide)⟩
  ·show Steps p.tables e below (T2.setTop (mkF m 9 #[.val (.ref lh)] [(.int kl), (.int sz)])) _
   refine XS.icmpNo X2.here hx rfl (hb hby d13_9) rfl (teq hc5).2 ?_
   refine XS.iconst X2.here hx rfl (hb hby d13_12) ?_
   refine XS.goto X2.here hx rfl (pc0 := 13) (pc' := 17) rfl (hb hby d13_13) (by decide) (by decide) ?_
   exact retN X2 hx (t := .boolean) Bd.returns (by simp) (hb hby d13_17) hr
  ·show QFU Z lh hp sz xa xb xc kl k_hp h0 n0 _ T2.heap _
   rw [e2]
   exact ⟨(congrArg (fun w => some (Value.int w)) (by show (1 : Int32) = own_fl sz kl; unfold own_fl; rw [if_pos hc5])), N0, rfl⟩
 ·obtain ⟨fs, hr, hrun, hended, hW, hsame⟩ := X2.leave (v := some (.int (nar .boolean (0 : Int32)))) (fun h => by rw [Bd.returns] at h; cases h) hlk
  refine ⟨_, _, (pre0 _ (r4 _ ?_)), hrun, hended, _, _, rfl, ?_, ⟨_, rfl⟩, hW, hsame.mono (by decide) (by decide)⟩
  ·show Steps p.tables e below (T2.setTop (mkF m 9 #[.val (.ref lh)] [(.int kl), (.int sz)])) _
   refine XS.icmpYes X2.here hx rfl (pc0 := 9) (pc' := 16) rfl (hb hby d13_9) rfl (feq hc5).2 (by decide) (by decide) ?_
   refine XS.iconst X2.here hx rfl (hb hby d13_16) ?_
   exact retN X2 hx (t := .boolean) Bd.returns (by simp) (hb hby d13_17) hr
  ·show QFU Z lh hp sz xa xb xc kl k_hp h0 n0 _ T2.heap _
   rw [e2]
   exact ⟨(congrArg (fun w => some (Value.int w)) (by show (0 : Int32) = own_fl sz kl; unfold own_fl; rw [if_neg hc5])), N0, rfl⟩
theorem d27_0 : decode prog_2_method_3_code 0 = .ok (.aload_n 0, 1) := by decide +kernel
theorem d27_1 : decode prog_2_method_3_code 1 = .ok (.getfield 36, 3) := by decide +kernel
theorem d27_4 : decode prog_2_method_3_code 4 = .ok (.ireturn, 1) := by decide +kernel
theorem efSZ (m : MethodId) (lh : Addr) : entryFrame m #[(.ref lh)] 1 = mkF m 0 #[.val (.ref lh)] [] := by first | (simp [entryFrame, mkF, argsToLocals, Value.category]; done) | rfl
def QSZ (Z : State) (lh : Addr) (sz : Int32) (h0 : Heap) (n0 : Nat) (v : Option Value) (h : Heap) (L : List Loc) : Prop := v = some (.int sz) ∧ Fr n0 L ∧ h = h0
set_option maxRecDepth 65536 in
set_option maxHeartbeats 40000000 in
theorem rmSZ (l : Launch) (Z : State) (a0 : Array Value) (hw : ∀ d ∈ tables_1, d.before a0 Z = true) (ws : List Jvm.Cond) (lh : Addr) (sz : Int32) (h0 : Heap) (n0 : Nat) (Z0 : n0 ≤ h0.size) (E_lh : Exa Z h0 lh cLH) (F_size_lh : Fld Z h0 lh cLH "size" "I" (.int sz)) :
  MetFree l (⟨cLH, "size", "()I"⟩ : MethodName) (head1 (Jvm.Cond.code (⟨cLH, "size", "()I"⟩ : MethodName) prog_2_method_3_code 1 (some .int) :: ws) ({ frames := 0, cells := 0, slots := 0, locals := 0 } : Room)) (fun av_ U => av_ = #[(.ref lh)] ∧ Z.Warmed39 U.vm ∧ U.heap = h0) (fun _ _ _ _ _ => True) (fun _ U o U' => ∃ v L, o = .returned v ∧ QSZ Z lh sz h0 n0 v U'.heap L ∧ FrameEnd U o U' L ({ frames := 0, cells := 0, slots := 0, locals := 0 } : Room).cells ({ frames := 0, cells := 0, slots := 0, locals := 0 } : Room).slots) := by
 refine MetFree.of_bodySF (plainFor_of_name own_pn1) hisR ?_
 intro p e s m args below meth c s₁ Bd hml0 hP hK
 obtain ⟨rfl, hZ, hh⟩ := hP
 have hx := Bd.exec
 have hby := Bd.bytes
 have hml : c.maxLocals = 1 := hml0
 have hown : s.vm.findClass cLH = some m.cls := findClass_of_methodNamed Bd.named
 have hnm := (name_of_methodNamed Bd.named Bd.method).1
 have X0 : Stand p l e ({ frames := 0, cells := 0, slots := 0, locals := 0 } : Room) s m #[(.ref lh)] below meth c s₁ [] 0 0 := Stand.of_body Bd
 have e0 : s₁.heap = h0 := by rw [← hh, Bd.state]; rfl
 have N0 := Fr.nil n0
 have hlk : meth.locks = false := Bd.notSynchronized
 have pre0 : ∀ t, Steps p.tables e below (s₁.setTop (mkF m 0 #[.val (.ref lh)] [])) t → Steps p.tables e below (s₁.setTop (entryFrame m #[(.ref lh)] 1)) t := fun t k => castTop (efSZ m lh) k
 obtain ⟨T1, X1, e1, st1⟩ := getF X0 hx hZ hown (host := "") (Or.inl (Wd hw 99 rfl)) Via.refl e0 F_size_lh (g := (mkF m 1 #[.val (.ref lh)] [(.ref lh)])) rfl rfl (hb hby d27_1)
 obtain ⟨fs, hr, hrun, hended, hW, hsame⟩ := X1.leave (v := some (.int sz)) (fun h => by rw [Bd.returns] at h; cases h) hlk
 refine ⟨_, _, (pre0 _ ?_), hrun, hended, _, _, rfl, ?_, ⟨_, rfl⟩, hW, hsame.mono (by decide) (by decide)⟩
 ·show Steps p.tables e below (s₁.setTop (mkF m 0 #[.val (.ref lh)] [])) _
  refine XS.aloadN X0.here hx rfl (hb hby d27_0) rfl rfl ?_
  refine st1 _ ?_
  exact retI X1 hx Bd.returns (hb hby d27_4) hr
 ·show QSZ Z lh sz h0 n0 _ T1.heap _
  rw [e1]
  exact ⟨rfl, N0, rfl⟩
theorem d14_0 : decode prog_2_method_8_code 0 = .ok (.lload_n 1, 1) := by decide +kernel
theorem d14_1 : decode prog_2_method_8_code 1 = .ok (.l2i, 1) := by decide +kernel
theorem d14_2 : decode prog_2_method_8_code 2 = .ok (.aload_n 0, 1) := by decide +kernel
theorem d14_3 : decode prog_2_method_8_code 3 = .ok (.getfield 32, 3) := by decide +kernel
theorem d14_6 : decode prog_2_method_8_code 6 = .ok (.iand, 1) := by decide +kernel
theorem d14_7 : decode prog_2_method_8_code 7 = .ok (.istore_n 3, 1) := by decide +kernel
theorem d14_8 : decode prog_2_method_8_code 8 = .ok (.aload_n 0, 1) := by decide +kernel
theorem d14_9 : decode prog_2_method_8_code 9 = .ok (.getfield 22, 3) := by decide +kernel
theorem d14_12 : decode prog_2_method_8_code 12 = .ok (.iload_n 3, 1) := by decide +kernel
theorem d14_13 : decode prog_2_method_8_code 13 = .ok (.iaload, 1) := by decide +kernel
theorem d14_14 : decode prog_2_method_8_code 14 = .ok (.iconst (-1), 1) := by decide +kernel
theorem d14_15 : decode prog_2_method_8_code 15 = .ok (.if_icmp .eq 26, 3) := by decide +kernel
theorem d14_18 : decode prog_2_method_8_code 18 = .ok (.aload_n 0, 1) := by decide +kernel
theorem d14_19 : decode prog_2_method_8_code 19 = .ok (.getfield 19, 3) := by decide +kernel
theorem d14_22 : decode prog_2_method_8_code 22 = .ok (.iload_n 3, 1) := by decide +kernel
theorem d14_23 : decode prog_2_method_8_code 23 = .ok (.laload, 1) := by decide +kernel
theorem d14_24 : decode prog_2_method_8_code 24 = .ok (.lload_n 1, 1) := by decide +kernel
theorem d14_25 : decode prog_2_method_8_code 25 = .ok (.lcmp, 1) := by decide +kernel
theorem d14_26 : decode prog_2_method_8_code 26 = .ok (.ifCond .eq 15, 3) := by decide +kernel
theorem d14_29 : decode prog_2_method_8_code 29 = .ok (.iload_n 3, 1) := by decide +kernel
theorem d14_30 : decode prog_2_method_8_code 30 = .ok (.iconst 1, 1) := by decide +kernel
theorem d14_31 : decode prog_2_method_8_code 31 = .ok (.iadd, 1) := by decide +kernel
theorem d14_32 : decode prog_2_method_8_code 32 = .ok (.aload_n 0, 1) := by decide +kernel
theorem d14_33 : decode prog_2_method_8_code 33 = .ok (.getfield 32, 3) := by decide +kernel
theorem d14_36 : decode prog_2_method_8_code 36 = .ok (.iand, 1) := by decide +kernel
theorem d14_37 : decode prog_2_method_8_code 37 = .ok (.istore_n 3, 1) := by decide +kernel
theorem d14_38 : decode prog_2_method_8_code 38 = .ok (.goto (-30), 3) := by decide +kernel
theorem d14_41 : decode prog_2_method_8_code 41 = .ok (.iload_n 3, 1) := by decide +kernel
theorem d14_42 : decode prog_2_method_8_code 42 = .ok (.ireturn, 1) := by decide +kernel
theorem efSO (m : MethodId) (lh : Addr) (hs : Int64) : entryFrame m #[(.ref lh), (.long hs)] 4 = mkF m 0 #[.val (.ref lh), .val (.long hs), .second, .unset] [] := by first | (simp [entryFrame, mkF, argsToLocals, Value.category]; done) | rfl
def QSO (Z : State) (lh : Addr) (hs : Int64) (sl : Addr) (ix : Addr) (mk : Int32) (nl : Int32) (k_sl : ClassId) (sv : List Int64) (k_ix : ClassId) (iv : List Int32) (kl : Int32) (rr : Int32) (h0 : Heap) (n0 : Nat) (v : Option Value) (h : Heap) (L : List Loc) : Prop := v = some (.int rr) ∧ Fr n0 L ∧ h = h0
set_option maxRecDepth 65536 in
set_option maxHeartbeats 40000000 in
theorem rmSO (l : Launch) (Z : State) (a0 : Array Value) (hw : ∀ d ∈ tables_1, d.before a0 Z = true) (ws : List Jvm.Cond) (lh : Addr) (hs : Int64) (sl : Addr) (ix : Addr) (mk : Int32) (nl : Int32) (k_sl : ClassId) (sv : List Int64) (k_ix : ClassId) (iv : List Int32) (kl : Int32) (rr : Int32) (h0 : Heap) (n0 : Nat) (Z0 : n0 ≤ h0.size) (E_lh : Exa Z h0 lh cLH) (F_slots_lh : Fld Z h0 lh cLH "slots" "[J" (.ref sl)) (F_indices_lh : Fld Z h0 lh cLH "indices" "[I" (.ref ix)) (F_mask_lh : Fld Z h0 lh cLH "mask" "I" (.int mk)) (V_sl : Arv Z h0 sl k_sl .long nl (sv.map Value.long) (.long (0 : Int64))) (V_ix : Arv Z h0 ix k_ix .int nl (iv.map Value.int) (.int (0 : Int32))) (K : own_kmn kl mk nl) (hr : own_run sv iv mk hs 8 (hs.toInt32 &&& mk) = some rr) :
  MetFree l (⟨cLH, "slotOf", "(J)I"⟩ : MethodName) (head1 (Jvm.Cond.code (⟨cLH, "slotOf", "(J)I"⟩ : MethodName) prog_2_method_8_code 4 (some .int) :: ws) ({ frames := 0, cells := 0, slots := 0, locals := 0 } : Room)) (fun av_ U => av_ = #[(.ref lh), (.long hs)] ∧ Z.Warmed39 U.vm ∧ U.heap = h0) (fun _ _ _ _ _ => True) (fun _ U o U' => ∃ v L, o = .returned v ∧ QSO Z lh hs sl ix mk nl k_sl sv k_ix iv kl rr h0 n0 v U'.heap L ∧ FrameEnd U o U' L ({ frames := 0, cells := 0, slots := 0, locals := 0 } : Room).cells ({ frames := 0, cells := 0, slots := 0, locals := 0 } : Room).slots) := by
 refine MetFree.of_bodySF (plainFor_of_name own_pn1) hisR ?_
 intro p e s m args below meth c s₁ Bd hml0 hP hK
 obtain ⟨rfl, hZ, hh⟩ := hP
 have hx := Bd.exec
 have hby := Bd.bytes
 have hml : c.maxLocals = 4 := hml0
 have hown : s.vm.findClass cLH = some m.cls := findClass_of_methodNamed Bd.named
 have hnm := (name_of_methodNamed Bd.named Bd.method).1
 have X0 : Stand p l e ({ frames := 0, cells := 0, slots := 0, locals := 0 } : Room) s m #[(.ref lh), (.long hs)] below meth c s₁ [] 0 0 := Stand.of_body Bd
 have e0 : s₁.heap = h0 := by rw [← hh, Bd.state]; rfl
 have N0 := Fr.nil n0
 have hlk : meth.locks = false := Bd.notSynchronized
 have pre0 : ∀ t, Steps p.tables e below (s₁.setTop (mkF m 0 #[.val (.ref lh), .val (.long hs), .second, .unset] [])) t → Steps p.tables e below (s₁.setTop (entryFrame m #[(.ref lh), (.long hs)] 4)) t := fun t k => castTop (efSO m lh hs) k
 obtain ⟨T1, X1, e1, st1⟩ := getF X0 hx hZ hown (host := "") (Or.inl (Wd hw 75 rfl)) Via.refl e0 F_mask_lh (g := (mkF m 3 #[.val (.ref lh), .val (.long hs), .second, .unset] [(.ref lh), (.int (hs.toInt32))])) rfl rfl (hb hby d14_3)
 have r2 : ∀ t, Steps p.tables e below (T1.setTop (mkF m 8 #[.val (.ref lh), .val (.long hs), .second, .val (.int ((hs.toInt32) &&& mk))] [])) t → Steps p.tables e below (s₁.setTop (mkF m 0 #[.val (.ref lh), .val (.long hs), .second, .unset] [])) t := fun t kt => by
  refine XS.lloadN X0.here hx rfl (hb hby d14_0) rfl ?_
  refine XS.l2i X0.here hx rfl (hb hby d14_1) rfl ?_
  refine XS.aloadN X0.here hx rfl (hb hby d14_2) rfl rfl ?_
  refine st1 _ ?_
  refine XS.iand X1.here hx rfl (hb hby d14_6) rfl ?_
  refine XS.istoreN X1.here hx rfl (hb hby d14_7) rfl (l' := #[.val (.ref lh), .val (.long hs), .second, .val (.int ((hs.toInt32) &&& mk))]) rfl ?_
  exact kt
 have loop : ∀ (k : Nat) (pp : Int32) (Tl : State), own_in mk pp → own_run sv iv mk hs k pp = some rr → Stand p l e ({ frames := 0, cells := 0, slots := 0, locals := 0 } : Room) s m #[(.ref lh), (.long hs)] below meth c Tl [] 0 0 → Tl.heap = h0 → ∃ T' : State, Stand p l e ({ frames := 0, cells := 0, slots := 0, locals := 0 } : Room) s m #[(.ref lh), (.long hs)] below meth c T' [] 0 0 ∧ T'.heap = h0 ∧ ∀ t, Steps p.tables e below (T'.setTop (mkF m 41 #[.val (.ref lh), .val (.long hs), .second, .val (.int rr)] [])) t → Steps p.tables e below (Tl.setTop (mkF m 8 #[.val (.ref lh), .val (.long hs), .second, .val (.int pp)] [])) t := by
  intro k
  induction k with
  | zero => exact fun _ _ _ q => absurd q (by simp [own_run])
  | succ k ih =>
   intro pp Tl hin hq Xl el
   obtain ⟨T3, X3, e3, st3⟩ := getF Xl hx hZ hown (host := "") (Or.inl (Wd hw 69 rfl)) Via.refl el F_indices_lh (g := (mkF m 9 #[.val (.ref lh), .val (.long hs), .second, .val (.int pp)] [(.ref lh)])) rfl rfl (hb hby d14_9)
   obtain ⟨cl4, Ar4, q4, S4, M4, Hs4, G4⟩ := (id V_ix)
   have hin4 : ¬ (pp < 0 ∨ cl4.slots.size ≤ (pp).toNatClampNeg) := inb_of S4 (own_inb K hin)
   have hat4 : cl4.slots[(pp).toNatClampNeg]? = some (.int (own_get iv pp)) := Hs4.at hin4 (own_getV iv pp)
   have r5 : ∀ t, Steps p.tables e below (T3.setTop (mkF m 15 #[.val (.ref lh), .val (.long hs), .second, .val (.int pp)] [(.int (-1 : Int32)), (.int (own_get iv pp))])) t → Steps p.tables e below (Tl.setTop (mkF m 8 #[.val (.ref lh), .val (.long hs), .second, .val (.int pp)] [])) t := fun t kt => by
    refine XS.aloadN Xl.here hx rfl (hb hby d14_8) rfl rfl ?_
    refine st3 _ ?_
    refine XS.iloadN X3.here hx rfl (hb hby d14_12) rfl ?_
    refine X3.iaload hx (j := pp) (v := (.int (own_get iv pp))) (by rw [e3]; exact Ar4.1) (State.isArrayOf_alike hZ.alike Ar4.2.1) Ar4.2.2 hin4 hat4 (g := (mkF m 13 #[.val (.ref lh), .val (.long hs), .second, .val (.int pp)] [(.int pp), (.ref ix)])) rfl rfl (hb hby d14_13) _ ?_
    refine XS.iconst X3.here hx rfl (hb hby d14_14) ?_
    exact kt
   by_cases hc6 : (own_get iv pp) = (-1 : Int32)
   ·have r7 : ∀ t, Steps p.tables e below (T3.setTop (mkF m 41 #[.val (.ref lh), .val (.long hs), .second, .val (.int pp)] [])) t → Steps p.tables e below (T3.setTop (mkF m 15 #[.val (.ref lh), .val (.long hs), .second, .val (.int pp)] [(.int (-1 : Int32)), (.int (own_get iv pp))])) t := fun t kt => by
     refine XS.icmpYes X3.here hx rfl (pc0 := 15) (pc' := 41) rfl (hb hby d14_15) rfl (teq hc6).1 (by decide) (by decide) ?_
     exact kt
    have er : pp = rr := by
     rw [own_s1 hc6] at hq
     exact Option.some.inj hq
    refine ⟨_, X3, e3, fun t kt => ?_⟩
    rw [← er] at kt
    exact (r5 _ (r7 _ kt))
   ·obtain ⟨T8, X8, e8, st8⟩ := getF X3 hx hZ hown (host := "") (Or.inl (Wd hw 66 rfl)) Via.refl e3 F_slots_lh (g := (mkF m 19 #[.val (.ref lh), .val (.long hs), .second, .val (.int pp)] [(.ref lh)])) rfl rfl (hb hby d14_19)
    obtain ⟨cl9, Ar9, q9, S9, M9, Hs9, G9⟩ := (id V_sl)
    have hin9 : ¬ (pp < 0 ∨ cl9.slots.size ≤ (pp).toNatClampNeg) := inb_of S9 (own_inb K hin)
    have hat9 : cl9.slots[(pp).toNatClampNeg]? = some (.long (own_getL sv pp)) := Hs9.at hin9 (own_getVL sv pp)
    have r10 : ∀ t, Steps p.tables e below (T8.setTop (mkF m 26 #[.val (.ref lh), .val (.long hs), .second, .val (.int pp)] [(.int (lcmpW (own_getL sv pp) hs))])) t → Steps p.tables e below (T3.setTop (mkF m 15 #[.val (.ref lh), .val (.long hs), .second, .val (.int pp)] [(.int (-1 : Int32)), (.int (own_get iv pp))])) t := fun t kt => by
     refine XS.icmpNo X3.here hx rfl (hb hby d14_15) rfl (feq hc6).1 ?_
     refine XS.aloadN X3.here hx rfl (hb hby d14_18) rfl rfl ?_
     refine st8 _ ?_
     refine XS.iloadN X8.here hx rfl (hb hby d14_22) rfl ?_
     refine X8.laload hx (j := pp) (v := (.long (own_getL sv pp))) (by rw [e8]; exact Ar9.1) (State.isArrayOf_alike hZ.alike Ar9.2.1) Ar9.2.2 hin9 hat9 (g := (mkF m 23 #[.val (.ref lh), .val (.long hs), .second, .val (.int pp)] [(.int pp), (.ref sl)])) rfl rfl (hb hby d14_23) _ ?_
     refine XS.lloadN X8.here hx rfl (hb hby d14_24) rfl ?_
     refine XS.lcmp X8.here hx rfl (hb hby d14_25) rfl ?_
     exact kt
    by_cases hc11 : (own_getL sv pp) = hs
    ·have r12 : ∀ t, Steps p.tables e below (T8.setTop (mkF m 41 #[.val (.ref lh), .val (.long hs), .second, .val (.int pp)] [])) t → Steps p.tables e below (T8.setTop (mkF m 26 #[.val (.ref lh), .val (.long hs), .second, .val (.int pp)] [(.int (lcmpW (own_getL sv pp) hs))])) t := fun t kt => by
      refine XS.ifYes X8.here hx rfl (pc0 := 26) (pc' := 41) rfl (hb hby d14_26) rfl ((if0 _ _).trans (teq ((lw_eq _ _).mpr hc11)).1) (by decide) (by decide) ?_
      exact kt
     have er : pp = rr := by
      rw [own_s2 hc11] at hq
      exact Option.some.inj hq
     refine ⟨_, X8, e8, fun t kt => ?_⟩
     rw [← er] at kt
     exact (r5 _ (r10 _ (r12 _ kt)))
    ·obtain ⟨T13, X13, e13, st13⟩ := getF X8 hx hZ hown (host := "") (Or.inl (Wd hw 75 rfl)) Via.refl e8 F_mask_lh (g := (mkF m 33 #[.val (.ref lh), .val (.long hs), .second, .val (.int pp)] [(.ref lh), (.int (pp + (1 : Int32)))])) rfl rfl (hb hby d14_33)
     have r14 : ∀ t, Steps p.tables e below (T13.setTop (mkF m 8 #[.val (.ref lh), .val (.long hs), .second, .val (.int ((pp + (1 : Int32)) &&& mk))] [])) t → Steps p.tables e below (T8.setTop (mkF m 26 #[.val (.ref lh), .val (.long hs), .second, .val (.int pp)] [(.int (lcmpW (own_getL sv pp) hs))])) t := fun t kt => by
      refine XS.ifNo X8.here hx rfl (hb hby d14_26) rfl ((if0 _ _).trans (feq (fun q => hc11 ((lw_eq _ _).mp q))).1) ?_
      refine XS.iloadN X8.here hx rfl (hb hby d14_29) rfl ?_
      refine XS.iconst X8.here hx rfl (hb hby d14_30) ?_
      refine XS.iadd X8.here hx rfl (hb hby d14_31) rfl ?_
      refine XS.aloadN X8.here hx rfl (hb hby d14_32) rfl rfl ?_
      refine st13 _ ?_
      refine XS.iand X13.here hx rfl (hb hby d14_36) rfl ?_
      refine XS.istoreN X13.here hx rfl (hb hby d14_37) rfl (l' := #[.val (.ref lh), .val (.long hs), .second, .val (.int ((pp + (1 : Int32)) &&& mk))]) rfl ?_
      refine XS.goto X13.here hx rfl (pc0 := 38) (pc' := 8) rfl (hb hby d14_38) (by decide) (by decide) ?_
      exact kt
     rw [own_s3 hc6 hc11] at hq
     obtain ⟨T', X', e', st'⟩ := ih _ _ (own_andin K _) hq X13 e13
     exact ⟨T', X', e', fun t kt => (r5 _ (r10 _ (r14 _ (st' t kt))))⟩
 obtain ⟨Tz, Xz, ez, rl⟩ := loop 8 _ _ (own_andin K _) hr X1 e1
 obtain ⟨fs, hr, hrun, hended, hW, hsame⟩ := Xz.leave (v := some (.int rr)) (fun h => by rw [Bd.returns] at h; cases h) hlk
 refine ⟨_, _, (pre0 _ (r2 _ (rl _ ?_))), hrun, hended, _, _, rfl, ?_, ⟨_, rfl⟩, hW, hsame.mono (by decide) (by decide)⟩
 ·show Steps p.tables e below (Tz.setTop (mkF m 41 #[.val (.ref lh), .val (.long hs), .second, .val (.int rr)] [])) _
  refine XS.iloadN Xz.here hx rfl (hb hby d14_41) rfl ?_
  exact retI Xz hx Bd.returns (hb hby d14_42) hr
 ·show QSO Z lh hs sl ix mk nl k_sl sv k_ix iv kl rr h0 n0 _ Tz.heap _
  rw [ez]
  exact ⟨rfl, N0, rfl⟩
theorem own_pd1 : parseMethodDescriptor "()Z" = some ⟨[], some .boolean⟩ := by decide +kernel
theorem own_pd2 : parseMethodDescriptor "(J)I" = some ⟨[.long], some .int⟩ := by decide +kernel
theorem d12_0 : decode prog_2_method_4_code 0 = .ok (.aload_n 0, 1) := by decide +kernel
theorem d12_1 : decode prog_2_method_4_code 1 = .ok (.invokevirtual 39, 3) := by decide +kernel
theorem d12_4 : decode prog_2_method_4_code 4 = .ok (.ifCond .eq 18, 3) := by decide +kernel
theorem d12_7 : decode prog_2_method_4_code 7 = .ok (.lload_n 1, 1) := by decide +kernel
theorem d12_8 : decode prog_2_method_4_code 8 = .ok (.aload_n 0, 1) := by decide +kernel
theorem d12_9 : decode prog_2_method_4_code 9 = .ok (.getfield 7, 3) := by decide +kernel
theorem d12_12 : decode prog_2_method_4_code 12 = .ok (.iconst 0, 1) := by decide +kernel
theorem d12_13 : decode prog_2_method_4_code 13 = .ok (.laload, 1) := by decide +kernel
theorem d12_14 : decode prog_2_method_4_code 14 = .ok (.invokestatic 43, 3) := by decide +kernel
theorem d12_17 : decode prog_2_method_4_code 17 = .ok (.ifCond .ge 5, 3) := by decide +kernel
theorem d12_20 : decode prog_2_method_4_code 20 = .ok (.iconst (-1), 1) := by decide +kernel
theorem d12_21 : decode prog_2_method_4_code 21 = .ok (.ireturn, 1) := by decide +kernel
theorem d12_22 : decode prog_2_method_4_code 22 = .ok (.aload_n 0, 1) := by decide +kernel
theorem d12_23 : decode prog_2_method_4_code 23 = .ok (.getfield 22, 3) := by decide +kernel
theorem d12_26 : decode prog_2_method_4_code 26 = .ok (.aload_n 0, 1) := by decide +kernel
theorem d12_27 : decode prog_2_method_4_code 27 = .ok (.lload_n 1, 1) := by decide +kernel
theorem d12_28 : decode prog_2_method_4_code 28 = .ok (.invokevirtual 49, 3) := by decide +kernel
theorem d12_31 : decode prog_2_method_4_code 31 = .ok (.iaload, 1) := by decide +kernel
theorem d12_32 : decode prog_2_method_4_code 32 = .ok (.ireturn, 1) := by decide +kernel
theorem efIO (m : MethodId) (lh : Addr) (hs : Int64) : entryFrame m #[(.ref lh), (.long hs)] 3 = mkF m 0 #[.val (.ref lh), .val (.long hs), .second] [] := by first | (simp [entryFrame, mkF, argsToLocals, Value.category]; done) | rfl
def QIO (Z : State) (lh : Addr) (hs : Int64) (hp : Addr) (sz : Int32) (sl : Addr) (ix : Addr) (mk : Int32) (xa : Int64) (xb : Int64) (xc : Int64) (kl : Int32) (k_hp : ClassId) (nl : Int32) (k_sl : ClassId) (sv : List Int64) (k_ix : ClassId) (iv : List Int32) (rr : Int32) (h0 : Heap) (n0 : Nat) (v : Option Value) (h : Heap) (L : List Loc) : Prop := v = some (.int (own_ix sz kl hs xa iv rr)) ∧ Fr n0 L ∧ h = h0
set_option maxRecDepth 65536 in
set_option maxHeartbeats 40000000 in
theorem rmIO (l : Launch) (Z : State) (a0 : Array Value) (hw : ∀ d ∈ tables_1, d.before a0 Z = true) (ws : List Jvm.Cond) (lh : Addr) (hs : Int64) (hp : Addr) (sz : Int32) (sl : Addr) (ix : Addr) (mk : Int32) (xa : Int64) (xb : Int64) (xc : Int64) (kl : Int32) (k_hp : ClassId) (nl : Int32) (k_sl : ClassId) (sv : List Int64) (k_ix : ClassId) (iv : List Int32) (rr : Int32) (h0 : Heap) (n0 : Nat) (Z0 : n0 ≤ h0.size) (E_lh : Exa Z h0 lh cLH) (F_heap_lh : Fld Z h0 lh cLH "heap" "[J" (.ref hp)) (F_size_lh : Fld Z h0 lh cLH "size" "I" (.int sz)) (F_slots_lh : Fld Z h0 lh cLH "slots" "[J" (.ref sl)) (F_indices_lh : Fld Z h0 lh cLH "indices" "[I" (.ref ix)) (F_mask_lh : Fld Z h0 lh cLH "mask" "I" (.int mk)) (V_hp : Arv Z h0 hp k_hp .long kl [(.long xa), (.long xb), (.long xc)] (.long (0 : Int64))) (V_sl : Arv Z h0 sl k_sl .long nl (sv.map Value.long) (.long (0 : Int64))) (V_ix : Arv Z h0 ix k_ix .int nl (iv.map Value.int) (.int (0 : Int32))) (K : own_kmn kl mk nl) (hr : own_run sv iv mk hs 8 (hs.toInt32 &&& mk) = some rr) :
  MetFree l (⟨cLH, "indexOf", "(J)I"⟩ : MethodName) (head1 (Jvm.Cond.code (⟨cLH, "indexOf", "(J)I"⟩ : MethodName) prog_2_method_4_code 3 (some .int) :: ws) ({ frames := 2, cells := 0, slots := 0, locals := 50 } : Room)) (fun av_ U => av_ = #[(.ref lh), (.long hs)] ∧ Z.Warmed39 U.vm ∧ U.heap = h0) (fun _ _ _ _ _ => True) (fun _ U o U' => ∃ v L, o = .returned v ∧ QIO Z lh hs hp sz sl ix mk xa xb xc kl k_hp nl k_sl sv k_ix iv rr h0 n0 v U'.heap L ∧ FrameEnd U o U' L ({ frames := 2, cells := 0, slots := 0, locals := 50 } : Room).cells ({ frames := 2, cells := 0, slots := 0, locals := 50 } : Room).slots) := by
 refine MetFree.of_bodySF (plainFor_of_name own_pn1) hisR ?_
 intro p e s m args below meth c s₁ Bd hml0 hP hK
 obtain ⟨rfl, hZ, hh⟩ := hP
 have hx := Bd.exec
 have hby := Bd.bytes
 have hml : c.maxLocals = 3 := hml0
 have hown : s.vm.findClass cLH = some m.cls := findClass_of_methodNamed Bd.named
 have hnm := (name_of_methodNamed Bd.named Bd.method).1
 have X0 : Stand p l e ({ frames := 2, cells := 0, slots := 0, locals := 50 } : Room) s m #[(.ref lh), (.long hs)] below meth c s₁ [] 0 0 := Stand.of_body Bd
 have e0 : s₁.heap = h0 := by rw [← hh, Bd.state]; rfl
 have N0 := Fr.nil n0
 have hlk : meth.locks = false := Bd.notSynchronized
 have pre0 : ∀ t, Steps p.tables e below (s₁.setTop (mkF m 0 #[.val (.ref lh), .val (.long hs), .second] [])) t → Steps p.tables e below (s₁.setTop (entryFrame m #[(.ref lh), (.long hs)] 3)) t := fun t k => castTop (efIO m lh hs) k
 have hri := own_runin K 8 _ (own_andin K _) hr
 obtain ⟨cq1, qa1, qb1⟩ := E_lh.cell
 obtain ⟨_, _, ⟨T1, L1, k1, n1⟩, -, X1, ⟨Lc1, hQ1, l1, y1, z1⟩, st1⟩ := X0.privateBack hx (y := (⟨cLH, "full", "()Z"⟩ : MethodName)) hown (mvT hZ (Wd hw 95 rfl)) (mvT hZ (Wd hw 96 rfl)) (selfInst hZ (Wd hw 49 rfl) (Wd hw 96 rfl) (Wd hw 97 rfl) (by decide)) (Cond.privateMethod_at (mvP hZ (Wd hw 97 rfl) (args := #[]))) (mvT hZ (Wd hw 98 rfl)) (by decide) (backOf (W := 0) (rmFU l Z a0 hw [] lh hp sz xa xb xc kl k_hp h0 n0 Z0 E_lh F_heap_lh F_size_lh V_hp) hZ (Wd hw 98 rfl) (Wd hw 50 rfl) (by decide) (by decide)) (g := (mkF m 1 #[.val (.ref lh), .val (.long hs), .second] [(.ref lh)])) rfl (by rw [hml]; rfl) (Steps.refl _) (a := lh) (by rw [e0]; exact qa1) qb1 (argsL := []) (rest := []) (lenOf own_pd1 rfl) rfl (by show 2 * 0 + _ ≤ _; exact Nat.le_of_eq rfl) (hb hby d12_1) (fun _ _ => ⟨rfl, e0, (by decide : 0 + 0 ≤ _), (by decide : 0 + 0 ≤ _)⟩)
 dsimp only [Pt.U, Pt.locs, Pt.cells, Pt.slots] at X1 l1 y1 z1 st1 hQ1
 subst l1 y1 z1
 obtain ⟨rfl, Nq1, e1⟩ := hQ1
 have N1 := Fr.app N0 Nq1
 have r2 : ∀ t, Steps p.tables e below (T1.setTop (mkF m 4 #[.val (.ref lh), .val (.long hs), .second] [(.int (own_fl sz kl))])) t → Steps p.tables e below (s₁.setTop (mkF m 0 #[.val (.ref lh), .val (.long hs), .second] [])) t := fun t kt => by
  refine XS.aloadN X0.here hx rfl (hb hby d12_0) rfl rfl ?_
  refine st1.trans ?_
  exact kt
 by_cases hc3 : (own_fl sz kl) = (0 : Int32)
 ·obtain ⟨T4, X4, e4, st4⟩ := getF X1 hx hZ hown (host := "") (Or.inl (Wd hw 69 rfl)) Via.refl e1 F_indices_lh (g := (mkF m 23 #[.val (.ref lh), .val (.long hs), .second] [(.ref lh)])) rfl rfl (hb hby d12_23)
  obtain ⟨cq5, qa5, qb5⟩ := E_lh.cell
  obtain ⟨_, _, ⟨T5, L5, k5, n5⟩, -, X5, ⟨Lc5, hQ5, l5, y5, z5⟩, st5⟩ := X4.privateBack hx (y := (⟨cLH, "slotOf", "(J)I"⟩ : MethodName)) hown (mvT hZ (Wd hw 101 rfl)) (mvT hZ (Wd hw 102 rfl)) (selfInst hZ (Wd hw 49 rfl) (Wd hw 102 rfl) (Wd hw 103 rfl) (by decide)) (Cond.privateMethod_at (mvP hZ (Wd hw 103 rfl) (args := #[]))) (mvT hZ (Wd hw 104 rfl)) (by decide) (backOf (W := 1) (rmSO l Z a0 hw [] lh hs sl ix mk nl k_sl sv k_ix iv kl rr h0 n0 Z0 E_lh F_slots_lh F_indices_lh F_mask_lh V_sl V_ix K hr) hZ (Wd hw 104 rfl) (Wd hw 50 rfl) (by decide) (by decide)) (g := (mkF m 28 #[.val (.ref lh), .val (.long hs), .second] [(.long hs), (.ref lh), (.ref ix)])) rfl (by rw [hml]; rfl) (Steps.refl _) (a := lh) (by rw [e4]; exact qa5) qb5 (argsL := [(.long hs)]) (rest := [(.ref ix)]) (lenOf own_pd2 rfl) rfl (by show 2 * 0 + _ ≤ _; exact Nat.le_of_eq rfl) (hb hby d12_28) (fun _ _ => ⟨rfl, e4, (by decide : 0 + 0 ≤ _), (by decide : 0 + 0 ≤ _)⟩)
  dsimp only [Pt.U, Pt.locs, Pt.cells, Pt.slots] at X5 l5 y5 z5 st5 hQ5
  subst l5 y5 z5
  obtain ⟨rfl, Nq5, e5⟩ := hQ5
  have N5 := Fr.app N1 Nq5
  obtain ⟨cl6, Ar6, q6, S6, M6, Hs6, G6⟩ := (id V_ix)
  have hin6 : ¬ (rr < 0 ∨ cl6.slots.size ≤ (rr).toNatClampNeg) := inb_of S6 (own_inb K hri)
  have hat6 : cl6.slots[(rr).toNatClampNeg]? = some (.int (own_get iv rr)) := Hs6.at hin6 (own_getV iv rr)
  obtain ⟨fs, hr, hrun, hended, hW, hsame⟩ := X5.leave (v := some (.int (own_get iv rr))) (fun h => by rw [Bd.returns] at h; cases h) hlk
  refine ⟨_, _, (pre0 _ (r2 _ ?_)), hrun, hended, _, _, rfl, ?_, ⟨_, rfl⟩, hW, hsame.mono (by decide) (by decide)⟩
  ·show Steps p.tables e below (T1.setTop (mkF m 4 #[.val (.ref lh), .val (.long hs), .second] [(.int (own_fl sz kl))])) _
   refine XS.ifYes X1.here hx rfl (pc0 := 4) (pc' := 22) rfl (hb hby d12_4) rfl ((if0 _ _).trans (teq hc3).1) (by decide) (by decide) ?_
   refine XS.aloadN X1.here hx rfl (hb hby d12_22) rfl rfl ?_
   refine st4 _ ?_
   refine XS.aloadN X4.here hx rfl (hb hby d12_26) rfl rfl ?_
   refine XS.lloadN X4.here hx rfl (hb hby d12_27) rfl ?_
   refine st5.trans ?_
   refine X5.iaload hx (j := rr) (v := (.int (own_get iv rr))) (by rw [e5]; exact Ar6.1) (State.isArrayOf_alike hZ.alike Ar6.2.1) Ar6.2.2 hin6 hat6 (g := (mkF m 31 #[.val (.ref lh), .val (.long hs), .second] [(.int rr), (.ref ix)])) rfl rfl (hb hby d12_31) _ ?_
   exact retI X5 hx Bd.returns (hb hby d12_32) hr
  ·show QIO Z lh hs hp sz sl ix mk xa xb xc kl k_hp nl k_sl sv k_ix iv rr h0 n0 _ T5.heap _
   rw [e5]
   exact ⟨(congrArg (fun w => some (Value.int w)) (own_ixA hc3).symm), N5, rfl⟩
 ·obtain ⟨T7, X7, e7, st7⟩ := getF X1 hx hZ hown (host := "") (Or.inl (Wd hw 56 rfl)) Via.refl e1 F_heap_lh (g := (mkF m 9 #[.val (.ref lh), .val (.long hs), .second] [(.ref lh), (.long hs)])) rfl rfl (hb hby d12_9)
  obtain ⟨cl8, Ar8, q8, S8, M8, Hs8, G8⟩ := (id V_hp)
  have hin8 : ¬ ((0 : Int32) < 0 ∨ cl8.slots.size ≤ ((0 : Int32)).toNatClampNeg) := inb_of S8 ⟨by decide, own_kpos K⟩
  have hat8 : cl8.slots[((0 : Int32)).toNatClampNeg]? = some (.long xa) := Hs8.at hin8 rfl
  obtain ⟨_, _, ⟨T9, L9, k9, n9⟩, -, X9, ⟨Lc9, hQ9, l9, y9, z9⟩, st9⟩ := Jvm.LawKit.callS X7 hx (y := (⟨"java/lang/Long", "compareUnsigned", "(JJ)I"⟩ : MethodName)) hown (mvT hZ (Wd hw 139 rfl)) (mvT hZ (Wd hw 140 rfl)) (mvT hZ (Wd hw 141 rfl)) (mvT hZ (Wd hw 142 rfl)) (by decide) (backOf (W := 0) (rmCU l Z a0 hw [] hs xa h0 n0 Z0 ) hZ (Wd hw 142 rfl) (Wd hw 141 rfl) (by decide) (by decide)) (g := (mkF m 14 #[.val (.ref lh), .val (.long hs), .second] [(.long xa), (.long hs)])) rfl (by rw [hml]; rfl) (argsL := [(.long hs), (.long xa)]) (rest := []) (lenOf own_pd0 rfl) rfl (by show 2 * 0 + _ ≤ _; exact Nat.le_of_eq rfl) (hb hby d12_14) (fun _ _ => ⟨rfl, e7, (by decide : 0 + 0 ≤ _), (by decide : 0 + 0 ≤ _)⟩)
  dsimp only [Pt.U, Pt.locs, Pt.cells, Pt.slots] at X9 l9 y9 z9 st9 hQ9
  subst l9 y9 z9
  obtain ⟨rfl, Nq9, e9⟩ := hQ9
  have N9 := Fr.app N1 Nq9
  have r10 : ∀ t, Steps p.tables e below (T9.setTop (mkF m 17 #[.val (.ref lh), .val (.long hs), .second] [(.int (own_cu hs xa))])) t → Steps p.tables e below (T1.setTop (mkF m 4 #[.val (.ref lh), .val (.long hs), .second] [(.int (own_fl sz kl))])) t := fun t kt => by
   refine XS.ifNo X1.here hx rfl (hb hby d12_4) rfl ((if0 _ _).trans (feq hc3).1) ?_
   refine XS.lloadN X1.here hx rfl (hb hby d12_7) rfl ?_
   refine XS.aloadN X1.here hx rfl (hb hby d12_8) rfl rfl ?_
   refine st7 _ ?_
   refine XS.iconst X7.here hx rfl (hb hby d12_12) ?_
   refine X7.laload hx (j := (0 : Int32)) (v := (.long xa)) (by rw [e7]; exact Ar8.1) (State.isArrayOf_alike hZ.alike Ar8.2.1) Ar8.2.2 hin8 hat8 (g := (mkF m 13 #[.val (.ref lh), .val (.long hs), .second] [(.int (0 : Int32)), (.ref hp), (.long hs)])) rfl rfl (hb hby d12_13) _ ?_
   refine st9 _ ?_
   exact kt
  by_cases hc11 : (own_cu hs xa) < (0 : Int32)
  ·obtain ⟨fs, hr, hrun, hended, hW, hsame⟩ := X9.leave (v := some (.int (-1 : Int32))) (fun h => by rw [Bd.returns] at h; cases h) hlk
   refine ⟨_, _, (pre0 _ (r2 _ (r10 _ ?_))), hrun, hended, _, _, rfl, ?_, ⟨_, rfl⟩, hW, hsame.mono (by decide) (by decide)⟩
   ·show Steps p.tables e below (T9.setTop (mkF m 17 #[.val (.ref lh), .val (.long hs), .second] [(.int (own_cu hs xa))])) _
    refine XS.ifNo X9.here hx rfl (hb hby d12_17) rfl ((if0 _ _).trans (tlt hc11).2.1) ?_
    refine XS.iconst X9.here hx rfl (hb hby d12_20) ?_
    exact retI X9 hx Bd.returns (hb hby d12_21) hr
   ·show QIO Z lh hs hp sz sl ix mk xa xb xc kl k_hp nl k_sl sv k_ix iv rr h0 n0 _ T9.heap _
    rw [e9]
    exact ⟨(congrArg (fun w => some (Value.int w)) (own_ixB hc3 hc11).symm), N9, rfl⟩
  ·obtain ⟨T12, X12, e12, st12⟩ := getF X9 hx hZ hown (host := "") (Or.inl (Wd hw 69 rfl)) Via.refl e9 F_indices_lh (g := (mkF m 23 #[.val (.ref lh), .val (.long hs), .second] [(.ref lh)])) rfl rfl (hb hby d12_23)
   obtain ⟨cq13, qa13, qb13⟩ := E_lh.cell
   obtain ⟨_, _, ⟨T13, L13, k13, n13⟩, -, X13, ⟨Lc13, hQ13, l13, y13, z13⟩, st13⟩ := X12.privateBack hx (y := (⟨cLH, "slotOf", "(J)I"⟩ : MethodName)) hown (mvT hZ (Wd hw 101 rfl)) (mvT hZ (Wd hw 102 rfl)) (selfInst hZ (Wd hw 49 rfl) (Wd hw 102 rfl) (Wd hw 103 rfl) (by decide)) (Cond.privateMethod_at (mvP hZ (Wd hw 103 rfl) (args := #[]))) (mvT hZ (Wd hw 104 rfl)) (by decide) (backOf (W := 1) (rmSO l Z a0 hw [] lh hs sl ix mk nl k_sl sv k_ix iv kl rr h0 n0 Z0 E_lh F_slots_lh F_indices_lh F_mask_lh V_sl V_ix K hr) hZ (Wd hw 104 rfl) (Wd hw 50 rfl) (by decide) (by decide)) (g := (mkF m 28 #[.val (.ref lh), .val (.long hs), .second] [(.long hs), (.ref lh), (.ref ix)])) rfl (by rw [hml]; rfl) (Steps.refl _) (a := lh) (by rw [e12]; exact qa13) qb13 (argsL := [(.long hs)]) (rest := [(.ref ix)]) (lenOf own_pd2 rfl) rfl (by show 2 * 0 + _ ≤ _; exact Nat.le_of_eq rfl) (hb hby d12_28) (fun _ _ => ⟨rfl, e12, (by decide : 0 + 0 ≤ _), (by decide : 0 + 0 ≤ _)⟩)
   dsimp only [Pt.U, Pt.locs, Pt.cells, Pt.slots] at X13 l13 y13 z13 st13 hQ13
   subst l13 y13 z13
   obtain ⟨rfl, Nq13, e13⟩ := hQ13
   have N13 := Fr.app N9 Nq13
   obtain ⟨cl14, Ar14, q14, S14, M14, Hs14, G14⟩ := (id V_ix)
   have hin14 : ¬ (rr < 0 ∨ cl14.slots.size ≤ (rr).toNatClampNeg) := inb_of S14 (own_inb K hri)
   have hat14 : cl14.slots[(rr).toNatClampNeg]? = some (.int (own_get iv rr)) := Hs14.at hin14 (own_getV iv rr)
   obtain ⟨fs, hr, hrun, hended, hW, hsame⟩ := X13.leave (v := some (.int (own_get iv rr))) (fun h => by rw [Bd.returns] at h; cases h) hlk
   refine ⟨_, _, (pre0 _ (r2 _ (r10 _ ?_))), hrun, hended, _, _, rfl, ?_, ⟨_, rfl⟩, hW, hsame.mono (by decide) (by decide)⟩
   ·show Steps p.tables e below (T9.setTop (mkF m 17 #[.val (.ref lh), .val (.long hs), .second] [(.int (own_cu hs xa))])) _
    refine XS.ifYes X9.here hx rfl (pc0 := 17) (pc' := 22) rfl (hb hby d12_17) rfl ((if0 _ _).trans (flt hc11).2.1) (by decide) (by decide) ?_
    refine XS.aloadN X9.here hx rfl (hb hby d12_22) rfl rfl ?_
    refine st12 _ ?_
    refine XS.aloadN X12.here hx rfl (hb hby d12_26) rfl rfl ?_
    refine XS.lloadN X12.here hx rfl (hb hby d12_27) rfl ?_
    refine st13.trans ?_
    refine X13.iaload hx (j := rr) (v := (.int (own_get iv rr))) (by rw [e13]; exact Ar14.1) (State.isArrayOf_alike hZ.alike Ar14.2.1) Ar14.2.2 hin14 hat14 (g := (mkF m 31 #[.val (.ref lh), .val (.long hs), .second] [(.int rr), (.ref ix)])) rfl rfl (hb hby d12_31) _ ?_
    exact retI X13 hx Bd.returns (hb hby d12_32) hr
   ·show QIO Z lh hs hp sz sl ix mk xa xb xc kl k_hp nl k_sl sv k_ix iv rr h0 n0 _ T13.heap _
    rw [e13]
    exact ⟨(congrArg (fun w => some (Value.int w)) (own_ixC hc11).symm), N13, rfl⟩
theorem d15_0 : decode prog_2_method_5_code 0 = .ok (.aload_n 0, 1) := by decide +kernel
theorem d15_1 : decode prog_2_method_5_code 1 = .ok (.invokevirtual 39, 3) := by decide +kernel
theorem d15_4 : decode prog_2_method_5_code 4 = .ok (.ifCond .eq 16, 3) := by decide +kernel
theorem d15_7 : decode prog_2_method_5_code 7 = .ok (.lload_n 1, 1) := by decide +kernel
theorem d15_8 : decode prog_2_method_5_code 8 = .ok (.aload_n 0, 1) := by decide +kernel
theorem d15_9 : decode prog_2_method_5_code 9 = .ok (.getfield 7, 3) := by decide +kernel
theorem d15_12 : decode prog_2_method_5_code 12 = .ok (.iconst 0, 1) := by decide +kernel
theorem d15_13 : decode prog_2_method_5_code 13 = .ok (.laload, 1) := by decide +kernel
theorem d15_14 : decode prog_2_method_5_code 14 = .ok (.invokestatic 43, 3) := by decide +kernel
theorem d15_17 : decode prog_2_method_5_code 17 = .ok (.ifCond .le 7, 3) := by decide +kernel
theorem d15_20 : decode prog_2_method_5_code 20 = .ok (.iconst 1, 1) := by decide +kernel
theorem d15_21 : decode prog_2_method_5_code 21 = .ok (.goto 4, 3) := by decide +kernel
theorem d15_24 : decode prog_2_method_5_code 24 = .ok (.iconst 0, 1) := by decide +kernel
theorem d15_25 : decode prog_2_method_5_code 25 = .ok (.ireturn, 1) := by decide +kernel
theorem efAD (m : MethodId) (lh : Addr) (hs : Int64) : entryFrame m #[(.ref lh), (.long hs)] 3 = mkF m 0 #[.val (.ref lh), .val (.long hs), .second] [] := by first | (simp [entryFrame, mkF, argsToLocals, Value.category]; done) | rfl
def QAD (Z : State) (lh : Addr) (hs : Int64) (hp : Addr) (sz : Int32) (xa : Int64) (xb : Int64) (xc : Int64) (kl : Int32) (k_hp : ClassId) (h0 : Heap) (n0 : Nat) (v : Option Value) (h : Heap) (L : List Loc) : Prop := v = some (.int (own_ad sz kl hs xa)) ∧ Fr n0 L ∧ h = h0
set_option maxRecDepth 65536 in
set_option maxHeartbeats 40000000 in
theorem rmAD (l : Launch) (Z : State) (a0 : Array Value) (hw : ∀ d ∈ tables_1, d.before a0 Z = true) (ws : List Jvm.Cond) (lh : Addr) (hs : Int64) (hp : Addr) (sz : Int32) (xa : Int64) (xb : Int64) (xc : Int64) (kl : Int32) (k_hp : ClassId) (h0 : Heap) (n0 : Nat) (Z0 : n0 ≤ h0.size) (E_lh : Exa Z h0 lh cLH) (F_heap_lh : Fld Z h0 lh cLH "heap" "[J" (.ref hp)) (F_size_lh : Fld Z h0 lh cLH "size" "I" (.int sz)) (V_hp : Arv Z h0 hp k_hp .long kl [(.long xa), (.long xb), (.long xc)] (.long (0 : Int64))) (hkp : (0 : Int32) < kl) :
  MetFree l (⟨cLH, "admits", "(J)Z"⟩ : MethodName) (head1 (Jvm.Cond.code (⟨cLH, "admits", "(J)Z"⟩ : MethodName) prog_2_method_5_code 3 (some .boolean) :: ws) ({ frames := 2, cells := 0, slots := 0, locals := 50 } : Room)) (fun av_ U => av_ = #[(.ref lh), (.long hs)] ∧ Z.Warmed39 U.vm ∧ U.heap = h0) (fun _ _ _ _ _ => True) (fun _ U o U' => ∃ v L, o = .returned v ∧ QAD Z lh hs hp sz xa xb xc kl k_hp h0 n0 v U'.heap L ∧ FrameEnd U o U' L ({ frames := 2, cells := 0, slots := 0, locals := 50 } : Room).cells ({ frames := 2, cells := 0, slots := 0, locals := 50 } : Room).slots) := by
 refine MetFree.of_bodySF (plainFor_of_name own_pn1) hisR ?_
 intro p e s m args below meth c s₁ Bd hml0 hP hK
 obtain ⟨rfl, hZ, hh⟩ := hP
 have hx := Bd.exec
 have hby := Bd.bytes
 have hml : c.maxLocals = 3 := hml0
 have hown : s.vm.findClass cLH = some m.cls := findClass_of_methodNamed Bd.named
 have hnm := (name_of_methodNamed Bd.named Bd.method).1
 have X0 : Stand p l e ({ frames := 2, cells := 0, slots := 0, locals := 50 } : Room) s m #[(.ref lh), (.long hs)] below meth c s₁ [] 0 0 := Stand.of_body Bd
 have e0 : s₁.heap = h0 := by rw [← hh, Bd.state]; rfl
 have N0 := Fr.nil n0
 have hlk : meth.locks = false := Bd.notSynchronized
 have pre0 : ∀ t, Steps p.tables e below (s₁.setTop (mkF m 0 #[.val (.ref lh), .val (.long hs), .second] [])) t → Steps p.tables e below (s₁.setTop (entryFrame m #[(.ref lh), (.long hs)] 3)) t := fun t k => castTop (efAD m lh hs) k
 obtain ⟨cq1, qa1, qb1⟩ := E_lh.cell
 obtain ⟨_, _, ⟨T1, L1, k1, n1⟩, -, X1, ⟨Lc1, hQ1, l1, y1, z1⟩, st1⟩ := X0.privateBack hx (y := (⟨cLH, "full", "()Z"⟩ : MethodName)) hown (mvT hZ (Wd hw 95 rfl)) (mvT hZ (Wd hw 96 rfl)) (selfInst hZ (Wd hw 49 rfl) (Wd hw 96 rfl) (Wd hw 97 rfl) (by decide)) (Cond.privateMethod_at (mvP hZ (Wd hw 97 rfl) (args := #[]))) (mvT hZ (Wd hw 98 rfl)) (by decide) (backOf (W := 0) (rmFU l Z a0 hw [] lh hp sz xa xb xc kl k_hp h0 n0 Z0 E_lh F_heap_lh F_size_lh V_hp) hZ (Wd hw 98 rfl) (Wd hw 50 rfl) (by decide) (by decide)) (g := (mkF m 1 #[.val (.ref lh), .val (.long hs), .second] [(.ref lh)])) rfl (by rw [hml]; rfl) (Steps.refl _) (a := lh) (by rw [e0]; exact qa1) qb1 (argsL := []) (rest := []) (lenOf own_pd1 rfl) rfl (by show 2 * 0 + _ ≤ _; exact Nat.le_of_eq rfl) (hb hby d15_1) (fun _ _ => ⟨rfl, e0, (by decide : 0 + 0 ≤ _), (by decide : 0 + 0 ≤ _)⟩)
 dsimp only [Pt.U, Pt.locs, Pt.cells, Pt.slots] at X1 l1 y1 z1 st1 hQ1
 subst l1 y1 z1
 obtain ⟨rfl, Nq1, e1⟩ := hQ1
 have N1 := Fr.app N0 Nq1
 have r2 : ∀ t, Steps p.tables e below (T1.setTop (mkF m 4 #[.val (.ref lh), .val (.long hs), .second] [(.int (own_fl sz kl))])) t → Steps p.tables e below (s₁.setTop (mkF m 0 #[.val (.ref lh), .val (.long hs), .second] [])) t := fun t kt => by
  refine XS.aloadN X0.here hx rfl (hb hby d15_0) rfl rfl ?_
  refine st1.trans ?_
  exact kt
 by_cases hc3 : (own_fl sz kl) = (0 : Int32)
 ·obtain ⟨fs, hr, hrun, hended, hW, hsame⟩ := X1.leave (v := some (.int (nar .boolean (1 : Int32)))) (fun h => by rw [Bd.returns] at h; cases h) hlk
  refine ⟨_, _, (pre0 _ (r2 _ ?_)), hrun, hended, _, _, rfl, ?_, ⟨_, rfl⟩, hW, hsame.mono (by decide) (by decide)⟩
  ·show Steps p.tables e below (T1.setTop (mkF m 4 #[.val (.ref lh), .val (.long hs), .second] [(.int (own_fl sz kl))])) _
   refine XS.ifYes X1.here hx rfl (pc0 := 4) (pc' := 20) rfl (hb hby d15_4) rfl ((if0 _ _).trans (teq hc3).1) (by decide) (by decide) ?_
   refine XS.iconst X1.here hx rfl (hb hby d15_20) ?_
   refine XS.goto X1.here hx rfl (pc0 := 21) (pc' := 25) rfl (hb hby d15_21) (by decide) (by decide) ?_
   exact retN X1 hx (t := .boolean) Bd.returns (by simp) (hb hby d15_25) hr
  ·show QAD Z lh hs hp sz xa xb xc kl k_hp h0 n0 _ T1.heap _
   rw [e1]
   exact ⟨(congrArg (fun w => some (Value.int w)) (by show (1 : Int32) = own_ad sz kl hs xa; exact (own_adA hc3).symm)), N1, rfl⟩
 ·obtain ⟨T4, X4, e4, st4⟩ := getF X1 hx hZ hown (host := "") (Or.inl (Wd hw 56 rfl)) Via.refl e1 F_heap_lh (g := (mkF m 9 #[.val (.ref lh), .val (.long hs), .second] [(.ref lh), (.long hs)])) rfl rfl (hb hby d15_9)
  obtain ⟨cl5, Ar5, q5, S5, M5, Hs5, G5⟩ := (id V_hp)
  have hin5 : ¬ ((0 : Int32) < 0 ∨ cl5.slots.size ≤ ((0 : Int32)).toNatClampNeg) := inb_of S5 ⟨by decide, hkp⟩
  have hat5 : cl5.slots[((0 : Int32)).toNatClampNeg]? = some (.long xa) := Hs5.at hin5 rfl
  obtain ⟨_, _, ⟨T6, L6, k6, n6⟩, -, X6, ⟨Lc6, hQ6, l6, y6, z6⟩, st6⟩ := Jvm.LawKit.callS X4 hx (y := (⟨"java/lang/Long", "compareUnsigned", "(JJ)I"⟩ : MethodName)) hown (mvT hZ (Wd hw 139 rfl)) (mvT hZ (Wd hw 140 rfl)) (mvT hZ (Wd hw 141 rfl)) (mvT hZ (Wd hw 142 rfl)) (by decide) (backOf (W := 0) (rmCU l Z a0 hw [] hs xa h0 n0 Z0 ) hZ (Wd hw 142 rfl) (Wd hw 141 rfl) (by decide) (by decide)) (g := (mkF m 14 #[.val (.ref lh), .val (.long hs), .second] [(.long xa), (.long hs)])) rfl (by rw [hml]; rfl) (argsL := [(.long hs), (.long xa)]) (rest := []) (lenOf own_pd0 rfl) rfl (by show 2 * 0 + _ ≤ _; exact Nat.le_of_eq rfl) (hb hby d15_14) (fun _ _ => ⟨rfl, e4, (by decide : 0 + 0 ≤ _), (by decide : 0 + 0 ≤ _)⟩)
  dsimp only [Pt.U, Pt.locs, Pt.cells, Pt.slots] at X6 l6 y6 z6 st6 hQ6
  subst l6 y6 z6
  obtain ⟨rfl, Nq6, e6⟩ := hQ6
  have N6 := Fr.app N1 Nq6
  have r7 : ∀ t, Steps p.tables e below (T6.setTop (mkF m 17 #[.val (.ref lh), .val (.long hs), .second] [(.int (own_cu hs xa))])) t → Steps p.tables e below (T1.setTop (mkF m 4 #[.val (.ref lh), .val (.long hs), .second] [(.int (own_fl sz kl))])) t := fun t kt => by
   refine XS.ifNo X1.here hx rfl (hb hby d15_4) rfl ((if0 _ _).trans (feq hc3).1) ?_
   refine XS.lloadN X1.here hx rfl (hb hby d15_7) rfl ?_
   refine XS.aloadN X1.here hx rfl (hb hby d15_8) rfl rfl ?_
   refine st4 _ ?_
   refine XS.iconst X4.here hx rfl (hb hby d15_12) ?_
   refine X4.laload hx (j := (0 : Int32)) (v := (.long xa)) (by rw [e4]; exact Ar5.1) (State.isArrayOf_alike hZ.alike Ar5.2.1) Ar5.2.2 hin5 hat5 (g := (mkF m 13 #[.val (.ref lh), .val (.long hs), .second] [(.int (0 : Int32)), (.ref hp), (.long hs)])) rfl rfl (hb hby d15_13) _ ?_
   refine st6 _ ?_
   exact kt
  by_cases hc8 : (0 : Int32) < (own_cu hs xa)
  ·obtain ⟨fs, hr, hrun, hended, hW, hsame⟩ := X6.leave (v := some (.int (nar .boolean (1 : Int32)))) (fun h => by rw [Bd.returns] at h; cases h) hlk
   refine ⟨_, _, (pre0 _ (r2 _ (r7 _ ?_))), hrun, hended, _, _, rfl, ?_, ⟨_, rfl⟩, hW, hsame.mono (by decide) (by decide)⟩
   ·show Steps p.tables e below (T6.setTop (mkF m 17 #[.val (.ref lh), .val (.long hs), .second] [(.int (own_cu hs xa))])) _
    refine XS.ifNo X6.here hx rfl (hb hby d15_17) rfl ((if0 _ _).trans (tlt hc8).2.2.2) ?_
    refine XS.iconst X6.here hx rfl (hb hby d15_20) ?_
    refine XS.goto X6.here hx rfl (pc0 := 21) (pc' := 25) rfl (hb hby d15_21) (by decide) (by decide) ?_
    exact retN X6 hx (t := .boolean) Bd.returns (by simp) (hb hby d15_25) hr
   ·show QAD Z lh hs hp sz xa xb xc kl k_hp h0 n0 _ T6.heap _
    rw [e6]
    exact ⟨(congrArg (fun w => some (Value.int w)) (by show (1 : Int32) = own_ad sz kl hs xa; exact (own_adB hc8).symm)), N6, rfl⟩
  ·obtain ⟨fs, hr, hrun, hended, hW, hsame⟩ := X6.leave (v := some (.int (nar .boolean (0 : Int32)))) (fun h => by rw [Bd.returns] at h; cases h) hlk
   refine ⟨_, _, (pre0 _ (r2 _ (r7 _ ?_))), hrun, hended, _, _, rfl, ?_, ⟨_, rfl⟩, hW, hsame.mono (by decide) (by decide)⟩
   ·show Steps p.tables e below (T6.setTop (mkF m 17 #[.val (.ref lh), .val (.long hs), .second] [(.int (own_cu hs xa))])) _
    refine XS.ifYes X6.here hx rfl (pc0 := 17) (pc' := 24) rfl (hb hby d15_17) rfl ((if0 _ _).trans (flt hc8).2.2.2) (by decide) (by decide) ?_
    refine XS.iconst X6.here hx rfl (hb hby d15_24) ?_
    exact retN X6 hx (t := .boolean) Bd.returns (by simp) (hb hby d15_25) hr
   ·show QAD Z lh hs hp sz xa xb xc kl k_hp h0 n0 _ T6.heap _
    rw [e6]
    exact ⟨(congrArg (fun w => some (Value.int w)) (by show (0 : Int32) = own_ad sz kl hs xa; exact (own_adC hc3 hc8).symm)), N6, rfl⟩
theorem d21_0 : decode prog_2_method_10_code 0 = .ok (.aload_n 0, 1) := by decide +kernel
theorem d21_1 : decode prog_2_method_10_code 1 = .ok (.dup, 1) := by decide +kernel
theorem d21_2 : decode prog_2_method_10_code 2 = .ok (.getfield 36, 3) := by decide +kernel
theorem d21_5 : decode prog_2_method_10_code 5 = .ok (.dup_x1, 1) := by decide +kernel
theorem d21_6 : decode prog_2_method_10_code 6 = .ok (.iconst 1, 1) := by decide +kernel
theorem d21_7 : decode prog_2_method_10_code 7 = .ok (.iadd, 1) := by decide +kernel
theorem d21_8 : decode prog_2_method_10_code 8 = .ok (.putfield 36, 3) := by decide +kernel
theorem d21_11 : decode prog_2_method_10_code 11 = .ok (.istore_n 3, 1) := by decide +kernel
theorem d21_12 : decode prog_2_method_10_code 12 = .ok (.iload_n 3, 1) := by decide +kernel
theorem d21_13 : decode prog_2_method_10_code 13 = .ok (.ifCond .le 46, 3) := by decide +kernel
theorem d21_59 : decode prog_2_method_10_code 59 = .ok (.aload_n 0, 1) := by decide +kernel
theorem d21_60 : decode prog_2_method_10_code 60 = .ok (.getfield 7, 3) := by decide +kernel
theorem d21_63 : decode prog_2_method_10_code 63 = .ok (.iload_n 3, 1) := by decide +kernel
theorem d21_64 : decode prog_2_method_10_code 64 = .ok (.lload_n 1, 1) := by decide +kernel
theorem d21_65 : decode prog_2_method_10_code 65 = .ok (.lastore, 1) := by decide +kernel
theorem d21_66 : decode prog_2_method_10_code 66 = .ok (.return_, 1) := by decide +kernel
theorem efAHa (m : MethodId) (lh : Addr) (hs : Int64) : entryFrame m #[(.ref lh), (.long hs)] 5 = mkF m 0 #[.val (.ref lh), .val (.long hs), .second, .unset, .unset] [] := by first | (simp [entryFrame, mkF, argsToLocals, Value.category]; done) | rfl
def QAHa (Z : State) (lh : Addr) (hs : Int64) (hp : Addr) (sl : Addr) (ix : Addr) (mk : Int32) (xa : Int64) (xb : Int64) (xc : Int64) (kl : Int32) (k_hp : ClassId) (h0 : Heap) (n0 : Nat) (v : Option Value) (h : Heap) (L : List Loc) : Prop := v = none ∧ Fr n0 L ∧ Keep h0 h [lh, hp] ∧ Exa Z h lh cLH ∧ Fld Z h lh cLH "heap" "[J" (.ref hp) ∧ Fld Z h lh cLH "size" "I" (.int (1 : Int32)) ∧ Fld Z h lh cLH "slots" "[J" (.ref sl) ∧ Fld Z h lh cLH "indices" "[I" (.ref ix) ∧ Fld Z h lh cLH "mask" "I" (.int mk) ∧ Arv Z h hp k_hp .long kl [(.long hs), (.long xb), (.long xc)] (.long (0 : Int64))
set_option maxRecDepth 65536 in
set_option maxHeartbeats 40000000 in
theorem rmAHa (l : Launch) (Z : State) (a0 : Array Value) (hw : ∀ d ∈ tables_1, d.before a0 Z = true) (ws : List Jvm.Cond) (lh : Addr) (hs : Int64) (hp : Addr) (sl : Addr) (ix : Addr) (mk : Int32) (xa : Int64) (xb : Int64) (xc : Int64) (kl : Int32) (k_hp : ClassId) (h0 : Heap) (n0 : Nat) (Z0 : n0 ≤ h0.size) (E_lh : Exa Z h0 lh cLH) (F_heap_lh : Fld Z h0 lh cLH "heap" "[J" (.ref hp)) (F_size_lh : Fld Z h0 lh cLH "size" "I" (.int (0 : Int32))) (F_slots_lh : Fld Z h0 lh cLH "slots" "[J" (.ref sl)) (F_indices_lh : Fld Z h0 lh cLH "indices" "[I" (.ref ix)) (F_mask_lh : Fld Z h0 lh cLH "mask" "I" (.int mk)) (V_hp : Arv Z h0 hp k_hp .long kl [(.long xa), (.long xb), (.long xc)] (.long (0 : Int64))) (hkp : (0 : Int32) < kl) (hzk : (0 : Int32) < kl) (g_lh : n0 ≤ lh) (g_hp : n0 ≤ hp) :
  MetFree l (⟨cLH, "addToHeap", "(J)V"⟩ : MethodName) (head1 (Jvm.Cond.code (⟨cLH, "addToHeap", "(J)V"⟩ : MethodName) prog_2_method_10_code 5 none :: ws) ({ frames := 2, cells := 0, slots := 0, locals := 50 } : Room)) (fun av_ U => av_ = #[(.ref lh), (.long hs)] ∧ Z.Warmed39 U.vm ∧ U.heap = h0) (fun _ _ _ _ _ => True) (fun _ U o U' => ∃ v L, o = .returned v ∧ QAHa Z lh hs hp sl ix mk xa xb xc kl k_hp h0 n0 v U'.heap L ∧ FrameEnd U o U' L ({ frames := 2, cells := 0, slots := 0, locals := 50 } : Room).cells ({ frames := 2, cells := 0, slots := 0, locals := 50 } : Room).slots) := by
 refine MetFree.of_bodySF (plainFor_of_name own_pn1) hisR ?_
 intro p e s m args below meth c s₁ Bd hml0 hP hK
 obtain ⟨rfl, hZ, hh⟩ := hP
 have hx := Bd.exec
 have hby := Bd.bytes
 have hml : c.maxLocals = 5 := hml0
 have hown : s.vm.findClass cLH = some m.cls := findClass_of_methodNamed Bd.named
 have hnm := (name_of_methodNamed Bd.named Bd.method).1
 have X0 : Stand p l e ({ frames := 2, cells := 0, slots := 0, locals := 50 } : Room) s m #[(.ref lh), (.long hs)] below meth c s₁ [] 0 0 := Stand.of_body Bd
 have e0 : s₁.heap = h0 := by rw [← hh, Bd.state]; rfl
 have N0 := Fr.nil n0
 have hlk : meth.locks = false := Bd.notSynchronized
 have pre0 : ∀ t, Steps p.tables e below (s₁.setTop (mkF m 0 #[.val (.ref lh), .val (.long hs), .second, .unset, .unset] [])) t → Steps p.tables e below (s₁.setTop (entryFrame m #[(.ref lh), (.long hs)] 5)) t := fun t k => castTop (efAHa m lh hs) k
 have nq_hp_lh : hp ≠ lh := (Ne.symm (Exa.neArv E_lh V_hp (Wd hw 49 rfl)))
 obtain ⟨T1, X1, e1, st1⟩ := getF X0 hx hZ hown (host := "") (Or.inl (Wd hw 99 rfl)) Via.refl e0 F_size_lh (g := (mkF m 2 #[.val (.ref lh), .val (.long hs), .second, .unset, .unset] [(.ref lh), (.ref lh)])) rfl rfl (hb hby d21_2)
 obtain ⟨T2, h2, X2, e2, W2, st2⟩ := putF X1 hx hZ hown (host := "") (Or.inl (Wd hw 99 rfl)) Via.refl e1 F_size_lh E_lh (Or.inl (Wd hw 100 rfl)) (Wd hw 49 rfl) (ty := .int) (by decide) rfl rfl (g := (mkF m 8 #[.val (.ref lh), .val (.long hs), .second, .unset, .unset] [(.int (1 : Int32)), (.ref lh), (.int (0 : Int32))])) rfl rfl (hb hby d21_8)
 have F2 : Fld Z h2 lh cLH "size" "I" (.int (1 : Int32)) := Fld.same W2 F_size_lh
 have K2 : Keep h0 h2 [lh, hp] := (Keep.refl h0 [lh, hp]).wr W2 (Or.inl (List.mem_of_getElem? (i := 0) rfl))
 have Zs2 : n0 ≤ h2.size := Nat.le_trans Z0 (Keep.of_wr W2).1
 have N2 := Fr.snoc X2 N0 g_lh
 obtain ⟨T3, X3, e3, st3⟩ := getF X2 hx hZ hown (host := "") (Or.inl (Wd hw 56 rfl)) Via.refl e2 (Fld.other W2 F_heap_lh (Or.inr (slot_ne (Or.inr (Wd hw 57 rfl)) (Or.inl (Wd hw 100 rfl)) (by decide) (t := (.array .long)) (t' := .int) (by decide) (by decide)))) (g := (mkF m 60 #[.val (.ref lh), .val (.long hs), .second, .val (.int (0 : Int32)), .unset] [(.ref lh)])) rfl rfl (hb hby d21_60)
 obtain ⟨cl4, Ar4, q4, S4, M4, Hs4, G4⟩ := (V_hp.other W2 nq_hp_lh)
 have hin4 : ¬ ((0 : Int32) < 0 ∨ cl4.slots.size ≤ ((0 : Int32)).toNatClampNeg) := inb_of S4 ⟨by decide, hkp⟩
 obtain ⟨T5, h5, X5, e5, W5, st5⟩ := stJ X3 hx hZ e3 Ar4 (j := (0 : Int32)) hin4 (g := (mkF m 65 #[.val (.ref lh), .val (.long hs), .second, .val (.int (0 : Int32)), .unset] [(.long hs), (.int (0 : Int32)), (.ref hp)])) rfl rfl (hb hby d21_65)
 have V5 : Arv Z h5 hp k_hp .long kl [(.long hs), (.long xb), (.long xc)] (.long (0 : Int64)) := Arv.set Ar4 q4 S4 M4 Hs4 G4 rfl W5 0 rfl (Nat.le_of_ble_eq_true rfl)
 have K5 : Keep h0 h5 [lh, hp] := K2.wr W5 (Or.inl (List.mem_of_getElem? (i := 1) rfl))
 have Zs5 : n0 ≤ h5.size := Nat.le_trans Zs2 (Keep.of_wr W5).1
 have N5 := Fr.snoc X5 N2 g_hp
 obtain ⟨fs, hr, hrun, hended, hW, hsame⟩ := X5.leave (v := none) (fun _ => rfl) hlk
 refine ⟨_, _, (pre0 _ ?_), hrun, hended, _, _, rfl, ?_, ⟨_, rfl⟩, hW, hsame.mono (by decide) (by decide)⟩
 ·show Steps p.tables e below (s₁.setTop (mkF m 0 #[.val (.ref lh), .val (.long hs), .second, .unset, .unset] [])) _
  refine XS.aloadN X0.here hx rfl (hb hby d21_0) rfl rfl ?_
  refine XS.dup X0.here hx rfl (hb hby d21_1) rfl rfl ?_
  refine st1 _ ?_
  refine XS.dupX1 X1.here hx rfl (hb hby d21_5) rfl rfl rfl ?_
  refine XS.iconst X1.here hx rfl (hb hby d21_6) ?_
  refine XS.iadd X1.here hx rfl (hb hby d21_7) rfl ?_
  refine st2 _ ?_
  refine XS.istoreN X2.here hx rfl (hb hby d21_11) rfl (l' := #[.val (.ref lh), .val (.long hs), .second, .val (.int (0 : Int32)), .unset]) rfl ?_
  refine XS.iloadN X2.here hx rfl (hb hby d21_12) rfl ?_
  refine XS.ifYes X2.here hx rfl (pc0 := 13) (pc' := 59) rfl (hb hby d21_13) rfl ((if0 _ _).trans (flt (by decide : ¬ ((0 : Int32) < (0 : Int32)))).2.2.2) (by decide) (by decide) ?_
  refine XS.aloadN X2.here hx rfl (hb hby d21_59) rfl rfl ?_
  refine st3 _ ?_
  refine XS.iloadN X3.here hx rfl (hb hby d21_63) rfl ?_
  refine XS.lloadN X3.here hx rfl (hb hby d21_64) rfl ?_
  refine st5 _ ?_
  exact X5.returnOut hx Bd.returns (hb hby d21_66) hr
 ·show QAHa Z lh hs hp sl ix mk xa xb xc kl k_hp h0 n0 _ T5.heap _
  rw [e5]
  exact ⟨rfl, N5, K5, ((E_lh.wr W2).wr W5), (Fld.other W5 (Fld.other W2 F_heap_lh (Or.inr (slot_ne (Or.inr (Wd hw 57 rfl)) (Or.inl (Wd hw 100 rfl)) (by decide) (t := (.array .long)) (t' := .int) (by decide) (by decide)))) (Or.inl nq_hp_lh.symm)), (Fld.other W5 F2 (Or.inl nq_hp_lh.symm)), (Fld.other W5 (Fld.other W2 F_slots_lh (Or.inr (slot_ne (Or.inr (Wd hw 67 rfl)) (Or.inl (Wd hw 100 rfl)) (by decide) (t := (.array .long)) (t' := .int) (by decide) (by decide)))) (Or.inl nq_hp_lh.symm)), (Fld.other W5 (Fld.other W2 F_indices_lh (Or.inr (slot_ne (Or.inr (Wd hw 70 rfl)) (Or.inl (Wd hw 100 rfl)) (by decide) (t := (.array .int)) (t' := .int) (by decide) (by decide)))) (Or.inl nq_hp_lh.symm)), (Fld.other W5 (Fld.other W2 F_mask_lh (Or.inr (slot_ne (Or.inr (Wd hw 76 rfl)) (Or.inl (Wd hw 100 rfl)) (by decide) (t := .int) (t' := .int) (by decide) (by decide)))) (Or.inl nq_hp_lh.symm)), V5⟩
theorem d21_16 : decode prog_2_method_10_code 16 = .ok (.iload_n 3, 1) := by decide +kernel
theorem d21_17 : decode prog_2_method_10_code 17 = .ok (.iconst 1, 1) := by decide +kernel
theorem d21_18 : decode prog_2_method_10_code 18 = .ok (.isub, 1) := by decide +kernel
theorem d21_19 : decode prog_2_method_10_code 19 = .ok (.iconst 2, 1) := by decide +kernel
theorem d21_20 : decode prog_2_method_10_code 20 = .ok (.idiv, 1) := by decide +kernel
theorem d21_21 : decode prog_2_method_10_code 21 = .ok (.istore 4, 2) := by decide +kernel
theorem d21_23 : decode prog_2_method_10_code 23 = .ok (.aload_n 0, 1) := by decide +kernel
theorem d21_24 : decode prog_2_method_10_code 24 = .ok (.getfield 7, 3) := by decide +kernel
theorem d21_27 : decode prog_2_method_10_code 27 = .ok (.iload 4, 2) := by decide +kernel
theorem d21_29 : decode prog_2_method_10_code 29 = .ok (.laload, 1) := by decide +kernel
theorem d21_30 : decode prog_2_method_10_code 30 = .ok (.lload_n 1, 1) := by decide +kernel
theorem d21_31 : decode prog_2_method_10_code 31 = .ok (.invokestatic 43, 3) := by decide +kernel
theorem d21_34 : decode prog_2_method_10_code 34 = .ok (.ifCond .gt 6, 3) := by decide +kernel
theorem d21_37 : decode prog_2_method_10_code 37 = .ok (.goto 22, 3) := by decide +kernel
theorem d21_40 : decode prog_2_method_10_code 40 = .ok (.aload_n 0, 1) := by decide +kernel
theorem d21_41 : decode prog_2_method_10_code 41 = .ok (.getfield 7, 3) := by decide +kernel
theorem d21_44 : decode prog_2_method_10_code 44 = .ok (.iload_n 3, 1) := by decide +kernel
theorem d21_45 : decode prog_2_method_10_code 45 = .ok (.aload_n 0, 1) := by decide +kernel
theorem d21_46 : decode prog_2_method_10_code 46 = .ok (.getfield 7, 3) := by decide +kernel
theorem d21_49 : decode prog_2_method_10_code 49 = .ok (.iload 4, 2) := by decide +kernel
theorem d21_51 : decode prog_2_method_10_code 51 = .ok (.laload, 1) := by decide +kernel
theorem d21_52 : decode prog_2_method_10_code 52 = .ok (.lastore, 1) := by decide +kernel
theorem d21_53 : decode prog_2_method_10_code 53 = .ok (.iload 4, 2) := by decide +kernel
theorem d21_55 : decode prog_2_method_10_code 55 = .ok (.istore_n 3, 1) := by decide +kernel
theorem d21_56 : decode prog_2_method_10_code 56 = .ok (.goto (-44), 3) := by decide +kernel
theorem efAHb (m : MethodId) (lh : Addr) (hs : Int64) : entryFrame m #[(.ref lh), (.long hs)] 5 = mkF m 0 #[.val (.ref lh), .val (.long hs), .second, .unset, .unset] [] := by first | (simp [entryFrame, mkF, argsToLocals, Value.category]; done) | rfl
def QAHb (Z : State) (lh : Addr) (hs : Int64) (hp : Addr) (sl : Addr) (ix : Addr) (mk : Int32) (xa : Int64) (xb : Int64) (xc : Int64) (kl : Int32) (k_hp : ClassId) (h0 : Heap) (n0 : Nat) (v : Option Value) (h : Heap) (L : List Loc) : Prop := v = none ∧ Fr n0 L ∧ Keep h0 h [lh, hp] ∧ Exa Z h lh cLH ∧ Fld Z h lh cLH "heap" "[J" (.ref hp) ∧ Fld Z h lh cLH "size" "I" (.int (2 : Int32)) ∧ Fld Z h lh cLH "slots" "[J" (.ref sl) ∧ Fld Z h lh cLH "indices" "[I" (.ref ix) ∧ Fld Z h lh cLH "mask" "I" (.int mk) ∧ Arv Z h hp k_hp .long kl [(.long (own_mn hs xa)), (.long (own_mx hs xa)), (.long xc)] (.long (0 : Int64))
set_option maxRecDepth 65536 in
set_option maxHeartbeats 40000000 in
theorem rmAHb (l : Launch) (Z : State) (a0 : Array Value) (hw : ∀ d ∈ tables_1, d.before a0 Z = true) (ws : List Jvm.Cond) (lh : Addr) (hs : Int64) (hp : Addr) (sl : Addr) (ix : Addr) (mk : Int32) (xa : Int64) (xb : Int64) (xc : Int64) (kl : Int32) (k_hp : ClassId) (h0 : Heap) (n0 : Nat) (Z0 : n0 ≤ h0.size) (E_lh : Exa Z h0 lh cLH) (F_heap_lh : Fld Z h0 lh cLH "heap" "[J" (.ref hp)) (F_size_lh : Fld Z h0 lh cLH "size" "I" (.int (1 : Int32))) (F_slots_lh : Fld Z h0 lh cLH "slots" "[J" (.ref sl)) (F_indices_lh : Fld Z h0 lh cLH "indices" "[I" (.ref ix)) (F_mask_lh : Fld Z h0 lh cLH "mask" "I" (.int mk)) (V_hp : Arv Z h0 hp k_hp .long kl [(.long xa), (.long xb), (.long xc)] (.long (0 : Int64))) (hkp : (0 : Int32) < kl) (hzk : (1 : Int32) < kl) (g_lh : n0 ≤ lh) (g_hp : n0 ≤ hp) :
  MetFree l (⟨cLH, "addToHeap", "(J)V"⟩ : MethodName) (head1 (Jvm.Cond.code (⟨cLH, "addToHeap", "(J)V"⟩ : MethodName) prog_2_method_10_code 5 none :: ws) ({ frames := 2, cells := 0, slots := 0, locals := 50 } : Room)) (fun av_ U => av_ = #[(.ref lh), (.long hs)] ∧ Z.Warmed39 U.vm ∧ U.heap = h0) (fun _ _ _ _ _ => True) (fun _ U o U' => ∃ v L, o = .returned v ∧ QAHb Z lh hs hp sl ix mk xa xb xc kl k_hp h0 n0 v U'.heap L ∧ FrameEnd U o U' L ({ frames := 2, cells := 0, slots := 0, locals := 50 } : Room).cells ({ frames := 2, cells := 0, slots := 0, locals := 50 } : Room).slots) := by
 refine MetFree.of_bodySF (plainFor_of_name own_pn1) hisR ?_
 intro p e s m args below meth c s₁ Bd hml0 hP hK
 obtain ⟨rfl, hZ, hh⟩ := hP
 have hx := Bd.exec
 have hby := Bd.bytes
 have hml : c.maxLocals = 5 := hml0
 have hown : s.vm.findClass cLH = some m.cls := findClass_of_methodNamed Bd.named
 have hnm := (name_of_methodNamed Bd.named Bd.method).1
 have X0 : Stand p l e ({ frames := 2, cells := 0, slots := 0, locals := 50 } : Room) s m #[(.ref lh), (.long hs)] below meth c s₁ [] 0 0 := Stand.of_body Bd
 have e0 : s₁.heap = h0 := by rw [← hh, Bd.state]; rfl
 have N0 := Fr.nil n0
 have hlk : meth.locks = false := Bd.notSynchronized
 have pre0 : ∀ t, Steps p.tables e below (s₁.setTop (mkF m 0 #[.val (.ref lh), .val (.long hs), .second, .unset, .unset] [])) t → Steps p.tables e below (s₁.setTop (entryFrame m #[(.ref lh), (.long hs)] 5)) t := fun t k => castTop (efAHb m lh hs) k
 have nq_hp_lh : hp ≠ lh := (Ne.symm (Exa.neArv E_lh V_hp (Wd hw 49 rfl)))
 obtain ⟨T1, X1, e1, st1⟩ := getF X0 hx hZ hown (host := "") (Or.inl (Wd hw 99 rfl)) Via.refl e0 F_size_lh (g := (mkF m 2 #[.val (.ref lh), .val (.long hs), .second, .unset, .unset] [(.ref lh), (.ref lh)])) rfl rfl (hb hby d21_2)
 obtain ⟨T2, h2, X2, e2, W2, st2⟩ := putF X1 hx hZ hown (host := "") (Or.inl (Wd hw 99 rfl)) Via.refl e1 F_size_lh E_lh (Or.inl (Wd hw 100 rfl)) (Wd hw 49 rfl) (ty := .int) (by decide) rfl rfl (g := (mkF m 8 #[.val (.ref lh), .val (.long hs), .second, .unset, .unset] [(.int (2 : Int32)), (.ref lh), (.int (1 : Int32))])) rfl rfl (hb hby d21_8)
 have F2 : Fld Z h2 lh cLH "size" "I" (.int (2 : Int32)) := Fld.same W2 F_size_lh
 have K2 : Keep h0 h2 [lh, hp] := (Keep.refl h0 [lh, hp]).wr W2 (Or.inl (List.mem_of_getElem? (i := 0) rfl))
 have Zs2 : n0 ≤ h2.size := Nat.le_trans Z0 (Keep.of_wr W2).1
 have N2 := Fr.snoc X2 N0 g_lh
 have r3 : ∀ t, Steps p.tables e below (T2.setTop (mkF m 21 #[.val (.ref lh), .val (.long hs), .second, .val (.int (1 : Int32)), .unset] [(.int ((0 : Int32) / (2 : Int32)))])) t → Steps p.tables e below (s₁.setTop (mkF m 0 #[.val (.ref lh), .val (.long hs), .second, .unset, .unset] [])) t := fun t kt => by
  refine XS.aloadN X0.here hx rfl (hb hby d21_0) rfl rfl ?_
  refine XS.dup X0.here hx rfl (hb hby d21_1) rfl rfl ?_
  refine st1 _ ?_
  refine XS.dupX1 X1.here hx rfl (hb hby d21_5) rfl rfl rfl ?_
  refine XS.iconst X1.here hx rfl (hb hby d21_6) ?_
  refine XS.iadd X1.here hx rfl (hb hby d21_7) rfl ?_
  refine st2 _ ?_
  refine XS.istoreN X2.here hx rfl (hb hby d21_11) rfl (l' := #[.val (.ref lh), .val (.long hs), .second, .val (.int (1 : Int32)), .unset]) rfl ?_
  refine XS.iloadN X2.here hx rfl (hb hby d21_12) rfl ?_
  refine XS.ifNo X2.here hx rfl (hb hby d21_13) rfl ((if0 _ _).trans (tlt (by decide : (0 : Int32) < (1 : Int32))).2.2.2) ?_
  refine XS.iloadN X2.here hx rfl (hb hby d21_16) rfl ?_
  refine XS.iconst X2.here hx rfl (hb hby d21_17) ?_
  refine XS.isub X2.here hx rfl (hb hby d21_18) rfl ?_
  refine XS.iconst X2.here hx rfl (hb hby d21_19) ?_
  refine XS.idiv X2.here hx rfl (hb hby d21_20) rfl (by decide) ?_
  exact kt
 have r4 : ∀ t, Steps p.tables e below (T2.setTop (mkF m 21 #[.val (.ref lh), .val (.long hs), .second, .val (.int (1 : Int32)), .unset] [(.int (0 : Int32))])) t → Steps p.tables e below (T2.setTop (mkF m 21 #[.val (.ref lh), .val (.long hs), .second, .val (.int (1 : Int32)), .unset] [(.int ((0 : Int32) / (2 : Int32)))])) t := fun t kt => by
  have q : ((0 : Int32) / (2 : Int32)) = (0 : Int32) := (by decide)
  rw [q]
  exact kt
 obtain ⟨T5, X5, e5, st5⟩ := getF X2 hx hZ hown (host := "") (Or.inl (Wd hw 56 rfl)) Via.refl e2 (Fld.other W2 F_heap_lh (Or.inr (slot_ne (Or.inr (Wd hw 57 rfl)) (Or.inl (Wd hw 100 rfl)) (by decide) (t := (.array .long)) (t' := .int) (by decide) (by decide)))) (g := (mkF m 24 #[.val (.ref lh), .val (.long hs), .second, .val (.int (1 : Int32)), .val (.int (0 : Int32))] [(.ref lh)])) rfl rfl (hb hby d21_24)
 obtain ⟨cl6, Ar6, q6, S6, M6, Hs6, G6⟩ := (V_hp.other W2 nq_hp_lh)
 have hin6 : ¬ ((0 : Int32) < 0 ∨ cl6.slots.size ≤ ((0 : Int32)).toNatClampNeg) := inb_of S6 ⟨by decide, hkp⟩
 have hat6 : cl6.slots[((0 : Int32)).toNatClampNeg]? = some (.long xa) := Hs6.at hin6 rfl
 obtain ⟨_, _, ⟨T7, L7, k7, n7⟩, -, X7, ⟨Lc7, hQ7, l7, y7, z7⟩, st7⟩ := Jvm.LawKit.callS X5 hx (y := (⟨"java/lang/Long", "compareUnsigned", "(JJ)I"⟩ : MethodName)) hown (mvT hZ (Wd hw 139 rfl)) (mvT hZ (Wd hw 140 rfl)) (mvT hZ (Wd hw 141 rfl)) (mvT hZ (Wd hw 142 rfl)) (by decide) (backOf (W := 0) (rmCU l Z a0 hw [] xa hs h2 n0 Zs2 ) hZ (Wd hw 142 rfl) (Wd hw 141 rfl) (by decide) (by decide)) (g := (mkF m 31 #[.val (.ref lh), .val (.long hs), .second, .val (.int (1 : Int32)), .val (.int (0 : Int32))] [(.long hs), (.long xa)])) rfl (by rw [hml]; rfl) (argsL := [(.long xa), (.long hs)]) (rest := []) (lenOf own_pd0 rfl) rfl (by show 2 * 0 + _ ≤ _; exact Nat.le_of_eq rfl) (hb hby d21_31) (fun _ _ => ⟨rfl, e5, (by decide : 0 + 0 ≤ _), (by decide : 0 + 0 ≤ _)⟩)
 dsimp only [Pt.U, Pt.locs, Pt.cells, Pt.slots] at X7 l7 y7 z7 st7 hQ7
 subst l7 y7 z7
 obtain ⟨rfl, Nq7, e7⟩ := hQ7
 have N7 := Fr.app N2 Nq7
 have r8 : ∀ t, Steps p.tables e below (T7.setTop (mkF m 34 #[.val (.ref lh), .val (.long hs), .second, .val (.int (1 : Int32)), .val (.int (0 : Int32))] [(.int (own_cu xa hs))])) t → Steps p.tables e below (T2.setTop (mkF m 21 #[.val (.ref lh), .val (.long hs), .second, .val (.int (1 : Int32)), .unset] [(.int (0 : Int32))])) t := fun t kt => by
  refine XS.istore X2.here hx rfl (hb hby d21_21) rfl (l' := #[.val (.ref lh), .val (.long hs), .second, .val (.int (1 : Int32)), .val (.int (0 : Int32))]) rfl ?_
  refine XS.aloadN X2.here hx rfl (hb hby d21_23) rfl rfl ?_
  refine st5 _ ?_
  refine XS.iload X5.here hx rfl (hb hby d21_27) rfl ?_
  refine X5.laload hx (j := (0 : Int32)) (v := (.long xa)) (by rw [e5]; exact Ar6.1) (State.isArrayOf_alike hZ.alike Ar6.2.1) Ar6.2.2 hin6 hat6 (g := (mkF m 29 #[.val (.ref lh), .val (.long hs), .second, .val (.int (1 : Int32)), .val (.int (0 : Int32))] [(.int (0 : Int32)), (.ref hp)])) rfl rfl (hb hby d21_29) _ ?_
  refine XS.lloadN X5.here hx rfl (hb hby d21_30) rfl ?_
  refine st7 _ ?_
  exact kt
 by_cases hc9 : (0 : Int32) < (own_cu xa hs)
 ·obtain ⟨T10, X10, e10, st10⟩ := getF X7 hx hZ hown (host := "") (Or.inl (Wd hw 56 rfl)) Via.refl e7 (Fld.other W2 F_heap_lh (Or.inr (slot_ne (Or.inr (Wd hw 57 rfl)) (Or.inl (Wd hw 100 rfl)) (by decide) (t := (.array .long)) (t' := .int) (by decide) (by decide)))) (g := (mkF m 41 #[.val (.ref lh), .val (.long hs), .second, .val (.int (1 : Int32)), .val (.int (0 : Int32))] [(.ref lh)])) rfl rfl (hb hby d21_41)
  obtain ⟨T11, X11, e11, st11⟩ := getF X10 hx hZ hown (host := "") (Or.inl (Wd hw 56 rfl)) Via.refl e10 (Fld.other W2 F_heap_lh (Or.inr (slot_ne (Or.inr (Wd hw 57 rfl)) (Or.inl (Wd hw 100 rfl)) (by decide) (t := (.array .long)) (t' := .int) (by decide) (by decide)))) (g := (mkF m 46 #[.val (.ref lh), .val (.long hs), .second, .val (.int (1 : Int32)), .val (.int (0 : Int32))] [(.ref lh), (.int (1 : Int32)), (.ref hp)])) rfl rfl (hb hby d21_46)
  obtain ⟨cl12, Ar12, q12, S12, M12, Hs12, G12⟩ := (V_hp.other W2 nq_hp_lh)
  have hin12 : ¬ ((0 : Int32) < 0 ∨ cl12.slots.size ≤ ((0 : Int32)).toNatClampNeg) := inb_of S12 ⟨by decide, hkp⟩
  have hat12 : cl12.slots[((0 : Int32)).toNatClampNeg]? = some (.long xa) := Hs12.at hin12 rfl
  obtain ⟨cl13, Ar13, q13, S13, M13, Hs13, G13⟩ := (V_hp.other W2 nq_hp_lh)
  have hin13 : ¬ ((1 : Int32) < 0 ∨ cl13.slots.size ≤ ((1 : Int32)).toNatClampNeg) := inb_of S13 ⟨by decide, hzk⟩
  obtain ⟨T14, h14, X14, e14, W14, st14⟩ := stJ X11 hx hZ e11 Ar13 (j := (1 : Int32)) hin13 (g := (mkF m 52 #[.val (.ref lh), .val (.long hs), .second, .val (.int (1 : Int32)), .val (.int (0 : Int32))] [(.long xa), (.int (1 : Int32)), (.ref hp)])) rfl rfl (hb hby d21_52)
  have V14 : Arv Z h14 hp k_hp .long kl [(.long xa), (.long xa), (.long xc)] (.long (0 : Int64)) := Arv.set Ar13 q13 S13 M13 Hs13 G13 rfl W14 1 rfl (Nat.le_of_ble_eq_true rfl)
  have K14 : Keep h0 h14 [lh, hp] := K2.wr W14 (Or.inl (List.mem_of_getElem? (i := 1) rfl))
  have Zs14 : n0 ≤ h14.size := Nat.le_trans Zs2 (Keep.of_wr W14).1
  have N14 := Fr.snoc X14 N7 g_hp
  obtain ⟨T15, X15, e15, st15⟩ := getF X14 hx hZ hown (host := "") (Or.inl (Wd hw 56 rfl)) Via.refl e14 (Fld.other W14 (Fld.other W2 F_heap_lh (Or.inr (slot_ne (Or.inr (Wd hw 57 rfl)) (Or.inl (Wd hw 100 rfl)) (by decide) (t := (.array .long)) (t' := .int) (by decide) (by decide)))) (Or.inl nq_hp_lh.symm)) (g := (mkF m 60 #[.val (.ref lh), .val (.long hs), .second, .val (.int (0 : Int32)), .val (.int (0 : Int32))] [(.ref lh)])) rfl rfl (hb hby d21_60)
  obtain ⟨cl16, Ar16, q16, S16, M16, Hs16, G16⟩ := (id V14)
  have hin16 : ¬ ((0 : Int32) < 0 ∨ cl16.slots.size ≤ ((0 : Int32)).toNatClampNeg) := inb_of S16 ⟨by decide, hkp⟩
  obtain ⟨T17, h17, X17, e17, W17, st17⟩ := stJ X15 hx hZ e15 Ar16 (j := (0 : Int32)) hin16 (g := (mkF m 65 #[.val (.ref lh), .val (.long hs), .second, .val (.int (0 : Int32)), .val (.int (0 : Int32))] [(.long hs), (.int (0 : Int32)), (.ref hp)])) rfl rfl (hb hby d21_65)
  have V17 : Arv Z h17 hp k_hp .long kl [(.long hs), (.long xa), (.long xc)] (.long (0 : Int64)) := Arv.set Ar16 q16 S16 M16 Hs16 G16 rfl W17 0 rfl (Nat.le_of_ble_eq_true rfl)
  have K17 : Keep h0 h17 [lh, hp] := K14.wr W17 (Or.inl (List.mem_of_getElem? (i := 1) rfl))
  have Zs17 : n0 ≤ h17.size := Nat.le_trans Zs14 (Keep.of_wr W17).1
  have N17 := Fr.snoc X17 N14 g_hp
  have Vt : Arv Z h17 hp k_hp .long kl [(.long (own_mn hs xa)), (.long (own_mx hs xa)), (.long xc)] (.long (0 : Int64)) := by
   have q := V17
   unfold own_mn own_mx
   rw [if_pos (own_cug.mp hc9), if_pos (own_cug.mp hc9)]
   exact q
  obtain ⟨fs, hr, hrun, hended, hW, hsame⟩ := X17.leave (v := none) (fun _ => rfl) hlk
  refine ⟨_, _, (pre0 _ (r3 _ (r4 _ (r8 _ ?_)))), hrun, hended, _, _, rfl, ?_, ⟨_, rfl⟩, hW, hsame.mono (by decide) (by decide)⟩
  ·show Steps p.tables e below (T7.setTop (mkF m 34 #[.val (.ref lh), .val (.long hs), .second, .val (.int (1 : Int32)), .val (.int (0 : Int32))] [(.int (own_cu xa hs))])) _
   refine XS.ifYes X7.here hx rfl (pc0 := 34) (pc' := 40) rfl (hb hby d21_34) rfl ((if0 _ _).trans (tlt hc9).2.2.1) (by decide) (by decide) ?_
   refine XS.aloadN X7.here hx rfl (hb hby d21_40) rfl rfl ?_
   refine st10 _ ?_
   refine XS.iloadN X10.here hx rfl (hb hby d21_44) rfl ?_
   refine XS.aloadN X10.here hx rfl (hb hby d21_45) rfl rfl ?_
   refine st11 _ ?_
   refine XS.iload X11.here hx rfl (hb hby d21_49) rfl ?_
   refine X11.laload hx (j := (0 : Int32)) (v := (.long xa)) (by rw [e11]; exact Ar12.1) (State.isArrayOf_alike hZ.alike Ar12.2.1) Ar12.2.2 hin12 hat12 (g := (mkF m 51 #[.val (.ref lh), .val (.long hs), .second, .val (.int (1 : Int32)), .val (.int (0 : Int32))] [(.int (0 : Int32)), (.ref hp), (.int (1 : Int32)), (.ref hp)])) rfl rfl (hb hby d21_51) _ ?_
   refine st14 _ ?_
   refine XS.iload X14.here hx rfl (hb hby d21_53) rfl ?_
   refine XS.istoreN X14.here hx rfl (hb hby d21_55) rfl (l' := #[.val (.ref lh), .val (.long hs), .second, .val (.int (0 : Int32)), .val (.int (0 : Int32))]) rfl ?_
   refine XS.goto X14.here hx rfl (pc0 := 56) (pc' := 12) rfl (hb hby d21_56) (by decide) (by decide) ?_
   refine XS.iloadN X14.here hx rfl (hb hby d21_12) rfl ?_
   refine XS.ifYes X14.here hx rfl (pc0 := 13) (pc' := 59) rfl (hb hby d21_13) rfl ((if0 _ _).trans (flt (by decide : ¬ ((0 : Int32) < (0 : Int32)))).2.2.2) (by decide) (by decide) ?_
   refine XS.aloadN X14.here hx rfl (hb hby d21_59) rfl rfl ?_
   refine st15 _ ?_
   refine XS.iloadN X15.here hx rfl (hb hby d21_63) rfl ?_
   refine XS.lloadN X15.here hx rfl (hb hby d21_64) rfl ?_
   refine st17 _ ?_
   exact X17.returnOut hx Bd.returns (hb hby d21_66) hr
  ·show QAHb Z lh hs hp sl ix mk xa xb xc kl k_hp h0 n0 _ T17.heap _
   rw [e17]
   exact ⟨rfl, N17, K17, (((E_lh.wr W2).wr W14).wr W17), (Fld.other W17 (Fld.other W14 (Fld.other W2 F_heap_lh (Or.inr (slot_ne (Or.inr (Wd hw 57 rfl)) (Or.inl (Wd hw 100 rfl)) (by decide) (t := (.array .long)) (t' := .int) (by decide) (by decide)))) (Or.inl nq_hp_lh.symm)) (Or.inl nq_hp_lh.symm)), (Fld.other W17 (Fld.other W14 F2 (Or.inl nq_hp_lh.symm)) (Or.inl nq_hp_lh.symm)), (Fld.other W17 (Fld.other W14 (Fld.other W2 F_slots_lh (Or.inr (slot_ne (Or.inr (Wd hw 67 rfl)) (Or.inl (Wd hw 100 rfl)) (by decide) (t := (.array .long)) (t' := .int) (by decide) (by decide)))) (Or.inl nq_hp_lh.symm)) (Or.inl nq_hp_lh.symm)), (Fld.other W17 (Fld.other W14 (Fld.other W2 F_indices_lh (Or.inr (slot_ne (Or.inr (Wd hw 70 rfl)) (Or.inl (Wd hw 100 rfl)) (by decide) (t := (.array .int)) (t' := .int) (by decide) (by decide)))) (Or.inl nq_hp_lh.symm)) (Or.inl nq_hp_lh.symm)), (Fld.other W17 (Fld.other W14 (Fld.other W2 F_mask_lh (Or.inr (slot_ne (Or.inr (Wd hw 76 rfl)) (Or.inl (Wd hw 100 rfl)) (by decide) (t := .int) (t' := .int) (by decide) (by decide)))) (Or.inl nq_hp_lh.symm)) (Or.inl nq_hp_lh.symm)), Vt⟩
 ·obtain ⟨T18, X18, e18, st18⟩ := getF X7 hx hZ hown (host := "") (Or.inl (Wd hw 56 rfl)) Via.refl e7 (Fld.other W2 F_heap_lh (Or.inr (slot_ne (Or.inr (Wd hw 57 rfl)) (Or.inl (Wd hw 100 rfl)) (by decide) (t := (.array .long)) (t' := .int) (by decide) (by decide)))) (g := (mkF m 60 #[.val (.ref lh), .val (.long hs), .second, .val (.int (1 : Int32)), .val (.int (0 : Int32))] [(.ref lh)])) rfl rfl (hb hby d21_60)
  obtain ⟨cl19, Ar19, q19, S19, M19, Hs19, G19⟩ := (V_hp.other W2 nq_hp_lh)
  have hin19 : ¬ ((1 : Int32) < 0 ∨ cl19.slots.size ≤ ((1 : Int32)).toNatClampNeg) := inb_of S19 ⟨by decide, hzk⟩
  obtain ⟨T20, h20, X20, e20, W20, st20⟩ := stJ X18 hx hZ e18 Ar19 (j := (1 : Int32)) hin19 (g := (mkF m 65 #[.val (.ref lh), .val (.long hs), .second, .val (.int (1 : Int32)), .val (.int (0 : Int32))] [(.long hs), (.int (1 : Int32)), (.ref hp)])) rfl rfl (hb hby d21_65)
  have V20 : Arv Z h20 hp k_hp .long kl [(.long xa), (.long hs), (.long xc)] (.long (0 : Int64)) := Arv.set Ar19 q19 S19 M19 Hs19 G19 rfl W20 1 rfl (Nat.le_of_ble_eq_true rfl)
  have K20 : Keep h0 h20 [lh, hp] := K2.wr W20 (Or.inl (List.mem_of_getElem? (i := 1) rfl))
  have Zs20 : n0 ≤ h20.size := Nat.le_trans Zs2 (Keep.of_wr W20).1
  have N20 := Fr.snoc X20 N7 g_hp
  have Vt : Arv Z h20 hp k_hp .long kl [(.long (own_mn hs xa)), (.long (own_mx hs xa)), (.long xc)] (.long (0 : Int64)) := by
   have q := V20
   unfold own_mn own_mx
   rw [if_neg (fun q => hc9 (own_cug.mpr q)), if_neg (fun q => hc9 (own_cug.mpr q))]
   exact q
  obtain ⟨fs, hr, hrun, hended, hW, hsame⟩ := X20.leave (v := none) (fun _ => rfl) hlk
  refine ⟨_, _, (pre0 _ (r3 _ (r4 _ (r8 _ ?_)))), hrun, hended, _, _, rfl, ?_, ⟨_, rfl⟩, hW, hsame.mono (by decide) (by decide)⟩
  ·show Steps p.tables e below (T7.setTop (mkF m 34 #[.val (.ref lh), .val (.long hs), .second, .val (.int (1 : Int32)), .val (.int (0 : Int32))] [(.int (own_cu xa hs))])) _
   refine XS.ifNo X7.here hx rfl (hb hby d21_34) rfl ((if0 _ _).trans (flt hc9).2.2.1) ?_
   refine XS.goto X7.here hx rfl (pc0 := 37) (pc' := 59) rfl (hb hby d21_37) (by decide) (by decide) ?_
   refine XS.aloadN X7.here hx rfl (hb hby d21_59) rfl rfl ?_
   refine st18 _ ?_
   refine XS.iloadN X18.here hx rfl (hb hby d21_63) rfl ?_
   refine XS.lloadN X18.here hx rfl (hb hby d21_64) rfl ?_
   refine st20 _ ?_
   exact X20.returnOut hx Bd.returns (hb hby d21_66) hr
  ·show QAHb Z lh hs hp sl ix mk xa xb xc kl k_hp h0 n0 _ T20.heap _
   rw [e20]
   exact ⟨rfl, N20, K20, ((E_lh.wr W2).wr W20), (Fld.other W20 (Fld.other W2 F_heap_lh (Or.inr (slot_ne (Or.inr (Wd hw 57 rfl)) (Or.inl (Wd hw 100 rfl)) (by decide) (t := (.array .long)) (t' := .int) (by decide) (by decide)))) (Or.inl nq_hp_lh.symm)), (Fld.other W20 F2 (Or.inl nq_hp_lh.symm)), (Fld.other W20 (Fld.other W2 F_slots_lh (Or.inr (slot_ne (Or.inr (Wd hw 67 rfl)) (Or.inl (Wd hw 100 rfl)) (by decide) (t := (.array .long)) (t' := .int) (by decide) (by decide)))) (Or.inl nq_hp_lh.symm)), (Fld.other W20 (Fld.other W2 F_indices_lh (Or.inr (slot_ne (Or.inr (Wd hw 70 rfl)) (Or.inl (Wd hw 100 rfl)) (by decide) (t := (.array .int)) (t' := .int) (by decide) (by decide)))) (Or.inl nq_hp_lh.symm)), (Fld.other W20 (Fld.other W2 F_mask_lh (Or.inr (slot_ne (Or.inr (Wd hw 76 rfl)) (Or.inl (Wd hw 100 rfl)) (by decide) (t := .int) (t' := .int) (by decide) (by decide)))) (Or.inl nq_hp_lh.symm)), Vt⟩
theorem efAHc (m : MethodId) (lh : Addr) (hs : Int64) : entryFrame m #[(.ref lh), (.long hs)] 5 = mkF m 0 #[.val (.ref lh), .val (.long hs), .second, .unset, .unset] [] := by first | (simp [entryFrame, mkF, argsToLocals, Value.category]; done) | rfl
def QAHc (Z : State) (lh : Addr) (hs : Int64) (hp : Addr) (sl : Addr) (ix : Addr) (mk : Int32) (xa : Int64) (xb : Int64) (xc : Int64) (kl : Int32) (k_hp : ClassId) (h0 : Heap) (n0 : Nat) (v : Option Value) (h : Heap) (L : List Loc) : Prop := v = none ∧ Fr n0 L ∧ Keep h0 h [lh, hp] ∧ Exa Z h lh cLH ∧ Fld Z h lh cLH "heap" "[J" (.ref hp) ∧ Fld Z h lh cLH "size" "I" (.int (3 : Int32)) ∧ Fld Z h lh cLH "slots" "[J" (.ref sl) ∧ Fld Z h lh cLH "indices" "[I" (.ref ix) ∧ Fld Z h lh cLH "mask" "I" (.int mk) ∧ Arv Z h hp k_hp .long kl [(.long (own_mn hs xa)), (.long xb), (.long (own_mx hs xa))] (.long (0 : Int64))
set_option maxRecDepth 65536 in
set_option maxHeartbeats 40000000 in
theorem rmAHc (l : Launch) (Z : State) (a0 : Array Value) (hw : ∀ d ∈ tables_1, d.before a0 Z = true) (ws : List Jvm.Cond) (lh : Addr) (hs : Int64) (hp : Addr) (sl : Addr) (ix : Addr) (mk : Int32) (xa : Int64) (xb : Int64) (xc : Int64) (kl : Int32) (k_hp : ClassId) (h0 : Heap) (n0 : Nat) (Z0 : n0 ≤ h0.size) (E_lh : Exa Z h0 lh cLH) (F_heap_lh : Fld Z h0 lh cLH "heap" "[J" (.ref hp)) (F_size_lh : Fld Z h0 lh cLH "size" "I" (.int (2 : Int32))) (F_slots_lh : Fld Z h0 lh cLH "slots" "[J" (.ref sl)) (F_indices_lh : Fld Z h0 lh cLH "indices" "[I" (.ref ix)) (F_mask_lh : Fld Z h0 lh cLH "mask" "I" (.int mk)) (V_hp : Arv Z h0 hp k_hp .long kl [(.long xa), (.long xb), (.long xc)] (.long (0 : Int64))) (hkp : (0 : Int32) < kl) (hzk : (2 : Int32) < kl) (g_lh : n0 ≤ lh) (g_hp : n0 ≤ hp) :
  MetFree l (⟨cLH, "addToHeap", "(J)V"⟩ : MethodName) (head1 (Jvm.Cond.code (⟨cLH, "addToHeap", "(J)V"⟩ : MethodName) prog_2_method_10_code 5 none :: ws) ({ frames := 2, cells := 0, slots := 0, locals := 50 } : Room)) (fun av_ U => av_ = #[(.ref lh), (.long hs)] ∧ Z.Warmed39 U.vm ∧ U.heap = h0) (fun _ _ _ _ _ => True) (fun _ U o U' => ∃ v L, o = .returned v ∧ QAHc Z lh hs hp sl ix mk xa xb xc kl k_hp h0 n0 v U'.heap L ∧ FrameEnd U o U' L ({ frames := 2, cells := 0, slots := 0, locals := 50 } : Room).cells ({ frames := 2, cells := 0, slots := 0, locals := 50 } : Room).slots) := by
 refine MetFree.of_bodySF (plainFor_of_name own_pn1) hisR ?_
 intro p e s m args below meth c s₁ Bd hml0 hP hK
 obtain ⟨rfl, hZ, hh⟩ := hP
 have hx := Bd.exec
 have hby := Bd.bytes
 have hml : c.maxLocals = 5 := hml0
 have hown : s.vm.findClass cLH = some m.cls := findClass_of_methodNamed Bd.named
 have hnm := (name_of_methodNamed Bd.named Bd.method).1
 have X0 : Stand p l e ({ frames := 2, cells := 0, slots := 0, locals := 50 } : Room) s m #[(.ref lh), (.long hs)] below meth c s₁ [] 0 0 := Stand.of_body Bd
 have e0 : s₁.heap = h0 := by rw [← hh, Bd.state]; rfl
 have N0 := Fr.nil n0
 have hlk : meth.locks = false := Bd.notSynchronized
 have pre0 : ∀ t, Steps p.tables e below (s₁.setTop (mkF m 0 #[.val (.ref lh), .val (.long hs), .second, .unset, .unset] [])) t → Steps p.tables e below (s₁.setTop (entryFrame m #[(.ref lh), (.long hs)] 5)) t := fun t k => castTop (efAHc m lh hs) k
 have nq_hp_lh : hp ≠ lh := (Ne.symm (Exa.neArv E_lh V_hp (Wd hw 49 rfl)))
 obtain ⟨T1, X1, e1, st1⟩ := getF X0 hx hZ hown (host := "") (Or.inl (Wd hw 99 rfl)) Via.refl e0 F_size_lh (g := (mkF m 2 #[.val (.ref lh), .val (.long hs), .second, .unset, .unset] [(.ref lh), (.ref lh)])) rfl rfl (hb hby d21_2)
 obtain ⟨T2, h2, X2, e2, W2, st2⟩ := putF X1 hx hZ hown (host := "") (Or.inl (Wd hw 99 rfl)) Via.refl e1 F_size_lh E_lh (Or.inl (Wd hw 100 rfl)) (Wd hw 49 rfl) (ty := .int) (by decide) rfl rfl (g := (mkF m 8 #[.val (.ref lh), .val (.long hs), .second, .unset, .unset] [(.int (3 : Int32)), (.ref lh), (.int (2 : Int32))])) rfl rfl (hb hby d21_8)
 have F2 : Fld Z h2 lh cLH "size" "I" (.int (3 : Int32)) := Fld.same W2 F_size_lh
 have K2 : Keep h0 h2 [lh, hp] := (Keep.refl h0 [lh, hp]).wr W2 (Or.inl (List.mem_of_getElem? (i := 0) rfl))
 have Zs2 : n0 ≤ h2.size := Nat.le_trans Z0 (Keep.of_wr W2).1
 have N2 := Fr.snoc X2 N0 g_lh
 have r3 : ∀ t, Steps p.tables e below (T2.setTop (mkF m 21 #[.val (.ref lh), .val (.long hs), .second, .val (.int (2 : Int32)), .unset] [(.int ((1 : Int32) / (2 : Int32)))])) t → Steps p.tables e below (s₁.setTop (mkF m 0 #[.val (.ref lh), .val (.long hs), .second, .unset, .unset] [])) t := fun t kt => by
  refine XS.aloadN X0.here hx rfl (hb hby d21_0) rfl rfl ?_
  refine XS.dup X0.here hx rfl (hb hby d21_1) rfl rfl ?_
  refine st1 _ ?_
  refine XS.dupX1 X1.here hx rfl (hb hby d21_5) rfl rfl rfl ?_
  refine XS.iconst X1.here hx rfl (hb hby d21_6) ?_
  refine XS.iadd X1.here hx rfl (hb hby d21_7) rfl ?_
  refine st2 _ ?_
  refine XS.istoreN X2.here hx rfl (hb hby d21_11) rfl (l' := #[.val (.ref lh), .val (.long hs), .second, .val (.int (2 : Int32)), .unset]) rfl ?_
  refine XS.iloadN X2.here hx rfl (hb hby d21_12) rfl ?_
  refine XS.ifNo X2.here hx rfl (hb hby d21_13) rfl ((if0 _ _).trans (tlt (by decide : (0 : Int32) < (2 : Int32))).2.2.2) ?_
  refine XS.iloadN X2.here hx rfl (hb hby d21_16) rfl ?_
  refine XS.iconst X2.here hx rfl (hb hby d21_17) ?_
  refine XS.isub X2.here hx rfl (hb hby d21_18) rfl ?_
  refine XS.iconst X2.here hx rfl (hb hby d21_19) ?_
  refine XS.idiv X2.here hx rfl (hb hby d21_20) rfl (by decide) ?_
  exact kt
 have r4 : ∀ t, Steps p.tables e below (T2.setTop (mkF m 21 #[.val (.ref lh), .val (.long hs), .second, .val (.int (2 : Int32)), .unset] [(.int (0 : Int32))])) t → Steps p.tables e below (T2.setTop (mkF m 21 #[.val (.ref lh), .val (.long hs), .second, .val (.int (2 : Int32)), .unset] [(.int ((1 : Int32) / (2 : Int32)))])) t := fun t kt => by
  have q : ((1 : Int32) / (2 : Int32)) = (0 : Int32) := (by decide)
  rw [q]
  exact kt
 obtain ⟨T5, X5, e5, st5⟩ := getF X2 hx hZ hown (host := "") (Or.inl (Wd hw 56 rfl)) Via.refl e2 (Fld.other W2 F_heap_lh (Or.inr (slot_ne (Or.inr (Wd hw 57 rfl)) (Or.inl (Wd hw 100 rfl)) (by decide) (t := (.array .long)) (t' := .int) (by decide) (by decide)))) (g := (mkF m 24 #[.val (.ref lh), .val (.long hs), .second, .val (.int (2 : Int32)), .val (.int (0 : Int32))] [(.ref lh)])) rfl rfl (hb hby d21_24)
 obtain ⟨cl6, Ar6, q6, S6, M6, Hs6, G6⟩ := (V_hp.other W2 nq_hp_lh)
 have hin6 : ¬ ((0 : Int32) < 0 ∨ cl6.slots.size ≤ ((0 : Int32)).toNatClampNeg) := inb_of S6 ⟨by decide, hkp⟩
 have hat6 : cl6.slots[((0 : Int32)).toNatClampNeg]? = some (.long xa) := Hs6.at hin6 rfl
 obtain ⟨_, _, ⟨T7, L7, k7, n7⟩, -, X7, ⟨Lc7, hQ7, l7, y7, z7⟩, st7⟩ := Jvm.LawKit.callS X5 hx (y := (⟨"java/lang/Long", "compareUnsigned", "(JJ)I"⟩ : MethodName)) hown (mvT hZ (Wd hw 139 rfl)) (mvT hZ (Wd hw 140 rfl)) (mvT hZ (Wd hw 141 rfl)) (mvT hZ (Wd hw 142 rfl)) (by decide) (backOf (W := 0) (rmCU l Z a0 hw [] xa hs h2 n0 Zs2 ) hZ (Wd hw 142 rfl) (Wd hw 141 rfl) (by decide) (by decide)) (g := (mkF m 31 #[.val (.ref lh), .val (.long hs), .second, .val (.int (2 : Int32)), .val (.int (0 : Int32))] [(.long hs), (.long xa)])) rfl (by rw [hml]; rfl) (argsL := [(.long xa), (.long hs)]) (rest := []) (lenOf own_pd0 rfl) rfl (by show 2 * 0 + _ ≤ _; exact Nat.le_of_eq rfl) (hb hby d21_31) (fun _ _ => ⟨rfl, e5, (by decide : 0 + 0 ≤ _), (by decide : 0 + 0 ≤ _)⟩)
 dsimp only [Pt.U, Pt.locs, Pt.cells, Pt.slots] at X7 l7 y7 z7 st7 hQ7
 subst l7 y7 z7
 obtain ⟨rfl, Nq7, e7⟩ := hQ7
 have N7 := Fr.app N2 Nq7
 have r8 : ∀ t, Steps p.tables e below (T7.setTop (mkF m 34 #[.val (.ref lh), .val (.long hs), .second, .val (.int (2 : Int32)), .val (.int (0 : Int32))] [(.int (own_cu xa hs))])) t → Steps p.tables e below (T2.setTop (mkF m 21 #[.val (.ref lh), .val (.long hs), .second, .val (.int (2 : Int32)), .unset] [(.int (0 : Int32))])) t := fun t kt => by
  refine XS.istore X2.here hx rfl (hb hby d21_21) rfl (l' := #[.val (.ref lh), .val (.long hs), .second, .val (.int (2 : Int32)), .val (.int (0 : Int32))]) rfl ?_
  refine XS.aloadN X2.here hx rfl (hb hby d21_23) rfl rfl ?_
  refine st5 _ ?_
  refine XS.iload X5.here hx rfl (hb hby d21_27) rfl ?_
  refine X5.laload hx (j := (0 : Int32)) (v := (.long xa)) (by rw [e5]; exact Ar6.1) (State.isArrayOf_alike hZ.alike Ar6.2.1) Ar6.2.2 hin6 hat6 (g := (mkF m 29 #[.val (.ref lh), .val (.long hs), .second, .val (.int (2 : Int32)), .val (.int (0 : Int32))] [(.int (0 : Int32)), (.ref hp)])) rfl rfl (hb hby d21_29) _ ?_
  refine XS.lloadN X5.here hx rfl (hb hby d21_30) rfl ?_
  refine st7 _ ?_
  exact kt
 by_cases hc9 : (0 : Int32) < (own_cu xa hs)
 ·obtain ⟨T10, X10, e10, st10⟩ := getF X7 hx hZ hown (host := "") (Or.inl (Wd hw 56 rfl)) Via.refl e7 (Fld.other W2 F_heap_lh (Or.inr (slot_ne (Or.inr (Wd hw 57 rfl)) (Or.inl (Wd hw 100 rfl)) (by decide) (t := (.array .long)) (t' := .int) (by decide) (by decide)))) (g := (mkF m 41 #[.val (.ref lh), .val (.long hs), .second, .val (.int (2 : Int32)), .val (.int (0 : Int32))] [(.ref lh)])) rfl rfl (hb hby d21_41)
  obtain ⟨T11, X11, e11, st11⟩ := getF X10 hx hZ hown (host := "") (Or.inl (Wd hw 56 rfl)) Via.refl e10 (Fld.other W2 F_heap_lh (Or.inr (slot_ne (Or.inr (Wd hw 57 rfl)) (Or.inl (Wd hw 100 rfl)) (by decide) (t := (.array .long)) (t' := .int) (by decide) (by decide)))) (g := (mkF m 46 #[.val (.ref lh), .val (.long hs), .second, .val (.int (2 : Int32)), .val (.int (0 : Int32))] [(.ref lh), (.int (2 : Int32)), (.ref hp)])) rfl rfl (hb hby d21_46)
  obtain ⟨cl12, Ar12, q12, S12, M12, Hs12, G12⟩ := (V_hp.other W2 nq_hp_lh)
  have hin12 : ¬ ((0 : Int32) < 0 ∨ cl12.slots.size ≤ ((0 : Int32)).toNatClampNeg) := inb_of S12 ⟨by decide, hkp⟩
  have hat12 : cl12.slots[((0 : Int32)).toNatClampNeg]? = some (.long xa) := Hs12.at hin12 rfl
  obtain ⟨cl13, Ar13, q13, S13, M13, Hs13, G13⟩ := (V_hp.other W2 nq_hp_lh)
  have hin13 : ¬ ((2 : Int32) < 0 ∨ cl13.slots.size ≤ ((2 : Int32)).toNatClampNeg) := inb_of S13 ⟨by decide, hzk⟩
  obtain ⟨T14, h14, X14, e14, W14, st14⟩ := stJ X11 hx hZ e11 Ar13 (j := (2 : Int32)) hin13 (g := (mkF m 52 #[.val (.ref lh), .val (.long hs), .second, .val (.int (2 : Int32)), .val (.int (0 : Int32))] [(.long xa), (.int (2 : Int32)), (.ref hp)])) rfl rfl (hb hby d21_52)
  have V14 : Arv Z h14 hp k_hp .long kl [(.long xa), (.long xb), (.long xa)] (.long (0 : Int64)) := Arv.set Ar13 q13 S13 M13 Hs13 G13 rfl W14 2 rfl (Nat.le_of_ble_eq_true rfl)
  have K14 : Keep h0 h14 [lh, hp] := K2.wr W14 (Or.inl (List.mem_of_getElem? (i := 1) rfl))
  have Zs14 : n0 ≤ h14.size := Nat.le_trans Zs2 (Keep.of_wr W14).1
  have N14 := Fr.snoc X14 N7 g_hp
  obtain ⟨T15, X15, e15, st15⟩ := getF X14 hx hZ hown (host := "") (Or.inl (Wd hw 56 rfl)) Via.refl e14 (Fld.other W14 (Fld.other W2 F_heap_lh (Or.inr (slot_ne (Or.inr (Wd hw 57 rfl)) (Or.inl (Wd hw 100 rfl)) (by decide) (t := (.array .long)) (t' := .int) (by decide) (by decide)))) (Or.inl nq_hp_lh.symm)) (g := (mkF m 60 #[.val (.ref lh), .val (.long hs), .second, .val (.int (0 : Int32)), .val (.int (0 : Int32))] [(.ref lh)])) rfl rfl (hb hby d21_60)
  obtain ⟨cl16, Ar16, q16, S16, M16, Hs16, G16⟩ := (id V14)
  have hin16 : ¬ ((0 : Int32) < 0 ∨ cl16.slots.size ≤ ((0 : Int32)).toNatClampNeg) := inb_of S16 ⟨by decide, hkp⟩
  obtain ⟨T17, h17, X17, e17, W17, st17⟩ := stJ X15 hx hZ e15 Ar16 (j := (0 : Int32)) hin16 (g := (mkF m 65 #[.val (.ref lh), .val (.long hs), .second, .val (.int (0 : Int32)), .val (.int (0 : Int32))] [(.long hs), (.int (0 : Int32)), (.ref hp)])) rfl rfl (hb hby d21_65)
  have V17 : Arv Z h17 hp k_hp .long kl [(.long hs), (.long xb), (.long xa)] (.long (0 : Int64)) := Arv.set Ar16 q16 S16 M16 Hs16 G16 rfl W17 0 rfl (Nat.le_of_ble_eq_true rfl)
  have K17 : Keep h0 h17 [lh, hp] := K14.wr W17 (Or.inl (List.mem_of_getElem? (i := 1) rfl))
  have Zs17 : n0 ≤ h17.size := Nat.le_trans Zs14 (Keep.of_wr W17).1
  have N17 := Fr.snoc X17 N14 g_hp
  have Vt : Arv Z h17 hp k_hp .long kl [(.long (own_mn hs xa)), (.long xb), (.long (own_mx hs xa))] (.long (0 : Int64)) := by
   have q := V17
   unfold own_mn own_mx
   rw [if_pos (own_cug.mp hc9), if_pos (own_cug.mp hc9)]
   exact q
  obtain ⟨fs, hr, hrun, hended, hW, hsame⟩ := X17.leave (v := none) (fun _ => rfl) hlk
  refine ⟨_, _, (pre0 _ (r3 _ (r4 _ (r8 _ ?_)))), hrun, hended, _, _, rfl, ?_, ⟨_, rfl⟩, hW, hsame.mono (by decide) (by decide)⟩
  ·show Steps p.tables e below (T7.setTop (mkF m 34 #[.val (.ref lh), .val (.long hs), .second, .val (.int (2 : Int32)), .val (.int (0 : Int32))] [(.int (own_cu xa hs))])) _
   refine XS.ifYes X7.here hx rfl (pc0 := 34) (pc' := 40) rfl (hb hby d21_34) rfl ((if0 _ _).trans (tlt hc9).2.2.1) (by decide) (by decide) ?_
   refine XS.aloadN X7.here hx rfl (hb hby d21_40) rfl rfl ?_
   refine st10 _ ?_
   refine XS.iloadN X10.here hx rfl (hb hby d21_44) rfl ?_
   refine XS.aloadN X10.here hx rfl (hb hby d21_45) rfl rfl ?_
   refine st11 _ ?_
   refine XS.iload X11.here hx rfl (hb hby d21_49) rfl ?_
   refine X11.laload hx (j := (0 : Int32)) (v := (.long xa)) (by rw [e11]; exact Ar12.1) (State.isArrayOf_alike hZ.alike Ar12.2.1) Ar12.2.2 hin12 hat12 (g := (mkF m 51 #[.val (.ref lh), .val (.long hs), .second, .val (.int (2 : Int32)), .val (.int (0 : Int32))] [(.int (0 : Int32)), (.ref hp), (.int (2 : Int32)), (.ref hp)])) rfl rfl (hb hby d21_51) _ ?_
   refine st14 _ ?_
   refine XS.iload X14.here hx rfl (hb hby d21_53) rfl ?_
   refine XS.istoreN X14.here hx rfl (hb hby d21_55) rfl (l' := #[.val (.ref lh), .val (.long hs), .second, .val (.int (0 : Int32)), .val (.int (0 : Int32))]) rfl ?_
   refine XS.goto X14.here hx rfl (pc0 := 56) (pc' := 12) rfl (hb hby d21_56) (by decide) (by decide) ?_
   refine XS.iloadN X14.here hx rfl (hb hby d21_12) rfl ?_
   refine XS.ifYes X14.here hx rfl (pc0 := 13) (pc' := 59) rfl (hb hby d21_13) rfl ((if0 _ _).trans (flt (by decide : ¬ ((0 : Int32) < (0 : Int32)))).2.2.2) (by decide) (by decide) ?_
   refine XS.aloadN X14.here hx rfl (hb hby d21_59) rfl rfl ?_
   refine st15 _ ?_
   refine XS.iloadN X15.here hx rfl (hb hby d21_63) rfl ?_
   refine XS.lloadN X15.here hx rfl (hb hby d21_64) rfl ?_
   refine st17 _ ?_
   exact X17.returnOut hx Bd.returns (hb hby d21_66) hr
  ·show QAHc Z lh hs hp sl ix mk xa xb xc kl k_hp h0 n0 _ T17.heap _
   rw [e17]
   exact ⟨rfl, N17, K17, (((E_lh.wr W2).wr W14).wr W17), (Fld.other W17 (Fld.other W14 (Fld.other W2 F_heap_lh (Or.inr (slot_ne (Or.inr (Wd hw 57 rfl)) (Or.inl (Wd hw 100 rfl)) (by decide) (t := (.array .long)) (t' := .int) (by decide) (by decide)))) (Or.inl nq_hp_lh.symm)) (Or.inl nq_hp_lh.symm)), (Fld.other W17 (Fld.other W14 F2 (Or.inl nq_hp_lh.symm)) (Or.inl nq_hp_lh.symm)), (Fld.other W17 (Fld.other W14 (Fld.other W2 F_slots_lh (Or.inr (slot_ne (Or.inr (Wd hw 67 rfl)) (Or.inl (Wd hw 100 rfl)) (by decide) (t := (.array .long)) (t' := .int) (by decide) (by decide)))) (Or.inl nq_hp_lh.symm)) (Or.inl nq_hp_lh.symm)), (Fld.other W17 (Fld.other W14 (Fld.other W2 F_indices_lh (Or.inr (slot_ne (Or.inr (Wd hw 70 rfl)) (Or.inl (Wd hw 100 rfl)) (by decide) (t := (.array .int)) (t' := .int) (by decide) (by decide)))) (Or.inl nq_hp_lh.symm)) (Or.inl nq_hp_lh.symm)), (Fld.other W17 (Fld.other W14 (Fld.other W2 F_mask_lh (Or.inr (slot_ne (Or.inr (Wd hw 76 rfl)) (Or.inl (Wd hw 100 rfl)) (by decide) (t := .int) (t' := .int) (by decide) (by decide)))) (Or.inl nq_hp_lh.symm)) (Or.inl nq_hp_lh.symm)), Vt⟩
 ·obtain ⟨T18, X18, e18, st18⟩ := getF X7 hx hZ hown (host := "") (Or.inl (Wd hw 56 rfl)) Via.refl e7 (Fld.other W2 F_heap_lh (Or.inr (slot_ne (Or.inr (Wd hw 57 rfl)) (Or.inl (Wd hw 100 rfl)) (by decide) (t := (.array .long)) (t' := .int) (by decide) (by decide)))) (g := (mkF m 60 #[.val (.ref lh), .val (.long hs), .second, .val (.int (2 : Int32)), .val (.int (0 : Int32))] [(.ref lh)])) rfl rfl (hb hby d21_60)
  obtain ⟨cl19, Ar19, q19, S19, M19, Hs19, G19⟩ := (V_hp.other W2 nq_hp_lh)
  have hin19 : ¬ ((2 : Int32) < 0 ∨ cl19.slots.size ≤ ((2 : Int32)).toNatClampNeg) := inb_of S19 ⟨by decide, hzk⟩
  obtain ⟨T20, h20, X20, e20, W20, st20⟩ := stJ X18 hx hZ e18 Ar19 (j := (2 : Int32)) hin19 (g := (mkF m 65 #[.val (.ref lh), .val (.long hs), .second, .val (.int (2 : Int32)), .val (.int (0 : Int32))] [(.long hs), (.int (2 : Int32)), (.ref hp)])) rfl rfl (hb hby d21_65)
  have V20 : Arv Z h20 hp k_hp .long kl [(.long xa), (.long xb), (.long hs)] (.long (0 : Int64)) := Arv.set Ar19 q19 S19 M19 Hs19 G19 rfl W20 2 rfl (Nat.le_of_ble_eq_true rfl)
  have K20 : Keep h0 h20 [lh, hp] := K2.wr W20 (Or.inl (List.mem_of_getElem? (i := 1) rfl))
  have Zs20 : n0 ≤ h20.size := Nat.le_trans Zs2 (Keep.of_wr W20).1
  have N20 := Fr.snoc X20 N7 g_hp
  have Vt : Arv Z h20 hp k_hp .long kl [(.long (own_mn hs xa)), (.long xb), (.long (own_mx hs xa))] (.long (0 : Int64)) := by
   have q := V20
   unfold own_mn own_mx
   rw [if_neg (fun q => hc9 (own_cug.mpr q)), if_neg (fun q => hc9 (own_cug.mpr q))]
   exact q
  obtain ⟨fs, hr, hrun, hended, hW, hsame⟩ := X20.leave (v := none) (fun _ => rfl) hlk
  refine ⟨_, _, (pre0 _ (r3 _ (r4 _ (r8 _ ?_)))), hrun, hended, _, _, rfl, ?_, ⟨_, rfl⟩, hW, hsame.mono (by decide) (by decide)⟩
  ·show Steps p.tables e below (T7.setTop (mkF m 34 #[.val (.ref lh), .val (.long hs), .second, .val (.int (2 : Int32)), .val (.int (0 : Int32))] [(.int (own_cu xa hs))])) _
   refine XS.ifNo X7.here hx rfl (hb hby d21_34) rfl ((if0 _ _).trans (flt hc9).2.2.1) ?_
   refine XS.goto X7.here hx rfl (pc0 := 37) (pc' := 59) rfl (hb hby d21_37) (by decide) (by decide) ?_
   refine XS.aloadN X7.here hx rfl (hb hby d21_59) rfl rfl ?_
   refine st18 _ ?_
   refine XS.iloadN X18.here hx rfl (hb hby d21_63) rfl ?_
   refine XS.lloadN X18.here hx rfl (hb hby d21_64) rfl ?_
   refine st20 _ ?_
   exact X20.returnOut hx Bd.returns (hb hby d21_66) hr
  ·show QAHc Z lh hs hp sl ix mk xa xb xc kl k_hp h0 n0 _ T20.heap _
   rw [e20]
   exact ⟨rfl, N20, K20, ((E_lh.wr W2).wr W20), (Fld.other W20 (Fld.other W2 F_heap_lh (Or.inr (slot_ne (Or.inr (Wd hw 57 rfl)) (Or.inl (Wd hw 100 rfl)) (by decide) (t := (.array .long)) (t' := .int) (by decide) (by decide)))) (Or.inl nq_hp_lh.symm)), (Fld.other W20 F2 (Or.inl nq_hp_lh.symm)), (Fld.other W20 (Fld.other W2 F_slots_lh (Or.inr (slot_ne (Or.inr (Wd hw 67 rfl)) (Or.inl (Wd hw 100 rfl)) (by decide) (t := (.array .long)) (t' := .int) (by decide) (by decide)))) (Or.inl nq_hp_lh.symm)), (Fld.other W20 (Fld.other W2 F_indices_lh (Or.inr (slot_ne (Or.inr (Wd hw 70 rfl)) (Or.inl (Wd hw 100 rfl)) (by decide) (t := (.array .int)) (t' := .int) (by decide) (by decide)))) (Or.inl nq_hp_lh.symm)), (Fld.other W20 (Fld.other W2 F_mask_lh (Or.inr (slot_ne (Or.inr (Wd hw 76 rfl)) (Or.inl (Wd hw 100 rfl)) (by decide) (t := .int) (t' := .int) (by decide) (by decide)))) (Or.inl nq_hp_lh.symm)), Vt⟩
theorem own_pd3 : parseMethodDescriptor "(J)V" = some ⟨[.long], none⟩ := by decide +kernel
theorem d20_0 : decode prog_2_method_6_code 0 = .ok (.aload_n 0, 1) := by decide +kernel
theorem d20_1 : decode prog_2_method_6_code 1 = .ok (.invokevirtual 39, 3) := by decide +kernel
theorem d20_4 : decode prog_2_method_6_code 4 = .ok (.ifCond .eq 22, 3) := by decide +kernel
theorem d20_26 : decode prog_2_method_6_code 26 = .ok (.aload_n 0, 1) := by decide +kernel
theorem d20_27 : decode prog_2_method_6_code 27 = .ok (.getfield 36, 3) := by decide +kernel
theorem d20_30 : decode prog_2_method_6_code 30 = .ok (.istore_n 3, 1) := by decide +kernel
theorem d20_31 : decode prog_2_method_6_code 31 = .ok (.aload_n 0, 1) := by decide +kernel
theorem d20_32 : decode prog_2_method_6_code 32 = .ok (.lload_n 1, 1) := by decide +kernel
theorem d20_33 : decode prog_2_method_6_code 33 = .ok (.invokevirtual 60, 3) := by decide +kernel
theorem d20_36 : decode prog_2_method_6_code 36 = .ok (.aload_n 0, 1) := by decide +kernel
theorem d20_37 : decode prog_2_method_6_code 37 = .ok (.lload_n 1, 1) := by decide +kernel
theorem d20_38 : decode prog_2_method_6_code 38 = .ok (.invokevirtual 49, 3) := by decide +kernel
theorem d20_41 : decode prog_2_method_6_code 41 = .ok (.istore 4, 2) := by decide +kernel
theorem d20_43 : decode prog_2_method_6_code 43 = .ok (.aload_n 0, 1) := by decide +kernel
theorem d20_44 : decode prog_2_method_6_code 44 = .ok (.getfield 19, 3) := by decide +kernel
theorem d20_47 : decode prog_2_method_6_code 47 = .ok (.iload 4, 2) := by decide +kernel
theorem d20_49 : decode prog_2_method_6_code 49 = .ok (.lload_n 1, 1) := by decide +kernel
theorem d20_50 : decode prog_2_method_6_code 50 = .ok (.lastore, 1) := by decide +kernel
theorem d20_51 : decode prog_2_method_6_code 51 = .ok (.aload_n 0, 1) := by decide +kernel
theorem d20_52 : decode prog_2_method_6_code 52 = .ok (.getfield 22, 3) := by decide +kernel
theorem d20_55 : decode prog_2_method_6_code 55 = .ok (.iload 4, 2) := by decide +kernel
theorem d20_57 : decode prog_2_method_6_code 57 = .ok (.iload_n 3, 1) := by decide +kernel
theorem d20_58 : decode prog_2_method_6_code 58 = .ok (.iastore, 1) := by decide +kernel
theorem d20_59 : decode prog_2_method_6_code 59 = .ok (.iload_n 3, 1) := by decide +kernel
theorem d20_60 : decode prog_2_method_6_code 60 = .ok (.ireturn, 1) := by decide +kernel
theorem efANa (m : MethodId) (lh : Addr) (hs : Int64) : entryFrame m #[(.ref lh), (.long hs)] 5 = mkF m 0 #[.val (.ref lh), .val (.long hs), .second, .unset, .unset] [] := by first | (simp [entryFrame, mkF, argsToLocals, Value.category]; done) | rfl
def QANa (Z : State) (lh : Addr) (hs : Int64) (hp : Addr) (sl : Addr) (ix : Addr) (mk : Int32) (xa : Int64) (xb : Int64) (xc : Int64) (kl : Int32) (k_hp : ClassId) (nl : Int32) (k_sl : ClassId) (sv : List Int64) (k_ix : ClassId) (iv : List Int32) (rr : Int32) (h0 : Heap) (n0 : Nat) (v : Option Value) (h : Heap) (L : List Loc) : Prop := v = some (.int (0 : Int32)) ∧ Fr n0 L ∧ Keep h0 h [lh, hp, sl, ix] ∧ Exa Z h lh cLH ∧ Fld Z h lh cLH "heap" "[J" (.ref hp) ∧ Fld Z h lh cLH "size" "I" (.int (1 : Int32)) ∧ Fld Z h lh cLH "slots" "[J" (.ref sl) ∧ Fld Z h lh cLH "indices" "[I" (.ref ix) ∧ Fld Z h lh cLH "mask" "I" (.int mk) ∧ Arv Z h hp k_hp .long kl [(.long hs), (.long xb), (.long xc)] (.long (0 : Int64)) ∧ Arv Z h sl k_sl .long nl ((sv.set rr.toNatClampNeg hs).map Value.long) (.long (0 : Int64)) ∧ Arv Z h ix k_ix .int nl ((iv.set rr.toNatClampNeg (0 : Int32)).map Value.int) (.int (0 : Int32))
set_option maxRecDepth 65536 in
set_option maxHeartbeats 40000000 in
theorem rmANa (l : Launch) (Z : State) (a0 : Array Value) (hw : ∀ d ∈ tables_1, d.before a0 Z = true) (ws : List Jvm.Cond) (lh : Addr) (hs : Int64) (hp : Addr) (sl : Addr) (ix : Addr) (mk : Int32) (xa : Int64) (xb : Int64) (xc : Int64) (kl : Int32) (k_hp : ClassId) (nl : Int32) (k_sl : ClassId) (sv : List Int64) (k_ix : ClassId) (iv : List Int32) (rr : Int32) (h0 : Heap) (n0 : Nat) (Z0 : n0 ≤ h0.size) (E_lh : Exa Z h0 lh cLH) (F_heap_lh : Fld Z h0 lh cLH "heap" "[J" (.ref hp)) (F_size_lh : Fld Z h0 lh cLH "size" "I" (.int (0 : Int32))) (F_slots_lh : Fld Z h0 lh cLH "slots" "[J" (.ref sl)) (F_indices_lh : Fld Z h0 lh cLH "indices" "[I" (.ref ix)) (F_mask_lh : Fld Z h0 lh cLH "mask" "I" (.int mk)) (V_hp : Arv Z h0 hp k_hp .long kl [(.long xa), (.long xb), (.long xc)] (.long (0 : Int64))) (V_sl : Arv Z h0 sl k_sl .long nl (sv.map Value.long) (.long (0 : Int64))) (V_ix : Arv Z h0 ix k_ix .int nl (iv.map Value.int) (.int (0 : Int32))) (K : own_kmn kl mk nl) (hr : own_run sv iv mk hs 8 (hs.toInt32 &&& mk) = some rr) (hl8 : sv.length = 8 ∧ iv.length = 8) (hzk : (0 : Int32) < kl) (ne_hp_sl : hp ≠ sl) (g_lh : n0 ≤ lh) (g_hp : n0 ≤ hp) (g_sl : n0 ≤ sl) (g_ix : n0 ≤ ix) :
  MetFree l (⟨cLH, "add", "(J)I"⟩ : MethodName) (head1 (Jvm.Cond.code (⟨cLH, "add", "(J)I"⟩ : MethodName) prog_2_method_6_code 5 (some .int) :: ws) ({ frames := 3, cells := 0, slots := 0, locals := 80 } : Room)) (fun av_ U => av_ = #[(.ref lh), (.long hs)] ∧ Z.Warmed39 U.vm ∧ U.heap = h0) (fun _ _ _ _ _ => True) (fun _ U o U' => ∃ v L, o = .returned v ∧ QANa Z lh hs hp sl ix mk xa xb xc kl k_hp nl k_sl sv k_ix iv rr h0 n0 v U'.heap L ∧ FrameEnd U o U' L ({ frames := 3, cells := 0, slots := 0, locals := 80 } : Room).cells ({ frames := 3, cells := 0, slots := 0, locals := 80 } : Room).slots) := by
 refine MetFree.of_bodySF (plainFor_of_name own_pn1) hisR ?_
 intro p e s m args below meth c s₁ Bd hml0 hP hK
 obtain ⟨rfl, hZ, hh⟩ := hP
 have hx := Bd.exec
 have hby := Bd.bytes
 have hml : c.maxLocals = 5 := hml0
 have hown : s.vm.findClass cLH = some m.cls := findClass_of_methodNamed Bd.named
 have hnm := (name_of_methodNamed Bd.named Bd.method).1
 have X0 : Stand p l e ({ frames := 3, cells := 0, slots := 0, locals := 80 } : Room) s m #[(.ref lh), (.long hs)] below meth c s₁ [] 0 0 := Stand.of_body Bd
 have e0 : s₁.heap = h0 := by rw [← hh, Bd.state]; rfl
 have N0 := Fr.nil n0
 have hlk : meth.locks = false := Bd.notSynchronized
 have pre0 : ∀ t, Steps p.tables e below (s₁.setTop (mkF m 0 #[.val (.ref lh), .val (.long hs), .second, .unset, .unset] [])) t → Steps p.tables e below (s₁.setTop (entryFrame m #[(.ref lh), (.long hs)] 5)) t := fun t k => castTop (efANa m lh hs) k
 have nq_sl_lh : sl ≠ lh := (Ne.symm (Exa.neArv E_lh V_sl (Wd hw 49 rfl)))
 have nq_ix_hp : ix ≠ hp := (own_neT V_ix V_hp (by simp))
 have nq_ix_lh : ix ≠ lh := (Ne.symm (Exa.neArv E_lh V_ix (Wd hw 49 rfl)))
 have nq_ix_sl : ix ≠ sl := (own_neT V_ix V_sl (by simp))
 have hri := own_runin K 8 _ (own_andin K _) hr
 obtain ⟨cq1, qa1, qb1⟩ := E_lh.cell
 obtain ⟨_, _, ⟨T1, L1, k1, n1⟩, -, X1, ⟨Lc1, hQ1, l1, y1, z1⟩, st1⟩ := X0.privateBack hx (y := (⟨cLH, "full", "()Z"⟩ : MethodName)) hown (mvT hZ (Wd hw 95 rfl)) (mvT hZ (Wd hw 96 rfl)) (selfInst hZ (Wd hw 49 rfl) (Wd hw 96 rfl) (Wd hw 97 rfl) (by decide)) (Cond.privateMethod_at (mvP hZ (Wd hw 97 rfl) (args := #[]))) (mvT hZ (Wd hw 98 rfl)) (by decide) (backOf (W := 0) (rmFU l Z a0 hw [] lh hp (0 : Int32) xa xb xc kl k_hp h0 n0 Z0 E_lh F_heap_lh F_size_lh V_hp) hZ (Wd hw 98 rfl) (Wd hw 50 rfl) (by decide) (by decide)) (g := (mkF m 1 #[.val (.ref lh), .val (.long hs), .second, .unset, .unset] [(.ref lh)])) rfl (by rw [hml]; rfl) (Steps.refl _) (a := lh) (by rw [e0]; exact qa1) qb1 (argsL := []) (rest := []) (lenOf own_pd1 rfl) rfl (by show 2 * 0 + _ ≤ _; exact Nat.le_of_eq rfl) (hb hby d20_1) (fun _ _ => ⟨rfl, e0, (by decide : 0 + 0 ≤ _), (by decide : 0 + 0 ≤ _)⟩)
 dsimp only [Pt.U, Pt.locs, Pt.cells, Pt.slots] at X1 l1 y1 z1 st1 hQ1
 subst l1 y1 z1
 obtain ⟨rfl, Nq1, e1⟩ := hQ1
 have N1 := Fr.app N0 Nq1
 obtain ⟨T2, X2, e2, st2⟩ := getF X1 hx hZ hown (host := "") (Or.inl (Wd hw 99 rfl)) Via.refl e1 F_size_lh (g := (mkF m 27 #[.val (.ref lh), .val (.long hs), .second, .unset, .unset] [(.ref lh)])) rfl rfl (hb hby d20_27)
 obtain ⟨cq3, qa3, qb3⟩ := E_lh.cell
 obtain ⟨_, _, ⟨T3, L3, k3, n3⟩, -, X3, ⟨Lc3, hQ3, l3, y3, z3⟩, st3⟩ := X2.privateBack hx (y := (⟨cLH, "addToHeap", "(J)V"⟩ : MethodName)) hown (mvT hZ (Wd hw 132 rfl)) (mvT hZ (Wd hw 133 rfl)) (selfInst hZ (Wd hw 49 rfl) (Wd hw 133 rfl) (Wd hw 134 rfl) (by decide)) (Cond.privateMethod_at (mvP hZ (Wd hw 134 rfl) (args := #[]))) (mvT hZ (Wd hw 135 rfl)) (by decide) (backOf (W := 0) (rmAHa l Z a0 hw [] lh hs hp sl ix mk xa xb xc kl k_hp h0 n0 Z0 E_lh F_heap_lh F_size_lh F_slots_lh F_indices_lh F_mask_lh V_hp (own_kpos K) hzk g_lh g_hp) hZ (Wd hw 135 rfl) (Wd hw 50 rfl) (by decide) (by decide)) (g := (mkF m 33 #[.val (.ref lh), .val (.long hs), .second, .val (.int (0 : Int32)), .unset] [(.long hs), (.ref lh)])) rfl (by rw [hml]; rfl) (Steps.refl _) (a := lh) (by rw [e2]; exact qa3) qb3 (argsL := [(.long hs)]) (rest := []) (lenOf own_pd3 rfl) rfl (by show 2 * 0 + _ ≤ _; exact Nat.le_of_eq rfl) (hb hby d20_33) (fun _ _ => ⟨rfl, e2, (by decide : 0 + 0 ≤ _), (by decide : 0 + 0 ≤ _)⟩)
 dsimp only [Pt.U, Pt.locs, Pt.cells, Pt.slots] at X3 l3 y3 z3 st3 hQ3
 subst l3 y3 z3
 obtain ⟨rfl, Nq3, Kc3, q3_0, q3_1, q3_2, q3_3, q3_4, q3_5, q3_6⟩ := hQ3
 have K3 : Keep h0 T3.heap [lh, hp, sl, ix] := Keep.trans (Keep.refl h0 [lh, hp, sl, ix]) Kc3 (allS (Or.inl (List.mem_of_getElem? (i := 0) rfl)) (allS (Or.inl (List.mem_of_getElem? (i := 1) rfl)) all0))
 have Zs3 : n0 ≤ T3.heap.size := Nat.le_trans Z0 Kc3.1
 have N3 := Fr.app N1 Nq3
 obtain ⟨cq4, qa4, qb4⟩ := q3_0.cell
 obtain ⟨_, _, ⟨T4, L4, k4, n4⟩, -, X4, ⟨Lc4, hQ4, l4, y4, z4⟩, st4⟩ := X3.privateBack hx (y := (⟨cLH, "slotOf", "(J)I"⟩ : MethodName)) hown (mvT hZ (Wd hw 101 rfl)) (mvT hZ (Wd hw 102 rfl)) (selfInst hZ (Wd hw 49 rfl) (Wd hw 102 rfl) (Wd hw 103 rfl) (by decide)) (Cond.privateMethod_at (mvP hZ (Wd hw 103 rfl) (args := #[]))) (mvT hZ (Wd hw 104 rfl)) (by decide) (backOf (W := 0) (rmSO l Z a0 hw [] lh hs sl ix mk nl k_sl sv k_ix iv kl rr T3.heap n0 Zs3 q3_0 q3_3 q3_4 q3_5 (V_sl.keep Kc3 (ninS nq_sl_lh (ninS (Ne.symm ne_hp_sl) nin0))) (V_ix.keep Kc3 (ninS nq_ix_lh (ninS nq_ix_hp nin0))) K hr) hZ (Wd hw 104 rfl) (Wd hw 50 rfl) (by decide) (by decide)) (g := (mkF m 38 #[.val (.ref lh), .val (.long hs), .second, .val (.int (0 : Int32)), .unset] [(.long hs), (.ref lh)])) rfl (by rw [hml]; rfl) (Steps.refl _) (a := lh) qa4 qb4 (argsL := [(.long hs)]) (rest := []) (lenOf own_pd2 rfl) rfl (by show 2 * 0 + _ ≤ _; exact Nat.le_of_eq rfl) (hb hby d20_38) (fun _ _ => ⟨rfl, rfl, (by decide : 0 + 0 ≤ _), (by decide : 0 + 0 ≤ _)⟩)
 dsimp only [Pt.U, Pt.locs, Pt.cells, Pt.slots] at X4 l4 y4 z4 st4 hQ4
 subst l4 y4 z4
 obtain ⟨rfl, Nq4, e4⟩ := hQ4
 have N4 := Fr.app N3 Nq4
 obtain ⟨T5, X5, e5, st5⟩ := getF X4 hx hZ hown (host := "") (Or.inl (Wd hw 66 rfl)) Via.refl e4 q3_3 (g := (mkF m 44 #[.val (.ref lh), .val (.long hs), .second, .val (.int (0 : Int32)), .val (.int rr)] [(.ref lh)])) rfl rfl (hb hby d20_44)
 obtain ⟨cl6, Ar6, q6, S6, M6, Hs6, G6⟩ := (V_sl.keep Kc3 (ninS nq_sl_lh (ninS (Ne.symm ne_hp_sl) nin0)))
 have hin6 : ¬ (rr < 0 ∨ cl6.slots.size ≤ (rr).toNatClampNeg) := inb_of S6 (own_inb K hri)
 obtain ⟨T7, h7, X7, e7, W7, st7⟩ := stJ X5 hx hZ e5 Ar6 (j := rr) hin6 (g := (mkF m 50 #[.val (.ref lh), .val (.long hs), .second, .val (.int (0 : Int32)), .val (.int rr)] [(.long hs), (.int rr), (.ref sl)])) rfl rfl (hb hby d20_50)
 have V7 : Arv Z h7 sl k_sl .long nl ((sv.set rr.toNatClampNeg hs).map Value.long) (.long (0 : Int64)) := by
  rw [List.map_set]
  exact Arv.set Ar6 q6 S6 M6 Hs6 G6 rfl W7 rr.toNatClampNeg rfl (by first | (rw [List.length_map]; exact (own_sl K hri (by simp [hl8.1, hl8.2]))) | exact (own_sl K hri (by simp [hl8.1, hl8.2])))
 have K7 : Keep h0 h7 [lh, hp, sl, ix] := K3.wr W7 (Or.inl (List.mem_of_getElem? (i := 2) rfl))
 have Zs7 : n0 ≤ h7.size := Nat.le_trans Zs3 (Keep.of_wr W7).1
 have N7 := Fr.snoc X7 N4 g_sl
 obtain ⟨T8, X8, e8, st8⟩ := getF X7 hx hZ hown (host := "") (Or.inl (Wd hw 69 rfl)) Via.refl e7 (Fld.other W7 q3_4 (Or.inl nq_sl_lh.symm)) (g := (mkF m 52 #[.val (.ref lh), .val (.long hs), .second, .val (.int (0 : Int32)), .val (.int rr)] [(.ref lh)])) rfl rfl (hb hby d20_52)
 obtain ⟨cl9, Ar9, q9, S9, M9, Hs9, G9⟩ := ((V_ix.keep Kc3 (ninS nq_ix_lh (ninS nq_ix_hp nin0))).other W7 nq_ix_sl)
 have hin9 : ¬ (rr < 0 ∨ cl9.slots.size ≤ (rr).toNatClampNeg) := inb_of S9 (own_inb K hri)
 obtain ⟨T10, h10, X10, e10, W10, st10⟩ := stI X8 hx hZ e8 Ar9 (j := rr) hin9 (g := (mkF m 58 #[.val (.ref lh), .val (.long hs), .second, .val (.int (0 : Int32)), .val (.int rr)] [(.int (0 : Int32)), (.int rr), (.ref ix)])) rfl rfl (hb hby d20_58)
 have V10 : Arv Z h10 ix k_ix .int nl ((iv.set rr.toNatClampNeg (0 : Int32)).map Value.int) (.int (0 : Int32)) := by
  rw [List.map_set]
  exact Arv.set Ar9 q9 S9 M9 Hs9 G9 rfl W10 rr.toNatClampNeg rfl (by first | (rw [List.length_map]; exact (own_sl K hri (by simp [hl8.1, hl8.2]))) | exact (own_sl K hri (by simp [hl8.1, hl8.2])))
 have K10 : Keep h0 h10 [lh, hp, sl, ix] := K7.wr W10 (Or.inl (List.mem_of_getElem? (i := 3) rfl))
 have Zs10 : n0 ≤ h10.size := Nat.le_trans Zs7 (Keep.of_wr W10).1
 have N10 := Fr.snoc X10 N7 g_ix
 obtain ⟨fs, hr, hrun, hended, hW, hsame⟩ := X10.leave (v := some (.int (0 : Int32))) (fun h => by rw [Bd.returns] at h; cases h) hlk
 refine ⟨_, _, (pre0 _ ?_), hrun, hended, _, _, rfl, ?_, ⟨_, rfl⟩, hW, hsame.mono (by decide) (by decide)⟩
 ·show Steps p.tables e below (s₁.setTop (mkF m 0 #[.val (.ref lh), .val (.long hs), .second, .unset, .unset] [])) _
  refine XS.aloadN X0.here hx rfl (hb hby d20_0) rfl rfl ?_
  refine st1.trans ?_
  refine XS.ifYes X1.here hx rfl (pc0 := 4) (pc' := 26) rfl (hb hby d20_4) rfl ((if0 _ _).trans (teq (own_flN hzk)).1) (by decide) (by decide) ?_
  refine XS.aloadN X1.here hx rfl (hb hby d20_26) rfl rfl ?_
  refine st2 _ ?_
  refine XS.istoreN X2.here hx rfl (hb hby d20_30) rfl (l' := #[.val (.ref lh), .val (.long hs), .second, .val (.int (0 : Int32)), .unset]) rfl ?_
  refine XS.aloadN X2.here hx rfl (hb hby d20_31) rfl rfl ?_
  refine XS.lloadN X2.here hx rfl (hb hby d20_32) rfl ?_
  refine st3.trans ?_
  refine XS.aloadN X3.here hx rfl (hb hby d20_36) rfl rfl ?_
  refine XS.lloadN X3.here hx rfl (hb hby d20_37) rfl ?_
  refine st4.trans ?_
  refine XS.istore X4.here hx rfl (hb hby d20_41) rfl (l' := #[.val (.ref lh), .val (.long hs), .second, .val (.int (0 : Int32)), .val (.int rr)]) rfl ?_
  refine XS.aloadN X4.here hx rfl (hb hby d20_43) rfl rfl ?_
  refine st5 _ ?_
  refine XS.iload X5.here hx rfl (hb hby d20_47) rfl ?_
  refine XS.lloadN X5.here hx rfl (hb hby d20_49) rfl ?_
  refine st7 _ ?_
  refine XS.aloadN X7.here hx rfl (hb hby d20_51) rfl rfl ?_
  refine st8 _ ?_
  refine XS.iload X8.here hx rfl (hb hby d20_55) rfl ?_
  refine XS.iloadN X8.here hx rfl (hb hby d20_57) rfl ?_
  refine st10 _ ?_
  refine XS.iloadN X10.here hx rfl (hb hby d20_59) rfl ?_
  exact retI X10 hx Bd.returns (hb hby d20_60) hr
 ·show QANa Z lh hs hp sl ix mk xa xb xc kl k_hp nl k_sl sv k_ix iv rr h0 n0 _ T10.heap _
  rw [e10]
  exact ⟨rfl, N10, K10, ((q3_0.wr W7).wr W10), (Fld.other W10 (Fld.other W7 q3_1 (Or.inl nq_sl_lh.symm)) (Or.inl nq_ix_lh.symm)), (Fld.other W10 (Fld.other W7 q3_2 (Or.inl nq_sl_lh.symm)) (Or.inl nq_ix_lh.symm)), (Fld.other W10 (Fld.other W7 q3_3 (Or.inl nq_sl_lh.symm)) (Or.inl nq_ix_lh.symm)), (Fld.other W10 (Fld.other W7 q3_4 (Or.inl nq_sl_lh.symm)) (Or.inl nq_ix_lh.symm)), (Fld.other W10 (Fld.other W7 q3_5 (Or.inl nq_sl_lh.symm)) (Or.inl nq_ix_lh.symm)), ((q3_6.other W7 ne_hp_sl).other W10 nq_ix_hp.symm), (V7.other W10 nq_ix_sl.symm), V10⟩
theorem efANb (m : MethodId) (lh : Addr) (hs : Int64) : entryFrame m #[(.ref lh), (.long hs)] 5 = mkF m 0 #[.val (.ref lh), .val (.long hs), .second, .unset, .unset] [] := by first | (simp [entryFrame, mkF, argsToLocals, Value.category]; done) | rfl
def QANb (Z : State) (lh : Addr) (hs : Int64) (hp : Addr) (sl : Addr) (ix : Addr) (mk : Int32) (xa : Int64) (xb : Int64) (xc : Int64) (kl : Int32) (k_hp : ClassId) (nl : Int32) (k_sl : ClassId) (sv : List Int64) (k_ix : ClassId) (iv : List Int32) (rr : Int32) (h0 : Heap) (n0 : Nat) (v : Option Value) (h : Heap) (L : List Loc) : Prop := v = some (.int (1 : Int32)) ∧ Fr n0 L ∧ Keep h0 h [lh, hp, sl, ix] ∧ Exa Z h lh cLH ∧ Fld Z h lh cLH "heap" "[J" (.ref hp) ∧ Fld Z h lh cLH "size" "I" (.int (2 : Int32)) ∧ Fld Z h lh cLH "slots" "[J" (.ref sl) ∧ Fld Z h lh cLH "indices" "[I" (.ref ix) ∧ Fld Z h lh cLH "mask" "I" (.int mk) ∧ Arv Z h hp k_hp .long kl [(.long (own_mn hs xa)), (.long (own_mx hs xa)), (.long xc)] (.long (0 : Int64)) ∧ Arv Z h sl k_sl .long nl ((sv.set rr.toNatClampNeg hs).map Value.long) (.long (0 : Int64)) ∧ Arv Z h ix k_ix .int nl ((iv.set rr.toNatClampNeg (1 : Int32)).map Value.int) (.int (0 : Int32))
set_option maxRecDepth 65536 in
set_option maxHeartbeats 40000000 in
theorem rmANb (l : Launch) (Z : State) (a0 : Array Value) (hw : ∀ d ∈ tables_1, d.before a0 Z = true) (ws : List Jvm.Cond) (lh : Addr) (hs : Int64) (hp : Addr) (sl : Addr) (ix : Addr) (mk : Int32) (xa : Int64) (xb : Int64) (xc : Int64) (kl : Int32) (k_hp : ClassId) (nl : Int32) (k_sl : ClassId) (sv : List Int64) (k_ix : ClassId) (iv : List Int32) (rr : Int32) (h0 : Heap) (n0 : Nat) (Z0 : n0 ≤ h0.size) (E_lh : Exa Z h0 lh cLH) (F_heap_lh : Fld Z h0 lh cLH "heap" "[J" (.ref hp)) (F_size_lh : Fld Z h0 lh cLH "size" "I" (.int (1 : Int32))) (F_slots_lh : Fld Z h0 lh cLH "slots" "[J" (.ref sl)) (F_indices_lh : Fld Z h0 lh cLH "indices" "[I" (.ref ix)) (F_mask_lh : Fld Z h0 lh cLH "mask" "I" (.int mk)) (V_hp : Arv Z h0 hp k_hp .long kl [(.long xa), (.long xb), (.long xc)] (.long (0 : Int64))) (V_sl : Arv Z h0 sl k_sl .long nl (sv.map Value.long) (.long (0 : Int64))) (V_ix : Arv Z h0 ix k_ix .int nl (iv.map Value.int) (.int (0 : Int32))) (K : own_kmn kl mk nl) (hr : own_run sv iv mk hs 8 (hs.toInt32 &&& mk) = some rr) (hl8 : sv.length = 8 ∧ iv.length = 8) (hzk : (1 : Int32) < kl) (ne_hp_sl : hp ≠ sl) (g_lh : n0 ≤ lh) (g_hp : n0 ≤ hp) (g_sl : n0 ≤ sl) (g_ix : n0 ≤ ix) :
  MetFree l (⟨cLH, "add", "(J)I"⟩ : MethodName) (head1 (Jvm.Cond.code (⟨cLH, "add", "(J)I"⟩ : MethodName) prog_2_method_6_code 5 (some .int) :: ws) ({ frames := 3, cells := 0, slots := 0, locals := 80 } : Room)) (fun av_ U => av_ = #[(.ref lh), (.long hs)] ∧ Z.Warmed39 U.vm ∧ U.heap = h0) (fun _ _ _ _ _ => True) (fun _ U o U' => ∃ v L, o = .returned v ∧ QANb Z lh hs hp sl ix mk xa xb xc kl k_hp nl k_sl sv k_ix iv rr h0 n0 v U'.heap L ∧ FrameEnd U o U' L ({ frames := 3, cells := 0, slots := 0, locals := 80 } : Room).cells ({ frames := 3, cells := 0, slots := 0, locals := 80 } : Room).slots) := by
 refine MetFree.of_bodySF (plainFor_of_name own_pn1) hisR ?_
 intro p e s m args below meth c s₁ Bd hml0 hP hK
 obtain ⟨rfl, hZ, hh⟩ := hP
 have hx := Bd.exec
 have hby := Bd.bytes
 have hml : c.maxLocals = 5 := hml0
 have hown : s.vm.findClass cLH = some m.cls := findClass_of_methodNamed Bd.named
 have hnm := (name_of_methodNamed Bd.named Bd.method).1
 have X0 : Stand p l e ({ frames := 3, cells := 0, slots := 0, locals := 80 } : Room) s m #[(.ref lh), (.long hs)] below meth c s₁ [] 0 0 := Stand.of_body Bd
 have e0 : s₁.heap = h0 := by rw [← hh, Bd.state]; rfl
 have N0 := Fr.nil n0
 have hlk : meth.locks = false := Bd.notSynchronized
 have pre0 : ∀ t, Steps p.tables e below (s₁.setTop (mkF m 0 #[.val (.ref lh), .val (.long hs), .second, .unset, .unset] [])) t → Steps p.tables e below (s₁.setTop (entryFrame m #[(.ref lh), (.long hs)] 5)) t := fun t k => castTop (efANb m lh hs) k
 have nq_sl_lh : sl ≠ lh := (Ne.symm (Exa.neArv E_lh V_sl (Wd hw 49 rfl)))
 have nq_ix_hp : ix ≠ hp := (own_neT V_ix V_hp (by simp))
 have nq_ix_lh : ix ≠ lh := (Ne.symm (Exa.neArv E_lh V_ix (Wd hw 49 rfl)))
 have nq_ix_sl : ix ≠ sl := (own_neT V_ix V_sl (by simp))
 have hri := own_runin K 8 _ (own_andin K _) hr
 obtain ⟨cq1, qa1, qb1⟩ := E_lh.cell
 obtain ⟨_, _, ⟨T1, L1, k1, n1⟩, -, X1, ⟨Lc1, hQ1, l1, y1, z1⟩, st1⟩ := X0.privateBack hx (y := (⟨cLH, "full", "()Z"⟩ : MethodName)) hown (mvT hZ (Wd hw 95 rfl)) (mvT hZ (Wd hw 96 rfl)) (selfInst hZ (Wd hw 49 rfl) (Wd hw 96 rfl) (Wd hw 97 rfl) (by decide)) (Cond.privateMethod_at (mvP hZ (Wd hw 97 rfl) (args := #[]))) (mvT hZ (Wd hw 98 rfl)) (by decide) (backOf (W := 0) (rmFU l Z a0 hw [] lh hp (1 : Int32) xa xb xc kl k_hp h0 n0 Z0 E_lh F_heap_lh F_size_lh V_hp) hZ (Wd hw 98 rfl) (Wd hw 50 rfl) (by decide) (by decide)) (g := (mkF m 1 #[.val (.ref lh), .val (.long hs), .second, .unset, .unset] [(.ref lh)])) rfl (by rw [hml]; rfl) (Steps.refl _) (a := lh) (by rw [e0]; exact qa1) qb1 (argsL := []) (rest := []) (lenOf own_pd1 rfl) rfl (by show 2 * 0 + _ ≤ _; exact Nat.le_of_eq rfl) (hb hby d20_1) (fun _ _ => ⟨rfl, e0, (by decide : 0 + 0 ≤ _), (by decide : 0 + 0 ≤ _)⟩)
 dsimp only [Pt.U, Pt.locs, Pt.cells, Pt.slots] at X1 l1 y1 z1 st1 hQ1
 subst l1 y1 z1
 obtain ⟨rfl, Nq1, e1⟩ := hQ1
 have N1 := Fr.app N0 Nq1
 obtain ⟨T2, X2, e2, st2⟩ := getF X1 hx hZ hown (host := "") (Or.inl (Wd hw 99 rfl)) Via.refl e1 F_size_lh (g := (mkF m 27 #[.val (.ref lh), .val (.long hs), .second, .unset, .unset] [(.ref lh)])) rfl rfl (hb hby d20_27)
 obtain ⟨cq3, qa3, qb3⟩ := E_lh.cell
 obtain ⟨_, _, ⟨T3, L3, k3, n3⟩, -, X3, ⟨Lc3, hQ3, l3, y3, z3⟩, st3⟩ := X2.privateBack hx (y := (⟨cLH, "addToHeap", "(J)V"⟩ : MethodName)) hown (mvT hZ (Wd hw 132 rfl)) (mvT hZ (Wd hw 133 rfl)) (selfInst hZ (Wd hw 49 rfl) (Wd hw 133 rfl) (Wd hw 134 rfl) (by decide)) (Cond.privateMethod_at (mvP hZ (Wd hw 134 rfl) (args := #[]))) (mvT hZ (Wd hw 135 rfl)) (by decide) (backOf (W := 0) (rmAHb l Z a0 hw [] lh hs hp sl ix mk xa xb xc kl k_hp h0 n0 Z0 E_lh F_heap_lh F_size_lh F_slots_lh F_indices_lh F_mask_lh V_hp (own_kpos K) hzk g_lh g_hp) hZ (Wd hw 135 rfl) (Wd hw 50 rfl) (by decide) (by decide)) (g := (mkF m 33 #[.val (.ref lh), .val (.long hs), .second, .val (.int (1 : Int32)), .unset] [(.long hs), (.ref lh)])) rfl (by rw [hml]; rfl) (Steps.refl _) (a := lh) (by rw [e2]; exact qa3) qb3 (argsL := [(.long hs)]) (rest := []) (lenOf own_pd3 rfl) rfl (by show 2 * 0 + _ ≤ _; exact Nat.le_of_eq rfl) (hb hby d20_33) (fun _ _ => ⟨rfl, e2, (by decide : 0 + 0 ≤ _), (by decide : 0 + 0 ≤ _)⟩)
 dsimp only [Pt.U, Pt.locs, Pt.cells, Pt.slots] at X3 l3 y3 z3 st3 hQ3
 subst l3 y3 z3
 obtain ⟨rfl, Nq3, Kc3, q3_0, q3_1, q3_2, q3_3, q3_4, q3_5, q3_6⟩ := hQ3
 have K3 : Keep h0 T3.heap [lh, hp, sl, ix] := Keep.trans (Keep.refl h0 [lh, hp, sl, ix]) Kc3 (allS (Or.inl (List.mem_of_getElem? (i := 0) rfl)) (allS (Or.inl (List.mem_of_getElem? (i := 1) rfl)) all0))
 have Zs3 : n0 ≤ T3.heap.size := Nat.le_trans Z0 Kc3.1
 have N3 := Fr.app N1 Nq3
 obtain ⟨cq4, qa4, qb4⟩ := q3_0.cell
 obtain ⟨_, _, ⟨T4, L4, k4, n4⟩, -, X4, ⟨Lc4, hQ4, l4, y4, z4⟩, st4⟩ := X3.privateBack hx (y := (⟨cLH, "slotOf", "(J)I"⟩ : MethodName)) hown (mvT hZ (Wd hw 101 rfl)) (mvT hZ (Wd hw 102 rfl)) (selfInst hZ (Wd hw 49 rfl) (Wd hw 102 rfl) (Wd hw 103 rfl) (by decide)) (Cond.privateMethod_at (mvP hZ (Wd hw 103 rfl) (args := #[]))) (mvT hZ (Wd hw 104 rfl)) (by decide) (backOf (W := 0) (rmSO l Z a0 hw [] lh hs sl ix mk nl k_sl sv k_ix iv kl rr T3.heap n0 Zs3 q3_0 q3_3 q3_4 q3_5 (V_sl.keep Kc3 (ninS nq_sl_lh (ninS (Ne.symm ne_hp_sl) nin0))) (V_ix.keep Kc3 (ninS nq_ix_lh (ninS nq_ix_hp nin0))) K hr) hZ (Wd hw 104 rfl) (Wd hw 50 rfl) (by decide) (by decide)) (g := (mkF m 38 #[.val (.ref lh), .val (.long hs), .second, .val (.int (1 : Int32)), .unset] [(.long hs), (.ref lh)])) rfl (by rw [hml]; rfl) (Steps.refl _) (a := lh) qa4 qb4 (argsL := [(.long hs)]) (rest := []) (lenOf own_pd2 rfl) rfl (by show 2 * 0 + _ ≤ _; exact Nat.le_of_eq rfl) (hb hby d20_38) (fun _ _ => ⟨rfl, rfl, (by decide : 0 + 0 ≤ _), (by decide : 0 + 0 ≤ _)⟩)
 dsimp only [Pt.U, Pt.locs, Pt.cells, Pt.slots] at X4 l4 y4 z4 st4 hQ4
 subst l4 y4 z4
 obtain ⟨rfl, Nq4, e4⟩ := hQ4
 have N4 := Fr.app N3 Nq4
 obtain ⟨T5, X5, e5, st5⟩ := getF X4 hx hZ hown (host := "") (Or.inl (Wd hw 66 rfl)) Via.refl e4 q3_3 (g := (mkF m 44 #[.val (.ref lh), .val (.long hs), .second, .val (.int (1 : Int32)), .val (.int rr)] [(.ref lh)])) rfl rfl (hb hby d20_44)
 obtain ⟨cl6, Ar6, q6, S6, M6, Hs6, G6⟩ := (V_sl.keep Kc3 (ninS nq_sl_lh (ninS (Ne.symm ne_hp_sl) nin0)))
 have hin6 : ¬ (rr < 0 ∨ cl6.slots.size ≤ (rr).toNatClampNeg) := inb_of S6 (own_inb K hri)
 obtain ⟨T7, h7, X7, e7, W7, st7⟩ := stJ X5 hx hZ e5 Ar6 (j := rr) hin6 (g := (mkF m 50 #[.val (.ref lh), .val (.long hs), .second, .val (.int (1 : Int32)), .val (.int rr)] [(.long hs), (.int rr), (.ref sl)])) rfl rfl (hb hby d20_50)
 have V7 : Arv Z h7 sl k_sl .long nl ((sv.set rr.toNatClampNeg hs).map Value.long) (.long (0 : Int64)) := by
  rw [List.map_set]
  exact Arv.set Ar6 q6 S6 M6 Hs6 G6 rfl W7 rr.toNatClampNeg rfl (by first | (rw [List.length_map]; exact (own_sl K hri (by simp [hl8.1, hl8.2]))) | exact (own_sl K hri (by simp [hl8.1, hl8.2])))
 have K7 : Keep h0 h7 [lh, hp, sl, ix] := K3.wr W7 (Or.inl (List.mem_of_getElem? (i := 2) rfl))
 have Zs7 : n0 ≤ h7.size := Nat.le_trans Zs3 (Keep.of_wr W7).1
 have N7 := Fr.snoc X7 N4 g_sl
 obtain ⟨T8, X8, e8, st8⟩ := getF X7 hx hZ hown (host := "") (Or.inl (Wd hw 69 rfl)) Via.refl e7 (Fld.other W7 q3_4 (Or.inl nq_sl_lh.symm)) (g := (mkF m 52 #[.val (.ref lh), .val (.long hs), .second, .val (.int (1 : Int32)), .val (.int rr)] [(.ref lh)])) rfl rfl (hb hby d20_52)
 obtain ⟨cl9, Ar9, q9, S9, M9, Hs9, G9⟩ := ((V_ix.keep Kc3 (ninS nq_ix_lh (ninS nq_ix_hp nin0))).other W7 nq_ix_sl)
 have hin9 : ¬ (rr < 0 ∨ cl9.slots.size ≤ (rr).toNatClampNeg) := inb_of S9 (own_inb K hri)
 obtain ⟨T10, h10, X10, e10, W10, st10⟩ := stI X8 hx hZ e8 Ar9 (j := rr) hin9 (g := (mkF m 58 #[.val (.ref lh), .val (.long hs), .second, .val (.int (1 : Int32)), .val (.int rr)] [(.int (1 : Int32)), (.int rr), (.ref ix)])) rfl rfl (hb hby d20_58)
 have V10 : Arv Z h10 ix k_ix .int nl ((iv.set rr.toNatClampNeg (1 : Int32)).map Value.int) (.int (0 : Int32)) := by
  rw [List.map_set]
  exact Arv.set Ar9 q9 S9 M9 Hs9 G9 rfl W10 rr.toNatClampNeg rfl (by first | (rw [List.length_map]; exact (own_sl K hri (by simp [hl8.1, hl8.2]))) | exact (own_sl K hri (by simp [hl8.1, hl8.2])))
 have K10 : Keep h0 h10 [lh, hp, sl, ix] := K7.wr W10 (Or.inl (List.mem_of_getElem? (i := 3) rfl))
 have Zs10 : n0 ≤ h10.size := Nat.le_trans Zs7 (Keep.of_wr W10).1
 have N10 := Fr.snoc X10 N7 g_ix
 obtain ⟨fs, hr, hrun, hended, hW, hsame⟩ := X10.leave (v := some (.int (1 : Int32))) (fun h => by rw [Bd.returns] at h; cases h) hlk
 refine ⟨_, _, (pre0 _ ?_), hrun, hended, _, _, rfl, ?_, ⟨_, rfl⟩, hW, hsame.mono (by decide) (by decide)⟩
 ·show Steps p.tables e below (s₁.setTop (mkF m 0 #[.val (.ref lh), .val (.long hs), .second, .unset, .unset] [])) _
  refine XS.aloadN X0.here hx rfl (hb hby d20_0) rfl rfl ?_
  refine st1.trans ?_
  refine XS.ifYes X1.here hx rfl (pc0 := 4) (pc' := 26) rfl (hb hby d20_4) rfl ((if0 _ _).trans (teq (own_flN hzk)).1) (by decide) (by decide) ?_
  refine XS.aloadN X1.here hx rfl (hb hby d20_26) rfl rfl ?_
  refine st2 _ ?_
  refine XS.istoreN X2.here hx rfl (hb hby d20_30) rfl (l' := #[.val (.ref lh), .val (.long hs), .second, .val (.int (1 : Int32)), .unset]) rfl ?_
  refine XS.aloadN X2.here hx rfl (hb hby d20_31) rfl rfl ?_
  refine XS.lloadN X2.here hx rfl (hb hby d20_32) rfl ?_
  refine st3.trans ?_
  refine XS.aloadN X3.here hx rfl (hb hby d20_36) rfl rfl ?_
  refine XS.lloadN X3.here hx rfl (hb hby d20_37) rfl ?_
  refine st4.trans ?_
  refine XS.istore X4.here hx rfl (hb hby d20_41) rfl (l' := #[.val (.ref lh), .val (.long hs), .second, .val (.int (1 : Int32)), .val (.int rr)]) rfl ?_
  refine XS.aloadN X4.here hx rfl (hb hby d20_43) rfl rfl ?_
  refine st5 _ ?_
  refine XS.iload X5.here hx rfl (hb hby d20_47) rfl ?_
  refine XS.lloadN X5.here hx rfl (hb hby d20_49) rfl ?_
  refine st7 _ ?_
  refine XS.aloadN X7.here hx rfl (hb hby d20_51) rfl rfl ?_
  refine st8 _ ?_
  refine XS.iload X8.here hx rfl (hb hby d20_55) rfl ?_
  refine XS.iloadN X8.here hx rfl (hb hby d20_57) rfl ?_
  refine st10 _ ?_
  refine XS.iloadN X10.here hx rfl (hb hby d20_59) rfl ?_
  exact retI X10 hx Bd.returns (hb hby d20_60) hr
 ·show QANb Z lh hs hp sl ix mk xa xb xc kl k_hp nl k_sl sv k_ix iv rr h0 n0 _ T10.heap _
  rw [e10]
  exact ⟨rfl, N10, K10, ((q3_0.wr W7).wr W10), (Fld.other W10 (Fld.other W7 q3_1 (Or.inl nq_sl_lh.symm)) (Or.inl nq_ix_lh.symm)), (Fld.other W10 (Fld.other W7 q3_2 (Or.inl nq_sl_lh.symm)) (Or.inl nq_ix_lh.symm)), (Fld.other W10 (Fld.other W7 q3_3 (Or.inl nq_sl_lh.symm)) (Or.inl nq_ix_lh.symm)), (Fld.other W10 (Fld.other W7 q3_4 (Or.inl nq_sl_lh.symm)) (Or.inl nq_ix_lh.symm)), (Fld.other W10 (Fld.other W7 q3_5 (Or.inl nq_sl_lh.symm)) (Or.inl nq_ix_lh.symm)), ((q3_6.other W7 ne_hp_sl).other W10 nq_ix_hp.symm), (V7.other W10 nq_ix_sl.symm), V10⟩
theorem efANc (m : MethodId) (lh : Addr) (hs : Int64) : entryFrame m #[(.ref lh), (.long hs)] 5 = mkF m 0 #[.val (.ref lh), .val (.long hs), .second, .unset, .unset] [] := by first | (simp [entryFrame, mkF, argsToLocals, Value.category]; done) | rfl
def QANc (Z : State) (lh : Addr) (hs : Int64) (hp : Addr) (sl : Addr) (ix : Addr) (mk : Int32) (xa : Int64) (xb : Int64) (xc : Int64) (kl : Int32) (k_hp : ClassId) (nl : Int32) (k_sl : ClassId) (sv : List Int64) (k_ix : ClassId) (iv : List Int32) (rr : Int32) (h0 : Heap) (n0 : Nat) (v : Option Value) (h : Heap) (L : List Loc) : Prop := v = some (.int (2 : Int32)) ∧ Fr n0 L ∧ Keep h0 h [lh, hp, sl, ix] ∧ Exa Z h lh cLH ∧ Fld Z h lh cLH "heap" "[J" (.ref hp) ∧ Fld Z h lh cLH "size" "I" (.int (3 : Int32)) ∧ Fld Z h lh cLH "slots" "[J" (.ref sl) ∧ Fld Z h lh cLH "indices" "[I" (.ref ix) ∧ Fld Z h lh cLH "mask" "I" (.int mk) ∧ Arv Z h hp k_hp .long kl [(.long (own_mn hs xa)), (.long xb), (.long (own_mx hs xa))] (.long (0 : Int64)) ∧ Arv Z h sl k_sl .long nl ((sv.set rr.toNatClampNeg hs).map Value.long) (.long (0 : Int64)) ∧ Arv Z h ix k_ix .int nl ((iv.set rr.toNatClampNeg (2 : Int32)).map Value.int) (.int (0 : Int32))
set_option maxRecDepth 65536 in
set_option maxHeartbeats 40000000 in
theorem rmANc (l : Launch) (Z : State) (a0 : Array Value) (hw : ∀ d ∈ tables_1, d.before a0 Z = true) (ws : List Jvm.Cond) (lh : Addr) (hs : Int64) (hp : Addr) (sl : Addr) (ix : Addr) (mk : Int32) (xa : Int64) (xb : Int64) (xc : Int64) (kl : Int32) (k_hp : ClassId) (nl : Int32) (k_sl : ClassId) (sv : List Int64) (k_ix : ClassId) (iv : List Int32) (rr : Int32) (h0 : Heap) (n0 : Nat) (Z0 : n0 ≤ h0.size) (E_lh : Exa Z h0 lh cLH) (F_heap_lh : Fld Z h0 lh cLH "heap" "[J" (.ref hp)) (F_size_lh : Fld Z h0 lh cLH "size" "I" (.int (2 : Int32))) (F_slots_lh : Fld Z h0 lh cLH "slots" "[J" (.ref sl)) (F_indices_lh : Fld Z h0 lh cLH "indices" "[I" (.ref ix)) (F_mask_lh : Fld Z h0 lh cLH "mask" "I" (.int mk)) (V_hp : Arv Z h0 hp k_hp .long kl [(.long xa), (.long xb), (.long xc)] (.long (0 : Int64))) (V_sl : Arv Z h0 sl k_sl .long nl (sv.map Value.long) (.long (0 : Int64))) (V_ix : Arv Z h0 ix k_ix .int nl (iv.map Value.int) (.int (0 : Int32))) (K : own_kmn kl mk nl) (hr : own_run sv iv mk hs 8 (hs.toInt32 &&& mk) = some rr) (hl8 : sv.length = 8 ∧ iv.length = 8) (hzk : (2 : Int32) < kl) (ne_hp_sl : hp ≠ sl) (g_lh : n0 ≤ lh) (g_hp : n0 ≤ hp) (g_sl : n0 ≤ sl) (g_ix : n0 ≤ ix) :
  MetFree l (⟨cLH, "add", "(J)I"⟩ : MethodName) (head1 (Jvm.Cond.code (⟨cLH, "add", "(J)I"⟩ : MethodName) prog_2_method_6_code 5 (some .int) :: ws) ({ frames := 3, cells := 0, slots := 0, locals := 80 } : Room)) (fun av_ U => av_ = #[(.ref lh), (.long hs)] ∧ Z.Warmed39 U.vm ∧ U.heap = h0) (fun _ _ _ _ _ => True) (fun _ U o U' => ∃ v L, o = .returned v ∧ QANc Z lh hs hp sl ix mk xa xb xc kl k_hp nl k_sl sv k_ix iv rr h0 n0 v U'.heap L ∧ FrameEnd U o U' L ({ frames := 3, cells := 0, slots := 0, locals := 80 } : Room).cells ({ frames := 3, cells := 0, slots := 0, locals := 80 } : Room).slots) := by
 refine MetFree.of_bodySF (plainFor_of_name own_pn1) hisR ?_
 intro p e s m args below meth c s₁ Bd hml0 hP hK
 obtain ⟨rfl, hZ, hh⟩ := hP
 have hx := Bd.exec
 have hby := Bd.bytes
 have hml : c.maxLocals = 5 := hml0
 have hown : s.vm.findClass cLH = some m.cls := findClass_of_methodNamed Bd.named
 have hnm := (name_of_methodNamed Bd.named Bd.method).1
 have X0 : Stand p l e ({ frames := 3, cells := 0, slots := 0, locals := 80 } : Room) s m #[(.ref lh), (.long hs)] below meth c s₁ [] 0 0 := Stand.of_body Bd
 have e0 : s₁.heap = h0 := by rw [← hh, Bd.state]; rfl
 have N0 := Fr.nil n0
 have hlk : meth.locks = false := Bd.notSynchronized
 have pre0 : ∀ t, Steps p.tables e below (s₁.setTop (mkF m 0 #[.val (.ref lh), .val (.long hs), .second, .unset, .unset] [])) t → Steps p.tables e below (s₁.setTop (entryFrame m #[(.ref lh), (.long hs)] 5)) t := fun t k => castTop (efANc m lh hs) k
 have nq_sl_lh : sl ≠ lh := (Ne.symm (Exa.neArv E_lh V_sl (Wd hw 49 rfl)))
 have nq_ix_hp : ix ≠ hp := (own_neT V_ix V_hp (by simp))
 have nq_ix_lh : ix ≠ lh := (Ne.symm (Exa.neArv E_lh V_ix (Wd hw 49 rfl)))
 have nq_ix_sl : ix ≠ sl := (own_neT V_ix V_sl (by simp))
 have hri := own_runin K 8 _ (own_andin K _) hr
 obtain ⟨cq1, qa1, qb1⟩ := E_lh.cell
 obtain ⟨_, _, ⟨T1, L1, k1, n1⟩, -, X1, ⟨Lc1, hQ1, l1, y1, z1⟩, st1⟩ := X0.privateBack hx (y := (⟨cLH, "full", "()Z"⟩ : MethodName)) hown (mvT hZ (Wd hw 95 rfl)) (mvT hZ (Wd hw 96 rfl)) (selfInst hZ (Wd hw 49 rfl) (Wd hw 96 rfl) (Wd hw 97 rfl) (by decide)) (Cond.privateMethod_at (mvP hZ (Wd hw 97 rfl) (args := #[]))) (mvT hZ (Wd hw 98 rfl)) (by decide) (backOf (W := 0) (rmFU l Z a0 hw [] lh hp (2 : Int32) xa xb xc kl k_hp h0 n0 Z0 E_lh F_heap_lh F_size_lh V_hp) hZ (Wd hw 98 rfl) (Wd hw 50 rfl) (by decide) (by decide)) (g := (mkF m 1 #[.val (.ref lh), .val (.long hs), .second, .unset, .unset] [(.ref lh)])) rfl (by rw [hml]; rfl) (Steps.refl _) (a := lh) (by rw [e0]; exact qa1) qb1 (argsL := []) (rest := []) (lenOf own_pd1 rfl) rfl (by show 2 * 0 + _ ≤ _; exact Nat.le_of_eq rfl) (hb hby d20_1) (fun _ _ => ⟨rfl, e0, (by decide : 0 + 0 ≤ _), (by decide : 0 + 0 ≤ _)⟩)
 dsimp only [Pt.U, Pt.locs, Pt.cells, Pt.slots] at X1 l1 y1 z1 st1 hQ1
 subst l1 y1 z1
 obtain ⟨rfl, Nq1, e1⟩ := hQ1
 have N1 := Fr.app N0 Nq1
 obtain ⟨T2, X2, e2, st2⟩ := getF X1 hx hZ hown (host := "") (Or.inl (Wd hw 99 rfl)) Via.refl e1 F_size_lh (g := (mkF m 27 #[.val (.ref lh), .val (.long hs), .second, .unset, .unset] [(.ref lh)])) rfl rfl (hb hby d20_27)
 obtain ⟨cq3, qa3, qb3⟩ := E_lh.cell
 obtain ⟨_, _, ⟨T3, L3, k3, n3⟩, -, X3, ⟨Lc3, hQ3, l3, y3, z3⟩, st3⟩ := X2.privateBack hx (y := (⟨cLH, "addToHeap", "(J)V"⟩ : MethodName)) hown (mvT hZ (Wd hw 132 rfl)) (mvT hZ (Wd hw 133 rfl)) (selfInst hZ (Wd hw 49 rfl) (Wd hw 133 rfl) (Wd hw 134 rfl) (by decide)) (Cond.privateMethod_at (mvP hZ (Wd hw 134 rfl) (args := #[]))) (mvT hZ (Wd hw 135 rfl)) (by decide) (backOf (W := 0) (rmAHc l Z a0 hw [] lh hs hp sl ix mk xa xb xc kl k_hp h0 n0 Z0 E_lh F_heap_lh F_size_lh F_slots_lh F_indices_lh F_mask_lh V_hp (own_kpos K) hzk g_lh g_hp) hZ (Wd hw 135 rfl) (Wd hw 50 rfl) (by decide) (by decide)) (g := (mkF m 33 #[.val (.ref lh), .val (.long hs), .second, .val (.int (2 : Int32)), .unset] [(.long hs), (.ref lh)])) rfl (by rw [hml]; rfl) (Steps.refl _) (a := lh) (by rw [e2]; exact qa3) qb3 (argsL := [(.long hs)]) (rest := []) (lenOf own_pd3 rfl) rfl (by show 2 * 0 + _ ≤ _; exact Nat.le_of_eq rfl) (hb hby d20_33) (fun _ _ => ⟨rfl, e2, (by decide : 0 + 0 ≤ _), (by decide : 0 + 0 ≤ _)⟩)
 dsimp only [Pt.U, Pt.locs, Pt.cells, Pt.slots] at X3 l3 y3 z3 st3 hQ3
 subst l3 y3 z3
 obtain ⟨rfl, Nq3, Kc3, q3_0, q3_1, q3_2, q3_3, q3_4, q3_5, q3_6⟩ := hQ3
 have K3 : Keep h0 T3.heap [lh, hp, sl, ix] := Keep.trans (Keep.refl h0 [lh, hp, sl, ix]) Kc3 (allS (Or.inl (List.mem_of_getElem? (i := 0) rfl)) (allS (Or.inl (List.mem_of_getElem? (i := 1) rfl)) all0))
 have Zs3 : n0 ≤ T3.heap.size := Nat.le_trans Z0 Kc3.1
 have N3 := Fr.app N1 Nq3
 obtain ⟨cq4, qa4, qb4⟩ := q3_0.cell
 obtain ⟨_, _, ⟨T4, L4, k4, n4⟩, -, X4, ⟨Lc4, hQ4, l4, y4, z4⟩, st4⟩ := X3.privateBack hx (y := (⟨cLH, "slotOf", "(J)I"⟩ : MethodName)) hown (mvT hZ (Wd hw 101 rfl)) (mvT hZ (Wd hw 102 rfl)) (selfInst hZ (Wd hw 49 rfl) (Wd hw 102 rfl) (Wd hw 103 rfl) (by decide)) (Cond.privateMethod_at (mvP hZ (Wd hw 103 rfl) (args := #[]))) (mvT hZ (Wd hw 104 rfl)) (by decide) (backOf (W := 0) (rmSO l Z a0 hw [] lh hs sl ix mk nl k_sl sv k_ix iv kl rr T3.heap n0 Zs3 q3_0 q3_3 q3_4 q3_5 (V_sl.keep Kc3 (ninS nq_sl_lh (ninS (Ne.symm ne_hp_sl) nin0))) (V_ix.keep Kc3 (ninS nq_ix_lh (ninS nq_ix_hp nin0))) K hr) hZ (Wd hw 104 rfl) (Wd hw 50 rfl) (by decide) (by decide)) (g := (mkF m 38 #[.val (.ref lh), .val (.long hs), .second, .val (.int (2 : Int32)), .unset] [(.long hs), (.ref lh)])) rfl (by rw [hml]; rfl) (Steps.refl _) (a := lh) qa4 qb4 (argsL := [(.long hs)]) (rest := []) (lenOf own_pd2 rfl) rfl (by show 2 * 0 + _ ≤ _; exact Nat.le_of_eq rfl) (hb hby d20_38) (fun _ _ => ⟨rfl, rfl, (by decide : 0 + 0 ≤ _), (by decide : 0 + 0 ≤ _)⟩)
 dsimp only [Pt.U, Pt.locs, Pt.cells, Pt.slots] at X4 l4 y4 z4 st4 hQ4
 subst l4 y4 z4
 obtain ⟨rfl, Nq4, e4⟩ := hQ4
 have N4 := Fr.app N3 Nq4
 obtain ⟨T5, X5, e5, st5⟩ := getF X4 hx hZ hown (host := "") (Or.inl (Wd hw 66 rfl)) Via.refl e4 q3_3 (g := (mkF m 44 #[.val (.ref lh), .val (.long hs), .second, .val (.int (2 : Int32)), .val (.int rr)] [(.ref lh)])) rfl rfl (hb hby d20_44)
 obtain ⟨cl6, Ar6, q6, S6, M6, Hs6, G6⟩ := (V_sl.keep Kc3 (ninS nq_sl_lh (ninS (Ne.symm ne_hp_sl) nin0)))
 have hin6 : ¬ (rr < 0 ∨ cl6.slots.size ≤ (rr).toNatClampNeg) := inb_of S6 (own_inb K hri)
 obtain ⟨T7, h7, X7, e7, W7, st7⟩ := stJ X5 hx hZ e5 Ar6 (j := rr) hin6 (g := (mkF m 50 #[.val (.ref lh), .val (.long hs), .second, .val (.int (2 : Int32)), .val (.int rr)] [(.long hs), (.int rr), (.ref sl)])) rfl rfl (hb hby d20_50)
 have V7 : Arv Z h7 sl k_sl .long nl ((sv.set rr.toNatClampNeg hs).map Value.long) (.long (0 : Int64)) := by
  rw [List.map_set]
  exact Arv.set Ar6 q6 S6 M6 Hs6 G6 rfl W7 rr.toNatClampNeg rfl (by first | (rw [List.length_map]; exact (own_sl K hri (by simp [hl8.1, hl8.2]))) | exact (own_sl K hri (by simp [hl8.1, hl8.2])))
 have K7 : Keep h0 h7 [lh, hp, sl, ix] := K3.wr W7 (Or.inl (List.mem_of_getElem? (i := 2) rfl))
 have Zs7 : n0 ≤ h7.size := Nat.le_trans Zs3 (Keep.of_wr W7).1
 have N7 := Fr.snoc X7 N4 g_sl
 obtain ⟨T8, X8, e8, st8⟩ := getF X7 hx hZ hown (host := "") (Or.inl (Wd hw 69 rfl)) Via.refl e7 (Fld.other W7 q3_4 (Or.inl nq_sl_lh.symm)) (g := (mkF m 52 #[.val (.ref lh), .val (.long hs), .second, .val (.int (2 : Int32)), .val (.int rr)] [(.ref lh)])) rfl rfl (hb hby d20_52)
 obtain ⟨cl9, Ar9, q9, S9, M9, Hs9, G9⟩ := ((V_ix.keep Kc3 (ninS nq_ix_lh (ninS nq_ix_hp nin0))).other W7 nq_ix_sl)
 have hin9 : ¬ (rr < 0 ∨ cl9.slots.size ≤ (rr).toNatClampNeg) := inb_of S9 (own_inb K hri)
 obtain ⟨T10, h10, X10, e10, W10, st10⟩ := stI X8 hx hZ e8 Ar9 (j := rr) hin9 (g := (mkF m 58 #[.val (.ref lh), .val (.long hs), .second, .val (.int (2 : Int32)), .val (.int rr)] [(.int (2 : Int32)), (.int rr), (.ref ix)])) rfl rfl (hb hby d20_58)
 have V10 : Arv Z h10 ix k_ix .int nl ((iv.set rr.toNatClampNeg (2 : Int32)).map Value.int) (.int (0 : Int32)) := by
  rw [List.map_set]
  exact Arv.set Ar9 q9 S9 M9 Hs9 G9 rfl W10 rr.toNatClampNeg rfl (by first | (rw [List.length_map]; exact (own_sl K hri (by simp [hl8.1, hl8.2]))) | exact (own_sl K hri (by simp [hl8.1, hl8.2])))
 have K10 : Keep h0 h10 [lh, hp, sl, ix] := K7.wr W10 (Or.inl (List.mem_of_getElem? (i := 3) rfl))
 have Zs10 : n0 ≤ h10.size := Nat.le_trans Zs7 (Keep.of_wr W10).1
 have N10 := Fr.snoc X10 N7 g_ix
 obtain ⟨fs, hr, hrun, hended, hW, hsame⟩ := X10.leave (v := some (.int (2 : Int32))) (fun h => by rw [Bd.returns] at h; cases h) hlk
 refine ⟨_, _, (pre0 _ ?_), hrun, hended, _, _, rfl, ?_, ⟨_, rfl⟩, hW, hsame.mono (by decide) (by decide)⟩
 ·show Steps p.tables e below (s₁.setTop (mkF m 0 #[.val (.ref lh), .val (.long hs), .second, .unset, .unset] [])) _
  refine XS.aloadN X0.here hx rfl (hb hby d20_0) rfl rfl ?_
  refine st1.trans ?_
  refine XS.ifYes X1.here hx rfl (pc0 := 4) (pc' := 26) rfl (hb hby d20_4) rfl ((if0 _ _).trans (teq (own_flN hzk)).1) (by decide) (by decide) ?_
  refine XS.aloadN X1.here hx rfl (hb hby d20_26) rfl rfl ?_
  refine st2 _ ?_
  refine XS.istoreN X2.here hx rfl (hb hby d20_30) rfl (l' := #[.val (.ref lh), .val (.long hs), .second, .val (.int (2 : Int32)), .unset]) rfl ?_
  refine XS.aloadN X2.here hx rfl (hb hby d20_31) rfl rfl ?_
  refine XS.lloadN X2.here hx rfl (hb hby d20_32) rfl ?_
  refine st3.trans ?_
  refine XS.aloadN X3.here hx rfl (hb hby d20_36) rfl rfl ?_
  refine XS.lloadN X3.here hx rfl (hb hby d20_37) rfl ?_
  refine st4.trans ?_
  refine XS.istore X4.here hx rfl (hb hby d20_41) rfl (l' := #[.val (.ref lh), .val (.long hs), .second, .val (.int (2 : Int32)), .val (.int rr)]) rfl ?_
  refine XS.aloadN X4.here hx rfl (hb hby d20_43) rfl rfl ?_
  refine st5 _ ?_
  refine XS.iload X5.here hx rfl (hb hby d20_47) rfl ?_
  refine XS.lloadN X5.here hx rfl (hb hby d20_49) rfl ?_
  refine st7 _ ?_
  refine XS.aloadN X7.here hx rfl (hb hby d20_51) rfl rfl ?_
  refine st8 _ ?_
  refine XS.iload X8.here hx rfl (hb hby d20_55) rfl ?_
  refine XS.iloadN X8.here hx rfl (hb hby d20_57) rfl ?_
  refine st10 _ ?_
  refine XS.iloadN X10.here hx rfl (hb hby d20_59) rfl ?_
  exact retI X10 hx Bd.returns (hb hby d20_60) hr
 ·show QANc Z lh hs hp sl ix mk xa xb xc kl k_hp nl k_sl sv k_ix iv rr h0 n0 _ T10.heap _
  rw [e10]
  exact ⟨rfl, N10, K10, ((q3_0.wr W7).wr W10), (Fld.other W10 (Fld.other W7 q3_1 (Or.inl nq_sl_lh.symm)) (Or.inl nq_ix_lh.symm)), (Fld.other W10 (Fld.other W7 q3_2 (Or.inl nq_sl_lh.symm)) (Or.inl nq_ix_lh.symm)), (Fld.other W10 (Fld.other W7 q3_3 (Or.inl nq_sl_lh.symm)) (Or.inl nq_ix_lh.symm)), (Fld.other W10 (Fld.other W7 q3_4 (Or.inl nq_sl_lh.symm)) (Or.inl nq_ix_lh.symm)), (Fld.other W10 (Fld.other W7 q3_5 (Or.inl nq_sl_lh.symm)) (Or.inl nq_ix_lh.symm)), ((q3_6.other W7 ne_hp_sl).other W10 nq_ix_hp.symm), (V7.other W10 nq_ix_sl.symm), V10⟩
theorem d24_0 : decode prog_2_method_9_code 0 = .ok (.aload_n 0, 1) := by decide +kernel
theorem d24_1 : decode prog_2_method_9_code 1 = .ok (.lload_n 1, 1) := by decide +kernel
theorem d24_2 : decode prog_2_method_9_code 2 = .ok (.invokevirtual 49, 3) := by decide +kernel
theorem d24_5 : decode prog_2_method_9_code 5 = .ok (.istore_n 3, 1) := by decide +kernel
theorem d24_6 : decode prog_2_method_9_code 6 = .ok (.aload_n 0, 1) := by decide +kernel
theorem d24_7 : decode prog_2_method_9_code 7 = .ok (.getfield 22, 3) := by decide +kernel
theorem d24_10 : decode prog_2_method_9_code 10 = .ok (.iload_n 3, 1) := by decide +kernel
theorem d24_11 : decode prog_2_method_9_code 11 = .ok (.iaload, 1) := by decide +kernel
theorem d24_12 : decode prog_2_method_9_code 12 = .ok (.istore 4, 2) := by decide +kernel
theorem d24_14 : decode prog_2_method_9_code 14 = .ok (.iload_n 3, 1) := by decide +kernel
theorem d24_15 : decode prog_2_method_9_code 15 = .ok (.iconst 1, 1) := by decide +kernel
theorem d24_16 : decode prog_2_method_9_code 16 = .ok (.iadd, 1) := by decide +kernel
theorem d24_17 : decode prog_2_method_9_code 17 = .ok (.aload_n 0, 1) := by decide +kernel
theorem d24_18 : decode prog_2_method_9_code 18 = .ok (.getfield 32, 3) := by decide +kernel
theorem d24_21 : decode prog_2_method_9_code 21 = .ok (.iand, 1) := by decide +kernel
theorem d24_22 : decode prog_2_method_9_code 22 = .ok (.istore 5, 2) := by decide +kernel
theorem d24_24 : decode prog_2_method_9_code 24 = .ok (.aload_n 0, 1) := by decide +kernel
theorem d24_25 : decode prog_2_method_9_code 25 = .ok (.getfield 22, 3) := by decide +kernel
theorem d24_28 : decode prog_2_method_9_code 28 = .ok (.iload 5, 2) := by decide +kernel
theorem d24_30 : decode prog_2_method_9_code 30 = .ok (.iaload, 1) := by decide +kernel
theorem d24_31 : decode prog_2_method_9_code 31 = .ok (.iconst (-1), 1) := by decide +kernel
theorem d24_32 : decode prog_2_method_9_code 32 = .ok (.if_icmp .eq 83, 3) := by decide +kernel
theorem d24_35 : decode prog_2_method_9_code 35 = .ok (.aload_n 0, 1) := by decide +kernel
theorem d24_36 : decode prog_2_method_9_code 36 = .ok (.getfield 19, 3) := by decide +kernel
theorem d24_39 : decode prog_2_method_9_code 39 = .ok (.iload 5, 2) := by decide +kernel
theorem d24_41 : decode prog_2_method_9_code 41 = .ok (.laload, 1) := by decide +kernel
theorem d24_42 : decode prog_2_method_9_code 42 = .ok (.l2i, 1) := by decide +kernel
theorem d24_43 : decode prog_2_method_9_code 43 = .ok (.aload_n 0, 1) := by decide +kernel
theorem d24_44 : decode prog_2_method_9_code 44 = .ok (.getfield 32, 3) := by decide +kernel
theorem d24_47 : decode prog_2_method_9_code 47 = .ok (.iand, 1) := by decide +kernel
theorem d24_48 : decode prog_2_method_9_code 48 = .ok (.istore 6, 2) := by decide +kernel
theorem d24_50 : decode prog_2_method_9_code 50 = .ok (.iload 5, 2) := by decide +kernel
theorem d24_52 : decode prog_2_method_9_code 52 = .ok (.iload 6, 2) := by decide +kernel
theorem d24_54 : decode prog_2_method_9_code 54 = .ok (.isub, 1) := by decide +kernel
theorem d24_55 : decode prog_2_method_9_code 55 = .ok (.aload_n 0, 1) := by decide +kernel
theorem d24_56 : decode prog_2_method_9_code 56 = .ok (.getfield 32, 3) := by decide +kernel
theorem d24_59 : decode prog_2_method_9_code 59 = .ok (.iand, 1) := by decide +kernel
theorem d24_60 : decode prog_2_method_9_code 60 = .ok (.iload 5, 2) := by decide +kernel
theorem d24_62 : decode prog_2_method_9_code 62 = .ok (.iload_n 3, 1) := by decide +kernel
theorem d24_63 : decode prog_2_method_9_code 63 = .ok (.isub, 1) := by decide +kernel
theorem d24_64 : decode prog_2_method_9_code 64 = .ok (.aload_n 0, 1) := by decide +kernel
theorem d24_65 : decode prog_2_method_9_code 65 = .ok (.getfield 32, 3) := by decide +kernel
theorem d24_68 : decode prog_2_method_9_code 68 = .ok (.iand, 1) := by decide +kernel
theorem d24_69 : decode prog_2_method_9_code 69 = .ok (.if_icmp .lt 32, 3) := by decide +kernel
theorem d24_72 : decode prog_2_method_9_code 72 = .ok (.aload_n 0, 1) := by decide +kernel
theorem d24_73 : decode prog_2_method_9_code 73 = .ok (.getfield 19, 3) := by decide +kernel
theorem d24_76 : decode prog_2_method_9_code 76 = .ok (.iload_n 3, 1) := by decide +kernel
theorem d24_77 : decode prog_2_method_9_code 77 = .ok (.aload_n 0, 1) := by decide +kernel
theorem d24_78 : decode prog_2_method_9_code 78 = .ok (.getfield 19, 3) := by decide +kernel
theorem d24_81 : decode prog_2_method_9_code 81 = .ok (.iload 5, 2) := by decide +kernel
theorem d24_83 : decode prog_2_method_9_code 83 = .ok (.laload, 1) := by decide +kernel
theorem d24_84 : decode prog_2_method_9_code 84 = .ok (.lastore, 1) := by decide +kernel
theorem d24_85 : decode prog_2_method_9_code 85 = .ok (.aload_n 0, 1) := by decide +kernel
theorem d24_86 : decode prog_2_method_9_code 86 = .ok (.getfield 22, 3) := by decide +kernel
theorem d24_89 : decode prog_2_method_9_code 89 = .ok (.iload_n 3, 1) := by decide +kernel
theorem d24_90 : decode prog_2_method_9_code 90 = .ok (.aload_n 0, 1) := by decide +kernel
theorem d24_91 : decode prog_2_method_9_code 91 = .ok (.getfield 22, 3) := by decide +kernel
theorem d24_94 : decode prog_2_method_9_code 94 = .ok (.iload 5, 2) := by decide +kernel
theorem d24_96 : decode prog_2_method_9_code 96 = .ok (.iaload, 1) := by decide +kernel
theorem d24_97 : decode prog_2_method_9_code 97 = .ok (.iastore, 1) := by decide +kernel
theorem d24_98 : decode prog_2_method_9_code 98 = .ok (.iload 5, 2) := by decide +kernel
theorem d24_100 : decode prog_2_method_9_code 100 = .ok (.istore_n 3, 1) := by decide +kernel
theorem d24_101 : decode prog_2_method_9_code 101 = .ok (.iload 5, 2) := by decide +kernel
theorem d24_103 : decode prog_2_method_9_code 103 = .ok (.iconst 1, 1) := by decide +kernel
theorem d24_104 : decode prog_2_method_9_code 104 = .ok (.iadd, 1) := by decide +kernel
theorem d24_105 : decode prog_2_method_9_code 105 = .ok (.aload_n 0, 1) := by decide +kernel
theorem d24_106 : decode prog_2_method_9_code 106 = .ok (.getfield 32, 3) := by decide +kernel
theorem d24_109 : decode prog_2_method_9_code 109 = .ok (.iand, 1) := by decide +kernel
theorem d24_110 : decode prog_2_method_9_code 110 = .ok (.istore 5, 2) := by decide +kernel
theorem d24_112 : decode prog_2_method_9_code 112 = .ok (.goto (-88), 3) := by decide +kernel
theorem d24_115 : decode prog_2_method_9_code 115 = .ok (.aload_n 0, 1) := by decide +kernel
theorem d24_116 : decode prog_2_method_9_code 116 = .ok (.getfield 22, 3) := by decide +kernel
theorem d24_119 : decode prog_2_method_9_code 119 = .ok (.iload_n 3, 1) := by decide +kernel
theorem d24_120 : decode prog_2_method_9_code 120 = .ok (.iconst (-1), 1) := by decide +kernel
theorem d24_121 : decode prog_2_method_9_code 121 = .ok (.iastore, 1) := by decide +kernel
theorem d24_122 : decode prog_2_method_9_code 122 = .ok (.iload 4, 2) := by decide +kernel
theorem d24_124 : decode prog_2_method_9_code 124 = .ok (.ireturn, 1) := by decide +kernel
theorem efRT (m : MethodId) (lh : Addr) (hs : Int64) : entryFrame m #[(.ref lh), (.long hs)] 7 = mkF m 0 #[.val (.ref lh), .val (.long hs), .second, .unset, .unset, .unset, .unset] [] := by first | (simp [entryFrame, mkF, argsToLocals, Value.category]; done) | rfl
def QRT (Z : State) (lh : Addr) (hs : Int64) (sl : Addr) (ix : Addr) (mk : Int32) (nl : Int32) (k_sl : ClassId) (sv : List Int64) (k_ix : ClassId) (iv : List Int32) (kl : Int32) (rr : Int32) (h0 : Heap) (n0 : Nat) (v : Option Value) (h : Heap) (L : List Loc) : Prop := ∃ svb : List Int64, ∃ ivb : List Int32, v = some (.int (own_get iv rr)) ∧ Fr n0 L ∧ Keep h0 h [sl, ix] ∧ Arv Z h sl k_sl .long nl (svb.map Value.long) (.long (0 : Int64)) ∧ Arv Z h ix k_ix .int nl (ivb.map Value.int) (.int (0 : Int32)) ∧ (svb.length = 8 ∧ ivb.length = 8 ∧ (∃ pz, own_in mk pz ∧ own_get ivb pz = (-1 : Int32)) ∧ (own_get iv (own_nx mk rr) = (-1 : Int32) → svb = sv ∧ ivb = iv.set rr.toNatClampNeg (-1 : Int32)))
set_option maxRecDepth 65536 in
set_option maxHeartbeats 40000000 in
theorem rmRT (l : Launch) (Z : State) (a0 : Array Value) (hw : ∀ d ∈ tables_1, d.before a0 Z = true) (ws : List Jvm.Cond) (lh : Addr) (hs : Int64) (sl : Addr) (ix : Addr) (mk : Int32) (nl : Int32) (k_sl : ClassId) (sv : List Int64) (k_ix : ClassId) (iv : List Int32) (kl : Int32) (rr : Int32) (h0 : Heap) (n0 : Nat) (Z0 : n0 ≤ h0.size) (E_lh : Exa Z h0 lh cLH) (F_slots_lh : Fld Z h0 lh cLH "slots" "[J" (.ref sl)) (F_indices_lh : Fld Z h0 lh cLH "indices" "[I" (.ref ix)) (F_mask_lh : Fld Z h0 lh cLH "mask" "I" (.int mk)) (V_sl : Arv Z h0 sl k_sl .long nl (sv.map Value.long) (.long (0 : Int64))) (V_ix : Arv Z h0 ix k_ix .int nl (iv.map Value.int) (.int (0 : Int32))) (K : own_kmn kl mk nl) (hr : own_run sv iv mk hs 8 (hs.toInt32 &&& mk) = some rr) (hl8 : sv.length = 8 ∧ iv.length = 8) (g_sl : n0 ≤ sl) (g_ix : n0 ≤ ix) (hn2 : own_get iv (own_nx mk rr) = (-1 : Int32) ∨ (own_nx mk (own_nx mk rr) ≠ rr ∧ own_get iv (own_nx mk (own_nx mk rr)) = (-1 : Int32))) :
  MetFree l (⟨cLH, "removeFromTable", "(J)I"⟩ : MethodName) (head1 (Jvm.Cond.code (⟨cLH, "removeFromTable", "(J)I"⟩ : MethodName) prog_2_method_9_code 7 (some .int) :: ws) ({ frames := 1, cells := 0, slots := 0, locals := 30 } : Room)) (fun av_ U => av_ = #[(.ref lh), (.long hs)] ∧ Z.Warmed39 U.vm ∧ U.heap = h0) (fun _ _ _ _ _ => True) (fun _ U o U' => ∃ v L, o = .returned v ∧ QRT Z lh hs sl ix mk nl k_sl sv k_ix iv kl rr h0 n0 v U'.heap L ∧ FrameEnd U o U' L ({ frames := 1, cells := 0, slots := 0, locals := 30 } : Room).cells ({ frames := 1, cells := 0, slots := 0, locals := 30 } : Room).slots) := by
 refine MetFree.of_bodySF (plainFor_of_name own_pn1) hisR ?_
 intro p e s m args below meth c s₁ Bd hml0 hP hK
 obtain ⟨rfl, hZ, hh⟩ := hP
 have hx := Bd.exec
 have hby := Bd.bytes
 have hml : c.maxLocals = 7 := hml0
 have hown : s.vm.findClass cLH = some m.cls := findClass_of_methodNamed Bd.named
 have hnm := (name_of_methodNamed Bd.named Bd.method).1
 have X0 : Stand p l e ({ frames := 1, cells := 0, slots := 0, locals := 30 } : Room) s m #[(.ref lh), (.long hs)] below meth c s₁ [] 0 0 := Stand.of_body Bd
 have e0 : s₁.heap = h0 := by rw [← hh, Bd.state]; rfl
 have N0 := Fr.nil n0
 have hlk : meth.locks = false := Bd.notSynchronized
 have pre0 : ∀ t, Steps p.tables e below (s₁.setTop (mkF m 0 #[.val (.ref lh), .val (.long hs), .second, .unset, .unset, .unset, .unset] [])) t → Steps p.tables e below (s₁.setTop (entryFrame m #[(.ref lh), (.long hs)] 7)) t := fun t k => castTop (efRT m lh hs) k
 have nq_sl_ix : sl ≠ ix := (own_neT V_sl V_ix (by simp))
 have nq_lh_sl : lh ≠ sl := (Exa.neArv E_lh V_sl (Wd hw 49 rfl))
 have nq_lh_ix : lh ≠ ix := (Exa.neArv E_lh V_ix (Wd hw 49 rfl))
 have hri := own_runin K 8 _ (own_andin K _) hr
 obtain ⟨cq1, qa1, qb1⟩ := E_lh.cell
 obtain ⟨_, _, ⟨T1, L1, k1, n1⟩, -, X1, ⟨Lc1, hQ1, l1, y1, z1⟩, st1⟩ := X0.privateBack hx (y := (⟨cLH, "slotOf", "(J)I"⟩ : MethodName)) hown (mvT hZ (Wd hw 101 rfl)) (mvT hZ (Wd hw 102 rfl)) (selfInst hZ (Wd hw 49 rfl) (Wd hw 102 rfl) (Wd hw 103 rfl) (by decide)) (Cond.privateMethod_at (mvP hZ (Wd hw 103 rfl) (args := #[]))) (mvT hZ (Wd hw 104 rfl)) (by decide) (backOf (W := 0) (rmSO l Z a0 hw [] lh hs sl ix mk nl k_sl sv k_ix iv kl rr h0 n0 Z0 E_lh F_slots_lh F_indices_lh F_mask_lh V_sl V_ix K hr) hZ (Wd hw 104 rfl) (Wd hw 50 rfl) (by decide) (by decide)) (g := (mkF m 2 #[.val (.ref lh), .val (.long hs), .second, .unset, .unset, .unset, .unset] [(.long hs), (.ref lh)])) rfl (by rw [hml]; rfl) (Steps.refl _) (a := lh) (by rw [e0]; exact qa1) qb1 (argsL := [(.long hs)]) (rest := []) (lenOf own_pd2 rfl) rfl (by show 2 * 0 + _ ≤ _; exact Nat.le_of_eq rfl) (hb hby d24_2) (fun _ _ => ⟨rfl, e0, (by decide : 0 + 0 ≤ _), (by decide : 0 + 0 ≤ _)⟩)
 dsimp only [Pt.U, Pt.locs, Pt.cells, Pt.slots] at X1 l1 y1 z1 st1 hQ1
 subst l1 y1 z1
 obtain ⟨rfl, Nq1, e1⟩ := hQ1
 have N1 := Fr.app N0 Nq1
 obtain ⟨T2, X2, e2, st2⟩ := getF X1 hx hZ hown (host := "") (Or.inl (Wd hw 69 rfl)) Via.refl e1 F_indices_lh (g := (mkF m 7 #[.val (.ref lh), .val (.long hs), .second, .val (.int rr), .unset, .unset, .unset] [(.ref lh)])) rfl rfl (hb hby d24_7)
 obtain ⟨cl3, Ar3, q3, S3, M3, Hs3, G3⟩ := (id V_ix)
 have hin3 : ¬ (rr < 0 ∨ cl3.slots.size ≤ (rr).toNatClampNeg) := inb_of S3 (own_inb K hri)
 have hat3 : cl3.slots[(rr).toNatClampNeg]? = some (.int (own_get iv rr)) := Hs3.at hin3 (own_getV iv rr)
 obtain ⟨T4, X4, e4, st4⟩ := getF X2 hx hZ hown (host := "") (Or.inl (Wd hw 75 rfl)) Via.refl e2 F_mask_lh (g := (mkF m 18 #[.val (.ref lh), .val (.long hs), .second, .val (.int rr), .val (.int (own_get iv rr)), .unset, .unset] [(.ref lh), (.int (rr + (1 : Int32)))])) rfl rfl (hb hby d24_18)
 obtain ⟨T5, X5, e5, st5⟩ := getF X4 hx hZ hown (host := "") (Or.inl (Wd hw 69 rfl)) Via.refl e4 F_indices_lh (g := (mkF m 25 #[.val (.ref lh), .val (.long hs), .second, .val (.int rr), .val (.int (own_get iv rr)), .val (.int ((rr + (1 : Int32)) &&& mk)), .unset] [(.ref lh)])) rfl rfl (hb hby d24_25)
 obtain ⟨cl6, Ar6, q6, S6, M6, Hs6, G6⟩ := (id V_ix)
 have hin6 : ¬ (((rr + (1 : Int32)) &&& mk) < 0 ∨ cl6.slots.size ≤ (((rr + (1 : Int32)) &&& mk)).toNatClampNeg) := inb_of S6 (own_inb K (own_andin K _))
 have hat6 : cl6.slots[(((rr + (1 : Int32)) &&& mk)).toNatClampNeg]? = some (.int (own_get iv ((rr + (1 : Int32)) &&& mk))) := Hs6.at hin6 (own_getV iv ((rr + (1 : Int32)) &&& mk))
 have r7 : ∀ t, Steps p.tables e below (T5.setTop (mkF m 32 #[.val (.ref lh), .val (.long hs), .second, .val (.int rr), .val (.int (own_get iv rr)), .val (.int ((rr + (1 : Int32)) &&& mk)), .unset] [(.int (-1 : Int32)), (.int (own_get iv ((rr + (1 : Int32)) &&& mk)))])) t → Steps p.tables e below (s₁.setTop (mkF m 0 #[.val (.ref lh), .val (.long hs), .second, .unset, .unset, .unset, .unset] [])) t := fun t kt => by
  refine XS.aloadN X0.here hx rfl (hb hby d24_0) rfl rfl ?_
  refine XS.lloadN X0.here hx rfl (hb hby d24_1) rfl ?_
  refine st1.trans ?_
  refine XS.istoreN X1.here hx rfl (hb hby d24_5) rfl (l' := #[.val (.ref lh), .val (.long hs), .second, .val (.int rr), .unset, .unset, .unset]) rfl ?_
  refine XS.aloadN X1.here hx rfl (hb hby d24_6) rfl rfl ?_
  refine st2 _ ?_
  refine XS.iloadN X2.here hx rfl (hb hby d24_10) rfl ?_
  refine X2.iaload hx (j := rr) (v := (.int (own_get iv rr))) (by rw [e2]; exact Ar3.1) (State.isArrayOf_alike hZ.alike Ar3.2.1) Ar3.2.2 hin3 hat3 (g := (mkF m 11 #[.val (.ref lh), .val (.long hs), .second, .val (.int rr), .unset, .unset, .unset] [(.int rr), (.ref ix)])) rfl rfl (hb hby d24_11) _ ?_
  refine XS.istore X2.here hx rfl (hb hby d24_12) rfl (l' := #[.val (.ref lh), .val (.long hs), .second, .val (.int rr), .val (.int (own_get iv rr)), .unset, .unset]) rfl ?_
  refine XS.iloadN X2.here hx rfl (hb hby d24_14) rfl ?_
  refine XS.iconst X2.here hx rfl (hb hby d24_15) ?_
  refine XS.iadd X2.here hx rfl (hb hby d24_16) rfl ?_
  refine XS.aloadN X2.here hx rfl (hb hby d24_17) rfl rfl ?_
  refine st4 _ ?_
  refine XS.iand X4.here hx rfl (hb hby d24_21) rfl ?_
  refine XS.istore X4.here hx rfl (hb hby d24_22) rfl (l' := #[.val (.ref lh), .val (.long hs), .second, .val (.int rr), .val (.int (own_get iv rr)), .val (.int ((rr + (1 : Int32)) &&& mk)), .unset]) rfl ?_
  refine XS.aloadN X4.here hx rfl (hb hby d24_24) rfl rfl ?_
  refine st5 _ ?_
  refine XS.iload X5.here hx rfl (hb hby d24_28) rfl ?_
  refine X5.iaload hx (j := ((rr + (1 : Int32)) &&& mk)) (v := (.int (own_get iv ((rr + (1 : Int32)) &&& mk)))) (by rw [e5]; exact Ar6.1) (State.isArrayOf_alike hZ.alike Ar6.2.1) Ar6.2.2 hin6 hat6 (g := (mkF m 30 #[.val (.ref lh), .val (.long hs), .second, .val (.int rr), .val (.int (own_get iv rr)), .val (.int ((rr + (1 : Int32)) &&& mk)), .unset] [(.int ((rr + (1 : Int32)) &&& mk)), (.ref ix)])) rfl rfl (hb hby d24_30) _ ?_
  refine XS.iconst X5.here hx rfl (hb hby d24_31) ?_
  exact kt
 by_cases hc8 : (own_get iv ((rr + (1 : Int32)) &&& mk)) = (-1 : Int32)
 ·obtain ⟨T9, X9, e9, st9⟩ := getF X5 hx hZ hown (host := "") (Or.inl (Wd hw 69 rfl)) Via.refl e5 F_indices_lh (g := (mkF m 116 #[.val (.ref lh), .val (.long hs), .second, .val (.int rr), .val (.int (own_get iv rr)), .val (.int ((rr + (1 : Int32)) &&& mk)), .unset] [(.ref lh)])) rfl rfl (hb hby d24_116)
  obtain ⟨cl10, Ar10, q10, S10, M10, Hs10, G10⟩ := (id V_ix)
  have hin10 : ¬ (rr < 0 ∨ cl10.slots.size ≤ (rr).toNatClampNeg) := inb_of S10 (own_inb K hri)
  obtain ⟨T11, h11, X11, e11, W11, st11⟩ := stI X9 hx hZ e9 Ar10 (j := rr) hin10 (g := (mkF m 121 #[.val (.ref lh), .val (.long hs), .second, .val (.int rr), .val (.int (own_get iv rr)), .val (.int ((rr + (1 : Int32)) &&& mk)), .unset] [(.int (-1 : Int32)), (.int rr), (.ref ix)])) rfl rfl (hb hby d24_121)
  have V11 : Arv Z h11 ix k_ix .int nl ((iv.set rr.toNatClampNeg (-1 : Int32)).map Value.int) (.int (0 : Int32)) := by
   rw [List.map_set]
   exact Arv.set Ar10 q10 S10 M10 Hs10 G10 rfl W11 rr.toNatClampNeg rfl (by first | (rw [List.length_map]; exact (own_sl K hri (by simp [hl8.1, hl8.2]))) | exact (own_sl K hri (by simp [hl8.1, hl8.2])))
  have K11 : Keep h0 h11 [sl, ix] := (Keep.refl h0 [sl, ix]).wr W11 (Or.inl (List.mem_of_getElem? (i := 1) rfl))
  have Zs11 : n0 ≤ h11.size := Nat.le_trans Z0 (Keep.of_wr W11).1
  have N11 := Fr.snoc X11 N1 g_ix
  obtain ⟨fs, hr, hrun, hended, hW, hsame⟩ := X11.leave (v := some (.int (own_get iv rr))) (fun h => by rw [Bd.returns] at h; cases h) hlk
  refine ⟨_, _, (pre0 _ (r7 _ ?_)), hrun, hended, _, _, rfl, ?_, ⟨_, rfl⟩, hW, hsame.mono (by decide) (by decide)⟩
  ·show Steps p.tables e below (T5.setTop (mkF m 32 #[.val (.ref lh), .val (.long hs), .second, .val (.int rr), .val (.int (own_get iv rr)), .val (.int ((rr + (1 : Int32)) &&& mk)), .unset] [(.int (-1 : Int32)), (.int (own_get iv ((rr + (1 : Int32)) &&& mk)))])) _
   refine XS.icmpYes X5.here hx rfl (pc0 := 32) (pc' := 115) rfl (hb hby d24_32) rfl (teq hc8).1 (by decide) (by decide) ?_
   refine XS.aloadN X5.here hx rfl (hb hby d24_115) rfl rfl ?_
   refine st9 _ ?_
   refine XS.iloadN X9.here hx rfl (hb hby d24_119) rfl ?_
   refine XS.iconst X9.here hx rfl (hb hby d24_120) ?_
   refine st11 _ ?_
   refine XS.iload X11.here hx rfl (hb hby d24_122) rfl ?_
   exact retI X11 hx Bd.returns (hb hby d24_124) hr
  ·show QRT Z lh hs sl ix mk nl k_sl sv k_ix iv kl rr h0 n0 _ T11.heap _
   rw [e11]
   exact ⟨sv, (iv.set rr.toNatClampNeg (-1 : Int32)), rfl, N11, K11, (V_sl.other W11 nq_sl_ix), V11, ⟨by simp [hl8.1], by simp [hl8.2], ⟨rr, hri, own_set1 K (by simp [hl8.2]) hri _⟩, fun _ => ⟨rfl, rfl⟩⟩⟩
 ·obtain ⟨T12, X12, e12, st12⟩ := getF X5 hx hZ hown (host := "") (Or.inl (Wd hw 66 rfl)) Via.refl e5 F_slots_lh (g := (mkF m 36 #[.val (.ref lh), .val (.long hs), .second, .val (.int rr), .val (.int (own_get iv rr)), .val (.int ((rr + (1 : Int32)) &&& mk)), .unset] [(.ref lh)])) rfl rfl (hb hby d24_36)
  obtain ⟨cl13, Ar13, q13, S13, M13, Hs13, G13⟩ := (id V_sl)
  have hin13 : ¬ (((rr + (1 : Int32)) &&& mk) < 0 ∨ cl13.slots.size ≤ (((rr + (1 : Int32)) &&& mk)).toNatClampNeg) := inb_of S13 (own_inb K (own_andin K _))
  have hat13 : cl13.slots[(((rr + (1 : Int32)) &&& mk)).toNatClampNeg]? = some (.long (own_getL sv ((rr + (1 : Int32)) &&& mk))) := Hs13.at hin13 (own_getVL sv ((rr + (1 : Int32)) &&& mk))
  obtain ⟨T14, X14, e14, st14⟩ := getF X12 hx hZ hown (host := "") (Or.inl (Wd hw 75 rfl)) Via.refl e12 F_mask_lh (g := (mkF m 44 #[.val (.ref lh), .val (.long hs), .second, .val (.int rr), .val (.int (own_get iv rr)), .val (.int ((rr + (1 : Int32)) &&& mk)), .unset] [(.ref lh), (.int ((own_getL sv ((rr + (1 : Int32)) &&& mk)).toInt32))])) rfl rfl (hb hby d24_44)
  obtain ⟨T15, X15, e15, st15⟩ := getF X14 hx hZ hown (host := "") (Or.inl (Wd hw 75 rfl)) Via.refl e14 F_mask_lh (g := (mkF m 56 #[.val (.ref lh), .val (.long hs), .second, .val (.int rr), .val (.int (own_get iv rr)), .val (.int ((rr + (1 : Int32)) &&& mk)), .val (.int (((own_getL sv ((rr + (1 : Int32)) &&& mk)).toInt32) &&& mk))] [(.ref lh), (.int (((rr + (1 : Int32)) &&& mk) - (((own_getL sv ((rr + (1 : Int32)) &&& mk)).toInt32) &&& mk)))])) rfl rfl (hb hby d24_56)
  obtain ⟨T16, X16, e16, st16⟩ := getF X15 hx hZ hown (host := "") (Or.inl (Wd hw 75 rfl)) Via.refl e15 F_mask_lh (g := (mkF m 65 #[.val (.ref lh), .val (.long hs), .second, .val (.int rr), .val (.int (own_get iv rr)), .val (.int ((rr + (1 : Int32)) &&& mk)), .val (.int (((own_getL sv ((rr + (1 : Int32)) &&& mk)).toInt32) &&& mk))] [(.ref lh), (.int (((rr + (1 : Int32)) &&& mk) - rr)), (.int ((((rr + (1 : Int32)) &&& mk) - (((own_getL sv ((rr + (1 : Int32)) &&& mk)).toInt32) &&& mk)) &&& mk))])) rfl rfl (hb hby d24_65)
  have r17 : ∀ t, Steps p.tables e below (T16.setTop (mkF m 69 #[.val (.ref lh), .val (.long hs), .second, .val (.int rr), .val (.int (own_get iv rr)), .val (.int ((rr + (1 : Int32)) &&& mk)), .val (.int (((own_getL sv ((rr + (1 : Int32)) &&& mk)).toInt32) &&& mk))] [(.int ((((rr + (1 : Int32)) &&& mk) - rr) &&& mk)), (.int ((((rr + (1 : Int32)) &&& mk) - (((own_getL sv ((rr + (1 : Int32)) &&& mk)).toInt32) &&& mk)) &&& mk))])) t → Steps p.tables e below (T5.setTop (mkF m 32 #[.val (.ref lh), .val (.long hs), .second, .val (.int rr), .val (.int (own_get iv rr)), .val (.int ((rr + (1 : Int32)) &&& mk)), .unset] [(.int (-1 : Int32)), (.int (own_get iv ((rr + (1 : Int32)) &&& mk)))])) t := fun t kt => by
   refine XS.icmpNo X5.here hx rfl (hb hby d24_32) rfl (feq hc8).1 ?_
   refine XS.aloadN X5.here hx rfl (hb hby d24_35) rfl rfl ?_
   refine st12 _ ?_
   refine XS.iload X12.here hx rfl (hb hby d24_39) rfl ?_
   refine X12.laload hx (j := ((rr + (1 : Int32)) &&& mk)) (v := (.long (own_getL sv ((rr + (1 : Int32)) &&& mk)))) (by rw [e12]; exact Ar13.1) (State.isArrayOf_alike hZ.alike Ar13.2.1) Ar13.2.2 hin13 hat13 (g := (mkF m 41 #[.val (.ref lh), .val (.long hs), .second, .val (.int rr), .val (.int (own_get iv rr)), .val (.int ((rr + (1 : Int32)) &&& mk)), .unset] [(.int ((rr + (1 : Int32)) &&& mk)), (.ref sl)])) rfl rfl (hb hby d24_41) _ ?_
   refine XS.l2i X12.here hx rfl (hb hby d24_42) rfl ?_
   refine XS.aloadN X12.here hx rfl (hb hby d24_43) rfl rfl ?_
   refine st14 _ ?_
   refine XS.iand X14.here hx rfl (hb hby d24_47) rfl ?_
   refine XS.istore X14.here hx rfl (hb hby d24_48) rfl (l' := #[.val (.ref lh), .val (.long hs), .second, .val (.int rr), .val (.int (own_get iv rr)), .val (.int ((rr + (1 : Int32)) &&& mk)), .val (.int (((own_getL sv ((rr + (1 : Int32)) &&& mk)).toInt32) &&& mk))]) rfl ?_
   refine XS.iload X14.here hx rfl (hb hby d24_50) rfl ?_
   refine XS.iload X14.here hx rfl (hb hby d24_52) rfl ?_
   refine XS.isub X14.here hx rfl (hb hby d24_54) rfl ?_
   refine XS.aloadN X14.here hx rfl (hb hby d24_55) rfl rfl ?_
   refine st15 _ ?_
   refine XS.iand X15.here hx rfl (hb hby d24_59) rfl ?_
   refine XS.iload X15.here hx rfl (hb hby d24_60) rfl ?_
   refine XS.iloadN X15.here hx rfl (hb hby d24_62) rfl ?_
   refine XS.isub X15.here hx rfl (hb hby d24_63) rfl ?_
   refine XS.aloadN X15.here hx rfl (hb hby d24_64) rfl rfl ?_
   refine st16 _ ?_
   refine XS.iand X16.here hx rfl (hb hby d24_68) rfl ?_
   exact kt
  by_cases hc18 : ((((rr + (1 : Int32)) &&& mk) - (((own_getL sv ((rr + (1 : Int32)) &&& mk)).toInt32) &&& mk)) &&& mk) < ((((rr + (1 : Int32)) &&& mk) - rr) &&& mk)
  ·obtain ⟨T19, X19, e19, st19⟩ := getF X16 hx hZ hown (host := "") (Or.inl (Wd hw 75 rfl)) Via.refl e16 F_mask_lh (g := (mkF m 106 #[.val (.ref lh), .val (.long hs), .second, .val (.int rr), .val (.int (own_get iv rr)), .val (.int ((rr + (1 : Int32)) &&& mk)), .val (.int (((own_getL sv ((rr + (1 : Int32)) &&& mk)).toInt32) &&& mk))] [(.ref lh), (.int (((rr + (1 : Int32)) &&& mk) + (1 : Int32)))])) rfl rfl (hb hby d24_106)
   obtain ⟨T20, X20, e20, st20⟩ := getF X19 hx hZ hown (host := "") (Or.inl (Wd hw 69 rfl)) Via.refl e19 F_indices_lh (g := (mkF m 25 #[.val (.ref lh), .val (.long hs), .second, .val (.int rr), .val (.int (own_get iv rr)), .val (.int ((((rr + (1 : Int32)) &&& mk) + (1 : Int32)) &&& mk)), .val (.int (((own_getL sv ((rr + (1 : Int32)) &&& mk)).toInt32) &&& mk))] [(.ref lh)])) rfl rfl (hb hby d24_25)
   obtain ⟨cl21, Ar21, q21, S21, M21, Hs21, G21⟩ := (id V_ix)
   have hin21 : ¬ (((((rr + (1 : Int32)) &&& mk) + (1 : Int32)) &&& mk) < 0 ∨ cl21.slots.size ≤ (((((rr + (1 : Int32)) &&& mk) + (1 : Int32)) &&& mk)).toNatClampNeg) := inb_of S21 (own_inb K (own_andin K _))
   have hat21 : cl21.slots[(((((rr + (1 : Int32)) &&& mk) + (1 : Int32)) &&& mk)).toNatClampNeg]? = some (.int (own_get iv ((((rr + (1 : Int32)) &&& mk) + (1 : Int32)) &&& mk))) := Hs21.at hin21 (own_getV iv ((((rr + (1 : Int32)) &&& mk) + (1 : Int32)) &&& mk))
   obtain ⟨T22, X22, e22, st22⟩ := getF X20 hx hZ hown (host := "") (Or.inl (Wd hw 69 rfl)) Via.refl e20 F_indices_lh (g := (mkF m 116 #[.val (.ref lh), .val (.long hs), .second, .val (.int rr), .val (.int (own_get iv rr)), .val (.int ((((rr + (1 : Int32)) &&& mk) + (1 : Int32)) &&& mk)), .val (.int (((own_getL sv ((rr + (1 : Int32)) &&& mk)).toInt32) &&& mk))] [(.ref lh)])) rfl rfl (hb hby d24_116)
   obtain ⟨cl23, Ar23, q23, S23, M23, Hs23, G23⟩ := (id V_ix)
   have hin23 : ¬ (rr < 0 ∨ cl23.slots.size ≤ (rr).toNatClampNeg) := inb_of S23 (own_inb K hri)
   obtain ⟨T24, h24, X24, e24, W24, st24⟩ := stI X22 hx hZ e22 Ar23 (j := rr) hin23 (g := (mkF m 121 #[.val (.ref lh), .val (.long hs), .second, .val (.int rr), .val (.int (own_get iv rr)), .val (.int ((((rr + (1 : Int32)) &&& mk) + (1 : Int32)) &&& mk)), .val (.int (((own_getL sv ((rr + (1 : Int32)) &&& mk)).toInt32) &&& mk))] [(.int (-1 : Int32)), (.int rr), (.ref ix)])) rfl rfl (hb hby d24_121)
   have V24 : Arv Z h24 ix k_ix .int nl ((iv.set rr.toNatClampNeg (-1 : Int32)).map Value.int) (.int (0 : Int32)) := by
    rw [List.map_set]
    exact Arv.set Ar23 q23 S23 M23 Hs23 G23 rfl W24 rr.toNatClampNeg rfl (by first | (rw [List.length_map]; exact (own_sl K hri (by simp [hl8.1, hl8.2]))) | exact (own_sl K hri (by simp [hl8.1, hl8.2])))
   have K24 : Keep h0 h24 [sl, ix] := (Keep.refl h0 [sl, ix]).wr W24 (Or.inl (List.mem_of_getElem? (i := 1) rfl))
   have Zs24 : n0 ≤ h24.size := Nat.le_trans Z0 (Keep.of_wr W24).1
   have N24 := Fr.snoc X24 N1 g_ix
   obtain ⟨fs, hr, hrun, hended, hW, hsame⟩ := X24.leave (v := some (.int (own_get iv rr))) (fun h => by rw [Bd.returns] at h; cases h) hlk
   refine ⟨_, _, (pre0 _ (r7 _ (r17 _ ?_))), hrun, hended, _, _, rfl, ?_, ⟨_, rfl⟩, hW, hsame.mono (by decide) (by decide)⟩
   ·show Steps p.tables e below (T16.setTop (mkF m 69 #[.val (.ref lh), .val (.long hs), .second, .val (.int rr), .val (.int (own_get iv rr)), .val (.int ((rr + (1 : Int32)) &&& mk)), .val (.int (((own_getL sv ((rr + (1 : Int32)) &&& mk)).toInt32) &&& mk))] [(.int ((((rr + (1 : Int32)) &&& mk) - rr) &&& mk)), (.int ((((rr + (1 : Int32)) &&& mk) - (((own_getL sv ((rr + (1 : Int32)) &&& mk)).toInt32) &&& mk)) &&& mk))])) _
    refine XS.icmpYes X16.here hx rfl (pc0 := 69) (pc' := 101) rfl (hb hby d24_69) rfl (tlt hc18).1 (by decide) (by decide) ?_
    refine XS.iload X16.here hx rfl (hb hby d24_101) rfl ?_
    refine XS.iconst X16.here hx rfl (hb hby d24_103) ?_
    refine XS.iadd X16.here hx rfl (hb hby d24_104) rfl ?_
    refine XS.aloadN X16.here hx rfl (hb hby d24_105) rfl rfl ?_
    refine st19 _ ?_
    refine XS.iand X19.here hx rfl (hb hby d24_109) rfl ?_
    refine XS.istore X19.here hx rfl (hb hby d24_110) rfl (l' := #[.val (.ref lh), .val (.long hs), .second, .val (.int rr), .val (.int (own_get iv rr)), .val (.int ((((rr + (1 : Int32)) &&& mk) + (1 : Int32)) &&& mk)), .val (.int (((own_getL sv ((rr + (1 : Int32)) &&& mk)).toInt32) &&& mk))]) rfl ?_
    refine XS.goto X19.here hx rfl (pc0 := 112) (pc' := 24) rfl (hb hby d24_112) (by decide) (by decide) ?_
    refine XS.aloadN X19.here hx rfl (hb hby d24_24) rfl rfl ?_
    refine st20 _ ?_
    refine XS.iload X20.here hx rfl (hb hby d24_28) rfl ?_
    refine X20.iaload hx (j := ((((rr + (1 : Int32)) &&& mk) + (1 : Int32)) &&& mk)) (v := (.int (own_get iv ((((rr + (1 : Int32)) &&& mk) + (1 : Int32)) &&& mk)))) (by rw [e20]; exact Ar21.1) (State.isArrayOf_alike hZ.alike Ar21.2.1) Ar21.2.2 hin21 hat21 (g := (mkF m 30 #[.val (.ref lh), .val (.long hs), .second, .val (.int rr), .val (.int (own_get iv rr)), .val (.int ((((rr + (1 : Int32)) &&& mk) + (1 : Int32)) &&& mk)), .val (.int (((own_getL sv ((rr + (1 : Int32)) &&& mk)).toInt32) &&& mk))] [(.int ((((rr + (1 : Int32)) &&& mk) + (1 : Int32)) &&& mk)), (.ref ix)])) rfl rfl (hb hby d24_30) _ ?_
    refine XS.iconst X20.here hx rfl (hb hby d24_31) ?_
    refine XS.icmpYes X20.here hx rfl (pc0 := 32) (pc' := 115) rfl (hb hby d24_32) rfl (teq (hn2.resolve_left hc8).2).1 (by decide) (by decide) ?_
    refine XS.aloadN X20.here hx rfl (hb hby d24_115) rfl rfl ?_
    refine st22 _ ?_
    refine XS.iloadN X22.here hx rfl (hb hby d24_119) rfl ?_
    refine XS.iconst X22.here hx rfl (hb hby d24_120) ?_
    refine st24 _ ?_
    refine XS.iload X24.here hx rfl (hb hby d24_122) rfl ?_
    exact retI X24 hx Bd.returns (hb hby d24_124) hr
   ·show QRT Z lh hs sl ix mk nl k_sl sv k_ix iv kl rr h0 n0 _ T24.heap _
    rw [e24]
    exact ⟨sv, (iv.set rr.toNatClampNeg (-1 : Int32)), rfl, N24, K24, (V_sl.other W24 nq_sl_ix), V24, ⟨by simp [hl8.1], by simp [hl8.2], ⟨rr, hri, own_set1 K (by simp [hl8.2]) hri _⟩, fun q => absurd q hc8⟩⟩
  ·obtain ⟨T25, X25, e25, st25⟩ := getF X16 hx hZ hown (host := "") (Or.inl (Wd hw 66 rfl)) Via.refl e16 F_slots_lh (g := (mkF m 73 #[.val (.ref lh), .val (.long hs), .second, .val (.int rr), .val (.int (own_get iv rr)), .val (.int ((rr + (1 : Int32)) &&& mk)), .val (.int (((own_getL sv ((rr + (1 : Int32)) &&& mk)).toInt32) &&& mk))] [(.ref lh)])) rfl rfl (hb hby d24_73)
   obtain ⟨T26, X26, e26, st26⟩ := getF X25 hx hZ hown (host := "") (Or.inl (Wd hw 66 rfl)) Via.refl e25 F_slots_lh (g := (mkF m 78 #[.val (.ref lh), .val (.long hs), .second, .val (.int rr), .val (.int (own_get iv rr)), .val (.int ((rr + (1 : Int32)) &&& mk)), .val (.int (((own_getL sv ((rr + (1 : Int32)) &&& mk)).toInt32) &&& mk))] [(.ref lh), (.int rr), (.ref sl)])) rfl rfl (hb hby d24_78)
   obtain ⟨cl27, Ar27, q27, S27, M27, Hs27, G27⟩ := (id V_sl)
   have hin27 : ¬ (((rr + (1 : Int32)) &&& mk) < 0 ∨ cl27.slots.size ≤ (((rr + (1 : Int32)) &&& mk)).toNatClampNeg) := inb_of S27 (own_inb K (own_andin K _))
   have hat27 : cl27.slots[(((rr + (1 : Int32)) &&& mk)).toNatClampNeg]? = some (.long (own_getL sv ((rr + (1 : Int32)) &&& mk))) := Hs27.at hin27 (own_getVL sv ((rr + (1 : Int32)) &&& mk))
   obtain ⟨cl28, Ar28, q28, S28, M28, Hs28, G28⟩ := (id V_sl)
   have hin28 : ¬ (rr < 0 ∨ cl28.slots.size ≤ (rr).toNatClampNeg) := inb_of S28 (own_inb K hri)
   obtain ⟨T29, h29, X29, e29, W29, st29⟩ := stJ X26 hx hZ e26 Ar28 (j := rr) hin28 (g := (mkF m 84 #[.val (.ref lh), .val (.long hs), .second, .val (.int rr), .val (.int (own_get iv rr)), .val (.int ((rr + (1 : Int32)) &&& mk)), .val (.int (((own_getL sv ((rr + (1 : Int32)) &&& mk)).toInt32) &&& mk))] [(.long (own_getL sv ((rr + (1 : Int32)) &&& mk))), (.int rr), (.ref sl)])) rfl rfl (hb hby d24_84)
   have V29 : Arv Z h29 sl k_sl .long nl ((sv.set rr.toNatClampNeg (own_getL sv ((rr + (1 : Int32)) &&& mk))).map Value.long) (.long (0 : Int64)) := by
    rw [List.map_set]
    exact Arv.set Ar28 q28 S28 M28 Hs28 G28 rfl W29 rr.toNatClampNeg rfl (by first | (rw [List.length_map]; exact (own_sl K hri (by simp [hl8.1, hl8.2]))) | exact (own_sl K hri (by simp [hl8.1, hl8.2])))
   have K29 : Keep h0 h29 [sl, ix] := (Keep.refl h0 [sl, ix]).wr W29 (Or.inl (List.mem_of_getElem? (i := 0) rfl))
   have Zs29 : n0 ≤ h29.size := Nat.le_trans Z0 (Keep.of_wr W29).1
   have N29 := Fr.snoc X29 N1 g_sl
   obtain ⟨T30, X30, e30, st30⟩ := getF X29 hx hZ hown (host := "") (Or.inl (Wd hw 69 rfl)) Via.refl e29 (Fld.other W29 F_indices_lh (Or.inl nq_lh_sl)) (g := (mkF m 86 #[.val (.ref lh), .val (.long hs), .second, .val (.int rr), .val (.int (own_get iv rr)), .val (.int ((rr + (1 : Int32)) &&& mk)), .val (.int (((own_getL sv ((rr + (1 : Int32)) &&& mk)).toInt32) &&& mk))] [(.ref lh)])) rfl rfl (hb hby d24_86)
   obtain ⟨T31, X31, e31, st31⟩ := getF X30 hx hZ hown (host := "") (Or.inl (Wd hw 69 rfl)) Via.refl e30 (Fld.other W29 F_indices_lh (Or.inl nq_lh_sl)) (g := (mkF m 91 #[.val (.ref lh), .val (.long hs), .second, .val (.int rr), .val (.int (own_get iv rr)), .val (.int ((rr + (1 : Int32)) &&& mk)), .val (.int (((own_getL sv ((rr + (1 : Int32)) &&& mk)).toInt32) &&& mk))] [(.ref lh), (.int rr), (.ref ix)])) rfl rfl (hb hby d24_91)
   obtain ⟨cl32, Ar32, q32, S32, M32, Hs32, G32⟩ := (V_ix.other W29 nq_sl_ix.symm)
   have hin32 : ¬ (((rr + (1 : Int32)) &&& mk) < 0 ∨ cl32.slots.size ≤ (((rr + (1 : Int32)) &&& mk)).toNatClampNeg) := inb_of S32 (own_inb K (own_andin K _))
   have hat32 : cl32.slots[(((rr + (1 : Int32)) &&& mk)).toNatClampNeg]? = some (.int (own_get iv ((rr + (1 : Int32)) &&& mk))) := Hs32.at hin32 (own_getV iv ((rr + (1 : Int32)) &&& mk))
   obtain ⟨cl33, Ar33, q33, S33, M33, Hs33, G33⟩ := (V_ix.other W29 nq_sl_ix.symm)
   have hin33 : ¬ (rr < 0 ∨ cl33.slots.size ≤ (rr).toNatClampNeg) := inb_of S33 (own_inb K hri)
   obtain ⟨T34, h34, X34, e34, W34, st34⟩ := stI X31 hx hZ e31 Ar33 (j := rr) hin33 (g := (mkF m 97 #[.val (.ref lh), .val (.long hs), .second, .val (.int rr), .val (.int (own_get iv rr)), .val (.int ((rr + (1 : Int32)) &&& mk)), .val (.int (((own_getL sv ((rr + (1 : Int32)) &&& mk)).toInt32) &&& mk))] [(.int (own_get iv ((rr + (1 : Int32)) &&& mk))), (.int rr), (.ref ix)])) rfl rfl (hb hby d24_97)
   have V34 : Arv Z h34 ix k_ix .int nl ((iv.set rr.toNatClampNeg (own_get iv ((rr + (1 : Int32)) &&& mk))).map Value.int) (.int (0 : Int32)) := by
    rw [List.map_set]
    exact Arv.set Ar33 q33 S33 M33 Hs33 G33 rfl W34 rr.toNatClampNeg rfl (by first | (rw [List.length_map]; exact (own_sl K hri (by simp [hl8.1, hl8.2]))) | exact (own_sl K hri (by simp [hl8.1, hl8.2])))
   have K34 : Keep h0 h34 [sl, ix] := K29.wr W34 (Or.inl (List.mem_of_getElem? (i := 1) rfl))
   have Zs34 : n0 ≤ h34.size := Nat.le_trans Zs29 (Keep.of_wr W34).1
   have N34 := Fr.snoc X34 N29 g_ix
   obtain ⟨T35, X35, e35, st35⟩ := getF X34 hx hZ hown (host := "") (Or.inl (Wd hw 75 rfl)) Via.refl e34 (Fld.other W34 (Fld.other W29 F_mask_lh (Or.inl nq_lh_sl)) (Or.inl nq_lh_ix)) (g := (mkF m 106 #[.val (.ref lh), .val (.long hs), .second, .val (.int ((rr + (1 : Int32)) &&& mk)), .val (.int (own_get iv rr)), .val (.int ((rr + (1 : Int32)) &&& mk)), .val (.int (((own_getL sv ((rr + (1 : Int32)) &&& mk)).toInt32) &&& mk))] [(.ref lh), (.int (((rr + (1 : Int32)) &&& mk) + (1 : Int32)))])) rfl rfl (hb hby d24_106)
   obtain ⟨T36, X36, e36, st36⟩ := getF X35 hx hZ hown (host := "") (Or.inl (Wd hw 69 rfl)) Via.refl e35 (Fld.other W34 (Fld.other W29 F_indices_lh (Or.inl nq_lh_sl)) (Or.inl nq_lh_ix)) (g := (mkF m 25 #[.val (.ref lh), .val (.long hs), .second, .val (.int ((rr + (1 : Int32)) &&& mk)), .val (.int (own_get iv rr)), .val (.int ((((rr + (1 : Int32)) &&& mk) + (1 : Int32)) &&& mk)), .val (.int (((own_getL sv ((rr + (1 : Int32)) &&& mk)).toInt32) &&& mk))] [(.ref lh)])) rfl rfl (hb hby d24_25)
   obtain ⟨cl37, Ar37, q37, S37, M37, Hs37, G37⟩ := (id V34)
   have hin37 : ¬ (((((rr + (1 : Int32)) &&& mk) + (1 : Int32)) &&& mk) < 0 ∨ cl37.slots.size ≤ (((((rr + (1 : Int32)) &&& mk) + (1 : Int32)) &&& mk)).toNatClampNeg) := inb_of S37 (own_inb K (own_andin K _))
   have hat37 : cl37.slots[(((((rr + (1 : Int32)) &&& mk) + (1 : Int32)) &&& mk)).toNatClampNeg]? = some (.int (own_get (iv.set rr.toNatClampNeg (own_get iv ((rr + (1 : Int32)) &&& mk))) ((((rr + (1 : Int32)) &&& mk) + (1 : Int32)) &&& mk))) := Hs37.at hin37 (own_getV (iv.set rr.toNatClampNeg (own_get iv ((rr + (1 : Int32)) &&& mk))) ((((rr + (1 : Int32)) &&& mk) + (1 : Int32)) &&& mk))
   obtain ⟨T38, X38, e38, st38⟩ := getF X36 hx hZ hown (host := "") (Or.inl (Wd hw 69 rfl)) Via.refl e36 (Fld.other W34 (Fld.other W29 F_indices_lh (Or.inl nq_lh_sl)) (Or.inl nq_lh_ix)) (g := (mkF m 116 #[.val (.ref lh), .val (.long hs), .second, .val (.int ((rr + (1 : Int32)) &&& mk)), .val (.int (own_get iv rr)), .val (.int ((((rr + (1 : Int32)) &&& mk) + (1 : Int32)) &&& mk)), .val (.int (((own_getL sv ((rr + (1 : Int32)) &&& mk)).toInt32) &&& mk))] [(.ref lh)])) rfl rfl (hb hby d24_116)
   obtain ⟨cl39, Ar39, q39, S39, M39, Hs39, G39⟩ := (id V34)
   have hin39 : ¬ (((rr + (1 : Int32)) &&& mk) < 0 ∨ cl39.slots.size ≤ (((rr + (1 : Int32)) &&& mk)).toNatClampNeg) := inb_of S39 (own_inb K (own_andin K _))
   obtain ⟨T40, h40, X40, e40, W40, st40⟩ := stI X38 hx hZ e38 Ar39 (j := ((rr + (1 : Int32)) &&& mk)) hin39 (g := (mkF m 121 #[.val (.ref lh), .val (.long hs), .second, .val (.int ((rr + (1 : Int32)) &&& mk)), .val (.int (own_get iv rr)), .val (.int ((((rr + (1 : Int32)) &&& mk) + (1 : Int32)) &&& mk)), .val (.int (((own_getL sv ((rr + (1 : Int32)) &&& mk)).toInt32) &&& mk))] [(.int (-1 : Int32)), (.int ((rr + (1 : Int32)) &&& mk)), (.ref ix)])) rfl rfl (hb hby d24_121)
   have V40 : Arv Z h40 ix k_ix .int nl (((iv.set rr.toNatClampNeg (own_get iv ((rr + (1 : Int32)) &&& mk))).set ((rr + (1 : Int32)) &&& mk).toNatClampNeg (-1 : Int32)).map Value.int) (.int (0 : Int32)) := by
    rw [List.map_set]
    exact Arv.set Ar39 q39 S39 M39 Hs39 G39 rfl W40 ((rr + (1 : Int32)) &&& mk).toNatClampNeg rfl (by first | (rw [List.length_map]; exact (own_sl K (own_andin K _) (by simp [hl8.1, hl8.2]))) | exact (own_sl K (own_andin K _) (by simp [hl8.1, hl8.2])))
   have K40 : Keep h0 h40 [sl, ix] := K34.wr W40 (Or.inl (List.mem_of_getElem? (i := 1) rfl))
   have Zs40 : n0 ≤ h40.size := Nat.le_trans Zs34 (Keep.of_wr W40).1
   have N40 := Fr.snoc X40 N34 g_ix
   obtain ⟨fs, hr, hrun, hended, hW, hsame⟩ := X40.leave (v := some (.int (own_get iv rr))) (fun h => by rw [Bd.returns] at h; cases h) hlk
   refine ⟨_, _, (pre0 _ (r7 _ (r17 _ ?_))), hrun, hended, _, _, rfl, ?_, ⟨_, rfl⟩, hW, hsame.mono (by decide) (by decide)⟩
   ·show Steps p.tables e below (T16.setTop (mkF m 69 #[.val (.ref lh), .val (.long hs), .second, .val (.int rr), .val (.int (own_get iv rr)), .val (.int ((rr + (1 : Int32)) &&& mk)), .val (.int (((own_getL sv ((rr + (1 : Int32)) &&& mk)).toInt32) &&& mk))] [(.int ((((rr + (1 : Int32)) &&& mk) - rr) &&& mk)), (.int ((((rr + (1 : Int32)) &&& mk) - (((own_getL sv ((rr + (1 : Int32)) &&& mk)).toInt32) &&& mk)) &&& mk))])) _
    refine XS.icmpNo X16.here hx rfl (hb hby d24_69) rfl (flt hc18).1 ?_
    refine XS.aloadN X16.here hx rfl (hb hby d24_72) rfl rfl ?_
    refine st25 _ ?_
    refine XS.iloadN X25.here hx rfl (hb hby d24_76) rfl ?_
    refine XS.aloadN X25.here hx rfl (hb hby d24_77) rfl rfl ?_
    refine st26 _ ?_
    refine XS.iload X26.here hx rfl (hb hby d24_81) rfl ?_
    refine X26.laload hx (j := ((rr + (1 : Int32)) &&& mk)) (v := (.long (own_getL sv ((rr + (1 : Int32)) &&& mk)))) (by rw [e26]; exact Ar27.1) (State.isArrayOf_alike hZ.alike Ar27.2.1) Ar27.2.2 hin27 hat27 (g := (mkF m 83 #[.val (.ref lh), .val (.long hs), .second, .val (.int rr), .val (.int (own_get iv rr)), .val (.int ((rr + (1 : Int32)) &&& mk)), .val (.int (((own_getL sv ((rr + (1 : Int32)) &&& mk)).toInt32) &&& mk))] [(.int ((rr + (1 : Int32)) &&& mk)), (.ref sl), (.int rr), (.ref sl)])) rfl rfl (hb hby d24_83) _ ?_
    refine st29 _ ?_
    refine XS.aloadN X29.here hx rfl (hb hby d24_85) rfl rfl ?_
    refine st30 _ ?_
    refine XS.iloadN X30.here hx rfl (hb hby d24_89) rfl ?_
    refine XS.aloadN X30.here hx rfl (hb hby d24_90) rfl rfl ?_
    refine st31 _ ?_
    refine XS.iload X31.here hx rfl (hb hby d24_94) rfl ?_
    refine X31.iaload hx (j := ((rr + (1 : Int32)) &&& mk)) (v := (.int (own_get iv ((rr + (1 : Int32)) &&& mk)))) (by rw [e31]; exact Ar32.1) (State.isArrayOf_alike hZ.alike Ar32.2.1) Ar32.2.2 hin32 hat32 (g := (mkF m 96 #[.val (.ref lh), .val (.long hs), .second, .val (.int rr), .val (.int (own_get iv rr)), .val (.int ((rr + (1 : Int32)) &&& mk)), .val (.int (((own_getL sv ((rr + (1 : Int32)) &&& mk)).toInt32) &&& mk))] [(.int ((rr + (1 : Int32)) &&& mk)), (.ref ix), (.int rr), (.ref ix)])) rfl rfl (hb hby d24_96) _ ?_
    refine st34 _ ?_
    refine XS.iload X34.here hx rfl (hb hby d24_98) rfl ?_
    refine XS.istoreN X34.here hx rfl (hb hby d24_100) rfl (l' := #[.val (.ref lh), .val (.long hs), .second, .val (.int ((rr + (1 : Int32)) &&& mk)), .val (.int (own_get iv rr)), .val (.int ((rr + (1 : Int32)) &&& mk)), .val (.int (((own_getL sv ((rr + (1 : Int32)) &&& mk)).toInt32) &&& mk))]) rfl ?_
    refine XS.iload X34.here hx rfl (hb hby d24_101) rfl ?_
    refine XS.iconst X34.here hx rfl (hb hby d24_103) ?_
    refine XS.iadd X34.here hx rfl (hb hby d24_104) rfl ?_
    refine XS.aloadN X34.here hx rfl (hb hby d24_105) rfl rfl ?_
    refine st35 _ ?_
    refine XS.iand X35.here hx rfl (hb hby d24_109) rfl ?_
    refine XS.istore X35.here hx rfl (hb hby d24_110) rfl (l' := #[.val (.ref lh), .val (.long hs), .second, .val (.int ((rr + (1 : Int32)) &&& mk)), .val (.int (own_get iv rr)), .val (.int ((((rr + (1 : Int32)) &&& mk) + (1 : Int32)) &&& mk)), .val (.int (((own_getL sv ((rr + (1 : Int32)) &&& mk)).toInt32) &&& mk))]) rfl ?_
    refine XS.goto X35.here hx rfl (pc0 := 112) (pc' := 24) rfl (hb hby d24_112) (by decide) (by decide) ?_
    refine XS.aloadN X35.here hx rfl (hb hby d24_24) rfl rfl ?_
    refine st36 _ ?_
    refine XS.iload X36.here hx rfl (hb hby d24_28) rfl ?_
    refine X36.iaload hx (j := ((((rr + (1 : Int32)) &&& mk) + (1 : Int32)) &&& mk)) (v := (.int (own_get (iv.set rr.toNatClampNeg (own_get iv ((rr + (1 : Int32)) &&& mk))) ((((rr + (1 : Int32)) &&& mk) + (1 : Int32)) &&& mk)))) (by rw [e36]; exact Ar37.1) (State.isArrayOf_alike hZ.alike Ar37.2.1) Ar37.2.2 hin37 hat37 (g := (mkF m 30 #[.val (.ref lh), .val (.long hs), .second, .val (.int ((rr + (1 : Int32)) &&& mk)), .val (.int (own_get iv rr)), .val (.int ((((rr + (1 : Int32)) &&& mk) + (1 : Int32)) &&& mk)), .val (.int (((own_getL sv ((rr + (1 : Int32)) &&& mk)).toInt32) &&& mk))] [(.int ((((rr + (1 : Int32)) &&& mk) + (1 : Int32)) &&& mk)), (.ref ix)])) rfl rfl (hb hby d24_30) _ ?_
    refine XS.iconst X36.here hx rfl (hb hby d24_31) ?_
    refine XS.icmpYes X36.here hx rfl (pc0 := 32) (pc' := 115) rfl (hb hby d24_32) rfl (teq (by rw [own_set K hl8.2 hri (own_andin K _), if_neg (hn2.resolve_left hc8).1]; exact (hn2.resolve_left hc8).2)).1 (by decide) (by decide) ?_
    refine XS.aloadN X36.here hx rfl (hb hby d24_115) rfl rfl ?_
    refine st38 _ ?_
    refine XS.iloadN X38.here hx rfl (hb hby d24_119) rfl ?_
    refine XS.iconst X38.here hx rfl (hb hby d24_120) ?_
    refine st40 _ ?_
    refine XS.iload X40.here hx rfl (hb hby d24_122) rfl ?_
    exact retI X40 hx Bd.returns (hb hby d24_124) hr
   ·show QRT Z lh hs sl ix mk nl k_sl sv k_ix iv kl rr h0 n0 _ T40.heap _
    rw [e40]
    exact ⟨(sv.set rr.toNatClampNeg (own_getL sv ((rr + (1 : Int32)) &&& mk))), ((iv.set rr.toNatClampNeg (own_get iv ((rr + (1 : Int32)) &&& mk))).set ((rr + (1 : Int32)) &&& mk).toNatClampNeg (-1 : Int32)), rfl, N40, K40, ((V29.other W34 nq_sl_ix).other W40 nq_sl_ix), V40, ⟨by simp [hl8.1], by simp [hl8.2], ⟨((rr + (1 : Int32)) &&& mk), (own_andin K _), own_set1 K (by simp [hl8.2]) (own_andin K _) _⟩, fun q => absurd q hc8⟩⟩
theorem d25_0 : decode prog_2_method_11_code 0 = .ok (.iconst 0, 1) := by decide +kernel
theorem d25_1 : decode prog_2_method_11_code 1 = .ok (.istore_n 3, 1) := by decide +kernel
theorem d25_2 : decode prog_2_method_11_code 2 = .ok (.iconst 1, 1) := by decide +kernel
theorem d25_3 : decode prog_2_method_11_code 3 = .ok (.istore 4, 2) := by decide +kernel
theorem d25_5 : decode prog_2_method_11_code 5 = .ok (.iload 4, 2) := by decide +kernel
theorem d25_7 : decode prog_2_method_11_code 7 = .ok (.aload_n 0, 1) := by decide +kernel
theorem d25_8 : decode prog_2_method_11_code 8 = .ok (.getfield 36, 3) := by decide +kernel
theorem d25_11 : decode prog_2_method_11_code 11 = .ok (.if_icmp .ge 82, 3) := by decide +kernel
theorem d25_93 : decode prog_2_method_11_code 93 = .ok (.aload_n 0, 1) := by decide +kernel
theorem d25_94 : decode prog_2_method_11_code 94 = .ok (.getfield 7, 3) := by decide +kernel
theorem d25_97 : decode prog_2_method_11_code 97 = .ok (.iload_n 3, 1) := by decide +kernel
theorem d25_98 : decode prog_2_method_11_code 98 = .ok (.lload_n 1, 1) := by decide +kernel
theorem d25_99 : decode prog_2_method_11_code 99 = .ok (.lastore, 1) := by decide +kernel
theorem d25_100 : decode prog_2_method_11_code 100 = .ok (.return_, 1) := by decide +kernel
theorem efRSb (m : MethodId) (lh : Addr) (hs : Int64) : entryFrame m #[(.ref lh), (.long hs)] 5 = mkF m 0 #[.val (.ref lh), .val (.long hs), .second, .unset, .unset] [] := by first | (simp [entryFrame, mkF, argsToLocals, Value.category]; done) | rfl
def QRSb (Z : State) (lh : Addr) (hs : Int64) (hp : Addr) (xa : Int64) (xb : Int64) (xc : Int64) (kl : Int32) (k_hp : ClassId) (h0 : Heap) (n0 : Nat) (v : Option Value) (h : Heap) (L : List Loc) : Prop := v = none ∧ Fr n0 L ∧ Keep h0 h [hp] ∧ Arv Z h hp k_hp .long kl [(.long hs), (.long xb), (.long xc)] (.long (0 : Int64))
set_option maxRecDepth 65536 in
set_option maxHeartbeats 40000000 in
theorem rmRSb (l : Launch) (Z : State) (a0 : Array Value) (hw : ∀ d ∈ tables_1, d.before a0 Z = true) (ws : List Jvm.Cond) (lh : Addr) (hs : Int64) (hp : Addr) (xa : Int64) (xb : Int64) (xc : Int64) (kl : Int32) (k_hp : ClassId) (h0 : Heap) (n0 : Nat) (Z0 : n0 ≤ h0.size) (E_lh : Exa Z h0 lh cLH) (F_heap_lh : Fld Z h0 lh cLH "heap" "[J" (.ref hp)) (F_size_lh : Fld Z h0 lh cLH "size" "I" (.int (1 : Int32))) (V_hp : Arv Z h0 hp k_hp .long kl [(.long xa), (.long xb), (.long xc)] (.long (0 : Int64))) (hz : (1 : Int32) = kl) (g_hp : n0 ≤ hp) :
  MetFree l (⟨cLH, "replaceSmallest", "(J)V"⟩ : MethodName) (head1 (Jvm.Cond.code (⟨cLH, "replaceSmallest", "(J)V"⟩ : MethodName) prog_2_method_11_code 5 none :: ws) ({ frames := 2, cells := 0, slots := 0, locals := 50 } : Room)) (fun av_ U => av_ = #[(.ref lh), (.long hs)] ∧ Z.Warmed39 U.vm ∧ U.heap = h0) (fun _ _ _ _ _ => True) (fun _ U o U' => ∃ v L, o = .returned v ∧ QRSb Z lh hs hp xa xb xc kl k_hp h0 n0 v U'.heap L ∧ FrameEnd U o U' L ({ frames := 2, cells := 0, slots := 0, locals := 50 } : Room).cells ({ frames := 2, cells := 0, slots := 0, locals := 50 } : Room).slots) := by
 refine MetFree.of_bodySF (plainFor_of_name own_pn1) hisR ?_
 intro p e s m args below meth c s₁ Bd hml0 hP hK
 obtain ⟨rfl, hZ, hh⟩ := hP
 have hx := Bd.exec
 have hby := Bd.bytes
 have hml : c.maxLocals = 5 := hml0
 have hown : s.vm.findClass cLH = some m.cls := findClass_of_methodNamed Bd.named
 have hnm := (name_of_methodNamed Bd.named Bd.method).1
 have X0 : Stand p l e ({ frames := 2, cells := 0, slots := 0, locals := 50 } : Room) s m #[(.ref lh), (.long hs)] below meth c s₁ [] 0 0 := Stand.of_body Bd
 have e0 : s₁.heap = h0 := by rw [← hh, Bd.state]; rfl
 have N0 := Fr.nil n0
 have hlk : meth.locks = false := Bd.notSynchronized
 have pre0 : ∀ t, Steps p.tables e below (s₁.setTop (mkF m 0 #[.val (.ref lh), .val (.long hs), .second, .unset, .unset] [])) t → Steps p.tables e below (s₁.setTop (entryFrame m #[(.ref lh), (.long hs)] 5)) t := fun t k => castTop (efRSb m lh hs) k
 obtain ⟨T1, X1, e1, st1⟩ := getF X0 hx hZ hown (host := "") (Or.inl (Wd hw 99 rfl)) Via.refl e0 F_size_lh (g := (mkF m 8 #[.val (.ref lh), .val (.long hs), .second, .val (.int (0 : Int32)), .val (.int (1 : Int32))] [(.ref lh), (.int (1 : Int32))])) rfl rfl (hb hby d25_8)
 obtain ⟨T2, X2, e2, st2⟩ := getF X1 hx hZ hown (host := "") (Or.inl (Wd hw 56 rfl)) Via.refl e1 F_heap_lh (g := (mkF m 94 #[.val (.ref lh), .val (.long hs), .second, .val (.int (0 : Int32)), .val (.int (1 : Int32))] [(.ref lh)])) rfl rfl (hb hby d25_94)
 obtain ⟨cl3, Ar3, q3, S3, M3, Hs3, G3⟩ := (id V_hp)
 have hin3 : ¬ ((0 : Int32) < 0 ∨ cl3.slots.size ≤ ((0 : Int32)).toNatClampNeg) := inb_of S3 ⟨by decide, by rw [← hz]; decide⟩
 obtain ⟨T4, h4, X4, e4, W4, st4⟩ := stJ X2 hx hZ e2 Ar3 (j := (0 : Int32)) hin3 (g := (mkF m 99 #[.val (.ref lh), .val (.long hs), .second, .val (.int (0 : Int32)), .val (.int (1 : Int32))] [(.long hs), (.int (0 : Int32)), (.ref hp)])) rfl rfl (hb hby d25_99)
 have V4 : Arv Z h4 hp k_hp .long kl [(.long hs), (.long xb), (.long xc)] (.long (0 : Int64)) := Arv.set Ar3 q3 S3 M3 Hs3 G3 rfl W4 0 rfl (Nat.le_of_ble_eq_true rfl)
 have K4 : Keep h0 h4 [hp] := (Keep.refl h0 [hp]).wr W4 (Or.inl (List.mem_of_getElem? (i := 0) rfl))
 have Zs4 : n0 ≤ h4.size := Nat.le_trans Z0 (Keep.of_wr W4).1
 have N4 := Fr.snoc X4 N0 g_hp
 obtain ⟨fs, hr, hrun, hended, hW, hsame⟩ := X4.leave (v := none) (fun _ => rfl) hlk
 refine ⟨_, _, (pre0 _ ?_), hrun, hended, _, _, rfl, ?_, ⟨_, rfl⟩, hW, hsame.mono (by decide) (by decide)⟩
 ·show Steps p.tables e below (s₁.setTop (mkF m 0 #[.val (.ref lh), .val (.long hs), .second, .unset, .unset] [])) _
  refine XS.iconst X0.here hx rfl (hb hby d25_0) ?_
  refine XS.istoreN X0.here hx rfl (hb hby d25_1) rfl (l' := #[.val (.ref lh), .val (.long hs), .second, .val (.int (0 : Int32)), .unset]) rfl ?_
  refine XS.iconst X0.here hx rfl (hb hby d25_2) ?_
  refine XS.istore X0.here hx rfl (hb hby d25_3) rfl (l' := #[.val (.ref lh), .val (.long hs), .second, .val (.int (0 : Int32)), .val (.int (1 : Int32))]) rfl ?_
  refine XS.iload X0.here hx rfl (hb hby d25_5) rfl ?_
  refine XS.aloadN X0.here hx rfl (hb hby d25_7) rfl rfl ?_
  refine st1 _ ?_
  refine XS.icmpYes X1.here hx rfl (pc0 := 11) (pc' := 93) rfl (hb hby d25_11) rfl (flt (by decide : ¬ ((1 : Int32) < (1 : Int32)))).2.1 (by decide) (by decide) ?_
  refine XS.aloadN X1.here hx rfl (hb hby d25_93) rfl rfl ?_
  refine st2 _ ?_
  refine XS.iloadN X2.here hx rfl (hb hby d25_97) rfl ?_
  refine XS.lloadN X2.here hx rfl (hb hby d25_98) rfl ?_
  refine st4 _ ?_
  exact X4.returnOut hx Bd.returns (hb hby d25_100) hr
 ·show QRSb Z lh hs hp xa xb xc kl k_hp h0 n0 _ T4.heap _
  rw [e4]
  exact ⟨rfl, N4, K4, V4⟩
theorem d25_14 : decode prog_2_method_11_code 14 = .ok (.iload 4, 2) := by decide +kernel
theorem d25_16 : decode prog_2_method_11_code 16 = .ok (.iconst 1, 1) := by decide +kernel
theorem d25_17 : decode prog_2_method_11_code 17 = .ok (.iadd, 1) := by decide +kernel
theorem d25_18 : decode prog_2_method_11_code 18 = .ok (.aload_n 0, 1) := by decide +kernel
theorem d25_19 : decode prog_2_method_11_code 19 = .ok (.getfield 36, 3) := by decide +kernel
theorem d25_22 : decode prog_2_method_11_code 22 = .ok (.if_icmp .ge 28, 3) := by decide +kernel
theorem d25_50 : decode prog_2_method_11_code 50 = .ok (.lload_n 1, 1) := by decide +kernel
theorem d25_51 : decode prog_2_method_11_code 51 = .ok (.aload_n 0, 1) := by decide +kernel
theorem d25_52 : decode prog_2_method_11_code 52 = .ok (.getfield 7, 3) := by decide +kernel
theorem d25_55 : decode prog_2_method_11_code 55 = .ok (.iload 4, 2) := by decide +kernel
theorem d25_57 : decode prog_2_method_11_code 57 = .ok (.laload, 1) := by decide +kernel
theorem d25_58 : decode prog_2_method_11_code 58 = .ok (.invokestatic 43, 3) := by decide +kernel
theorem d25_61 : decode prog_2_method_11_code 61 = .ok (.ifCond .gt 6, 3) := by decide +kernel
theorem d25_64 : decode prog_2_method_11_code 64 = .ok (.goto 29, 3) := by decide +kernel
theorem d25_67 : decode prog_2_method_11_code 67 = .ok (.aload_n 0, 1) := by decide +kernel
theorem d25_68 : decode prog_2_method_11_code 68 = .ok (.getfield 7, 3) := by decide +kernel
theorem d25_71 : decode prog_2_method_11_code 71 = .ok (.iload_n 3, 1) := by decide +kernel
theorem d25_72 : decode prog_2_method_11_code 72 = .ok (.aload_n 0, 1) := by decide +kernel
theorem d25_73 : decode prog_2_method_11_code 73 = .ok (.getfield 7, 3) := by decide +kernel
theorem d25_76 : decode prog_2_method_11_code 76 = .ok (.iload 4, 2) := by decide +kernel
theorem d25_78 : decode prog_2_method_11_code 78 = .ok (.laload, 1) := by decide +kernel
theorem d25_79 : decode prog_2_method_11_code 79 = .ok (.lastore, 1) := by decide +kernel
theorem d25_80 : decode prog_2_method_11_code 80 = .ok (.iload 4, 2) := by decide +kernel
theorem d25_82 : decode prog_2_method_11_code 82 = .ok (.istore_n 3, 1) := by decide +kernel
theorem d25_83 : decode prog_2_method_11_code 83 = .ok (.iconst 2, 1) := by decide +kernel
theorem d25_84 : decode prog_2_method_11_code 84 = .ok (.iload_n 3, 1) := by decide +kernel
theorem d25_85 : decode prog_2_method_11_code 85 = .ok (.imul, 1) := by decide +kernel
theorem d25_86 : decode prog_2_method_11_code 86 = .ok (.iconst 1, 1) := by decide +kernel
theorem d25_87 : decode prog_2_method_11_code 87 = .ok (.iadd, 1) := by decide +kernel
theorem d25_88 : decode prog_2_method_11_code 88 = .ok (.istore 4, 2) := by decide +kernel
theorem d25_90 : decode prog_2_method_11_code 90 = .ok (.goto (-85), 3) := by decide +kernel
theorem efRSc (m : MethodId) (lh : Addr) (hs : Int64) : entryFrame m #[(.ref lh), (.long hs)] 5 = mkF m 0 #[.val (.ref lh), .val (.long hs), .second, .unset, .unset] [] := by first | (simp [entryFrame, mkF, argsToLocals, Value.category]; done) | rfl
def QRSc (Z : State) (lh : Addr) (hs : Int64) (hp : Addr) (xa : Int64) (xb : Int64) (xc : Int64) (kl : Int32) (k_hp : ClassId) (h0 : Heap) (n0 : Nat) (v : Option Value) (h : Heap) (L : List Loc) : Prop := v = none ∧ Fr n0 L ∧ Keep h0 h [hp]
set_option maxRecDepth 65536 in
set_option maxHeartbeats 40000000 in
theorem rmRSc (l : Launch) (Z : State) (a0 : Array Value) (hw : ∀ d ∈ tables_1, d.before a0 Z = true) (ws : List Jvm.Cond) (lh : Addr) (hs : Int64) (hp : Addr) (xa : Int64) (xb : Int64) (xc : Int64) (kl : Int32) (k_hp : ClassId) (h0 : Heap) (n0 : Nat) (Z0 : n0 ≤ h0.size) (E_lh : Exa Z h0 lh cLH) (F_heap_lh : Fld Z h0 lh cLH "heap" "[J" (.ref hp)) (F_size_lh : Fld Z h0 lh cLH "size" "I" (.int (2 : Int32))) (V_hp : Arv Z h0 hp k_hp .long kl [(.long xa), (.long xb), (.long xc)] (.long (0 : Int64))) (hz : (2 : Int32) = kl) (g_hp : n0 ≤ hp) :
  MetFree l (⟨cLH, "replaceSmallest", "(J)V"⟩ : MethodName) (head1 (Jvm.Cond.code (⟨cLH, "replaceSmallest", "(J)V"⟩ : MethodName) prog_2_method_11_code 5 none :: ws) ({ frames := 2, cells := 0, slots := 0, locals := 50 } : Room)) (fun av_ U => av_ = #[(.ref lh), (.long hs)] ∧ Z.Warmed39 U.vm ∧ U.heap = h0) (fun _ _ _ _ _ => True) (fun _ U o U' => ∃ v L, o = .returned v ∧ QRSc Z lh hs hp xa xb xc kl k_hp h0 n0 v U'.heap L ∧ FrameEnd U o U' L ({ frames := 2, cells := 0, slots := 0, locals := 50 } : Room).cells ({ frames := 2, cells := 0, slots := 0, locals := 50 } : Room).slots) := by
 refine MetFree.of_bodySF (plainFor_of_name own_pn1) hisR ?_
 intro p e s m args below meth c s₁ Bd hml0 hP hK
 obtain ⟨rfl, hZ, hh⟩ := hP
 have hx := Bd.exec
 have hby := Bd.bytes
 have hml : c.maxLocals = 5 := hml0
 have hown : s.vm.findClass cLH = some m.cls := findClass_of_methodNamed Bd.named
 have hnm := (name_of_methodNamed Bd.named Bd.method).1
 have X0 : Stand p l e ({ frames := 2, cells := 0, slots := 0, locals := 50 } : Room) s m #[(.ref lh), (.long hs)] below meth c s₁ [] 0 0 := Stand.of_body Bd
 have e0 : s₁.heap = h0 := by rw [← hh, Bd.state]; rfl
 have N0 := Fr.nil n0
 have hlk : meth.locks = false := Bd.notSynchronized
 have pre0 : ∀ t, Steps p.tables e below (s₁.setTop (mkF m 0 #[.val (.ref lh), .val (.long hs), .second, .unset, .unset] [])) t → Steps p.tables e below (s₁.setTop (entryFrame m #[(.ref lh), (.long hs)] 5)) t := fun t k => castTop (efRSc m lh hs) k
 have nq_lh_hp : lh ≠ hp := (Exa.neArv E_lh V_hp (Wd hw 49 rfl))
 obtain ⟨T1, X1, e1, st1⟩ := getF X0 hx hZ hown (host := "") (Or.inl (Wd hw 99 rfl)) Via.refl e0 F_size_lh (g := (mkF m 8 #[.val (.ref lh), .val (.long hs), .second, .val (.int (0 : Int32)), .val (.int (1 : Int32))] [(.ref lh), (.int (1 : Int32))])) rfl rfl (hb hby d25_8)
 obtain ⟨T2, X2, e2, st2⟩ := getF X1 hx hZ hown (host := "") (Or.inl (Wd hw 99 rfl)) Via.refl e1 F_size_lh (g := (mkF m 19 #[.val (.ref lh), .val (.long hs), .second, .val (.int (0 : Int32)), .val (.int (1 : Int32))] [(.ref lh), (.int (2 : Int32))])) rfl rfl (hb hby d25_19)
 obtain ⟨T3, X3, e3, st3⟩ := getF X2 hx hZ hown (host := "") (Or.inl (Wd hw 56 rfl)) Via.refl e2 F_heap_lh (g := (mkF m 52 #[.val (.ref lh), .val (.long hs), .second, .val (.int (0 : Int32)), .val (.int (1 : Int32))] [(.ref lh), (.long hs)])) rfl rfl (hb hby d25_52)
 obtain ⟨cl4, Ar4, q4, S4, M4, Hs4, G4⟩ := (id V_hp)
 have hin4 : ¬ ((1 : Int32) < 0 ∨ cl4.slots.size ≤ ((1 : Int32)).toNatClampNeg) := inb_of S4 ⟨by decide, by rw [← hz]; decide⟩
 have hat4 : cl4.slots[((1 : Int32)).toNatClampNeg]? = some (.long xb) := Hs4.at hin4 rfl
 obtain ⟨_, _, ⟨T5, L5, k5, n5⟩, -, X5, ⟨Lc5, hQ5, l5, y5, z5⟩, st5⟩ := Jvm.LawKit.callS X3 hx (y := (⟨"java/lang/Long", "compareUnsigned", "(JJ)I"⟩ : MethodName)) hown (mvT hZ (Wd hw 139 rfl)) (mvT hZ (Wd hw 140 rfl)) (mvT hZ (Wd hw 141 rfl)) (mvT hZ (Wd hw 142 rfl)) (by decide) (backOf (W := 0) (rmCU l Z a0 hw [] hs xb h0 n0 Z0 ) hZ (Wd hw 142 rfl) (Wd hw 141 rfl) (by decide) (by decide)) (g := (mkF m 58 #[.val (.ref lh), .val (.long hs), .second, .val (.int (0 : Int32)), .val (.int (1 : Int32))] [(.long xb), (.long hs)])) rfl (by rw [hml]; rfl) (argsL := [(.long hs), (.long xb)]) (rest := []) (lenOf own_pd0 rfl) rfl (by show 2 * 0 + _ ≤ _; exact Nat.le_of_eq rfl) (hb hby d25_58) (fun _ _ => ⟨rfl, e3, (by decide : 0 + 0 ≤ _), (by decide : 0 + 0 ≤ _)⟩)
 dsimp only [Pt.U, Pt.locs, Pt.cells, Pt.slots] at X5 l5 y5 z5 st5 hQ5
 subst l5 y5 z5
 obtain ⟨rfl, Nq5, e5⟩ := hQ5
 have N5 := Fr.app N0 Nq5
 have r6 : ∀ t, Steps p.tables e below (T5.setTop (mkF m 61 #[.val (.ref lh), .val (.long hs), .second, .val (.int (0 : Int32)), .val (.int (1 : Int32))] [(.int (own_cu hs xb))])) t → Steps p.tables e below (s₁.setTop (mkF m 0 #[.val (.ref lh), .val (.long hs), .second, .unset, .unset] [])) t := fun t kt => by
  refine XS.iconst X0.here hx rfl (hb hby d25_0) ?_
  refine XS.istoreN X0.here hx rfl (hb hby d25_1) rfl (l' := #[.val (.ref lh), .val (.long hs), .second, .val (.int (0 : Int32)), .unset]) rfl ?_
  refine XS.iconst X0.here hx rfl (hb hby d25_2) ?_
  refine XS.istore X0.here hx rfl (hb hby d25_3) rfl (l' := #[.val (.ref lh), .val (.long hs), .second, .val (.int (0 : Int32)), .val (.int (1 : Int32))]) rfl ?_
  refine XS.iload X0.here hx rfl (hb hby d25_5) rfl ?_
  refine XS.aloadN X0.here hx rfl (hb hby d25_7) rfl rfl ?_
  refine st1 _ ?_
  refine XS.icmpNo X1.here hx rfl (hb hby d25_11) rfl (tlt (by decide : (1 : Int32) < (2 : Int32))).2.1 ?_
  refine XS.iload X1.here hx rfl (hb hby d25_14) rfl ?_
  refine XS.iconst X1.here hx rfl (hb hby d25_16) ?_
  refine XS.iadd X1.here hx rfl (hb hby d25_17) rfl ?_
  refine XS.aloadN X1.here hx rfl (hb hby d25_18) rfl rfl ?_
  refine st2 _ ?_
  refine XS.icmpYes X2.here hx rfl (pc0 := 22) (pc' := 50) rfl (hb hby d25_22) rfl (flt (by decide : ¬ ((2 : Int32) < (2 : Int32)))).2.1 (by decide) (by decide) ?_
  refine XS.lloadN X2.here hx rfl (hb hby d25_50) rfl ?_
  refine XS.aloadN X2.here hx rfl (hb hby d25_51) rfl rfl ?_
  refine st3 _ ?_
  refine XS.iload X3.here hx rfl (hb hby d25_55) rfl ?_
  refine X3.laload hx (j := (1 : Int32)) (v := (.long xb)) (by rw [e3]; exact Ar4.1) (State.isArrayOf_alike hZ.alike Ar4.2.1) Ar4.2.2 hin4 hat4 (g := (mkF m 57 #[.val (.ref lh), .val (.long hs), .second, .val (.int (0 : Int32)), .val (.int (1 : Int32))] [(.int (1 : Int32)), (.ref hp), (.long hs)])) rfl rfl (hb hby d25_57) _ ?_
  refine st5 _ ?_
  exact kt
 by_cases hc7 : (0 : Int32) < (own_cu hs xb)
 ·obtain ⟨T8, X8, e8, st8⟩ := getF X5 hx hZ hown (host := "") (Or.inl (Wd hw 56 rfl)) Via.refl e5 F_heap_lh (g := (mkF m 68 #[.val (.ref lh), .val (.long hs), .second, .val (.int (0 : Int32)), .val (.int (1 : Int32))] [(.ref lh)])) rfl rfl (hb hby d25_68)
  obtain ⟨T9, X9, e9, st9⟩ := getF X8 hx hZ hown (host := "") (Or.inl (Wd hw 56 rfl)) Via.refl e8 F_heap_lh (g := (mkF m 73 #[.val (.ref lh), .val (.long hs), .second, .val (.int (0 : Int32)), .val (.int (1 : Int32))] [(.ref lh), (.int (0 : Int32)), (.ref hp)])) rfl rfl (hb hby d25_73)
  obtain ⟨cl10, Ar10, q10, S10, M10, Hs10, G10⟩ := (id V_hp)
  have hin10 : ¬ ((1 : Int32) < 0 ∨ cl10.slots.size ≤ ((1 : Int32)).toNatClampNeg) := inb_of S10 ⟨by decide, by rw [← hz]; decide⟩
  have hat10 : cl10.slots[((1 : Int32)).toNatClampNeg]? = some (.long xb) := Hs10.at hin10 rfl
  obtain ⟨cl11, Ar11, q11, S11, M11, Hs11, G11⟩ := (id V_hp)
  have hin11 : ¬ ((0 : Int32) < 0 ∨ cl11.slots.size ≤ ((0 : Int32)).toNatClampNeg) := inb_of S11 ⟨by decide, by rw [← hz]; decide⟩
  obtain ⟨T12, h12, X12, e12, W12, st12⟩ := stJ X9 hx hZ e9 Ar11 (j := (0 : Int32)) hin11 (g := (mkF m 79 #[.val (.ref lh), .val (.long hs), .second, .val (.int (0 : Int32)), .val (.int (1 : Int32))] [(.long xb), (.int (0 : Int32)), (.ref hp)])) rfl rfl (hb hby d25_79)
  have V12 : Arv Z h12 hp k_hp .long kl [(.long xb), (.long xb), (.long xc)] (.long (0 : Int64)) := Arv.set Ar11 q11 S11 M11 Hs11 G11 rfl W12 0 rfl (Nat.le_of_ble_eq_true rfl)
  have K12 : Keep h0 h12 [hp] := (Keep.refl h0 [hp]).wr W12 (Or.inl (List.mem_of_getElem? (i := 0) rfl))
  have Zs12 : n0 ≤ h12.size := Nat.le_trans Z0 (Keep.of_wr W12).1
  have N12 := Fr.snoc X12 N5 g_hp
  obtain ⟨T13, X13, e13, st13⟩ := getF X12 hx hZ hown (host := "") (Or.inl (Wd hw 99 rfl)) Via.refl e12 (Fld.other W12 F_size_lh (Or.inl nq_lh_hp)) (g := (mkF m 8 #[.val (.ref lh), .val (.long hs), .second, .val (.int (1 : Int32)), .val (.int (3 : Int32))] [(.ref lh), (.int (3 : Int32))])) rfl rfl (hb hby d25_8)
  obtain ⟨T14, X14, e14, st14⟩ := getF X13 hx hZ hown (host := "") (Or.inl (Wd hw 56 rfl)) Via.refl e13 (Fld.other W12 F_heap_lh (Or.inl nq_lh_hp)) (g := (mkF m 94 #[.val (.ref lh), .val (.long hs), .second, .val (.int (1 : Int32)), .val (.int (3 : Int32))] [(.ref lh)])) rfl rfl (hb hby d25_94)
  obtain ⟨cl15, Ar15, q15, S15, M15, Hs15, G15⟩ := (id V12)
  have hin15 : ¬ ((1 : Int32) < 0 ∨ cl15.slots.size ≤ ((1 : Int32)).toNatClampNeg) := inb_of S15 ⟨by decide, by rw [← hz]; decide⟩
  obtain ⟨T16, h16, X16, e16, W16, st16⟩ := stJ X14 hx hZ e14 Ar15 (j := (1 : Int32)) hin15 (g := (mkF m 99 #[.val (.ref lh), .val (.long hs), .second, .val (.int (1 : Int32)), .val (.int (3 : Int32))] [(.long hs), (.int (1 : Int32)), (.ref hp)])) rfl rfl (hb hby d25_99)
  have V16 : Arv Z h16 hp k_hp .long kl [(.long xb), (.long hs), (.long xc)] (.long (0 : Int64)) := Arv.set Ar15 q15 S15 M15 Hs15 G15 rfl W16 1 rfl (Nat.le_of_ble_eq_true rfl)
  have K16 : Keep h0 h16 [hp] := K12.wr W16 (Or.inl (List.mem_of_getElem? (i := 0) rfl))
  have Zs16 : n0 ≤ h16.size := Nat.le_trans Zs12 (Keep.of_wr W16).1
  have N16 := Fr.snoc X16 N12 g_hp
  obtain ⟨fs, hr, hrun, hended, hW, hsame⟩ := X16.leave (v := none) (fun _ => rfl) hlk
  refine ⟨_, _, (pre0 _ (r6 _ ?_)), hrun, hended, _, _, rfl, ?_, ⟨_, rfl⟩, hW, hsame.mono (by decide) (by decide)⟩
  ·show Steps p.tables e below (T5.setTop (mkF m 61 #[.val (.ref lh), .val (.long hs), .second, .val (.int (0 : Int32)), .val (.int (1 : Int32))] [(.int (own_cu hs xb))])) _
   refine XS.ifYes X5.here hx rfl (pc0 := 61) (pc' := 67) rfl (hb hby d25_61) rfl ((if0 _ _).trans (tlt hc7).2.2.1) (by decide) (by decide) ?_
   refine XS.aloadN X5.here hx rfl (hb hby d25_67) rfl rfl ?_
   refine st8 _ ?_
   refine XS.iloadN X8.here hx rfl (hb hby d25_71) rfl ?_
   refine XS.aloadN X8.here hx rfl (hb hby d25_72) rfl rfl ?_
   refine st9 _ ?_
   refine XS.iload X9.here hx rfl (hb hby d25_76) rfl ?_
   refine X9.laload hx (j := (1 : Int32)) (v := (.long xb)) (by rw [e9]; exact Ar10.1) (State.isArrayOf_alike hZ.alike Ar10.2.1) Ar10.2.2 hin10 hat10 (g := (mkF m 78 #[.val (.ref lh), .val (.long hs), .second, .val (.int (0 : Int32)), .val (.int (1 : Int32))] [(.int (1 : Int32)), (.ref hp), (.int (0 : Int32)), (.ref hp)])) rfl rfl (hb hby d25_78) _ ?_
   refine st12 _ ?_
   refine XS.iload X12.here hx rfl (hb hby d25_80) rfl ?_
   refine XS.istoreN X12.here hx rfl (hb hby d25_82) rfl (l' := #[.val (.ref lh), .val (.long hs), .second, .val (.int (1 : Int32)), .val (.int (1 : Int32))]) rfl ?_
   refine XS.iconst X12.here hx rfl (hb hby d25_83) ?_
   refine XS.iloadN X12.here hx rfl (hb hby d25_84) rfl ?_
   refine XS.imul X12.here hx rfl (hb hby d25_85) rfl ?_
   refine XS.iconst X12.here hx rfl (hb hby d25_86) ?_
   refine XS.iadd X12.here hx rfl (hb hby d25_87) rfl ?_
   refine XS.istore X12.here hx rfl (hb hby d25_88) rfl (l' := #[.val (.ref lh), .val (.long hs), .second, .val (.int (1 : Int32)), .val (.int (3 : Int32))]) rfl ?_
   refine XS.goto X12.here hx rfl (pc0 := 90) (pc' := 5) rfl (hb hby d25_90) (by decide) (by decide) ?_
   refine XS.iload X12.here hx rfl (hb hby d25_5) rfl ?_
   refine XS.aloadN X12.here hx rfl (hb hby d25_7) rfl rfl ?_
   refine st13 _ ?_
   refine XS.icmpYes X13.here hx rfl (pc0 := 11) (pc' := 93) rfl (hb hby d25_11) rfl (flt (by decide : ¬ ((3 : Int32) < (2 : Int32)))).2.1 (by decide) (by decide) ?_
   refine XS.aloadN X13.here hx rfl (hb hby d25_93) rfl rfl ?_
   refine st14 _ ?_
   refine XS.iloadN X14.here hx rfl (hb hby d25_97) rfl ?_
   refine XS.lloadN X14.here hx rfl (hb hby d25_98) rfl ?_
   refine st16 _ ?_
   exact X16.returnOut hx Bd.returns (hb hby d25_100) hr
  ·show QRSc Z lh hs hp xa xb xc kl k_hp h0 n0 _ T16.heap _
   rw [e16]
   exact ⟨rfl, N16, K16⟩
 ·obtain ⟨T17, X17, e17, st17⟩ := getF X5 hx hZ hown (host := "") (Or.inl (Wd hw 56 rfl)) Via.refl e5 F_heap_lh (g := (mkF m 94 #[.val (.ref lh), .val (.long hs), .second, .val (.int (0 : Int32)), .val (.int (1 : Int32))] [(.ref lh)])) rfl rfl (hb hby d25_94)
  obtain ⟨cl18, Ar18, q18, S18, M18, Hs18, G18⟩ := (id V_hp)
  have hin18 : ¬ ((0 : Int32) < 0 ∨ cl18.slots.size ≤ ((0 : Int32)).toNatClampNeg) := inb_of S18 ⟨by decide, by rw [← hz]; decide⟩
  obtain ⟨T19, h19, X19, e19, W19, st19⟩ := stJ X17 hx hZ e17 Ar18 (j := (0 : Int32)) hin18 (g := (mkF m 99 #[.val (.ref lh), .val (.long hs), .second, .val (.int (0 : Int32)), .val (.int (1 : Int32))] [(.long hs), (.int (0 : Int32)), (.ref hp)])) rfl rfl (hb hby d25_99)
  have V19 : Arv Z h19 hp k_hp .long kl [(.long hs), (.long xb), (.long xc)] (.long (0 : Int64)) := Arv.set Ar18 q18 S18 M18 Hs18 G18 rfl W19 0 rfl (Nat.le_of_ble_eq_true rfl)
  have K19 : Keep h0 h19 [hp] := (Keep.refl h0 [hp]).wr W19 (Or.inl (List.mem_of_getElem? (i := 0) rfl))
  have Zs19 : n0 ≤ h19.size := Nat.le_trans Z0 (Keep.of_wr W19).1
  have N19 := Fr.snoc X19 N5 g_hp
  obtain ⟨fs, hr, hrun, hended, hW, hsame⟩ := X19.leave (v := none) (fun _ => rfl) hlk
  refine ⟨_, _, (pre0 _ (r6 _ ?_)), hrun, hended, _, _, rfl, ?_, ⟨_, rfl⟩, hW, hsame.mono (by decide) (by decide)⟩
  ·show Steps p.tables e below (T5.setTop (mkF m 61 #[.val (.ref lh), .val (.long hs), .second, .val (.int (0 : Int32)), .val (.int (1 : Int32))] [(.int (own_cu hs xb))])) _
   refine XS.ifNo X5.here hx rfl (hb hby d25_61) rfl ((if0 _ _).trans (flt hc7).2.2.1) ?_
   refine XS.goto X5.here hx rfl (pc0 := 64) (pc' := 93) rfl (hb hby d25_64) (by decide) (by decide) ?_
   refine XS.aloadN X5.here hx rfl (hb hby d25_93) rfl rfl ?_
   refine st17 _ ?_
   refine XS.iloadN X17.here hx rfl (hb hby d25_97) rfl ?_
   refine XS.lloadN X17.here hx rfl (hb hby d25_98) rfl ?_
   refine st19 _ ?_
   exact X19.returnOut hx Bd.returns (hb hby d25_100) hr
  ·show QRSc Z lh hs hp xa xb xc kl k_hp h0 n0 _ T19.heap _
   rw [e19]
   exact ⟨rfl, N19, K19⟩
theorem d20_7 : decode prog_2_method_6_code 7 = .ok (.aload_n 0, 1) := by decide +kernel
theorem d20_8 : decode prog_2_method_6_code 8 = .ok (.aload_n 0, 1) := by decide +kernel
theorem d20_9 : decode prog_2_method_6_code 9 = .ok (.getfield 7, 3) := by decide +kernel
theorem d20_12 : decode prog_2_method_6_code 12 = .ok (.iconst 0, 1) := by decide +kernel
theorem d20_13 : decode prog_2_method_6_code 13 = .ok (.laload, 1) := by decide +kernel
theorem d20_14 : decode prog_2_method_6_code 14 = .ok (.invokevirtual 53, 3) := by decide +kernel
theorem d20_17 : decode prog_2_method_6_code 17 = .ok (.istore_n 3, 1) := by decide +kernel
theorem d20_18 : decode prog_2_method_6_code 18 = .ok (.aload_n 0, 1) := by decide +kernel
theorem d20_19 : decode prog_2_method_6_code 19 = .ok (.lload_n 1, 1) := by decide +kernel
theorem d20_20 : decode prog_2_method_6_code 20 = .ok (.invokevirtual 56, 3) := by decide +kernel
theorem d20_23 : decode prog_2_method_6_code 23 = .ok (.goto 13, 3) := by decide +kernel
theorem efAUb (m : MethodId) (lh : Addr) (hs : Int64) : entryFrame m #[(.ref lh), (.long hs)] 5 = mkF m 0 #[.val (.ref lh), .val (.long hs), .second, .unset, .unset] [] := by first | (simp [entryFrame, mkF, argsToLocals, Value.category]; done) | rfl
def QAUb (Z : State) (lh : Addr) (hs : Int64) (hp : Addr) (sl : Addr) (ix : Addr) (mk : Int32) (xa : Int64) (xb : Int64) (xc : Int64) (kl : Int32) (k_hp : ClassId) (nl : Int32) (k_sl : ClassId) (sv : List Int64) (k_ix : ClassId) (iv : List Int32) (h0 : Heap) (n0 : Nat) (v : Option Value) (h : Heap) (L : List Loc) : Prop := ∃ svc : List Int64, ∃ ivc : List Int32, v = some (.int (0 : Int32)) ∧ Fr n0 L ∧ Keep h0 h [hp, sl, ix] ∧ Arv Z h hp k_hp .long kl [(.long hs), (.long xb), (.long xc)] (.long (0 : Int64)) ∧ Arv Z h sl k_sl .long nl (svc.map Value.long) (.long (0 : Int64)) ∧ Arv Z h ix k_ix .int nl (ivc.map Value.int) (.int (0 : Int32)) ∧ own_t1 mk svc ivc hs
set_option maxRecDepth 65536 in
set_option maxHeartbeats 40000000 in
theorem rmAUb (l : Launch) (Z : State) (a0 : Array Value) (hw : ∀ d ∈ tables_1, d.before a0 Z = true) (ws : List Jvm.Cond) (lh : Addr) (hs : Int64) (hp : Addr) (sl : Addr) (ix : Addr) (mk : Int32) (xa : Int64) (xb : Int64) (xc : Int64) (kl : Int32) (k_hp : ClassId) (nl : Int32) (k_sl : ClassId) (sv : List Int64) (k_ix : ClassId) (iv : List Int32) (h0 : Heap) (n0 : Nat) (Z0 : n0 ≤ h0.size) (E_lh : Exa Z h0 lh cLH) (F_heap_lh : Fld Z h0 lh cLH "heap" "[J" (.ref hp)) (F_size_lh : Fld Z h0 lh cLH "size" "I" (.int (1 : Int32))) (F_slots_lh : Fld Z h0 lh cLH "slots" "[J" (.ref sl)) (F_indices_lh : Fld Z h0 lh cLH "indices" "[I" (.ref ix)) (F_mask_lh : Fld Z h0 lh cLH "mask" "I" (.int mk)) (V_hp : Arv Z h0 hp k_hp .long kl [(.long xa), (.long xb), (.long xc)] (.long (0 : Int64))) (V_sl : Arv Z h0 sl k_sl .long nl (sv.map Value.long) (.long (0 : Int64))) (V_ix : Arv Z h0 ix k_ix .int nl (iv.map Value.int) (.int (0 : Int32))) (K : own_kmn kl mk nl) (hz : (1 : Int32) = kl) (tt : own_t1 mk sv iv xa) (ne_hp_sl : hp ≠ sl) (g_hp : n0 ≤ hp) (g_sl : n0 ≤ sl) (g_ix : n0 ≤ ix) :
  MetFree l (⟨cLH, "add", "(J)I"⟩ : MethodName) (head1 (Jvm.Cond.code (⟨cLH, "add", "(J)I"⟩ : MethodName) prog_2_method_6_code 5 (some .int) :: ws) ({ frames := 3, cells := 0, slots := 0, locals := 80 } : Room)) (fun av_ U => av_ = #[(.ref lh), (.long hs)] ∧ Z.Warmed39 U.vm ∧ U.heap = h0) (fun _ _ _ _ _ => True) (fun _ U o U' => ∃ v L, o = .returned v ∧ QAUb Z lh hs hp sl ix mk xa xb xc kl k_hp nl k_sl sv k_ix iv h0 n0 v U'.heap L ∧ FrameEnd U o U' L ({ frames := 3, cells := 0, slots := 0, locals := 80 } : Room).cells ({ frames := 3, cells := 0, slots := 0, locals := 80 } : Room).slots) := by
 refine MetFree.of_bodySF (plainFor_of_name own_pn1) hisR ?_
 intro p e s m args below meth c s₁ Bd hml0 hP hK
 obtain ⟨rfl, hZ, hh⟩ := hP
 have hx := Bd.exec
 have hby := Bd.bytes
 have hml : c.maxLocals = 5 := hml0
 have hown : s.vm.findClass cLH = some m.cls := findClass_of_methodNamed Bd.named
 have hnm := (name_of_methodNamed Bd.named Bd.method).1
 have X0 : Stand p l e ({ frames := 3, cells := 0, slots := 0, locals := 80 } : Room) s m #[(.ref lh), (.long hs)] below meth c s₁ [] 0 0 := Stand.of_body Bd
 have e0 : s₁.heap = h0 := by rw [← hh, Bd.state]; rfl
 have N0 := Fr.nil n0
 have hlk : meth.locks = false := Bd.notSynchronized
 have pre0 : ∀ t, Steps p.tables e below (s₁.setTop (mkF m 0 #[.val (.ref lh), .val (.long hs), .second, .unset, .unset] [])) t → Steps p.tables e below (s₁.setTop (entryFrame m #[(.ref lh), (.long hs)] 5)) t := fun t k => castTop (efAUb m lh hs) k
 have nq_lh_ix : lh ≠ ix := (Exa.neArv E_lh V_ix (Wd hw 49 rfl))
 have nq_lh_sl : lh ≠ sl := (Exa.neArv E_lh V_sl (Wd hw 49 rfl))
 have nq_hp_ix : hp ≠ ix := (own_neT V_hp V_ix (by simp))
 have nq_lh_hp : lh ≠ hp := (Exa.neArv E_lh V_hp (Wd hw 49 rfl))
 have nq_ix_sl : ix ≠ sl := (own_neT V_ix V_sl (by simp))
 obtain ⟨ra, hra, hrai, hrb, -⟩ := own_f1 K tt xa
 obtain ⟨hrb1, hrb2⟩ := hrb rfl
 have hl8 : sv.length = 8 ∧ iv.length = 8 := ⟨tt.1, tt.2.1⟩
 have hnx : own_get iv (own_nx mk ra) = (-1 : Int32) := by rw [hrb1]; exact tt.2.2.2.2 _ (own_andin K _) (own_nx1 K (own_andin K _))
 obtain ⟨cq1, qa1, qb1⟩ := E_lh.cell
 obtain ⟨_, _, ⟨T1, L1, k1, n1⟩, -, X1, ⟨Lc1, hQ1, l1, y1, z1⟩, st1⟩ := X0.privateBack hx (y := (⟨cLH, "full", "()Z"⟩ : MethodName)) hown (mvT hZ (Wd hw 95 rfl)) (mvT hZ (Wd hw 96 rfl)) (selfInst hZ (Wd hw 49 rfl) (Wd hw 96 rfl) (Wd hw 97 rfl) (by decide)) (Cond.privateMethod_at (mvP hZ (Wd hw 97 rfl) (args := #[]))) (mvT hZ (Wd hw 98 rfl)) (by decide) (backOf (W := 0) (rmFU l Z a0 hw [] lh hp (1 : Int32) xa xb xc kl k_hp h0 n0 Z0 E_lh F_heap_lh F_size_lh V_hp) hZ (Wd hw 98 rfl) (Wd hw 50 rfl) (by decide) (by decide)) (g := (mkF m 1 #[.val (.ref lh), .val (.long hs), .second, .unset, .unset] [(.ref lh)])) rfl (by rw [hml]; rfl) (Steps.refl _) (a := lh) (by rw [e0]; exact qa1) qb1 (argsL := []) (rest := []) (lenOf own_pd1 rfl) rfl (by show 2 * 0 + _ ≤ _; exact Nat.le_of_eq rfl) (hb hby d20_1) (fun _ _ => ⟨rfl, e0, (by decide : 0 + 0 ≤ _), (by decide : 0 + 0 ≤ _)⟩)
 dsimp only [Pt.U, Pt.locs, Pt.cells, Pt.slots] at X1 l1 y1 z1 st1 hQ1
 subst l1 y1 z1
 obtain ⟨rfl, Nq1, e1⟩ := hQ1
 have N1 := Fr.app N0 Nq1
 obtain ⟨T2, X2, e2, st2⟩ := getF X1 hx hZ hown (host := "") (Or.inl (Wd hw 56 rfl)) Via.refl e1 F_heap_lh (g := (mkF m 9 #[.val (.ref lh), .val (.long hs), .second, .unset, .unset] [(.ref lh), (.ref lh)])) rfl rfl (hb hby d20_9)
 obtain ⟨cl3, Ar3, q3, S3, M3, Hs3, G3⟩ := (id V_hp)
 have hin3 : ¬ ((0 : Int32) < 0 ∨ cl3.slots.size ≤ ((0 : Int32)).toNatClampNeg) := inb_of S3 ⟨by decide, own_kpos K⟩
 have hat3 : cl3.slots[((0 : Int32)).toNatClampNeg]? = some (.long xa) := Hs3.at hin3 rfl
 obtain ⟨cq4, qa4, qb4⟩ := E_lh.cell
 obtain ⟨_, _, ⟨T4, L4, k4, n4⟩, -, X4, ⟨Lc4, hQ4, l4, y4, z4⟩, st4⟩ := X2.privateBack hx (y := (⟨cLH, "removeFromTable", "(J)I"⟩ : MethodName)) hown (mvT hZ (Wd hw 147 rfl)) (mvT hZ (Wd hw 148 rfl)) (selfInst hZ (Wd hw 49 rfl) (Wd hw 148 rfl) (Wd hw 149 rfl) (by decide)) (Cond.privateMethod_at (mvP hZ (Wd hw 149 rfl) (args := #[]))) (mvT hZ (Wd hw 150 rfl)) (by decide) (backOf (W := 0) (rmRT l Z a0 hw [] lh xa sl ix mk nl k_sl sv k_ix iv kl ra h0 n0 Z0 E_lh F_slots_lh F_indices_lh F_mask_lh V_sl V_ix K hra hl8 g_sl g_ix (Or.inl hnx)) hZ (Wd hw 150 rfl) (Wd hw 50 rfl) (by decide) (by decide)) (g := (mkF m 14 #[.val (.ref lh), .val (.long hs), .second, .unset, .unset] [(.long xa), (.ref lh)])) rfl (by rw [hml]; rfl) (Steps.refl _) (a := lh) (by rw [e2]; exact qa4) qb4 (argsL := [(.long xa)]) (rest := []) (lenOf own_pd2 rfl) rfl (by show 2 * 0 + _ ≤ _; exact Nat.le_of_eq rfl) (hb hby d20_14) (fun _ _ => ⟨rfl, e2, (by decide : 0 + 0 ≤ _), (by decide : 0 + 0 ≤ _)⟩)
 dsimp only [Pt.U, Pt.locs, Pt.cells, Pt.slots] at X4 l4 y4 z4 st4 hQ4
 subst l4 y4 z4
 obtain ⟨svb_4, ivb_4, rfl, Nq4, Kc4, q4_0, q4_1, q4_2⟩ := hQ4
 have K4 : Keep h0 T4.heap [hp, sl, ix] := Keep.trans (Keep.refl h0 [hp, sl, ix]) Kc4 (allS (Or.inl (List.mem_of_getElem? (i := 1) rfl)) (allS (Or.inl (List.mem_of_getElem? (i := 2) rfl)) all0))
 have Zs4 : n0 ≤ T4.heap.size := Nat.le_trans Z0 Kc4.1
 obtain ⟨w1, w2, w3, w4⟩ := q4_2
 have N4 := Fr.app N1 Nq4
 have r5 : ∀ t, Steps p.tables e below (T4.setTop (mkF m 18 #[.val (.ref lh), .val (.long hs), .second, .val (.int (own_get iv ra)), .unset] [])) t → Steps p.tables e below (s₁.setTop (mkF m 0 #[.val (.ref lh), .val (.long hs), .second, .unset, .unset] [])) t := fun t kt => by
  refine XS.aloadN X0.here hx rfl (hb hby d20_0) rfl rfl ?_
  refine st1.trans ?_
  refine XS.ifNo X1.here hx rfl (hb hby d20_4) rfl ((if0 _ _).trans (feq (own_flT hz)).1) ?_
  refine XS.aloadN X1.here hx rfl (hb hby d20_7) rfl rfl ?_
  refine XS.aloadN X1.here hx rfl (hb hby d20_8) rfl rfl ?_
  refine st2 _ ?_
  refine XS.iconst X2.here hx rfl (hb hby d20_12) ?_
  refine X2.laload hx (j := (0 : Int32)) (v := (.long xa)) (by rw [e2]; exact Ar3.1) (State.isArrayOf_alike hZ.alike Ar3.2.1) Ar3.2.2 hin3 hat3 (g := (mkF m 13 #[.val (.ref lh), .val (.long hs), .second, .unset, .unset] [(.int (0 : Int32)), (.ref hp), (.ref lh)])) rfl rfl (hb hby d20_13) _ ?_
  refine st4.trans ?_
  refine XS.istoreN X4.here hx rfl (hb hby d20_17) rfl (l' := #[.val (.ref lh), .val (.long hs), .second, .val (.int (own_get iv ra)), .unset]) rfl ?_
  exact kt
 have r6 : ∀ t, Steps p.tables e below (T4.setTop (mkF m 18 #[.val (.ref lh), .val (.long hs), .second, .val (.int (0 : Int32)), .unset] [])) t → Steps p.tables e below (T4.setTop (mkF m 18 #[.val (.ref lh), .val (.long hs), .second, .val (.int (own_get iv ra)), .unset] [])) t := fun t kt => by
  have q : (own_get iv ra) = (0 : Int32) := hrb2
  rw [q]
  exact kt
 obtain ⟨es, ei⟩ := w4 hnx
 rw [hrb1] at ei
 have hu := own_u1 K tt hs
 rw [← es, ← ei] at hu
 obtain ⟨cq7, qa7, qb7⟩ := (E_lh.keep Kc4).cell
 obtain ⟨_, _, ⟨T7, L7, k7, n7⟩, -, X7, ⟨Lc7, hQ7, l7, y7, z7⟩, st7⟩ := X4.privateBack hx (y := (⟨cLH, "replaceSmallest", "(J)V"⟩ : MethodName)) hown (mvT hZ (Wd hw 151 rfl)) (mvT hZ (Wd hw 152 rfl)) (selfInst hZ (Wd hw 49 rfl) (Wd hw 152 rfl) (Wd hw 153 rfl) (by decide)) (Cond.privateMethod_at (mvP hZ (Wd hw 153 rfl) (args := #[]))) (mvT hZ (Wd hw 154 rfl)) (by decide) (backOf (W := 0) (rmRSb l Z a0 hw [] lh hs hp xa xb xc kl k_hp T4.heap n0 Zs4 (E_lh.keep Kc4) (F_heap_lh.keep Kc4 (ninS nq_lh_sl (ninS nq_lh_ix nin0))) (F_size_lh.keep Kc4 (ninS nq_lh_sl (ninS nq_lh_ix nin0))) (V_hp.keep Kc4 (ninS ne_hp_sl (ninS nq_hp_ix nin0))) hz g_hp) hZ (Wd hw 154 rfl) (Wd hw 50 rfl) (by decide) (by decide)) (g := (mkF m 20 #[.val (.ref lh), .val (.long hs), .second, .val (.int (0 : Int32)), .unset] [(.long hs), (.ref lh)])) rfl (by rw [hml]; rfl) (Steps.refl _) (a := lh) qa7 qb7 (argsL := [(.long hs)]) (rest := []) (lenOf own_pd3 rfl) rfl (by show 2 * 0 + _ ≤ _; exact Nat.le_of_eq rfl) (hb hby d20_20) (fun _ _ => ⟨rfl, rfl, (by decide : 0 + 0 ≤ _), (by decide : 0 + 0 ≤ _)⟩)
 dsimp only [Pt.U, Pt.locs, Pt.cells, Pt.slots] at X7 l7 y7 z7 st7 hQ7
 subst l7 y7 z7
 obtain ⟨rfl, Nq7, Kc7, q7_0⟩ := hQ7
 have K7 : Keep h0 T7.heap [hp, sl, ix] := Keep.trans K4 Kc7 (allS (Or.inl (List.mem_of_getElem? (i := 0) rfl)) all0)
 have Zs7 : n0 ≤ T7.heap.size := Nat.le_trans Zs4 Kc7.1
 have N7 := Fr.app N4 Nq7
 obtain ⟨cq8, qa8, qb8⟩ := ((E_lh.keep Kc4).keep Kc7).cell
 obtain ⟨_, _, ⟨T8, L8, k8, n8⟩, -, X8, ⟨Lc8, hQ8, l8, y8, z8⟩, st8⟩ := X7.privateBack hx (y := (⟨cLH, "slotOf", "(J)I"⟩ : MethodName)) hown (mvT hZ (Wd hw 101 rfl)) (mvT hZ (Wd hw 102 rfl)) (selfInst hZ (Wd hw 49 rfl) (Wd hw 102 rfl) (Wd hw 103 rfl) (by decide)) (Cond.privateMethod_at (mvP hZ (Wd hw 103 rfl) (args := #[]))) (mvT hZ (Wd hw 104 rfl)) (by decide) (backOf (W := 0) (rmSO l Z a0 hw [] lh hs sl ix mk nl k_sl svb_4 k_ix ivb_4 kl ((hs.toInt32) &&& mk) T7.heap n0 Zs7 ((E_lh.keep Kc4).keep Kc7) ((F_slots_lh.keep Kc4 (ninS nq_lh_sl (ninS nq_lh_ix nin0))).keep Kc7 (ninS nq_lh_hp nin0)) ((F_indices_lh.keep Kc4 (ninS nq_lh_sl (ninS nq_lh_ix nin0))).keep Kc7 (ninS nq_lh_hp nin0)) ((F_mask_lh.keep Kc4 (ninS nq_lh_sl (ninS nq_lh_ix nin0))).keep Kc7 (ninS nq_lh_hp nin0)) (q4_0.keep Kc7 (ninS (Ne.symm ne_hp_sl) nin0)) (q4_1.keep Kc7 (ninS nq_hp_ix.symm nin0)) K hu.1) hZ (Wd hw 104 rfl) (Wd hw 50 rfl) (by decide) (by decide)) (g := (mkF m 38 #[.val (.ref lh), .val (.long hs), .second, .val (.int (0 : Int32)), .unset] [(.long hs), (.ref lh)])) rfl (by rw [hml]; rfl) (Steps.refl _) (a := lh) qa8 qb8 (argsL := [(.long hs)]) (rest := []) (lenOf own_pd2 rfl) rfl (by show 2 * 0 + _ ≤ _; exact Nat.le_of_eq rfl) (hb hby d20_38) (fun _ _ => ⟨rfl, rfl, (by decide : 0 + 0 ≤ _), (by decide : 0 + 0 ≤ _)⟩)
 dsimp only [Pt.U, Pt.locs, Pt.cells, Pt.slots] at X8 l8 y8 z8 st8 hQ8
 subst l8 y8 z8
 obtain ⟨rfl, Nq8, e8⟩ := hQ8
 have N8 := Fr.app N7 Nq8
 obtain ⟨T9, X9, e9, st9⟩ := getF X8 hx hZ hown (host := "") (Or.inl (Wd hw 66 rfl)) Via.refl e8 ((F_slots_lh.keep Kc4 (ninS nq_lh_sl (ninS nq_lh_ix nin0))).keep Kc7 (ninS nq_lh_hp nin0)) (g := (mkF m 44 #[.val (.ref lh), .val (.long hs), .second, .val (.int (0 : Int32)), .val (.int ((hs.toInt32) &&& mk))] [(.ref lh)])) rfl rfl (hb hby d20_44)
 obtain ⟨cl10, Ar10, q10, S10, M10, Hs10, G10⟩ := (q4_0.keep Kc7 (ninS (Ne.symm ne_hp_sl) nin0))
 have hin10 : ¬ (((hs.toInt32) &&& mk) < 0 ∨ cl10.slots.size ≤ (((hs.toInt32) &&& mk)).toNatClampNeg) := inb_of S10 (own_inb K (own_andin K _))
 obtain ⟨T11, h11, X11, e11, W11, st11⟩ := stJ X9 hx hZ e9 Ar10 (j := ((hs.toInt32) &&& mk)) hin10 (g := (mkF m 50 #[.val (.ref lh), .val (.long hs), .second, .val (.int (0 : Int32)), .val (.int ((hs.toInt32) &&& mk))] [(.long hs), (.int ((hs.toInt32) &&& mk)), (.ref sl)])) rfl rfl (hb hby d20_50)
 have V11 : Arv Z h11 sl k_sl .long nl ((svb_4.set ((hs.toInt32) &&& mk).toNatClampNeg hs).map Value.long) (.long (0 : Int64)) := by
  rw [List.map_set]
  exact Arv.set Ar10 q10 S10 M10 Hs10 G10 rfl W11 ((hs.toInt32) &&& mk).toNatClampNeg rfl (by first | (rw [List.length_map]; exact (own_sl K (own_andin K _) (by simp [w1, w2]))) | exact (own_sl K (own_andin K _) (by simp [w1, w2])))
 have K11 : Keep h0 h11 [hp, sl, ix] := K7.wr W11 (Or.inl (List.mem_of_getElem? (i := 1) rfl))
 have Zs11 : n0 ≤ h11.size := Nat.le_trans Zs7 (Keep.of_wr W11).1
 have N11 := Fr.snoc X11 N8 g_sl
 obtain ⟨T12, X12, e12, st12⟩ := getF X11 hx hZ hown (host := "") (Or.inl (Wd hw 69 rfl)) Via.refl e11 (Fld.other W11 ((F_indices_lh.keep Kc4 (ninS nq_lh_sl (ninS nq_lh_ix nin0))).keep Kc7 (ninS nq_lh_hp nin0)) (Or.inl nq_lh_sl)) (g := (mkF m 52 #[.val (.ref lh), .val (.long hs), .second, .val (.int (0 : Int32)), .val (.int ((hs.toInt32) &&& mk))] [(.ref lh)])) rfl rfl (hb hby d20_52)
 obtain ⟨cl13, Ar13, q13, S13, M13, Hs13, G13⟩ := ((q4_1.keep Kc7 (ninS nq_hp_ix.symm nin0)).other W11 nq_ix_sl)
 have hin13 : ¬ (((hs.toInt32) &&& mk) < 0 ∨ cl13.slots.size ≤ (((hs.toInt32) &&& mk)).toNatClampNeg) := inb_of S13 (own_inb K (own_andin K _))
 obtain ⟨T14, h14, X14, e14, W14, st14⟩ := stI X12 hx hZ e12 Ar13 (j := ((hs.toInt32) &&& mk)) hin13 (g := (mkF m 58 #[.val (.ref lh), .val (.long hs), .second, .val (.int (0 : Int32)), .val (.int ((hs.toInt32) &&& mk))] [(.int (0 : Int32)), (.int ((hs.toInt32) &&& mk)), (.ref ix)])) rfl rfl (hb hby d20_58)
 have V14 : Arv Z h14 ix k_ix .int nl ((ivb_4.set ((hs.toInt32) &&& mk).toNatClampNeg (0 : Int32)).map Value.int) (.int (0 : Int32)) := by
  rw [List.map_set]
  exact Arv.set Ar13 q13 S13 M13 Hs13 G13 rfl W14 ((hs.toInt32) &&& mk).toNatClampNeg rfl (by first | (rw [List.length_map]; exact (own_sl K (own_andin K _) (by simp [w1, w2]))) | exact (own_sl K (own_andin K _) (by simp [w1, w2])))
 have K14 : Keep h0 h14 [hp, sl, ix] := K11.wr W14 (Or.inl (List.mem_of_getElem? (i := 2) rfl))
 have Zs14 : n0 ≤ h14.size := Nat.le_trans Zs11 (Keep.of_wr W14).1
 have N14 := Fr.snoc X14 N11 g_ix
 obtain ⟨fs, hr, hrun, hended, hW, hsame⟩ := X14.leave (v := some (.int (0 : Int32))) (fun h => by rw [Bd.returns] at h; cases h) hlk
 refine ⟨_, _, (pre0 _ (r5 _ (r6 _ ?_))), hrun, hended, _, _, rfl, ?_, ⟨_, rfl⟩, hW, hsame.mono (by decide) (by decide)⟩
 ·show Steps p.tables e below (T4.setTop (mkF m 18 #[.val (.ref lh), .val (.long hs), .second, .val (.int (0 : Int32)), .unset] [])) _
  refine XS.aloadN X4.here hx rfl (hb hby d20_18) rfl rfl ?_
  refine XS.lloadN X4.here hx rfl (hb hby d20_19) rfl ?_
  refine st7.trans ?_
  refine XS.goto X7.here hx rfl (pc0 := 23) (pc' := 36) rfl (hb hby d20_23) (by decide) (by decide) ?_
  refine XS.aloadN X7.here hx rfl (hb hby d20_36) rfl rfl ?_
  refine XS.lloadN X7.here hx rfl (hb hby d20_37) rfl ?_
  refine st8.trans ?_
  refine XS.istore X8.here hx rfl (hb hby d20_41) rfl (l' := #[.val (.ref lh), .val (.long hs), .second, .val (.int (0 : Int32)), .val (.int ((hs.toInt32) &&& mk))]) rfl ?_
  refine XS.aloadN X8.here hx rfl (hb hby d20_43) rfl rfl ?_
  refine st9 _ ?_
  refine XS.iload X9.here hx rfl (hb hby d20_47) rfl ?_
  refine XS.lloadN X9.here hx rfl (hb hby d20_49) rfl ?_
  refine st11 _ ?_
  refine XS.aloadN X11.here hx rfl (hb hby d20_51) rfl rfl ?_
  refine st12 _ ?_
  refine XS.iload X12.here hx rfl (hb hby d20_55) rfl ?_
  refine XS.iloadN X12.here hx rfl (hb hby d20_57) rfl ?_
  refine st14 _ ?_
  refine XS.iloadN X14.here hx rfl (hb hby d20_59) rfl ?_
  exact retI X14 hx Bd.returns (hb hby d20_60) hr
 ·show QAUb Z lh hs hp sl ix mk xa xb xc kl k_hp nl k_sl sv k_ix iv h0 n0 _ T14.heap _
  rw [e14]
  exact ⟨(svb_4.set ((hs.toInt32) &&& mk).toNatClampNeg hs), (ivb_4.set ((hs.toInt32) &&& mk).toNatClampNeg (0 : Int32)), rfl, N14, K14, ((q7_0.other W11 ne_hp_sl).other W14 nq_hp_ix), (V11.other W14 nq_ix_sl.symm), V14, hu.2⟩
theorem efAUc (m : MethodId) (lh : Addr) (hs : Int64) : entryFrame m #[(.ref lh), (.long hs)] 5 = mkF m 0 #[.val (.ref lh), .val (.long hs), .second, .unset, .unset] [] := by first | (simp [entryFrame, mkF, argsToLocals, Value.category]; done) | rfl
def QAUc (Z : State) (lh : Addr) (hs : Int64) (hp : Addr) (sl : Addr) (ix : Addr) (mk : Int32) (xa : Int64) (xb : Int64) (xc : Int64) (kl : Int32) (k_hp : ClassId) (nl : Int32) (k_sl : ClassId) (sv : List Int64) (k_ix : ClassId) (iv : List Int32) (ka : Int64) (kb : Int64) (h0 : Heap) (n0 : Nat) (v : Option Value) (h : Heap) (L : List Loc) : Prop := ∃ jx : Int32, v = some (.int jx) ∧ Fr n0 L ∧ Keep h0 h [hp, sl, ix] ∧ ((xa = ka → jx = 0) ∧ (xa = kb → jx = 1))
set_option maxRecDepth 65536 in
set_option maxHeartbeats 40000000 in
theorem rmAUc (l : Launch) (Z : State) (a0 : Array Value) (hw : ∀ d ∈ tables_1, d.before a0 Z = true) (ws : List Jvm.Cond) (lh : Addr) (hs : Int64) (hp : Addr) (sl : Addr) (ix : Addr) (mk : Int32) (xa : Int64) (xb : Int64) (xc : Int64) (kl : Int32) (k_hp : ClassId) (nl : Int32) (k_sl : ClassId) (sv : List Int64) (k_ix : ClassId) (iv : List Int32) (ka : Int64) (kb : Int64) (h0 : Heap) (n0 : Nat) (Z0 : n0 ≤ h0.size) (E_lh : Exa Z h0 lh cLH) (F_heap_lh : Fld Z h0 lh cLH "heap" "[J" (.ref hp)) (F_size_lh : Fld Z h0 lh cLH "size" "I" (.int (2 : Int32))) (F_slots_lh : Fld Z h0 lh cLH "slots" "[J" (.ref sl)) (F_indices_lh : Fld Z h0 lh cLH "indices" "[I" (.ref ix)) (F_mask_lh : Fld Z h0 lh cLH "mask" "I" (.int mk)) (V_hp : Arv Z h0 hp k_hp .long kl [(.long xa), (.long xb), (.long xc)] (.long (0 : Int64))) (V_sl : Arv Z h0 sl k_sl .long nl (sv.map Value.long) (.long (0 : Int64))) (V_ix : Arv Z h0 ix k_ix .int nl (iv.map Value.int) (.int (0 : Int32))) (K : own_kmn kl mk nl) (hz : (2 : Int32) = kl) (hab : ¬ kb = ka) (tt : own_t2 mk sv iv ka kb) (hxa : xa = ka ∨ xa = kb) (ne_hp_sl : hp ≠ sl) (g_hp : n0 ≤ hp) (g_sl : n0 ≤ sl) (g_ix : n0 ≤ ix) :
  MetFree l (⟨cLH, "add", "(J)I"⟩ : MethodName) (head1 (Jvm.Cond.code (⟨cLH, "add", "(J)I"⟩ : MethodName) prog_2_method_6_code 5 (some .int) :: ws) ({ frames := 3, cells := 0, slots := 0, locals := 80 } : Room)) (fun av_ U => av_ = #[(.ref lh), (.long hs)] ∧ Z.Warmed39 U.vm ∧ U.heap = h0) (fun _ _ _ _ _ => True) (fun _ U o U' => ∃ v L, o = .returned v ∧ QAUc Z lh hs hp sl ix mk xa xb xc kl k_hp nl k_sl sv k_ix iv ka kb h0 n0 v U'.heap L ∧ FrameEnd U o U' L ({ frames := 3, cells := 0, slots := 0, locals := 80 } : Room).cells ({ frames := 3, cells := 0, slots := 0, locals := 80 } : Room).slots) := by
 refine MetFree.of_bodySF (plainFor_of_name own_pn1) hisR ?_
 intro p e s m args below meth c s₁ Bd hml0 hP hK
 obtain ⟨rfl, hZ, hh⟩ := hP
 have hx := Bd.exec
 have hby := Bd.bytes
 have hml : c.maxLocals = 5 := hml0
 have hown : s.vm.findClass cLH = some m.cls := findClass_of_methodNamed Bd.named
 have hnm := (name_of_methodNamed Bd.named Bd.method).1
 have X0 : Stand p l e ({ frames := 3, cells := 0, slots := 0, locals := 80 } : Room) s m #[(.ref lh), (.long hs)] below meth c s₁ [] 0 0 := Stand.of_body Bd
 have e0 : s₁.heap = h0 := by rw [← hh, Bd.state]; rfl
 have N0 := Fr.nil n0
 have hlk : meth.locks = false := Bd.notSynchronized
 have pre0 : ∀ t, Steps p.tables e below (s₁.setTop (mkF m 0 #[.val (.ref lh), .val (.long hs), .second, .unset, .unset] [])) t → Steps p.tables e below (s₁.setTop (entryFrame m #[(.ref lh), (.long hs)] 5)) t := fun t k => castTop (efAUc m lh hs) k
 have nq_lh_ix : lh ≠ ix := (Exa.neArv E_lh V_ix (Wd hw 49 rfl))
 have nq_lh_sl : lh ≠ sl := (Exa.neArv E_lh V_sl (Wd hw 49 rfl))
 have nq_hp_ix : hp ≠ ix := (own_neT V_hp V_ix (by simp))
 have nq_lh_hp : lh ≠ hp := (Exa.neArv E_lh V_hp (Wd hw 49 rfl))
 have nq_ix_sl : ix ≠ sl := (own_neT V_ix V_sl (by simp))
 have hk1 : ¬ kl = 1 := by rw [← hz]; decide
 obtain ⟨ra, hra, hrai, hrb, hrc, -, hrd⟩ := own_f2 K hk1 hab tt xa
 have hl8 : sv.length = 8 ∧ iv.length = 8 := ⟨tt.1, tt.2.1⟩
 have hne : own_get iv ra ≠ -1 := by
  rcases hxa with e | e
  ·rw [hrb e]; decide
  ·rw [hrc e]; decide
 have hnx : own_get iv (own_nx mk ra) = (-1 : Int32) ∨ (own_nx mk (own_nx mk ra) ≠ ra ∧ own_get iv (own_nx mk (own_nx mk ra)) = (-1 : Int32)) := (hrd hne).imp id fun q => ⟨own_nx2 K hk1 hrai, q⟩
 obtain ⟨cq1, qa1, qb1⟩ := E_lh.cell
 obtain ⟨_, _, ⟨T1, L1, k1, n1⟩, -, X1, ⟨Lc1, hQ1, l1, y1, z1⟩, st1⟩ := X0.privateBack hx (y := (⟨cLH, "full", "()Z"⟩ : MethodName)) hown (mvT hZ (Wd hw 95 rfl)) (mvT hZ (Wd hw 96 rfl)) (selfInst hZ (Wd hw 49 rfl) (Wd hw 96 rfl) (Wd hw 97 rfl) (by decide)) (Cond.privateMethod_at (mvP hZ (Wd hw 97 rfl) (args := #[]))) (mvT hZ (Wd hw 98 rfl)) (by decide) (backOf (W := 0) (rmFU l Z a0 hw [] lh hp (2 : Int32) xa xb xc kl k_hp h0 n0 Z0 E_lh F_heap_lh F_size_lh V_hp) hZ (Wd hw 98 rfl) (Wd hw 50 rfl) (by decide) (by decide)) (g := (mkF m 1 #[.val (.ref lh), .val (.long hs), .second, .unset, .unset] [(.ref lh)])) rfl (by rw [hml]; rfl) (Steps.refl _) (a := lh) (by rw [e0]; exact qa1) qb1 (argsL := []) (rest := []) (lenOf own_pd1 rfl) rfl (by show 2 * 0 + _ ≤ _; exact Nat.le_of_eq rfl) (hb hby d20_1) (fun _ _ => ⟨rfl, e0, (by decide : 0 + 0 ≤ _), (by decide : 0 + 0 ≤ _)⟩)
 dsimp only [Pt.U, Pt.locs, Pt.cells, Pt.slots] at X1 l1 y1 z1 st1 hQ1
 subst l1 y1 z1
 obtain ⟨rfl, Nq1, e1⟩ := hQ1
 have N1 := Fr.app N0 Nq1
 obtain ⟨T2, X2, e2, st2⟩ := getF X1 hx hZ hown (host := "") (Or.inl (Wd hw 56 rfl)) Via.refl e1 F_heap_lh (g := (mkF m 9 #[.val (.ref lh), .val (.long hs), .second, .unset, .unset] [(.ref lh), (.ref lh)])) rfl rfl (hb hby d20_9)
 obtain ⟨cl3, Ar3, q3, S3, M3, Hs3, G3⟩ := (id V_hp)
 have hin3 : ¬ ((0 : Int32) < 0 ∨ cl3.slots.size ≤ ((0 : Int32)).toNatClampNeg) := inb_of S3 ⟨by decide, own_kpos K⟩
 have hat3 : cl3.slots[((0 : Int32)).toNatClampNeg]? = some (.long xa) := Hs3.at hin3 rfl
 obtain ⟨cq4, qa4, qb4⟩ := E_lh.cell
 obtain ⟨_, _, ⟨T4, L4, k4, n4⟩, -, X4, ⟨Lc4, hQ4, l4, y4, z4⟩, st4⟩ := X2.privateBack hx (y := (⟨cLH, "removeFromTable", "(J)I"⟩ : MethodName)) hown (mvT hZ (Wd hw 147 rfl)) (mvT hZ (Wd hw 148 rfl)) (selfInst hZ (Wd hw 49 rfl) (Wd hw 148 rfl) (Wd hw 149 rfl) (by decide)) (Cond.privateMethod_at (mvP hZ (Wd hw 149 rfl) (args := #[]))) (mvT hZ (Wd hw 150 rfl)) (by decide) (backOf (W := 0) (rmRT l Z a0 hw [] lh xa sl ix mk nl k_sl sv k_ix iv kl ra h0 n0 Z0 E_lh F_slots_lh F_indices_lh F_mask_lh V_sl V_ix K hra hl8 g_sl g_ix hnx) hZ (Wd hw 150 rfl) (Wd hw 50 rfl) (by decide) (by decide)) (g := (mkF m 14 #[.val (.ref lh), .val (.long hs), .second, .unset, .unset] [(.long xa), (.ref lh)])) rfl (by rw [hml]; rfl) (Steps.refl _) (a := lh) (by rw [e2]; exact qa4) qb4 (argsL := [(.long xa)]) (rest := []) (lenOf own_pd2 rfl) rfl (by show 2 * 0 + _ ≤ _; exact Nat.le_of_eq rfl) (hb hby d20_14) (fun _ _ => ⟨rfl, e2, (by decide : 0 + 0 ≤ _), (by decide : 0 + 0 ≤ _)⟩)
 dsimp only [Pt.U, Pt.locs, Pt.cells, Pt.slots] at X4 l4 y4 z4 st4 hQ4
 subst l4 y4 z4
 obtain ⟨svb_4, ivb_4, rfl, Nq4, Kc4, q4_0, q4_1, q4_2⟩ := hQ4
 have K4 : Keep h0 T4.heap [hp, sl, ix] := Keep.trans (Keep.refl h0 [hp, sl, ix]) Kc4 (allS (Or.inl (List.mem_of_getElem? (i := 1) rfl)) (allS (Or.inl (List.mem_of_getElem? (i := 2) rfl)) all0))
 have Zs4 : n0 ≤ T4.heap.size := Nat.le_trans Z0 Kc4.1
 obtain ⟨w1, w2, w3, w4⟩ := q4_2
 have N4 := Fr.app N1 Nq4
 obtain ⟨rc, hrcc⟩ := own_term K hz.symm w3 hs (sv := svb_4)
 have hrci := own_runin K 8 _ (own_andin K _) hrcc
 obtain ⟨cq5, qa5, qb5⟩ := (E_lh.keep Kc4).cell
 obtain ⟨_, _, ⟨T5, L5, k5, n5⟩, -, X5, ⟨Lc5, hQ5, l5, y5, z5⟩, st5⟩ := X4.privateBack hx (y := (⟨cLH, "replaceSmallest", "(J)V"⟩ : MethodName)) hown (mvT hZ (Wd hw 151 rfl)) (mvT hZ (Wd hw 152 rfl)) (selfInst hZ (Wd hw 49 rfl) (Wd hw 152 rfl) (Wd hw 153 rfl) (by decide)) (Cond.privateMethod_at (mvP hZ (Wd hw 153 rfl) (args := #[]))) (mvT hZ (Wd hw 154 rfl)) (by decide) (backOf (W := 0) (rmRSc l Z a0 hw [] lh hs hp xa xb xc kl k_hp T4.heap n0 Zs4 (E_lh.keep Kc4) (F_heap_lh.keep Kc4 (ninS nq_lh_sl (ninS nq_lh_ix nin0))) (F_size_lh.keep Kc4 (ninS nq_lh_sl (ninS nq_lh_ix nin0))) (V_hp.keep Kc4 (ninS ne_hp_sl (ninS nq_hp_ix nin0))) hz g_hp) hZ (Wd hw 154 rfl) (Wd hw 50 rfl) (by decide) (by decide)) (g := (mkF m 20 #[.val (.ref lh), .val (.long hs), .second, .val (.int (own_get iv ra)), .unset] [(.long hs), (.ref lh)])) rfl (by rw [hml]; rfl) (Steps.refl _) (a := lh) qa5 qb5 (argsL := [(.long hs)]) (rest := []) (lenOf own_pd3 rfl) rfl (by show 2 * 0 + _ ≤ _; exact Nat.le_of_eq rfl) (hb hby d20_20) (fun _ _ => ⟨rfl, rfl, (by decide : 0 + 0 ≤ _), (by decide : 0 + 0 ≤ _)⟩)
 dsimp only [Pt.U, Pt.locs, Pt.cells, Pt.slots] at X5 l5 y5 z5 st5 hQ5
 subst l5 y5 z5
 obtain ⟨rfl, Nq5, Kc5⟩ := hQ5
 have K5 : Keep h0 T5.heap [hp, sl, ix] := Keep.trans K4 Kc5 (allS (Or.inl (List.mem_of_getElem? (i := 0) rfl)) all0)
 have Zs5 : n0 ≤ T5.heap.size := Nat.le_trans Zs4 Kc5.1
 have N5 := Fr.app N4 Nq5
 obtain ⟨cq6, qa6, qb6⟩ := ((E_lh.keep Kc4).keep Kc5).cell
 obtain ⟨_, _, ⟨T6, L6, k6, n6⟩, -, X6, ⟨Lc6, hQ6, l6, y6, z6⟩, st6⟩ := X5.privateBack hx (y := (⟨cLH, "slotOf", "(J)I"⟩ : MethodName)) hown (mvT hZ (Wd hw 101 rfl)) (mvT hZ (Wd hw 102 rfl)) (selfInst hZ (Wd hw 49 rfl) (Wd hw 102 rfl) (Wd hw 103 rfl) (by decide)) (Cond.privateMethod_at (mvP hZ (Wd hw 103 rfl) (args := #[]))) (mvT hZ (Wd hw 104 rfl)) (by decide) (backOf (W := 0) (rmSO l Z a0 hw [] lh hs sl ix mk nl k_sl svb_4 k_ix ivb_4 kl rc T5.heap n0 Zs5 ((E_lh.keep Kc4).keep Kc5) ((F_slots_lh.keep Kc4 (ninS nq_lh_sl (ninS nq_lh_ix nin0))).keep Kc5 (ninS nq_lh_hp nin0)) ((F_indices_lh.keep Kc4 (ninS nq_lh_sl (ninS nq_lh_ix nin0))).keep Kc5 (ninS nq_lh_hp nin0)) ((F_mask_lh.keep Kc4 (ninS nq_lh_sl (ninS nq_lh_ix nin0))).keep Kc5 (ninS nq_lh_hp nin0)) (q4_0.keep Kc5 (ninS (Ne.symm ne_hp_sl) nin0)) (q4_1.keep Kc5 (ninS nq_hp_ix.symm nin0)) K hrcc) hZ (Wd hw 104 rfl) (Wd hw 50 rfl) (by decide) (by decide)) (g := (mkF m 38 #[.val (.ref lh), .val (.long hs), .second, .val (.int (own_get iv ra)), .unset] [(.long hs), (.ref lh)])) rfl (by rw [hml]; rfl) (Steps.refl _) (a := lh) qa6 qb6 (argsL := [(.long hs)]) (rest := []) (lenOf own_pd2 rfl) rfl (by show 2 * 0 + _ ≤ _; exact Nat.le_of_eq rfl) (hb hby d20_38) (fun _ _ => ⟨rfl, rfl, (by decide : 0 + 0 ≤ _), (by decide : 0 + 0 ≤ _)⟩)
 dsimp only [Pt.U, Pt.locs, Pt.cells, Pt.slots] at X6 l6 y6 z6 st6 hQ6
 subst l6 y6 z6
 obtain ⟨rfl, Nq6, e6⟩ := hQ6
 have N6 := Fr.app N5 Nq6
 obtain ⟨T7, X7, e7, st7⟩ := getF X6 hx hZ hown (host := "") (Or.inl (Wd hw 66 rfl)) Via.refl e6 ((F_slots_lh.keep Kc4 (ninS nq_lh_sl (ninS nq_lh_ix nin0))).keep Kc5 (ninS nq_lh_hp nin0)) (g := (mkF m 44 #[.val (.ref lh), .val (.long hs), .second, .val (.int (own_get iv ra)), .val (.int rc)] [(.ref lh)])) rfl rfl (hb hby d20_44)
 obtain ⟨cl8, Ar8, q8, S8, M8, Hs8, G8⟩ := (q4_0.keep Kc5 (ninS (Ne.symm ne_hp_sl) nin0))
 have hin8 : ¬ (rc < 0 ∨ cl8.slots.size ≤ (rc).toNatClampNeg) := inb_of S8 (own_inb K hrci)
 obtain ⟨T9, h9, X9, e9, W9, st9⟩ := stJ X7 hx hZ e7 Ar8 (j := rc) hin8 (g := (mkF m 50 #[.val (.ref lh), .val (.long hs), .second, .val (.int (own_get iv ra)), .val (.int rc)] [(.long hs), (.int rc), (.ref sl)])) rfl rfl (hb hby d20_50)
 have V9 : Arv Z h9 sl k_sl .long nl ((svb_4.set rc.toNatClampNeg hs).map Value.long) (.long (0 : Int64)) := by
  rw [List.map_set]
  exact Arv.set Ar8 q8 S8 M8 Hs8 G8 rfl W9 rc.toNatClampNeg rfl (by first | (rw [List.length_map]; exact (own_sl K hrci (by simp [w1, w2]))) | exact (own_sl K hrci (by simp [w1, w2])))
 have K9 : Keep h0 h9 [hp, sl, ix] := K5.wr W9 (Or.inl (List.mem_of_getElem? (i := 1) rfl))
 have Zs9 : n0 ≤ h9.size := Nat.le_trans Zs5 (Keep.of_wr W9).1
 have N9 := Fr.snoc X9 N6 g_sl
 obtain ⟨T10, X10, e10, st10⟩ := getF X9 hx hZ hown (host := "") (Or.inl (Wd hw 69 rfl)) Via.refl e9 (Fld.other W9 ((F_indices_lh.keep Kc4 (ninS nq_lh_sl (ninS nq_lh_ix nin0))).keep Kc5 (ninS nq_lh_hp nin0)) (Or.inl nq_lh_sl)) (g := (mkF m 52 #[.val (.ref lh), .val (.long hs), .second, .val (.int (own_get iv ra)), .val (.int rc)] [(.ref lh)])) rfl rfl (hb hby d20_52)
 obtain ⟨cl11, Ar11, q11, S11, M11, Hs11, G11⟩ := ((q4_1.keep Kc5 (ninS nq_hp_ix.symm nin0)).other W9 nq_ix_sl)
 have hin11 : ¬ (rc < 0 ∨ cl11.slots.size ≤ (rc).toNatClampNeg) := inb_of S11 (own_inb K hrci)
 obtain ⟨T12, h12, X12, e12, W12, st12⟩ := stI X10 hx hZ e10 Ar11 (j := rc) hin11 (g := (mkF m 58 #[.val (.ref lh), .val (.long hs), .second, .val (.int (own_get iv ra)), .val (.int rc)] [(.int (own_get iv ra)), (.int rc), (.ref ix)])) rfl rfl (hb hby d20_58)
 have V12 : Arv Z h12 ix k_ix .int nl ((ivb_4.set rc.toNatClampNeg (own_get iv ra)).map Value.int) (.int (0 : Int32)) := by
  rw [List.map_set]
  exact Arv.set Ar11 q11 S11 M11 Hs11 G11 rfl W12 rc.toNatClampNeg rfl (by first | (rw [List.length_map]; exact (own_sl K hrci (by simp [w1, w2]))) | exact (own_sl K hrci (by simp [w1, w2])))
 have K12 : Keep h0 h12 [hp, sl, ix] := K9.wr W12 (Or.inl (List.mem_of_getElem? (i := 2) rfl))
 have Zs12 : n0 ≤ h12.size := Nat.le_trans Zs9 (Keep.of_wr W12).1
 have N12 := Fr.snoc X12 N9 g_ix
 obtain ⟨fs, hr, hrun, hended, hW, hsame⟩ := X12.leave (v := some (.int (own_get iv ra))) (fun h => by rw [Bd.returns] at h; cases h) hlk
 refine ⟨_, _, (pre0 _ ?_), hrun, hended, _, _, rfl, ?_, ⟨_, rfl⟩, hW, hsame.mono (by decide) (by decide)⟩
 ·show Steps p.tables e below (s₁.setTop (mkF m 0 #[.val (.ref lh), .val (.long hs), .second, .unset, .unset] [])) _
  refine XS.aloadN X0.here hx rfl (hb hby d20_0) rfl rfl ?_
  refine st1.trans ?_
  refine XS.ifNo X1.here hx rfl (hb hby d20_4) rfl ((if0 _ _).trans (feq (own_flT hz)).1) ?_
  refine XS.aloadN X1.here hx rfl (hb hby d20_7) rfl rfl ?_
  refine XS.aloadN X1.here hx rfl (hb hby d20_8) rfl rfl ?_
  refine st2 _ ?_
  refine XS.iconst X2.here hx rfl (hb hby d20_12) ?_
  refine X2.laload hx (j := (0 : Int32)) (v := (.long xa)) (by rw [e2]; exact Ar3.1) (State.isArrayOf_alike hZ.alike Ar3.2.1) Ar3.2.2 hin3 hat3 (g := (mkF m 13 #[.val (.ref lh), .val (.long hs), .second, .unset, .unset] [(.int (0 : Int32)), (.ref hp), (.ref lh)])) rfl rfl (hb hby d20_13) _ ?_
  refine st4.trans ?_
  refine XS.istoreN X4.here hx rfl (hb hby d20_17) rfl (l' := #[.val (.ref lh), .val (.long hs), .second, .val (.int (own_get iv ra)), .unset]) rfl ?_
  refine XS.aloadN X4.here hx rfl (hb hby d20_18) rfl rfl ?_
  refine XS.lloadN X4.here hx rfl (hb hby d20_19) rfl ?_
  refine st5.trans ?_
  refine XS.goto X5.here hx rfl (pc0 := 23) (pc' := 36) rfl (hb hby d20_23) (by decide) (by decide) ?_
  refine XS.aloadN X5.here hx rfl (hb hby d20_36) rfl rfl ?_
  refine XS.lloadN X5.here hx rfl (hb hby d20_37) rfl ?_
  refine st6.trans ?_
  refine XS.istore X6.here hx rfl (hb hby d20_41) rfl (l' := #[.val (.ref lh), .val (.long hs), .second, .val (.int (own_get iv ra)), .val (.int rc)]) rfl ?_
  refine XS.aloadN X6.here hx rfl (hb hby d20_43) rfl rfl ?_
  refine st7 _ ?_
  refine XS.iload X7.here hx rfl (hb hby d20_47) rfl ?_
  refine XS.lloadN X7.here hx rfl (hb hby d20_49) rfl ?_
  refine st9 _ ?_
  refine XS.aloadN X9.here hx rfl (hb hby d20_51) rfl rfl ?_
  refine st10 _ ?_
  refine XS.iload X10.here hx rfl (hb hby d20_55) rfl ?_
  refine XS.iloadN X10.here hx rfl (hb hby d20_57) rfl ?_
  refine st12 _ ?_
  refine XS.iloadN X12.here hx rfl (hb hby d20_59) rfl ?_
  exact retI X12 hx Bd.returns (hb hby d20_60) hr
 ·show QAUc Z lh hs hp sl ix mk xa xb xc kl k_hp nl k_sl sv k_ix iv ka kb h0 n0 _ T12.heap _
  rw [e12]
  exact ⟨(own_get iv ra), rfl, N12, K12, ⟨hrb, hrc⟩⟩
theorem d19_0 : decode jdk_29_method_69_code 0 = .ok (.iload_n 0, 1) := by decide +kernel
theorem d19_1 : decode jdk_29_method_69_code 1 = .ok (.iload_n 1, 1) := by decide +kernel
theorem d19_2 : decode jdk_29_method_69_code 2 = .ok (.if_icmp .gt 7, 3) := by decide +kernel
theorem d19_5 : decode jdk_29_method_69_code 5 = .ok (.iload_n 0, 1) := by decide +kernel
theorem d19_6 : decode jdk_29_method_69_code 6 = .ok (.goto 4, 3) := by decide +kernel
theorem d19_9 : decode jdk_29_method_69_code 9 = .ok (.iload_n 1, 1) := by decide +kernel
theorem d19_10 : decode jdk_29_method_69_code 10 = .ok (.ireturn, 1) := by decide +kernel
theorem efMN (m : MethodId) (pa : Int32) (pb : Int32) : entryFrame m #[(.int pa), (.int pb)] 2 = mkF m 0 #[.val (.int pa), .val (.int pb)] [] := by first | (simp [entryFrame, mkF, argsToLocals, Value.category]; done) | rfl
def QMN (Z : State) (pa : Int32) (pb : Int32) (h0 : Heap) (n0 : Nat) (v : Option Value) (h : Heap) (L : List Loc) : Prop := v = some (.int (own_mi pa pb)) ∧ Fr n0 L ∧ h = h0
set_option maxRecDepth 65536 in
set_option maxHeartbeats 40000000 in
theorem rmMN (l : Launch) (Z : State) (a0 : Array Value) (hw : ∀ d ∈ tables_1, d.before a0 Z = true) (ws : List Jvm.Cond) (pa : Int32) (pb : Int32) (h0 : Heap) (n0 : Nat) (Z0 : n0 ≤ h0.size) :
  MetFree l (⟨"java/lang/Math", "min", "(II)I"⟩ : MethodName) (head1 (Jvm.Cond.code (⟨"java/lang/Math", "min", "(II)I"⟩ : MethodName) jdk_29_method_69_code 2 (some .int) :: ws) ({ frames := 0, cells := 0, slots := 0, locals := 0 } : Room)) (fun av_ U => av_ = #[(.int pa), (.int pb)] ∧ Z.Warmed39 U.vm ∧ U.heap = h0) (fun _ _ _ _ _ => True) (fun _ U o U' => ∃ v L, o = .returned v ∧ QMN Z pa pb h0 n0 v U'.heap L ∧ FrameEnd U o U' L ({ frames := 0, cells := 0, slots := 0, locals := 0 } : Room).cells ({ frames := 0, cells := 0, slots := 0, locals := 0 } : Room).slots) := by
 refine MetFree.of_bodySF (Jvm.Free.JP.mathPlain rfl (by decide +kernel)) hisR ?_
 intro p e s m args below meth c s₁ Bd hml0 hP hK
 obtain ⟨rfl, hZ, hh⟩ := hP
 have hx := Bd.exec
 have hby := Bd.bytes
 have hml : c.maxLocals = 2 := hml0
 have hown : s.vm.findClass "java/lang/Math" = some m.cls := findClass_of_methodNamed Bd.named
 have hnm := (name_of_methodNamed Bd.named Bd.method).1
 have X0 : Stand p l e ({ frames := 0, cells := 0, slots := 0, locals := 0 } : Room) s m #[(.int pa), (.int pb)] below meth c s₁ [] 0 0 := Stand.of_body Bd
 have e0 : s₁.heap = h0 := by rw [← hh, Bd.state]; rfl
 have N0 := Fr.nil n0
 have hlk : meth.locks = false := Bd.notSynchronized
 have pre0 : ∀ t, Steps p.tables e below (s₁.setTop (mkF m 0 #[.val (.int pa), .val (.int pb)] [])) t → Steps p.tables e below (s₁.setTop (entryFrame m #[(.int pa), (.int pb)] 2)) t := fun t k => castTop (efMN m pa pb) k
 have r1 : ∀ t, Steps p.tables e below (s₁.setTop (mkF m 2 #[.val (.int pa), .val (.int pb)] [(.int pb), (.int pa)])) t → Steps p.tables e below (s₁.setTop (mkF m 0 #[.val (.int pa), .val (.int pb)] [])) t := fun t kt => by
  refine XS.iloadN X0.here hx rfl (hb hby d19_0) rfl ?_
  refine XS.iloadN X0.here hx rfl (hb hby d19_1) rfl ?_
  exact kt
 by_cases hc2 : pb < pa
 ·obtain ⟨fs, hr, hrun, hended, hW, hsame⟩ := X0.leave (v := some (.int pb)) (fun h => by rw [Bd.returns] at h; cases h) hlk
  refine ⟨_, _, (pre0 _ (r1 _ ?_)), hrun, hended, _, _, rfl, ?_, ⟨_, rfl⟩, hW, hsame.mono (by decide) (by decide)⟩
  ·show Steps p.tables e below (s₁.setTop (mkF m 2 #[.val (.int pa), .val (.int pb)] [(.int pb), (.int pa)])) _
   refine XS.icmpYes X0.here hx rfl (pc0 := 2) (pc' := 9) rfl (hb hby d19_2) rfl (tlt hc2).2.2.1 (by decide) (by decide) ?_
   refine XS.iloadN X0.here hx rfl (hb hby d19_9) rfl ?_
   exact retI X0 hx Bd.returns (hb hby d19_10) hr
  ·show QMN Z pa pb h0 n0 _ s₁.heap _
   rw [e0]
   exact ⟨(by simp [own_mi, hc2]), N0, rfl⟩
 ·obtain ⟨fs, hr, hrun, hended, hW, hsame⟩ := X0.leave (v := some (.int pa)) (fun h => by rw [Bd.returns] at h; cases h) hlk
  refine ⟨_, _, (pre0 _ (r1 _ ?_)), hrun, hended, _, _, rfl, ?_, ⟨_, rfl⟩, hW, hsame.mono (by decide) (by decide)⟩
  ·show Steps p.tables e below (s₁.setTop (mkF m 2 #[.val (.int pa), .val (.int pb)] [(.int pb), (.int pa)])) _
   refine XS.icmpNo X0.here hx rfl (hb hby d19_2) rfl (flt hc2).2.2.1 ?_
   refine XS.iloadN X0.here hx rfl (hb hby d19_5) rfl ?_
   refine XS.goto X0.here hx rfl (pc0 := 6) (pc' := 10) rfl (hb hby d19_6) (by decide) (by decide) ?_
   exact retI X0 hx Bd.returns (hb hby d19_10) hr
  ·show QMN Z pa pb h0 n0 _ s₁.heap _
   rw [e0]
   exact ⟨(by simp [own_mi, hc2]), N0, rfl⟩
theorem own_pn2 : plainName "java/util/Arrays" = true := by first | (simp [plainName, overriddenIn]; done) | decide +kernel
theorem d18_0 : decode jdk_65_method_131_code 0 = .ok (.iload_n 1, 1) := by decide +kernel
theorem d18_1 : decode jdk_65_method_131_code 1 = .ok (.iload_n 0, 1) := by decide +kernel
theorem d18_2 : decode jdk_65_method_131_code 2 = .ok (.if_icmp .ge 35, 3) := by decide +kernel
theorem d18_37 : decode jdk_65_method_131_code 37 = .ok (.return_, 1) := by decide +kernel
theorem efCK (m : MethodId) (pa : Int32) (pb : Int32) : entryFrame m #[(.int pa), (.int pb)] 2 = mkF m 0 #[.val (.int pa), .val (.int pb)] [] := by first | (simp [entryFrame, mkF, argsToLocals, Value.category]; done) | rfl
def QCK (Z : State) (pa : Int32) (pb : Int32) (h0 : Heap) (n0 : Nat) (v : Option Value) (h : Heap) (L : List Loc) : Prop := v = none ∧ Fr n0 L ∧ h = h0
set_option maxRecDepth 65536 in
set_option maxHeartbeats 40000000 in
theorem rmCK (l : Launch) (Z : State) (a0 : Array Value) (hw : ∀ d ∈ tables_1, d.before a0 Z = true) (ws : List Jvm.Cond) (pa : Int32) (pb : Int32) (h0 : Heap) (n0 : Nat) (Z0 : n0 ≤ h0.size) (hk : ¬ pb < pa) :
  MetFree l (⟨"java/util/Arrays", "checkLength", "(II)V"⟩ : MethodName) (head1 (Jvm.Cond.code (⟨"java/util/Arrays", "checkLength", "(II)V"⟩ : MethodName) jdk_65_method_131_code 2 none :: ws) ({ frames := 0, cells := 0, slots := 0, locals := 0 } : Room)) (fun av_ U => av_ = #[(.int pa), (.int pb)] ∧ Z.Warmed39 U.vm ∧ U.heap = h0) (fun _ _ _ _ _ => True) (fun _ U o U' => ∃ v L, o = .returned v ∧ QCK Z pa pb h0 n0 v U'.heap L ∧ FrameEnd U o U' L ({ frames := 0, cells := 0, slots := 0, locals := 0 } : Room).cells ({ frames := 0, cells := 0, slots := 0, locals := 0 } : Room).slots) := by
 refine MetFree.of_bodySF (plainFor_of_name own_pn2) hisR ?_
 intro p e s m args below meth c s₁ Bd hml0 hP hK
 obtain ⟨rfl, hZ, hh⟩ := hP
 have hx := Bd.exec
 have hby := Bd.bytes
 have hml : c.maxLocals = 2 := hml0
 have hown : s.vm.findClass "java/util/Arrays" = some m.cls := findClass_of_methodNamed Bd.named
 have hnm := (name_of_methodNamed Bd.named Bd.method).1
 have X0 : Stand p l e ({ frames := 0, cells := 0, slots := 0, locals := 0 } : Room) s m #[(.int pa), (.int pb)] below meth c s₁ [] 0 0 := Stand.of_body Bd
 have e0 : s₁.heap = h0 := by rw [← hh, Bd.state]; rfl
 have N0 := Fr.nil n0
 have hlk : meth.locks = false := Bd.notSynchronized
 have pre0 : ∀ t, Steps p.tables e below (s₁.setTop (mkF m 0 #[.val (.int pa), .val (.int pb)] [])) t → Steps p.tables e below (s₁.setTop (entryFrame m #[(.int pa), (.int pb)] 2)) t := fun t k => castTop (efCK m pa pb) k
 obtain ⟨fs, hr, hrun, hended, hW, hsame⟩ := X0.leave (v := none) (fun _ => rfl) hlk
 refine ⟨_, _, (pre0 _ ?_), hrun, hended, _, _, rfl, ?_, ⟨_, rfl⟩, hW, hsame.mono (by decide) (by decide)⟩
 ·show Steps p.tables e below (s₁.setTop (mkF m 0 #[.val (.int pa), .val (.int pb)] [])) _
  refine XS.iloadN X0.here hx rfl (hb hby d18_0) rfl ?_
  refine XS.iloadN X0.here hx rfl (hb hby d18_1) rfl ?_
  refine XS.icmpYes X0.here hx rfl (pc0 := 2) (pc' := 37) rfl (hb hby d18_2) rfl (flt hk).2.1 (by decide) (by decide) ?_
  exact X0.returnOut hx Bd.returns (hb hby d18_37) hr
 ·show QCK Z pa pb h0 n0 _ s₁.heap _
  rw [e0]
  exact ⟨rfl, N0, rfl⟩
theorem own_pd4 : parseMethodDescriptor "(II)V" = some ⟨[.int, .int], none⟩ := by decide +kernel
theorem own_pd5 : parseMethodDescriptor "(II)I" = some ⟨[.int, .int], some .int⟩ := by decide +kernel
theorem d17_0 : decode jdk_65_method_133_code 0 = .ok (.iload_n 1, 1) := by decide +kernel
theorem d17_1 : decode jdk_65_method_133_code 1 = .ok (.iload_n 2, 1) := by decide +kernel
theorem d17_2 : decode jdk_65_method_133_code 2 = .ok (.invokestatic 343, 3) := by decide +kernel
theorem d17_5 : decode jdk_65_method_133_code 5 = .ok (.iload_n 2, 1) := by decide +kernel
theorem d17_6 : decode jdk_65_method_133_code 6 = .ok (.iload_n 1, 1) := by decide +kernel
theorem d17_7 : decode jdk_65_method_133_code 7 = .ok (.isub, 1) := by decide +kernel
theorem d17_8 : decode jdk_65_method_133_code 8 = .ok (.istore_n 3, 1) := by decide +kernel
theorem d17_9 : decode jdk_65_method_133_code 9 = .ok (.iload_n 3, 1) := by decide +kernel
theorem d17_10 : decode jdk_65_method_133_code 10 = .ok (.newarray .byte, 2) := by decide +kernel
theorem d17_12 : decode jdk_65_method_133_code 12 = .ok (.astore 4, 2) := by decide +kernel
theorem d17_14 : decode jdk_65_method_133_code 14 = .ok (.aload_n 0, 1) := by decide +kernel
theorem d17_15 : decode jdk_65_method_133_code 15 = .ok (.iload_n 1, 1) := by decide +kernel
theorem d17_16 : decode jdk_65_method_133_code 16 = .ok (.aload 4, 2) := by decide +kernel
theorem d17_18 : decode jdk_65_method_133_code 18 = .ok (.iconst 0, 1) := by decide +kernel
theorem d17_19 : decode jdk_65_method_133_code 19 = .ok (.aload_n 0, 1) := by decide +kernel
theorem d17_20 : decode jdk_65_method_133_code 20 = .ok (.arraylength, 1) := by decide +kernel
theorem d17_21 : decode jdk_65_method_133_code 21 = .ok (.iload_n 1, 1) := by decide +kernel
theorem d17_22 : decode jdk_65_method_133_code 22 = .ok (.isub, 1) := by decide +kernel
theorem d17_23 : decode jdk_65_method_133_code 23 = .ok (.iload_n 3, 1) := by decide +kernel
theorem d17_24 : decode jdk_65_method_133_code 24 = .ok (.invokestatic 304, 3) := by decide +kernel
theorem d17_27 : decode jdk_65_method_133_code 27 = .ok (.invokestatic 150, 3) := by decide +kernel
theorem d17_30 : decode jdk_65_method_133_code 30 = .ok (.aload 4, 2) := by decide +kernel
theorem d17_32 : decode jdk_65_method_133_code 32 = .ok (.areturn, 1) := by decide +kernel
theorem efCB (m : MethodId) (bf : Addr) (fo : Int32) : entryFrame m #[(.ref bf), (.int fo), (.int (fo + ln))] 5 = mkF m 0 #[.val (.ref bf), .val (.int fo), .val (.int (fo + ln)), .unset, .unset] [] := by first | (simp [entryFrame, mkF, argsToLocals, Value.category]; done) | rfl
def QCB (Z : State) (bf : Addr) (fo : Int32) (ln : Int32) (k_bf : ClassId) (h0 : Heap) (n0 : Nat) (v : Option Value) (h : Heap) (L : List Loc) : Prop := ∃ rt : Addr, ∃ k_rt : ClassId, ∃ lw : List Value, v = some (.ref rt) ∧ Fr n0 L ∧ Keep h0 h [] ∧ n0 ≤ rt ∧ h0.size ≤ rt ∧ Exa Z h rt "[B" ∧ Arv Z h rt k_rt .byte ln lw (.int (0 : Int32))
set_option maxRecDepth 65536 in
set_option maxHeartbeats 40000000 in
theorem rmCB (l : Launch) (Z : State) (a0 : Array Value) (hw : ∀ d ∈ tables_1, d.before a0 Z = true) (ws : List Jvm.Cond) (bf : Addr) (fo : Int32) (ln : Int32) (k_bf : ClassId) (h0 : Heap) (n0 : Nat) (Z0 : n0 ≤ h0.size) (V_bf : Arv Z h0 bf k_bf .byte (10 : Int32) [(.int (0 : Int32)), (.int (0 : Int32)), (.int (0 : Int32)), (.int (0 : Int32)), (.int (0 : Int32)), (.int (0 : Int32)), (.int (0 : Int32)), (.int (0 : Int32)), (.int (0 : Int32)), (.int (0 : Int32))] (.int (0 : Int32))) (hfo : 0 ≤ fo.toInt ∧ fo.toInt ≤ 3) (hln : 0 ≤ ln.toInt ∧ ln.toInt ≤ 7) :
  MetFree l (⟨"java/util/Arrays", "copyOfRangeByte", "([BII)[B"⟩ : MethodName) (head1 (Jvm.Cond.code (⟨"java/util/Arrays", "copyOfRangeByte", "([BII)[B"⟩ : MethodName) jdk_65_method_133_code 5 (some (.array .byte)) :: ws) ({ frames := 1, cells := 1, slots := 7, locals := 60 } : Room)) (fun av_ U => av_ = #[(.ref bf), (.int fo), (.int (fo + ln))] ∧ Z.Warmed39 U.vm ∧ U.heap = h0) (fun _ _ _ _ _ => True) (fun _ U o U' => ∃ v L, o = .returned v ∧ QCB Z bf fo ln k_bf h0 n0 v U'.heap L ∧ FrameEnd U o U' L ({ frames := 1, cells := 1, slots := 7, locals := 60 } : Room).cells ({ frames := 1, cells := 1, slots := 7, locals := 60 } : Room).slots) := by
 refine MetFree.of_bodySF (plainFor_of_name own_pn2) hisR ?_
 intro p e s m args below meth c s₁ Bd hml0 hP hK
 obtain ⟨rfl, hZ, hh⟩ := hP
 have hx := Bd.exec
 have hby := Bd.bytes
 have hml : c.maxLocals = 5 := hml0
 have hown : s.vm.findClass "java/util/Arrays" = some m.cls := findClass_of_methodNamed Bd.named
 have hnm := (name_of_methodNamed Bd.named Bd.method).1
 have X0 : Stand p l e ({ frames := 1, cells := 1, slots := 7, locals := 60 } : Room) s m #[(.ref bf), (.int fo), (.int (fo + ln))] below meth c s₁ [] 0 0 := Stand.of_body Bd
 have e0 : s₁.heap = h0 := by rw [← hh, Bd.state]; rfl
 have N0 := Fr.nil n0
 have hlk : meth.locks = false := Bd.notSynchronized
 have pre0 : ∀ t, Steps p.tables e below (s₁.setTop (mkF m 0 #[.val (.ref bf), .val (.int fo), .val (.int (fo + ln)), .unset, .unset] [])) t → Steps p.tables e below (s₁.setTop (entryFrame m #[(.ref bf), (.int fo), (.int (fo + ln))] 5)) t := fun t k => castTop (efCB m bf fo) k
 have hck := own_ck hfo hln
 obtain ⟨_, _, ⟨T1, L1, k1, n1⟩, -, X1, ⟨Lc1, hQ1, l1, y1, z1⟩, st1⟩ := Jvm.LawKit.callS X0 hx (y := (⟨"java/util/Arrays", "checkLength", "(II)V"⟩ : MethodName)) hown (mvT hZ (Wd hw 116 rfl)) (mvT hZ (Wd hw 117 rfl)) (mvT hZ (Wd hw 73 rfl)) (mvT hZ (Wd hw 118 rfl)) (by decide) (backOf (W := 0) (rmCK l Z a0 hw [] fo (fo + ln) h0 n0 Z0 hck) hZ (Wd hw 118 rfl) (Wd hw 73 rfl) (by decide) (by decide)) (g := (mkF m 2 #[.val (.ref bf), .val (.int fo), .val (.int (fo + ln)), .unset, .unset] [(.int (fo + ln)), (.int fo)])) rfl (by rw [hml]; rfl) (argsL := [(.int fo), (.int (fo + ln))]) (rest := []) (lenOf own_pd4 rfl) rfl (by show 2 * 0 + _ ≤ _; exact Nat.le_of_eq rfl) (hb hby d17_2) (fun _ _ => ⟨rfl, e0, (by decide : 0 + 0 ≤ _), (by decide : 0 + 0 ≤ _)⟩)
 dsimp only [Pt.U, Pt.locs, Pt.cells, Pt.slots] at X1 l1 y1 z1 st1 hQ1
 subst l1 y1 z1
 obtain ⟨rfl, Nq1, e1⟩ := hQ1
 have N1 := Fr.app N0 Nq1
 have r2 : ∀ t, Steps p.tables e below (T1.setTop (mkF m 8 #[.val (.ref bf), .val (.int fo), .val (.int (fo + ln)), .unset, .unset] [(.int ((fo + ln) - fo))])) t → Steps p.tables e below (s₁.setTop (mkF m 0 #[.val (.ref bf), .val (.int fo), .val (.int (fo + ln)), .unset, .unset] [])) t := fun t kt => by
  refine XS.iloadN X0.here hx rfl (hb hby d17_0) rfl ?_
  refine XS.iloadN X0.here hx rfl (hb hby d17_1) rfl ?_
  refine st1 _ ?_
  refine XS.iloadN X1.here hx rfl (hb hby d17_5) rfl ?_
  refine XS.iloadN X1.here hx rfl (hb hby d17_6) rfl ?_
  refine XS.isub X1.here hx rfl (hb hby d17_7) rfl ?_
  exact kt
 have r3 : ∀ t, Steps p.tables e below (T1.setTop (mkF m 8 #[.val (.ref bf), .val (.int fo), .val (.int (fo + ln)), .unset, .unset] [(.int ln)])) t → Steps p.tables e below (T1.setTop (mkF m 8 #[.val (.ref bf), .val (.int fo), .val (.int (fo + ln)), .unset, .unset] [(.int ((fo + ln) - fo))])) t := fun t kt => by
  have q : ((fo + ln) - fo) = ln := (own_asub fo ln)
  rw [q]
  exact kt
 obtain ⟨T4, h4, k4, X4, e4, E4, A4, EX4, st4⟩ := newPE X1 hx hZ (Wd hw 0 rfl) e1 (g := (mkF m 10 #[.val (.ref bf), .val (.int fo), .val (.int (fo + ln)), .val (.int ln), .unset] [(.int ln)])) rfl (hb hby d17_10) rfl (own_len7 hln).1 (cap := 7) (own_len7 hln).2 (by decide) (by decide) (by decide) (ad := "[B") (by decide)
 obtain ⟨b4, g4⟩ : ∃ z, z = h0.size := ⟨_, rfl⟩
 rw [← g4] at A4 EX4 st4
 have g_b4 : n0 ≤ b4 := Nat.le_trans Z0 (Nat.le_of_eq g4.symm)
 have sz_b4 : h0.size ≤ b4 := Nat.le_trans (Keep.refl h0 []).1 (Nat.le_of_eq g4.symm)
 have K4 : Keep h0 h4 [] := (Keep.refl h0 []).ext E4
 have Zs4 : n0 ≤ h4.size := Nat.le_trans Z0 E4.1
 have V4 : Arv Z h4 b4 k4 .byte ln [(.int (0 : Int32)), (.int (0 : Int32)), (.int (0 : Int32)), (.int (0 : Int32)), (.int (0 : Int32)), (.int (0 : Int32)), (.int (0 : Int32))] (.int (0 : Int32)) := (Arv.new A4 (own_len7 hln).1).pad (pad_rep [] (.int (0 : Int32)) 7)
 obtain ⟨cl5, Ar5, q5, S5, M5, Hs5, G5⟩ := (V_bf.ext E4)
 obtain ⟨_, _, ⟨T6, L6, k6, n6⟩, -, X6, ⟨Lc6, hQ6, l6, y6, z6⟩, st6⟩ := Jvm.LawKit.callS X4 hx (y := (⟨"java/lang/Math", "min", "(II)I"⟩ : MethodName)) hown (mvT hZ (Wd hw 119 rfl)) (mvT hZ (Wd hw 120 rfl)) (mvT hZ (Wd hw 121 rfl)) (mvT hZ (Wd hw 122 rfl)) (by decide) (backOf (W := 4) (rmMN l Z a0 hw [] ((10 : Int32) - fo) ln h4 n0 Zs4 ) hZ (Wd hw 122 rfl) (Wd hw 121 rfl) (by decide) (by decide)) (g := (mkF m 24 #[.val (.ref bf), .val (.int fo), .val (.int (fo + ln)), .val (.int ln), .val (.ref b4)] [(.int ln), (.int ((10 : Int32) - fo)), (.int (0 : Int32)), (.ref b4), (.int fo), (.ref bf)])) rfl (by rw [hml]; rfl) (argsL := [(.int ((10 : Int32) - fo)), (.int ln)]) (rest := [(.int (0 : Int32)), (.ref b4), (.int fo), (.ref bf)]) (lenOf own_pd5 rfl) rfl (by show 2 * 0 + _ ≤ _; exact Nat.le_of_eq rfl) (hb hby d17_24) (fun _ _ => ⟨rfl, e4, (by decide : 1 + 0 ≤ _), (by decide : 7 + 0 ≤ _)⟩)
 dsimp only [Pt.U, Pt.locs, Pt.cells, Pt.slots] at X6 l6 y6 z6 st6 hQ6
 subst l6 y6 z6
 obtain ⟨rfl, Nq6, e6⟩ := hQ6
 have N6 := Fr.app N1 Nq6
 have r7 : ∀ t, Steps p.tables e below (T6.setTop (mkF m 27 #[.val (.ref bf), .val (.int fo), .val (.int (fo + ln)), .val (.int ln), .val (.ref b4)] [(.int (own_mi ((10 : Int32) - fo) ln)), (.int (0 : Int32)), (.ref b4), (.int fo), (.ref bf)])) t → Steps p.tables e below (T1.setTop (mkF m 8 #[.val (.ref bf), .val (.int fo), .val (.int (fo + ln)), .unset, .unset] [(.int ln)])) t := fun t kt => by
  refine XS.istoreN X1.here hx rfl (hb hby d17_8) rfl (l' := #[.val (.ref bf), .val (.int fo), .val (.int (fo + ln)), .val (.int ln), .unset]) rfl ?_
  refine XS.iloadN X1.here hx rfl (hb hby d17_9) rfl ?_
  refine st4 _ ?_
  refine XS.astore X4.here hx rfl (hb hby d17_12) rfl rfl (l' := #[.val (.ref bf), .val (.int fo), .val (.int (fo + ln)), .val (.int ln), .val (.ref b4)]) rfl ?_
  refine XS.aloadN X4.here hx rfl (hb hby d17_14) rfl rfl ?_
  refine XS.iloadN X4.here hx rfl (hb hby d17_15) rfl ?_
  refine XS.aload X4.here hx rfl (hb hby d17_16) rfl rfl ?_
  refine XS.iconst X4.here hx rfl (hb hby d17_18) ?_
  refine XS.aloadN X4.here hx rfl (hb hby d17_19) rfl rfl ?_
  refine X4.arraylength hx (by rw [e4]; exact Ar5.1) (State.isArrayOf_alike hZ.alike Ar5.2.1) (g := (mkF m 20 #[.val (.ref bf), .val (.int fo), .val (.int (fo + ln)), .val (.int ln), .val (.ref b4)] [(.ref bf), (.int (0 : Int32)), (.ref b4), (.int fo), (.ref bf)])) rfl rfl (hb hby d17_20) _ ?_
  rw [len_of S5 M5]
  refine XS.iloadN X4.here hx rfl (hb hby d17_21) rfl ?_
  refine XS.isub X4.here hx rfl (hb hby d17_22) rfl ?_
  refine XS.iloadN X4.here hx rfl (hb hby d17_23) rfl ?_
  refine st6 _ ?_
  exact kt
 have r8 : ∀ t, Steps p.tables e below (T6.setTop (mkF m 27 #[.val (.ref bf), .val (.int fo), .val (.int (fo + ln)), .val (.int ln), .val (.ref b4)] [(.int ln), (.int (0 : Int32)), (.ref b4), (.int fo), (.ref bf)])) t → Steps p.tables e below (T6.setTop (mkF m 27 #[.val (.ref bf), .val (.int fo), .val (.int (fo + ln)), .val (.int ln), .val (.ref b4)] [(.int (own_mi ((10 : Int32) - fo) ln)), (.int (0 : Int32)), (.ref b4), (.int fo), (.ref bf)])) t := fun t kt => by
  have q : (own_mi ((10 : Int32) - fo) ln) = ln := (own_mi7 hfo hln)
  rw [q]
  exact kt
 obtain ⟨T9, h9, L9, X9, e9, N9, Kc9, V9', st9⟩ := cpA X6 hx hZ hown (Wd hw 123 rfl) (Wd hw 126 rfl) (Wd hw 124 rfl) (Wd hw 125 rfl) e6 (us := ((List.range (ln).toNatClampNeg).map fun i => [(.int (0 : Int32)), (.int (0 : Int32)), (.int (0 : Int32)), (.int (0 : Int32)), (.int (0 : Int32)), (.int (0 : Int32)), (.int (0 : Int32)), (.int (0 : Int32)), (.int (0 : Int32)), (.int (0 : Int32))].getD ((fo).toNatClampNeg + i) (.int (0 : Int32)))) (V_bf.ext E4) V4 (Or.inl ⟨rfl, rfl⟩) (own_len3 hfo) (by decide) (own_len7 hln).1 (own_c10 hfo hln) (own_c0 ln) rfl (own_c07 hln) N6 g_b4 (g := (mkF m 27 #[.val (.ref bf), .val (.int fo), .val (.int (fo + ln)), .val (.int ln), .val (.ref b4)] [(.int ln), (.int (0 : Int32)), (.ref b4), (.int fo), (.ref bf)])) rfl (by rw [hml]; rfl) rfl (hb hby d17_27) (by decide) (W := 0) (by show 2 * 0 + _ ≤ _; exact Nat.le_of_eq rfl) (by decide)
 have K9 : Keep h0 h9 [] := Keep.trans K4 Kc9 (allS (Or.inr sz_b4) all0)
 have Zs9 : n0 ≤ h9.size := Nat.le_trans Zs4 Kc9.1
 obtain ⟨lq9, V9⟩ : ∃ zz : List Value, Arv Z h9 b4 k4 .byte ln zz (.int (0 : Int32)) := ⟨_, V9'⟩
 obtain ⟨fs, hr, hrun, hended, hW, hsame⟩ := X9.leave (v := some (.ref b4)) (fun h => by rw [Bd.returns] at h; cases h) hlk
 refine ⟨_, _, (pre0 _ (r2 _ (r3 _ (r7 _ (r8 _ ?_))))), hrun, hended, _, _, rfl, ?_, ⟨_, rfl⟩, hW, hsame.mono (by decide) (by decide)⟩
 ·show Steps p.tables e below (T6.setTop (mkF m 27 #[.val (.ref bf), .val (.int fo), .val (.int (fo + ln)), .val (.int ln), .val (.ref b4)] [(.int ln), (.int (0 : Int32)), (.ref b4), (.int fo), (.ref bf)])) _
  refine st9 _ ?_
  refine XS.aload X9.here hx rfl (hb hby d17_30) rfl rfl ?_
  jvm_step X9.here [X9.here.top, hx, (hb hby d17_32), X9.method', Bd.returns, Value.isRef, FieldType.isReference]
  first | (intro acts; rw [hr _ acts rfl rfl rfl]) | rw [hr _ _ rfl rfl rfl]
  exact Steps.refl _
 ·show QCB Z bf fo ln k_bf h0 n0 _ T9.heap _
  rw [e9]
  exact ⟨b4, k4, lq9, rfl, N9, K9, g_b4, sz_b4, (EX4.keep Kc9), V9⟩
theorem own_pd6 : parseMethodDescriptor "([BII)[B" = some ⟨[(.array .byte), .int, .int], some (.array .byte)⟩ := by decide +kernel
theorem d16_0 : decode jdk_65_method_132_code 0 = .ok (.iload_n 1, 1) := by decide +kernel
theorem d16_1 : decode jdk_65_method_132_code 1 = .ok (.ifCond .ne 9, 3) := by decide +kernel
theorem d16_4 : decode jdk_65_method_132_code 4 = .ok (.iload_n 2, 1) := by decide +kernel
theorem d16_5 : decode jdk_65_method_132_code 5 = .ok (.aload_n 0, 1) := by decide +kernel
theorem d16_6 : decode jdk_65_method_132_code 6 = .ok (.arraylength, 1) := by decide +kernel
theorem d16_7 : decode jdk_65_method_132_code 7 = .ok (.if_icmp .eq 10, 3) := by decide +kernel
theorem d16_10 : decode jdk_65_method_132_code 10 = .ok (.aload_n 0, 1) := by decide +kernel
theorem d16_11 : decode jdk_65_method_132_code 11 = .ok (.iload_n 1, 1) := by decide +kernel
theorem d16_12 : decode jdk_65_method_132_code 12 = .ok (.iload_n 2, 1) := by decide +kernel
theorem d16_13 : decode jdk_65_method_132_code 13 = .ok (.invokestatic 339, 3) := by decide +kernel
theorem d16_16 : decode jdk_65_method_132_code 16 = .ok (.areturn, 1) := by decide +kernel
theorem efCR (m : MethodId) (bf : Addr) (fo : Int32) : entryFrame m #[(.ref bf), (.int fo), (.int (fo + ln))] 3 = mkF m 0 #[.val (.ref bf), .val (.int fo), .val (.int (fo + ln))] [] := by first | (simp [entryFrame, mkF, argsToLocals, Value.category]; done) | rfl
def QCR (Z : State) (bf : Addr) (fo : Int32) (ln : Int32) (k_bf : ClassId) (h0 : Heap) (n0 : Nat) (v : Option Value) (h : Heap) (L : List Loc) : Prop := ∃ rt : Addr, ∃ k_rt : ClassId, ∃ lw : List Value, v = some (.ref rt) ∧ Fr n0 L ∧ Keep h0 h [] ∧ n0 ≤ rt ∧ h0.size ≤ rt ∧ Exa Z h rt "[B" ∧ Arv Z h rt k_rt .byte ln lw (.int (0 : Int32))
set_option maxRecDepth 65536 in
set_option maxHeartbeats 40000000 in
theorem rmCR (l : Launch) (Z : State) (a0 : Array Value) (hw : ∀ d ∈ tables_1, d.before a0 Z = true) (ws : List Jvm.Cond) (bf : Addr) (fo : Int32) (ln : Int32) (k_bf : ClassId) (h0 : Heap) (n0 : Nat) (Z0 : n0 ≤ h0.size) (V_bf : Arv Z h0 bf k_bf .byte (10 : Int32) [(.int (0 : Int32)), (.int (0 : Int32)), (.int (0 : Int32)), (.int (0 : Int32)), (.int (0 : Int32)), (.int (0 : Int32)), (.int (0 : Int32)), (.int (0 : Int32)), (.int (0 : Int32)), (.int (0 : Int32))] (.int (0 : Int32))) (hfo : 0 ≤ fo.toInt ∧ fo.toInt ≤ 3) (hln : 0 ≤ ln.toInt ∧ ln.toInt ≤ 7) :
  MetFree l (⟨"java/util/Arrays", "copyOfRange", "([BII)[B"⟩ : MethodName) (head1 (Jvm.Cond.code (⟨"java/util/Arrays", "copyOfRange", "([BII)[B"⟩ : MethodName) jdk_65_method_132_code 3 (some (.array .byte)) :: ws) ({ frames := 2, cells := 1, slots := 7, locals := 90 } : Room)) (fun av_ U => av_ = #[(.ref bf), (.int fo), (.int (fo + ln))] ∧ Z.Warmed39 U.vm ∧ U.heap = h0) (fun _ _ _ _ _ => True) (fun _ U o U' => ∃ v L, o = .returned v ∧ QCR Z bf fo ln k_bf h0 n0 v U'.heap L ∧ FrameEnd U o U' L ({ frames := 2, cells := 1, slots := 7, locals := 90 } : Room).cells ({ frames := 2, cells := 1, slots := 7, locals := 90 } : Room).slots) := by
 refine MetFree.of_bodySF (plainFor_of_name own_pn2) hisR ?_
 intro p e s m args below meth c s₁ Bd hml0 hP hK
 obtain ⟨rfl, hZ, hh⟩ := hP
 have hx := Bd.exec
 have hby := Bd.bytes
 have hml : c.maxLocals = 3 := hml0
 have hown : s.vm.findClass "java/util/Arrays" = some m.cls := findClass_of_methodNamed Bd.named
 have hnm := (name_of_methodNamed Bd.named Bd.method).1
 have X0 : Stand p l e ({ frames := 2, cells := 1, slots := 7, locals := 90 } : Room) s m #[(.ref bf), (.int fo), (.int (fo + ln))] below meth c s₁ [] 0 0 := Stand.of_body Bd
 have e0 : s₁.heap = h0 := by rw [← hh, Bd.state]; rfl
 have N0 := Fr.nil n0
 have hlk : meth.locks = false := Bd.notSynchronized
 have pre0 : ∀ t, Steps p.tables e below (s₁.setTop (mkF m 0 #[.val (.ref bf), .val (.int fo), .val (.int (fo + ln))] [])) t → Steps p.tables e below (s₁.setTop (entryFrame m #[(.ref bf), (.int fo), (.int (fo + ln))] 3)) t := fun t k => castTop (efCR m bf fo) k
 have r1 : ∀ t, Steps p.tables e below (s₁.setTop (mkF m 1 #[.val (.ref bf), .val (.int fo), .val (.int (fo + ln))] [(.int fo)])) t → Steps p.tables e below (s₁.setTop (mkF m 0 #[.val (.ref bf), .val (.int fo), .val (.int (fo + ln))] [])) t := fun t kt => by
  refine XS.iloadN X0.here hx rfl (hb hby d16_0) rfl ?_
  exact kt
 by_cases hc2 : fo = (0 : Int32)
 ·obtain ⟨cl3, Ar3, q3, S3, M3, Hs3, G3⟩ := (id V_bf)
  obtain ⟨_, _, ⟨T4, L4, k4, n4⟩, -, X4, ⟨Lc4, hQ4, l4, y4, z4⟩, st4⟩ := Jvm.LawKit.callS X0 hx (y := (⟨"java/util/Arrays", "copyOfRangeByte", "([BII)[B"⟩ : MethodName)) hown (mvT hZ (Wd hw 113 rfl)) (mvT hZ (Wd hw 114 rfl)) (mvT hZ (Wd hw 73 rfl)) (mvT hZ (Wd hw 115 rfl)) (by decide) (backOf (W := 0) (rmCB l Z a0 hw [] bf fo ln k_bf h0 n0 Z0 V_bf hfo hln) hZ (Wd hw 115 rfl) (Wd hw 73 rfl) (by decide) (by decide)) (g := (mkF m 13 #[.val (.ref bf), .val (.int fo), .val (.int (fo + ln))] [(.int (fo + ln)), (.int fo), (.ref bf)])) rfl (by rw [hml]; rfl) (argsL := [(.ref bf), (.int fo), (.int (fo + ln))]) (rest := []) (lenOf own_pd6 rfl) rfl (by show 2 * 0 + _ ≤ _; exact Nat.le_of_eq rfl) (hb hby d16_13) (fun _ _ => ⟨rfl, e0, (by decide : 0 + 1 ≤ _), (by decide : 0 + 7 ≤ _)⟩)
  dsimp only [Pt.U, Pt.locs, Pt.cells, Pt.slots] at X4 l4 y4 z4 st4 hQ4
  subst l4 y4 z4
  obtain ⟨rt_4, k_rt_4, lw_4, rfl, Nq4, Kc4, g_rt_4, zq_rt_4, q4_0, q4_1⟩ := hQ4
  have sz_rt_4 : h0.size ≤ rt_4 := Nat.le_trans (Keep.refl h0 []).1 zq_rt_4
  have K4 : Keep h0 T4.heap [] := Keep.trans (Keep.refl h0 []) Kc4 all0
  have Zs4 : n0 ≤ T4.heap.size := Nat.le_trans Z0 Kc4.1
  have N4 := Fr.app N0 Nq4
  obtain ⟨fs, hr, hrun, hended, hW, hsame⟩ := X4.leave (v := some (.ref rt_4)) (fun h => by rw [Bd.returns] at h; cases h) hlk
  refine ⟨_, _, (pre0 _ (r1 _ ?_)), hrun, hended, _, _, rfl, ?_, ⟨_, rfl⟩, hW, hsame.mono (by decide) (by decide)⟩
  ·show Steps p.tables e below (s₁.setTop (mkF m 1 #[.val (.ref bf), .val (.int fo), .val (.int (fo + ln))] [(.int fo)])) _
   refine XS.ifNo X0.here hx rfl (hb hby d16_1) rfl ((if0 _ _).trans (teq hc2).2) ?_
   refine XS.iloadN X0.here hx rfl (hb hby d16_4) rfl ?_
   refine XS.aloadN X0.here hx rfl (hb hby d16_5) rfl rfl ?_
   refine X0.arraylength hx (by rw [e0]; exact Ar3.1) (State.isArrayOf_alike hZ.alike Ar3.2.1) (g := (mkF m 6 #[.val (.ref bf), .val (.int fo), .val (.int (fo + ln))] [(.ref bf), (.int (fo + ln))])) rfl rfl (hb hby d16_6) _ ?_
   rw [len_of S3 M3]
   refine XS.icmpNo X0.here hx rfl (hb hby d16_7) rfl (feq (own_not10 hfo hln hc2)).1 ?_
   refine XS.aloadN X0.here hx rfl (hb hby d16_10) rfl rfl ?_
   refine XS.iloadN X0.here hx rfl (hb hby d16_11) rfl ?_
   refine XS.iloadN X0.here hx rfl (hb hby d16_12) rfl ?_
   refine st4 _ ?_
   jvm_step X4.here [X4.here.top, hx, (hb hby d16_16), X4.method', Bd.returns, Value.isRef, FieldType.isReference]
   first | (intro acts; rw [hr _ acts rfl rfl rfl]) | rw [hr _ _ rfl rfl rfl]
   exact Steps.refl _
  ·show QCR Z bf fo ln k_bf h0 n0 _ T4.heap _
   exact ⟨rt_4, k_rt_4, lw_4, rfl, N4, K4, g_rt_4, sz_rt_4, q4_0, q4_1⟩
 ·obtain ⟨_, _, ⟨T5, L5, k5, n5⟩, -, X5, ⟨Lc5, hQ5, l5, y5, z5⟩, st5⟩ := Jvm.LawKit.callS X0 hx (y := (⟨"java/util/Arrays", "copyOfRangeByte", "([BII)[B"⟩ : MethodName)) hown (mvT hZ (Wd hw 113 rfl)) (mvT hZ (Wd hw 114 rfl)) (mvT hZ (Wd hw 73 rfl)) (mvT hZ (Wd hw 115 rfl)) (by decide) (backOf (W := 0) (rmCB l Z a0 hw [] bf fo ln k_bf h0 n0 Z0 V_bf hfo hln) hZ (Wd hw 115 rfl) (Wd hw 73 rfl) (by decide) (by decide)) (g := (mkF m 13 #[.val (.ref bf), .val (.int fo), .val (.int (fo + ln))] [(.int (fo + ln)), (.int fo), (.ref bf)])) rfl (by rw [hml]; rfl) (argsL := [(.ref bf), (.int fo), (.int (fo + ln))]) (rest := []) (lenOf own_pd6 rfl) rfl (by show 2 * 0 + _ ≤ _; exact Nat.le_of_eq rfl) (hb hby d16_13) (fun _ _ => ⟨rfl, e0, (by decide : 0 + 1 ≤ _), (by decide : 0 + 7 ≤ _)⟩)
  dsimp only [Pt.U, Pt.locs, Pt.cells, Pt.slots] at X5 l5 y5 z5 st5 hQ5
  subst l5 y5 z5
  obtain ⟨rt_5, k_rt_5, lw_5, rfl, Nq5, Kc5, g_rt_5, zq_rt_5, q5_0, q5_1⟩ := hQ5
  have sz_rt_5 : h0.size ≤ rt_5 := Nat.le_trans (Keep.refl h0 []).1 zq_rt_5
  have K5 : Keep h0 T5.heap [] := Keep.trans (Keep.refl h0 []) Kc5 all0
  have Zs5 : n0 ≤ T5.heap.size := Nat.le_trans Z0 Kc5.1
  have N5 := Fr.app N0 Nq5
  obtain ⟨fs, hr, hrun, hended, hW, hsame⟩ := X5.leave (v := some (.ref rt_5)) (fun h => by rw [Bd.returns] at h; cases h) hlk
  refine ⟨_, _, (pre0 _ (r1 _ ?_)), hrun, hended, _, _, rfl, ?_, ⟨_, rfl⟩, hW, hsame.mono (by decide) (by decide)⟩
  ·show Steps p.tables e below (s₁.setTop (mkF m 1 #[.val (.ref bf), .val (.int fo), .val (.int (fo + ln))] [(.int fo)])) _
   refine XS.ifYes X0.here hx rfl (pc0 := 1) (pc' := 10) rfl (hb hby d16_1) rfl ((if0 _ _).trans (feq hc2).2) (by decide) (by decide) ?_
   refine XS.aloadN X0.here hx rfl (hb hby d16_10) rfl rfl ?_
   refine XS.iloadN X0.here hx rfl (hb hby d16_11) rfl ?_
   refine XS.iloadN X0.here hx rfl (hb hby d16_12) rfl ?_
   refine st5 _ ?_
   jvm_step X5.here [X5.here.top, hx, (hb hby d16_16), X5.method', Bd.returns, Value.isRef, FieldType.isReference]
   first | (intro acts; rw [hr _ acts rfl rfl rfl]) | rw [hr _ _ rfl rfl rfl]
   exact Steps.refl _
  ·show QCR Z bf fo ln k_bf h0 n0 _ T5.heap _
   exact ⟨rt_5, k_rt_5, lw_5, rfl, N5, K5, g_rt_5, sz_rt_5, q5_0, q5_1⟩
theorem own_pn3 : plainName cRE = true := by first | (simp [plainName, overriddenIn]; done) | decide +kernel
theorem d11_0 : decode prog_7_method_11_code 0 = .ok (.aload_n 0, 1) := by decide +kernel
theorem d11_1 : decode prog_7_method_11_code 1 = .ok (.getfield 26, 3) := by decide +kernel
theorem d11_4 : decode prog_7_method_11_code 4 = .ok (.lload_n 1, 1) := by decide +kernel
theorem d11_5 : decode prog_7_method_11_code 5 = .ok (.invokevirtual 161, 3) := by decide +kernel
theorem d11_8 : decode prog_7_method_11_code 8 = .ok (.istore 6, 2) := by decide +kernel
theorem d11_10 : decode prog_7_method_11_code 10 = .ok (.iload 6, 2) := by decide +kernel
theorem d11_12 : decode prog_7_method_11_code 12 = .ok (.iconst (-1), 1) := by decide +kernel
theorem d11_13 : decode prog_7_method_11_code 13 = .ok (.if_icmp .eq 17, 3) := by decide +kernel
theorem d11_16 : decode prog_7_method_11_code 16 = .ok (.aload_n 0, 1) := by decide +kernel
theorem d11_17 : decode prog_7_method_11_code 17 = .ok (.getfield 36, 3) := by decide +kernel
theorem d11_20 : decode prog_7_method_11_code 20 = .ok (.iload 6, 2) := by decide +kernel
theorem d11_22 : decode prog_7_method_11_code 22 = .ok (.dup2, 1) := by decide +kernel
theorem d11_23 : decode prog_7_method_11_code 23 = .ok (.laload, 1) := by decide +kernel
theorem d11_24 : decode prog_7_method_11_code 24 = .ok (.lconst 1, 1) := by decide +kernel
theorem d11_25 : decode prog_7_method_11_code 25 = .ok (.ladd, 1) := by decide +kernel
theorem d11_26 : decode prog_7_method_11_code 26 = .ok (.lastore, 1) := by decide +kernel
theorem d11_27 : decode prog_7_method_11_code 27 = .ok (.goto 64, 3) := by decide +kernel
theorem d11_91 : decode prog_7_method_11_code 91 = .ok (.return_, 1) := by decide +kernel
theorem efOF (m : MethodId) (x : Addr) (hs : Int64) (bf : Addr) (fo : Int32) (ln : Int32) : entryFrame m #[(.ref x), (.long hs), (.ref bf), (.int fo), (.int ln)] 9 = mkF m 0 #[.val (.ref x), .val (.long hs), .second, .val (.ref bf), .val (.int fo), .val (.int ln), .unset, .unset, .unset] [] := by first | (simp [entryFrame, mkF, argsToLocals, Value.category]; done) | rfl
def QOF (Z : State) (x : Addr) (hs : Int64) (bf : Addr) (fo : Int32) (ln : Int32) (lh : Addr) (ct : Addr) (hp : Addr) (sz : Int32) (sl : Addr) (ix : Addr) (mk : Int32) (xa : Int64) (xb : Int64) (xc : Int64) (kl : Int32) (k_hp : ClassId) (nl : Int32) (k_sl : ClassId) (sv : List Int64) (k_ix : ClassId) (iv : List Int32) (ca : Int64) (cb : Int64) (cc : Int64) (k_ct : ClassId) (rr : Int32) (h0 : Heap) (n0 : Nat) (v : Option Value) (h : Heap) (L : List Loc) : Prop := ∃ da : Int64, ∃ db : Int64, ∃ dc : Int64, v = none ∧ Fr n0 L ∧ Keep h0 h [ct] ∧ Arv Z h ct k_ct .long kl [(.long da), (.long db), (.long dc)] (.long (0 : Int64))
set_option maxRecDepth 65536 in
set_option maxHeartbeats 40000000 in
theorem rmOF (l : Launch) (Z : State) (a0 : Array Value) (hw : ∀ d ∈ tables_1, d.before a0 Z = true) (ws : List Jvm.Cond) (x : Addr) (hs : Int64) (bf : Addr) (fo : Int32) (ln : Int32) (lh : Addr) (ct : Addr) (hp : Addr) (sz : Int32) (sl : Addr) (ix : Addr) (mk : Int32) (xa : Int64) (xb : Int64) (xc : Int64) (kl : Int32) (k_hp : ClassId) (nl : Int32) (k_sl : ClassId) (sv : List Int64) (k_ix : ClassId) (iv : List Int32) (ca : Int64) (cb : Int64) (cc : Int64) (k_ct : ClassId) (rr : Int32) (h0 : Heap) (n0 : Nat) (Z0 : n0 ≤ h0.size) (E_x : Exa Z h0 x cRE) (F_kept_x : Fld Z h0 x cRE "kept" "Lcom/example/tallysketch/tallysketch/LargestHashes;" (.ref lh)) (F_counts_x : Fld Z h0 x cRE "counts" "[J" (.ref ct)) (E_lh : Exa Z h0 lh cLH) (F_heap_lh : Fld Z h0 lh cLH "heap" "[J" (.ref hp)) (F_size_lh : Fld Z h0 lh cLH "size" "I" (.int sz)) (F_slots_lh : Fld Z h0 lh cLH "slots" "[J" (.ref sl)) (F_indices_lh : Fld Z h0 lh cLH "indices" "[I" (.ref ix)) (F_mask_lh : Fld Z h0 lh cLH "mask" "I" (.int mk)) (V_hp : Arv Z h0 hp k_hp .long kl [(.long xa), (.long xb), (.long xc)] (.long (0 : Int64))) (V_sl : Arv Z h0 sl k_sl .long nl (sv.map Value.long) (.long (0 : Int64))) (V_ix : Arv Z h0 ix k_ix .int nl (iv.map Value.int) (.int (0 : Int32))) (V_ct : Arv Z h0 ct k_ct .long kl [(.long ca), (.long cb), (.long cc)] (.long (0 : Int64))) (K : own_kmn kl mk nl) (hr : own_run sv iv mk hs 8 (hs.toInt32 &&& mk) = some rr) (ne_hp_ct : hp ≠ ct) (ne_sl_ct : sl ≠ ct) (hge : ¬ (sz = kl ∧ own_lt hs xa)) (hix : (own_get iv rr = (0 : Int32) ∧ (0 : Int32) < kl) ∨ (own_get iv rr = (1 : Int32) ∧ (1 : Int32) < kl)) (g_ct : n0 ≤ ct) :
  MetFree l (⟨cRE, "offerItem", "(J[BII)V"⟩ : MethodName) (head1 (Jvm.Cond.code (⟨cRE, "offerItem", "(J[BII)V"⟩ : MethodName) prog_7_method_11_code 9 none :: ws) ({ frames := 4, cells := 1, slots := 7, locals := 140 } : Room)) (fun av_ U => av_ = #[(.ref x), (.long hs), (.ref bf), (.int fo), (.int ln)] ∧ Z.Warmed39 U.vm ∧ U.heap = h0) (fun _ _ _ _ _ => True) (fun _ U o U' => ∃ v L, o = .returned v ∧ QOF Z x hs bf fo ln lh ct hp sz sl ix mk xa xb xc kl k_hp nl k_sl sv k_ix iv ca cb cc k_ct rr h0 n0 v U'.heap L ∧ FrameEnd U o U' L ({ frames := 4, cells := 1, slots := 7, locals := 140 } : Room).cells ({ frames := 4, cells := 1, slots := 7, locals := 140 } : Room).slots) := by
 refine MetFree.of_bodySF (plainFor_of_name own_pn3) hisR ?_
 intro p e s m args below meth c s₁ Bd hml0 hP hK
 obtain ⟨rfl, hZ, hh⟩ := hP
 have hx := Bd.exec
 have hby := Bd.bytes
 have hml : c.maxLocals = 9 := hml0
 have hown : s.vm.findClass cRE = some m.cls := findClass_of_methodNamed Bd.named
 have hnm := (name_of_methodNamed Bd.named Bd.method).1
 have X0 : Stand p l e ({ frames := 4, cells := 1, slots := 7, locals := 140 } : Room) s m #[(.ref x), (.long hs), (.ref bf), (.int fo), (.int ln)] below meth c s₁ [] 0 0 := Stand.of_body Bd
 have e0 : s₁.heap = h0 := by rw [← hh, Bd.state]; rfl
 have N0 := Fr.nil n0
 have hlk : meth.locks = false := Bd.notSynchronized
 have pre0 : ∀ t, Steps p.tables e below (s₁.setTop (mkF m 0 #[.val (.ref x), .val (.long hs), .second, .val (.ref bf), .val (.int fo), .val (.int ln), .unset, .unset, .unset] [])) t → Steps p.tables e below (s₁.setTop (entryFrame m #[(.ref x), (.long hs), (.ref bf), (.int fo), (.int ln)] 9)) t := fun t k => castTop (efOF m x hs bf fo ln) k
 obtain ⟨T1, X1, e1, st1⟩ := getF X0 hx hZ hown (host := "") (Or.inl (Wd hw 77 rfl)) Via.refl e0 F_kept_x (g := (mkF m 1 #[.val (.ref x), .val (.long hs), .second, .val (.ref bf), .val (.int fo), .val (.int ln), .unset, .unset, .unset] [(.ref x)])) rfl rfl (hb hby d11_1)
 obtain ⟨cq2, kq2, q2a, q2b, q2c⟩ := isOf hZ e1 E_lh
 obtain ⟨_, _, ⟨T2, L2, k2, n2⟩, -, X2, ⟨Lc2, hQ2, l2, y2, z2⟩, st2⟩ := X1.virtualBack hx (y := (⟨cLH, "indexOf", "(J)I"⟩ : MethodName)) (z := (⟨cLH, "indexOf", "(J)I"⟩ : MethodName)) hown (mvT hZ (Wd hw 90 rfl)) (mvT hZ (Wd hw 91 rfl)) (notFace_of_selects (args := #[]) (mvT hZ (Wd hw 93 rfl))) (mvT hZ (Wd hw 93 rfl)) (mvT hZ (Wd hw 92 rfl)) (by decide) (backOf (W := 0) (rmIO l Z a0 hw [] lh hs hp sz sl ix mk xa xb xc kl k_hp nl k_sl sv k_ix iv rr h0 n0 Z0 E_lh F_heap_lh F_size_lh F_slots_lh F_indices_lh F_mask_lh V_hp V_sl V_ix K hr) hZ (Wd hw 94 rfl) (Wd hw 50 rfl) (by decide) (by decide)) q2a q2c (g := (mkF m 5 #[.val (.ref x), .val (.long hs), .second, .val (.ref bf), .val (.int fo), .val (.int ln), .unset, .unset, .unset] [(.long hs), (.ref lh)])) rfl (by rw [hml]; rfl) (Steps.refl _) (argsL := [(.long hs)]) (rest := []) (lenOf own_pd2 rfl) rfl (by show 2 * 0 + _ ≤ _; exact Nat.le_of_eq rfl) (hb hby d11_5) (fun _ _ => ⟨rfl, e1, (by decide : 0 + 0 ≤ _), (by decide : 0 + 0 ≤ _)⟩)
 dsimp only [Pt.U, Pt.locs, Pt.cells, Pt.slots] at X2 l2 y2 z2 st2 hQ2
 subst l2 y2 z2
 obtain ⟨rfl, Nq2, e2⟩ := hQ2
 have N2 := Fr.app N0 Nq2
 have r3 : ∀ t, Steps p.tables e below (T2.setTop (mkF m 10 #[.val (.ref x), .val (.long hs), .second, .val (.ref bf), .val (.int fo), .val (.int ln), .val (.int (own_ix sz kl hs xa iv rr)), .unset, .unset] [])) t → Steps p.tables e below (s₁.setTop (mkF m 0 #[.val (.ref x), .val (.long hs), .second, .val (.ref bf), .val (.int fo), .val (.int ln), .unset, .unset, .unset] [])) t := fun t kt => by
  refine XS.aloadN X0.here hx rfl (hb hby d11_0) rfl rfl ?_
  refine st1 _ ?_
  refine XS.lloadN X1.here hx rfl (hb hby d11_4) rfl ?_
  refine st2.trans ?_
  refine XS.istore X2.here hx rfl (hb hby d11_8) rfl (l' := #[.val (.ref x), .val (.long hs), .second, .val (.ref bf), .val (.int fo), .val (.int ln), .val (.int (own_ix sz kl hs xa iv rr)), .unset, .unset]) rfl ?_
  exact kt
 have hxi : own_ix sz kl hs xa iv rr = own_get iv rr := if_neg hge
 rcases hix with ⟨hi, hlt⟩ | ⟨hi, hlt⟩
 ·have r4 : ∀ t, Steps p.tables e below (T2.setTop (mkF m 10 #[.val (.ref x), .val (.long hs), .second, .val (.ref bf), .val (.int fo), .val (.int ln), .val (.int (0 : Int32)), .unset, .unset] [])) t → Steps p.tables e below (T2.setTop (mkF m 10 #[.val (.ref x), .val (.long hs), .second, .val (.ref bf), .val (.int fo), .val (.int ln), .val (.int (own_ix sz kl hs xa iv rr)), .unset, .unset] [])) t := fun t kt => by
   have q : (own_ix sz kl hs xa iv rr) = (0 : Int32) := (hxi.trans hi)
   rw [q]
   exact kt
  obtain ⟨T5, X5, e5, st5⟩ := getF X2 hx hZ hown (host := "") (Or.inl (Wd hw 83 rfl)) Via.refl e2 F_counts_x (g := (mkF m 17 #[.val (.ref x), .val (.long hs), .second, .val (.ref bf), .val (.int fo), .val (.int ln), .val (.int (0 : Int32)), .unset, .unset] [(.ref x)])) rfl rfl (hb hby d11_17)
  obtain ⟨cl6, Ar6, q6, S6, M6, Hs6, G6⟩ := (id V_ct)
  have hin6 : ¬ ((0 : Int32) < 0 ∨ cl6.slots.size ≤ ((0 : Int32)).toNatClampNeg) := inb_of S6 ⟨by decide, hlt⟩
  have hat6 : cl6.slots[((0 : Int32)).toNatClampNeg]? = some (.long ca) := Hs6.at hin6 rfl
  obtain ⟨cl7, Ar7, q7, S7, M7, Hs7, G7⟩ := (id V_ct)
  have hin7 : ¬ ((0 : Int32) < 0 ∨ cl7.slots.size ≤ ((0 : Int32)).toNatClampNeg) := inb_of S7 ⟨by decide, hlt⟩
  obtain ⟨T8, h8, X8, e8, W8, st8⟩ := stJ X5 hx hZ e5 Ar7 (j := (0 : Int32)) hin7 (g := (mkF m 26 #[.val (.ref x), .val (.long hs), .second, .val (.ref bf), .val (.int fo), .val (.int ln), .val (.int (0 : Int32)), .unset, .unset] [(.long (ca + (1 : Int64))), (.int (0 : Int32)), (.ref ct)])) rfl rfl (hb hby d11_26)
  have V8 : Arv Z h8 ct k_ct .long kl [(.long (ca + (1 : Int64))), (.long cb), (.long cc)] (.long (0 : Int64)) := Arv.set Ar7 q7 S7 M7 Hs7 G7 rfl W8 0 rfl (Nat.le_of_ble_eq_true rfl)
  have K8 : Keep h0 h8 [ct] := (Keep.refl h0 [ct]).wr W8 (Or.inl (List.mem_of_getElem? (i := 0) rfl))
  have Zs8 : n0 ≤ h8.size := Nat.le_trans Z0 (Keep.of_wr W8).1
  have N8 := Fr.snoc X8 N2 g_ct
  obtain ⟨fs, hr, hrun, hended, hW, hsame⟩ := X8.leave (v := none) (fun _ => rfl) hlk
  refine ⟨_, _, (pre0 _ (r3 _ (r4 _ ?_))), hrun, hended, _, _, rfl, ?_, ⟨_, rfl⟩, hW, hsame.mono (by decide) (by decide)⟩
  ·show Steps p.tables e below (T2.setTop (mkF m 10 #[.val (.ref x), .val (.long hs), .second, .val (.ref bf), .val (.int fo), .val (.int ln), .val (.int (0 : Int32)), .unset, .unset] [])) _
   refine XS.iload X2.here hx rfl (hb hby d11_10) rfl ?_
   refine XS.iconst X2.here hx rfl (hb hby d11_12) ?_
   refine XS.icmpNo X2.here hx rfl (hb hby d11_13) rfl (feq (by decide : ¬ ((0 : Int32) = (-1 : Int32)))).1 ?_
   refine XS.aloadN X2.here hx rfl (hb hby d11_16) rfl rfl ?_
   refine st5 _ ?_
   refine XS.iload X5.here hx rfl (hb hby d11_20) rfl ?_
   jvm_step X5.here [X5.here.top, hx, (hb hby d11_22), Value.category]
   refine X5.laload hx (j := (0 : Int32)) (v := (.long ca)) (by rw [e5]; exact Ar6.1) (State.isArrayOf_alike hZ.alike Ar6.2.1) Ar6.2.2 hin6 hat6 (g := (mkF m 23 #[.val (.ref x), .val (.long hs), .second, .val (.ref bf), .val (.int fo), .val (.int ln), .val (.int (0 : Int32)), .unset, .unset] [(.int (0 : Int32)), (.ref ct), (.int (0 : Int32)), (.ref ct)])) rfl rfl (hb hby d11_23) _ ?_
   refine XS.lconst X5.here hx rfl (hb hby d11_24) ?_
   refine XS.ladd X5.here hx rfl (hb hby d11_25) rfl ?_
   refine st8 _ ?_
   refine XS.goto X8.here hx rfl (pc0 := 27) (pc' := 91) rfl (hb hby d11_27) (by decide) (by decide) ?_
   exact X8.returnOut hx Bd.returns (hb hby d11_91) hr
  ·show QOF Z x hs bf fo ln lh ct hp sz sl ix mk xa xb xc kl k_hp nl k_sl sv k_ix iv ca cb cc k_ct rr h0 n0 _ T8.heap _
   rw [e8]
   exact ⟨(ca + (1 : Int64)), cb, cc, rfl, N8, K8, V8⟩
 ·have r9 : ∀ t, Steps p.tables e below (T2.setTop (mkF m 10 #[.val (.ref x), .val (.long hs), .second, .val (.ref bf), .val (.int fo), .val (.int ln), .val (.int (1 : Int32)), .unset, .unset] [])) t → Steps p.tables e below (T2.setTop (mkF m 10 #[.val (.ref x), .val (.long hs), .second, .val (.ref bf), .val (.int fo), .val (.int ln), .val (.int (own_ix sz kl hs xa iv rr)), .unset, .unset] [])) t := fun t kt => by
   have q : (own_ix sz kl hs xa iv rr) = (1 : Int32) := (hxi.trans hi)
   rw [q]
   exact kt
  obtain ⟨T10, X10, e10, st10⟩ := getF X2 hx hZ hown (host := "") (Or.inl (Wd hw 83 rfl)) Via.refl e2 F_counts_x (g := (mkF m 17 #[.val (.ref x), .val (.long hs), .second, .val (.ref bf), .val (.int fo), .val (.int ln), .val (.int (1 : Int32)), .unset, .unset] [(.ref x)])) rfl rfl (hb hby d11_17)
  obtain ⟨cl11, Ar11, q11, S11, M11, Hs11, G11⟩ := (id V_ct)
  have hin11 : ¬ ((1 : Int32) < 0 ∨ cl11.slots.size ≤ ((1 : Int32)).toNatClampNeg) := inb_of S11 ⟨by decide, hlt⟩
  have hat11 : cl11.slots[((1 : Int32)).toNatClampNeg]? = some (.long cb) := Hs11.at hin11 rfl
  obtain ⟨cl12, Ar12, q12, S12, M12, Hs12, G12⟩ := (id V_ct)
  have hin12 : ¬ ((1 : Int32) < 0 ∨ cl12.slots.size ≤ ((1 : Int32)).toNatClampNeg) := inb_of S12 ⟨by decide, hlt⟩
  obtain ⟨T13, h13, X13, e13, W13, st13⟩ := stJ X10 hx hZ e10 Ar12 (j := (1 : Int32)) hin12 (g := (mkF m 26 #[.val (.ref x), .val (.long hs), .second, .val (.ref bf), .val (.int fo), .val (.int ln), .val (.int (1 : Int32)), .unset, .unset] [(.long (cb + (1 : Int64))), (.int (1 : Int32)), (.ref ct)])) rfl rfl (hb hby d11_26)
  have V13 : Arv Z h13 ct k_ct .long kl [(.long ca), (.long (cb + (1 : Int64))), (.long cc)] (.long (0 : Int64)) := Arv.set Ar12 q12 S12 M12 Hs12 G12 rfl W13 1 rfl (Nat.le_of_ble_eq_true rfl)
  have K13 : Keep h0 h13 [ct] := (Keep.refl h0 [ct]).wr W13 (Or.inl (List.mem_of_getElem? (i := 0) rfl))
  have Zs13 : n0 ≤ h13.size := Nat.le_trans Z0 (Keep.of_wr W13).1
  have N13 := Fr.snoc X13 N2 g_ct
  obtain ⟨fs, hr, hrun, hended, hW, hsame⟩ := X13.leave (v := none) (fun _ => rfl) hlk
  refine ⟨_, _, (pre0 _ (r3 _ (r9 _ ?_))), hrun, hended, _, _, rfl, ?_, ⟨_, rfl⟩, hW, hsame.mono (by decide) (by decide)⟩
  ·show Steps p.tables e below (T2.setTop (mkF m 10 #[.val (.ref x), .val (.long hs), .second, .val (.ref bf), .val (.int fo), .val (.int ln), .val (.int (1 : Int32)), .unset, .unset] [])) _
   refine XS.iload X2.here hx rfl (hb hby d11_10) rfl ?_
   refine XS.iconst X2.here hx rfl (hb hby d11_12) ?_
   refine XS.icmpNo X2.here hx rfl (hb hby d11_13) rfl (feq (by decide : ¬ ((1 : Int32) = (-1 : Int32)))).1 ?_
   refine XS.aloadN X2.here hx rfl (hb hby d11_16) rfl rfl ?_
   refine st10 _ ?_
   refine XS.iload X10.here hx rfl (hb hby d11_20) rfl ?_
   jvm_step X10.here [X10.here.top, hx, (hb hby d11_22), Value.category]
   refine X10.laload hx (j := (1 : Int32)) (v := (.long cb)) (by rw [e10]; exact Ar11.1) (State.isArrayOf_alike hZ.alike Ar11.2.1) Ar11.2.2 hin11 hat11 (g := (mkF m 23 #[.val (.ref x), .val (.long hs), .second, .val (.ref bf), .val (.int fo), .val (.int ln), .val (.int (1 : Int32)), .unset, .unset] [(.int (1 : Int32)), (.ref ct), (.int (1 : Int32)), (.ref ct)])) rfl rfl (hb hby d11_23) _ ?_
   refine XS.lconst X10.here hx rfl (hb hby d11_24) ?_
   refine XS.ladd X10.here hx rfl (hb hby d11_25) rfl ?_
   refine st13 _ ?_
   refine XS.goto X13.here hx rfl (pc0 := 27) (pc' := 91) rfl (hb hby d11_27) (by decide) (by decide) ?_
   exact X13.returnOut hx Bd.returns (hb hby d11_91) hr
  ·show QOF Z x hs bf fo ln lh ct hp sz sl ix mk xa xb xc kl k_hp nl k_sl sv k_ix iv ca cb cc k_ct rr h0 n0 _ T13.heap _
   rw [e13]
   exact ⟨ca, (cb + (1 : Int64)), cc, rfl, N13, K13, V13⟩
theorem own_pd7 : parseMethodDescriptor "(J)Z" = some ⟨[.long], some .boolean⟩ := by decide +kernel
theorem d11_30 : decode prog_7_method_11_code 30 = .ok (.aload_n 0, 1) := by decide +kernel
theorem d11_31 : decode prog_7_method_11_code 31 = .ok (.getfield 26, 3) := by decide +kernel
theorem d11_34 : decode prog_7_method_11_code 34 = .ok (.lload_n 1, 1) := by decide +kernel
theorem d11_35 : decode prog_7_method_11_code 35 = .ok (.invokevirtual 172, 3) := by decide +kernel
theorem d11_38 : decode prog_7_method_11_code 38 = .ok (.ifCond .eq 53, 3) := by decide +kernel
theorem d11_41 : decode prog_7_method_11_code 41 = .ok (.aload_n 3, 1) := by decide +kernel
theorem d11_42 : decode prog_7_method_11_code 42 = .ok (.iload 4, 2) := by decide +kernel
theorem d11_44 : decode prog_7_method_11_code 44 = .ok (.iload 4, 2) := by decide +kernel
theorem d11_46 : decode prog_7_method_11_code 46 = .ok (.iload 5, 2) := by decide +kernel
theorem d11_48 : decode prog_7_method_11_code 48 = .ok (.iadd, 1) := by decide +kernel
theorem d11_49 : decode prog_7_method_11_code 49 = .ok (.invokestatic 176, 3) := by decide +kernel
theorem d11_52 : decode prog_7_method_11_code 52 = .ok (.astore 7, 2) := by decide +kernel
theorem d11_54 : decode prog_7_method_11_code 54 = .ok (.aload_n 0, 1) := by decide +kernel
theorem d11_55 : decode prog_7_method_11_code 55 = .ok (.getfield 26, 3) := by decide +kernel
theorem d11_58 : decode prog_7_method_11_code 58 = .ok (.lload_n 1, 1) := by decide +kernel
theorem d11_59 : decode prog_7_method_11_code 59 = .ok (.invokevirtual 167, 3) := by decide +kernel
theorem d11_62 : decode prog_7_method_11_code 62 = .ok (.istore 8, 2) := by decide +kernel
theorem d11_64 : decode prog_7_method_11_code 64 = .ok (.aload_n 0, 1) := by decide +kernel
theorem d11_65 : decode prog_7_method_11_code 65 = .ok (.getfield 32, 3) := by decide +kernel
theorem d11_68 : decode prog_7_method_11_code 68 = .ok (.iload 8, 2) := by decide +kernel
theorem d11_70 : decode prog_7_method_11_code 70 = .ok (.aload 7, 2) := by decide +kernel
theorem d11_72 : decode prog_7_method_11_code 72 = .ok (.aastore, 1) := by decide +kernel
theorem d11_73 : decode prog_7_method_11_code 73 = .ok (.aload_n 0, 1) := by decide +kernel
theorem d11_74 : decode prog_7_method_11_code 74 = .ok (.getfield 36, 3) := by decide +kernel
theorem d11_77 : decode prog_7_method_11_code 77 = .ok (.iload 8, 2) := by decide +kernel
theorem d11_79 : decode prog_7_method_11_code 79 = .ok (.lconst 1, 1) := by decide +kernel
theorem d11_80 : decode prog_7_method_11_code 80 = .ok (.lastore, 1) := by decide +kernel
theorem d11_81 : decode prog_7_method_11_code 81 = .ok (.aload_n 0, 1) := by decide +kernel
theorem d11_82 : decode prog_7_method_11_code 82 = .ok (.dup, 1) := by decide +kernel
theorem d11_83 : decode prog_7_method_11_code 83 = .ok (.getfield 50, 3) := by decide +kernel
theorem d11_86 : decode prog_7_method_11_code 86 = .ok (.lconst 1, 1) := by decide +kernel
theorem d11_87 : decode prog_7_method_11_code 87 = .ok (.ladd, 1) := by decide +kernel
theorem d11_88 : decode prog_7_method_11_code 88 = .ok (.putfield 50, 3) := by decide +kernel
theorem efONa (m : MethodId) (x : Addr) (hs : Int64) (bf : Addr) (fo : Int32) (ln : Int32) : entryFrame m #[(.ref x), (.long hs), (.ref bf), (.int fo), (.int ln)] 9 = mkF m 0 #[.val (.ref x), .val (.long hs), .second, .val (.ref bf), .val (.int fo), .val (.int ln), .unset, .unset, .unset] [] := by first | (simp [entryFrame, mkF, argsToLocals, Value.category]; done) | rfl
def QONa (Z : State) (x : Addr) (hs : Int64) (bf : Addr) (fo : Int32) (ln : Int32) (lh : Addr) (it : Addr) (ct : Addr) (rd : Int64) (hp : Addr) (sl : Addr) (ix : Addr) (mk : Int32) (xa : Int64) (xb : Int64) (xc : Int64) (kl : Int32) (k_hp : ClassId) (nl : Int32) (k_sl : ClassId) (sv : List Int64) (k_ix : ClassId) (iv : List Int32) (ca : Int64) (cb : Int64) (cc : Int64) (k_ct : ClassId) (k_it : ClassId) (rr : Int32) (k_bf : ClassId) (h0 : Heap) (n0 : Nat) (v : Option Value) (h : Heap) (L : List Loc) : Prop := ∃ rt : Addr, ∃ k_rt : ClassId, ∃ lw : List Value, ∃ da : Int64, ∃ db : Int64, ∃ dc : Int64, v = none ∧ Fr n0 L ∧ Keep h0 h [x, lh, hp, sl, ix, it, ct] ∧ n0 ≤ rt ∧ h0.size ≤ rt ∧ Exa Z h x cRE ∧ Fld Z h x cRE "kept" "Lcom/example/tallysketch/tallysketch/LargestHashes;" (.ref lh) ∧ Fld Z h x cRE "items" "[[B" (.ref it) ∧ Fld Z h x cRE "counts" "[J" (.ref ct) ∧ Fld Z h x cRE "records" "J" (.long (rd + (1 : Int64))) ∧ Exa Z h lh cLH ∧ Fld Z h lh cLH "heap" "[J" (.ref hp) ∧ Fld Z h lh cLH "size" "I" (.int (1 : Int32)) ∧ Fld Z h lh cLH "slots" "[J" (.ref sl) ∧ Fld Z h lh cLH "indices" "[I" (.ref ix) ∧ Fld Z h lh cLH "mask" "I" (.int mk) ∧ Arv Z h hp k_hp .long kl [(.long hs), (.long xb), (.long xc)] (.long (0 : Int64)) ∧ Arv Z h sl k_sl .long nl ((sv.set rr.toNatClampNeg hs).map Value.long) (.long (0 : Int64)) ∧ Arv Z h ix k_ix .int nl ((iv.set rr.toNatClampNeg (0 : Int32)).map Value.int) (.int (0 : Int32)) ∧ Arv Z h it k_it (.array .byte) kl [(.ref rt), .null, .null] .null ∧ Arv Z h ct k_ct .long kl [(.long da), (.long db), (.long dc)] (.long (0 : Int64)) ∧ Arv Z h rt k_rt .byte ln lw (.int (0 : Int32))
set_option maxRecDepth 65536 in
set_option maxHeartbeats 40000000 in
theorem rmONa (l : Launch) (Z : State) (a0 : Array Value) (hw : ∀ d ∈ tables_1, d.before a0 Z = true) (ws : List Jvm.Cond) (x : Addr) (hs : Int64) (bf : Addr) (fo : Int32) (ln : Int32) (lh : Addr) (it : Addr) (ct : Addr) (rd : Int64) (hp : Addr) (sl : Addr) (ix : Addr) (mk : Int32) (xa : Int64) (xb : Int64) (xc : Int64) (kl : Int32) (k_hp : ClassId) (nl : Int32) (k_sl : ClassId) (sv : List Int64) (k_ix : ClassId) (iv : List Int32) (ca : Int64) (cb : Int64) (cc : Int64) (k_ct : ClassId) (k_it : ClassId) (rr : Int32) (k_bf : ClassId) (h0 : Heap) (n0 : Nat) (Z0 : n0 ≤ h0.size) (E_x : Exa Z h0 x cRE) (F_kept_x : Fld Z h0 x cRE "kept" "Lcom/example/tallysketch/tallysketch/LargestHashes;" (.ref lh)) (F_items_x : Fld Z h0 x cRE "items" "[[B" (.ref it)) (F_counts_x : Fld Z h0 x cRE "counts" "[J" (.ref ct)) (F_records_x : Fld Z h0 x cRE "records" "J" (.long rd)) (E_lh : Exa Z h0 lh cLH) (F_heap_lh : Fld Z h0 lh cLH "heap" "[J" (.ref hp)) (F_size_lh : Fld Z h0 lh cLH "size" "I" (.int (0 : Int32))) (F_slots_lh : Fld Z h0 lh cLH "slots" "[J" (.ref sl)) (F_indices_lh : Fld Z h0 lh cLH "indices" "[I" (.ref ix)) (F_mask_lh : Fld Z h0 lh cLH "mask" "I" (.int mk)) (V_hp : Arv Z h0 hp k_hp .long kl [(.long xa), (.long xb), (.long xc)] (.long (0 : Int64))) (V_sl : Arv Z h0 sl k_sl .long nl (sv.map Value.long) (.long (0 : Int64))) (V_ix : Arv Z h0 ix k_ix .int nl (iv.map Value.int) (.int (0 : Int32))) (V_ct : Arv Z h0 ct k_ct .long kl [(.long ca), (.long cb), (.long cc)] (.long (0 : Int64))) (V_it : Arv Z h0 it k_it (.array .byte) kl [.null, .null, .null] .null) (K : own_kmn kl mk nl) (ne_hp_sl : hp ≠ sl) (ne_hp_ct : hp ≠ ct) (ne_sl_ct : sl ≠ ct) (ovr : OvrA Z k_it .byte "[B") (hr : own_run sv iv mk hs 8 (hs.toInt32 &&& mk) = some rr) (hl8 : sv.length = 8 ∧ iv.length = 8) (hzk : (0 : Int32) < kl) (hnew : own_get iv rr = (-1 : Int32)) (V_bf : Arv Z h0 bf k_bf .byte (10 : Int32) [(.int (0 : Int32)), (.int (0 : Int32)), (.int (0 : Int32)), (.int (0 : Int32)), (.int (0 : Int32)), (.int (0 : Int32)), (.int (0 : Int32)), (.int (0 : Int32)), (.int (0 : Int32)), (.int (0 : Int32))] (.int (0 : Int32))) (hfo : 0 ≤ fo.toInt ∧ fo.toInt ≤ 3) (hln : 0 ≤ ln.toInt ∧ ln.toInt ≤ 7) (g_x : n0 ≤ x) (g_lh : n0 ≤ lh) (g_hp : n0 ≤ hp) (g_sl : n0 ≤ sl) (g_ix : n0 ≤ ix) (g_it : n0 ≤ it) (g_ct : n0 ≤ ct) :
  MetFree l (⟨cRE, "offerItem", "(J[BII)V"⟩ : MethodName) (head1 (Jvm.Cond.code (⟨cRE, "offerItem", "(J[BII)V"⟩ : MethodName) prog_7_method_11_code 9 none :: ws) ({ frames := 4, cells := 1, slots := 7, locals := 140 } : Room)) (fun av_ U => av_ = #[(.ref x), (.long hs), (.ref bf), (.int fo), (.int ln)] ∧ Z.Warmed39 U.vm ∧ U.heap = h0) (fun _ _ _ _ _ => True) (fun _ U o U' => ∃ v L, o = .returned v ∧ QONa Z x hs bf fo ln lh it ct rd hp sl ix mk xa xb xc kl k_hp nl k_sl sv k_ix iv ca cb cc k_ct k_it rr k_bf h0 n0 v U'.heap L ∧ FrameEnd U o U' L ({ frames := 4, cells := 1, slots := 7, locals := 140 } : Room).cells ({ frames := 4, cells := 1, slots := 7, locals := 140 } : Room).slots) := by
 refine MetFree.of_bodySF (plainFor_of_name own_pn3) hisR ?_
 intro p e s m args below meth c s₁ Bd hml0 hP hK
 obtain ⟨rfl, hZ, hh⟩ := hP
 have hx := Bd.exec
 have hby := Bd.bytes
 have hml : c.maxLocals = 9 := hml0
 have hown : s.vm.findClass cRE = some m.cls := findClass_of_methodNamed Bd.named
 have hnm := (name_of_methodNamed Bd.named Bd.method).1
 have X0 : Stand p l e ({ frames := 4, cells := 1, slots := 7, locals := 140 } : Room) s m #[(.ref x), (.long hs), (.ref bf), (.int fo), (.int ln)] below meth c s₁ [] 0 0 := Stand.of_body Bd
 have e0 : s₁.heap = h0 := by rw [← hh, Bd.state]; rfl
 have N0 := Fr.nil n0
 have hlk : meth.locks = false := Bd.notSynchronized
 have pre0 : ∀ t, Steps p.tables e below (s₁.setTop (mkF m 0 #[.val (.ref x), .val (.long hs), .second, .val (.ref bf), .val (.int fo), .val (.int ln), .unset, .unset, .unset] [])) t → Steps p.tables e below (s₁.setTop (entryFrame m #[(.ref x), (.long hs), (.ref bf), (.int fo), (.int ln)] 9)) t := fun t k => castTop (efONa m x hs bf fo ln) k
 have nq_x_ix : x ≠ ix := (Exa.neArv E_x V_ix (Wd hw 2 rfl))
 have nq_x_sl : x ≠ sl := (Exa.neArv E_x V_sl (Wd hw 2 rfl))
 have nq_x_hp : x ≠ hp := (Exa.neArv E_x V_hp (Wd hw 2 rfl))
 have nq_x_lh : x ≠ lh := (Exa.ne E_x E_lh (by decide))
 have nq_it_ix : it ≠ ix := (own_neT V_it V_ix (by simp))
 have nq_it_sl : it ≠ sl := (own_neT V_it V_sl (by simp))
 have nq_it_hp : it ≠ hp := (own_neT V_it V_hp (by simp))
 have nq_it_lh : it ≠ lh := (Ne.symm (Exa.neArv E_lh V_it (Wd hw 49 rfl)))
 have nq_x_it : x ≠ it := (Exa.neArv E_x V_it (Wd hw 2 rfl))
 have nq_ct_ix : ct ≠ ix := (own_neT V_ct V_ix (by simp))
 have nq_ct_lh : ct ≠ lh := (Ne.symm (Exa.neArv E_lh V_ct (Wd hw 49 rfl)))
 have nq_ct_it : ct ≠ it := (own_neT V_ct V_it (by simp))
 have nq_x_ct : x ≠ ct := (Exa.neArv E_x V_ct (Wd hw 2 rfl))
 obtain ⟨T1, X1, e1, st1⟩ := getF X0 hx hZ hown (host := "") (Or.inl (Wd hw 77 rfl)) Via.refl e0 F_kept_x (g := (mkF m 1 #[.val (.ref x), .val (.long hs), .second, .val (.ref bf), .val (.int fo), .val (.int ln), .unset, .unset, .unset] [(.ref x)])) rfl rfl (hb hby d11_1)
 obtain ⟨cq2, kq2, q2a, q2b, q2c⟩ := isOf hZ e1 E_lh
 obtain ⟨_, _, ⟨T2, L2, k2, n2⟩, -, X2, ⟨Lc2, hQ2, l2, y2, z2⟩, st2⟩ := X1.virtualBack hx (y := (⟨cLH, "indexOf", "(J)I"⟩ : MethodName)) (z := (⟨cLH, "indexOf", "(J)I"⟩ : MethodName)) hown (mvT hZ (Wd hw 90 rfl)) (mvT hZ (Wd hw 91 rfl)) (notFace_of_selects (args := #[]) (mvT hZ (Wd hw 93 rfl))) (mvT hZ (Wd hw 93 rfl)) (mvT hZ (Wd hw 92 rfl)) (by decide) (backOf (W := 0) (rmIO l Z a0 hw [] lh hs hp (0 : Int32) sl ix mk xa xb xc kl k_hp nl k_sl sv k_ix iv rr h0 n0 Z0 E_lh F_heap_lh F_size_lh F_slots_lh F_indices_lh F_mask_lh V_hp V_sl V_ix K hr) hZ (Wd hw 94 rfl) (Wd hw 50 rfl) (by decide) (by decide)) q2a q2c (g := (mkF m 5 #[.val (.ref x), .val (.long hs), .second, .val (.ref bf), .val (.int fo), .val (.int ln), .unset, .unset, .unset] [(.long hs), (.ref lh)])) rfl (by rw [hml]; rfl) (Steps.refl _) (argsL := [(.long hs)]) (rest := []) (lenOf own_pd2 rfl) rfl (by show 2 * 0 + _ ≤ _; exact Nat.le_of_eq rfl) (hb hby d11_5) (fun _ _ => ⟨rfl, e1, (by decide : 0 + 0 ≤ _), (by decide : 0 + 0 ≤ _)⟩)
 dsimp only [Pt.U, Pt.locs, Pt.cells, Pt.slots] at X2 l2 y2 z2 st2 hQ2
 subst l2 y2 z2
 obtain ⟨rfl, Nq2, e2⟩ := hQ2
 have N2 := Fr.app N0 Nq2
 have r3 : ∀ t, Steps p.tables e below (T2.setTop (mkF m 10 #[.val (.ref x), .val (.long hs), .second, .val (.ref bf), .val (.int fo), .val (.int ln), .val (.int (own_ix (0 : Int32) kl hs xa iv rr)), .unset, .unset] [])) t → Steps p.tables e below (s₁.setTop (mkF m 0 #[.val (.ref x), .val (.long hs), .second, .val (.ref bf), .val (.int fo), .val (.int ln), .unset, .unset, .unset] [])) t := fun t kt => by
  refine XS.aloadN X0.here hx rfl (hb hby d11_0) rfl rfl ?_
  refine st1 _ ?_
  refine XS.lloadN X1.here hx rfl (hb hby d11_4) rfl ?_
  refine st2.trans ?_
  refine XS.istore X2.here hx rfl (hb hby d11_8) rfl (l' := #[.val (.ref x), .val (.long hs), .second, .val (.ref bf), .val (.int fo), .val (.int ln), .val (.int (own_ix (0 : Int32) kl hs xa iv rr)), .unset, .unset]) rfl ?_
  exact kt
 have r4 : ∀ t, Steps p.tables e below (T2.setTop (mkF m 10 #[.val (.ref x), .val (.long hs), .second, .val (.ref bf), .val (.int fo), .val (.int ln), .val (.int (-1 : Int32)), .unset, .unset] [])) t → Steps p.tables e below (T2.setTop (mkF m 10 #[.val (.ref x), .val (.long hs), .second, .val (.ref bf), .val (.int fo), .val (.int ln), .val (.int (own_ix (0 : Int32) kl hs xa iv rr)), .unset, .unset] [])) t := fun t kt => by
  have q : (own_ix (0 : Int32) kl hs xa iv rr) = (-1 : Int32) := (own_ixm hnew)
  rw [q]
  exact kt
 obtain ⟨T5, X5, e5, st5⟩ := getF X2 hx hZ hown (host := "") (Or.inl (Wd hw 77 rfl)) Via.refl e2 F_kept_x (g := (mkF m 31 #[.val (.ref x), .val (.long hs), .second, .val (.ref bf), .val (.int fo), .val (.int ln), .val (.int (-1 : Int32)), .unset, .unset] [(.ref x)])) rfl rfl (hb hby d11_31)
 obtain ⟨cq6, kq6, q6a, q6b, q6c⟩ := isOf hZ e5 E_lh
 obtain ⟨_, _, ⟨T6, L6, k6, n6⟩, -, X6, ⟨Lc6, hQ6, l6, y6, z6⟩, st6⟩ := X5.virtualBack hx (y := (⟨cLH, "admits", "(J)Z"⟩ : MethodName)) (z := (⟨cLH, "admits", "(J)Z"⟩ : MethodName)) hown (mvT hZ (Wd hw 105 rfl)) (mvT hZ (Wd hw 106 rfl)) (notFace_of_selects (args := #[]) (mvT hZ (Wd hw 108 rfl))) (mvT hZ (Wd hw 108 rfl)) (mvT hZ (Wd hw 107 rfl)) (by decide) (backOf (W := 0) (rmAD l Z a0 hw [] lh hs hp (0 : Int32) xa xb xc kl k_hp h0 n0 Z0 E_lh F_heap_lh F_size_lh V_hp (own_kpos K)) hZ (Wd hw 109 rfl) (Wd hw 50 rfl) (by decide) (by decide)) q6a q6c (g := (mkF m 35 #[.val (.ref x), .val (.long hs), .second, .val (.ref bf), .val (.int fo), .val (.int ln), .val (.int (-1 : Int32)), .unset, .unset] [(.long hs), (.ref lh)])) rfl (by rw [hml]; rfl) (Steps.refl _) (argsL := [(.long hs)]) (rest := []) (lenOf own_pd7 rfl) rfl (by show 2 * 0 + _ ≤ _; exact Nat.le_of_eq rfl) (hb hby d11_35) (fun _ _ => ⟨rfl, e5, (by decide : 0 + 0 ≤ _), (by decide : 0 + 0 ≤ _)⟩)
 dsimp only [Pt.U, Pt.locs, Pt.cells, Pt.slots] at X6 l6 y6 z6 st6 hQ6
 subst l6 y6 z6
 obtain ⟨rfl, Nq6, e6⟩ := hQ6
 have N6 := Fr.app N2 Nq6
 obtain ⟨_, _, ⟨T7, L7, k7, n7⟩, -, X7, ⟨Lc7, hQ7, l7, y7, z7⟩, st7⟩ := Jvm.LawKit.callS X6 hx (y := (⟨"java/util/Arrays", "copyOfRange", "([BII)[B"⟩ : MethodName)) hown (mvT hZ (Wd hw 110 rfl)) (mvT hZ (Wd hw 111 rfl)) (mvT hZ (Wd hw 73 rfl)) (mvT hZ (Wd hw 112 rfl)) (by decide) (backOf (W := 0) (rmCR l Z a0 hw [] bf fo ln k_bf h0 n0 Z0 V_bf hfo hln) hZ (Wd hw 112 rfl) (Wd hw 73 rfl) (by decide) (by decide)) (g := (mkF m 49 #[.val (.ref x), .val (.long hs), .second, .val (.ref bf), .val (.int fo), .val (.int ln), .val (.int (-1 : Int32)), .unset, .unset] [(.int (fo + ln)), (.int fo), (.ref bf)])) rfl (by rw [hml]; rfl) (argsL := [(.ref bf), (.int fo), (.int (fo + ln))]) (rest := []) (lenOf own_pd6 rfl) rfl (by show 2 * 0 + _ ≤ _; exact Nat.le_of_eq rfl) (hb hby d11_49) (fun _ _ => ⟨rfl, e6, (by decide : 0 + 1 ≤ _), (by decide : 0 + 7 ≤ _)⟩)
 dsimp only [Pt.U, Pt.locs, Pt.cells, Pt.slots] at X7 l7 y7 z7 st7 hQ7
 subst l7 y7 z7
 obtain ⟨rt_7, k_rt_7, lw_7, rfl, Nq7, Kc7, g_rt_7, zq_rt_7, q7_0, q7_1⟩ := hQ7
 have sz_rt_7 : h0.size ≤ rt_7 := Nat.le_trans (Keep.refl h0 [x, lh, hp, sl, ix, it, ct]).1 zq_rt_7
 have K7 : Keep h0 T7.heap [x, lh, hp, sl, ix, it, ct] := Keep.trans (Keep.refl h0 [x, lh, hp, sl, ix, it, ct]) Kc7 all0
 have Zs7 : n0 ≤ T7.heap.size := Nat.le_trans Z0 Kc7.1
 have N7 := Fr.app N6 Nq7
 obtain ⟨T8, X8, e8, st8⟩ := getF X7 hx hZ hown (host := "") (Or.inl (Wd hw 77 rfl)) Via.refl rfl (F_kept_x.keep Kc7 nin0) (g := (mkF m 55 #[.val (.ref x), .val (.long hs), .second, .val (.ref bf), .val (.int fo), .val (.int ln), .val (.int (-1 : Int32)), .val (.ref rt_7), .unset] [(.ref x)])) rfl rfl (hb hby d11_55)
 obtain ⟨cq9, kq9, q9a, q9b, q9c⟩ := isOf hZ e8 (E_lh.keep Kc7)
 obtain ⟨_, _, ⟨T9, L9, k9, n9⟩, -, X9, ⟨Lc9, hQ9, l9, y9, z9⟩, st9⟩ := X8.virtualBack hx (y := (⟨cLH, "add", "(J)I"⟩ : MethodName)) (z := (⟨cLH, "add", "(J)I"⟩ : MethodName)) hown (mvT hZ (Wd hw 127 rfl)) (mvT hZ (Wd hw 128 rfl)) (notFace_of_selects (args := #[]) (mvT hZ (Wd hw 130 rfl))) (mvT hZ (Wd hw 130 rfl)) (mvT hZ (Wd hw 129 rfl)) (by decide) (backOf (W := 0) (rmANa l Z a0 hw [] lh hs hp sl ix mk xa xb xc kl k_hp nl k_sl sv k_ix iv rr T7.heap n0 Zs7 (E_lh.keep Kc7) (F_heap_lh.keep Kc7 nin0) (F_size_lh.keep Kc7 nin0) (F_slots_lh.keep Kc7 nin0) (F_indices_lh.keep Kc7 nin0) (F_mask_lh.keep Kc7 nin0) (V_hp.keep Kc7 nin0) (V_sl.keep Kc7 nin0) (V_ix.keep Kc7 nin0) K hr hl8 hzk ne_hp_sl g_lh g_hp g_sl g_ix) hZ (Wd hw 131 rfl) (Wd hw 50 rfl) (by decide) (by decide)) q9a q9c (g := (mkF m 59 #[.val (.ref x), .val (.long hs), .second, .val (.ref bf), .val (.int fo), .val (.int ln), .val (.int (-1 : Int32)), .val (.ref rt_7), .unset] [(.long hs), (.ref lh)])) rfl (by rw [hml]; rfl) (Steps.refl _) (argsL := [(.long hs)]) (rest := []) (lenOf own_pd2 rfl) rfl (by show 2 * 0 + _ ≤ _; exact Nat.le_of_eq rfl) (hb hby d11_59) (fun _ _ => ⟨rfl, e8, (by decide : 1 + 0 ≤ _), (by decide : 7 + 0 ≤ _)⟩)
 dsimp only [Pt.U, Pt.locs, Pt.cells, Pt.slots] at X9 l9 y9 z9 st9 hQ9
 subst l9 y9 z9
 obtain ⟨rfl, Nq9, Kc9, q9_0, q9_1, q9_2, q9_3, q9_4, q9_5, q9_6, q9_7, q9_8⟩ := hQ9
 have K9 : Keep h0 T9.heap [x, lh, hp, sl, ix, it, ct] := Keep.trans K7 Kc9 (allS (Or.inl (List.mem_of_getElem? (i := 1) rfl)) (allS (Or.inl (List.mem_of_getElem? (i := 2) rfl)) (allS (Or.inl (List.mem_of_getElem? (i := 3) rfl)) (allS (Or.inl (List.mem_of_getElem? (i := 4) rfl)) all0))))
 have Zs9 : n0 ≤ T9.heap.size := Nat.le_trans Zs7 Kc9.1
 have N9 := Fr.app N7 Nq9
 obtain ⟨T10, X10, e10, st10⟩ := getF X9 hx hZ hown (host := "") (Or.inl (Wd hw 81 rfl)) Via.refl rfl ((F_items_x.keep Kc7 nin0).keep Kc9 (ninS nq_x_lh (ninS nq_x_hp (ninS nq_x_sl (ninS nq_x_ix nin0))))) (g := (mkF m 65 #[.val (.ref x), .val (.long hs), .second, .val (.ref bf), .val (.int fo), .val (.int ln), .val (.int (-1 : Int32)), .val (.ref rt_7), .val (.int (0 : Int32))] [(.ref x)])) rfl rfl (hb hby d11_65)
 obtain ⟨cl11, Ar11, q11, S11, M11, Hs11, G11⟩ := ((V_it.keep Kc7 nin0).keep Kc9 (ninS nq_it_lh (ninS nq_it_hp (ninS nq_it_sl (ninS nq_it_ix nin0)))))
 have hin11 : ¬ ((0 : Int32) < 0 ∨ cl11.slots.size ≤ ((0 : Int32)).toNatClampNeg) := inb_of S11 ⟨by decide, hzk⟩
 obtain ⟨T12, h12, X12, e12, W12, st12⟩ := stR X10 hx hZ e10 Ar11 (j := (0 : Int32)) hin11 rfl (Sto.ofVA Ar11 q11 ovr (Ins.self (q7_0.keep Kc9))) (g := (mkF m 72 #[.val (.ref x), .val (.long hs), .second, .val (.ref bf), .val (.int fo), .val (.int ln), .val (.int (-1 : Int32)), .val (.ref rt_7), .val (.int (0 : Int32))] [(.ref rt_7), (.int (0 : Int32)), (.ref it)])) rfl rfl (hb hby d11_72)
 have V12 : Arv Z h12 it k_it (.array .byte) kl [(.ref rt_7), .null, .null] .null := Arv.set Ar11 q11 S11 M11 Hs11 G11 rfl W12 0 rfl (Nat.le_of_ble_eq_true rfl)
 have K12 : Keep h0 h12 [x, lh, hp, sl, ix, it, ct] := K9.wr W12 (Or.inl (List.mem_of_getElem? (i := 5) rfl))
 have Zs12 : n0 ≤ h12.size := Nat.le_trans Zs9 (Keep.of_wr W12).1
 have N12 := Fr.snoc X12 N9 g_it
 obtain ⟨T13, X13, e13, st13⟩ := getF X12 hx hZ hown (host := "") (Or.inl (Wd hw 83 rfl)) Via.refl e12 (Fld.other W12 ((F_counts_x.keep Kc7 nin0).keep Kc9 (ninS nq_x_lh (ninS nq_x_hp (ninS nq_x_sl (ninS nq_x_ix nin0))))) (Or.inl nq_x_it)) (g := (mkF m 74 #[.val (.ref x), .val (.long hs), .second, .val (.ref bf), .val (.int fo), .val (.int ln), .val (.int (-1 : Int32)), .val (.ref rt_7), .val (.int (0 : Int32))] [(.ref x)])) rfl rfl (hb hby d11_74)
 obtain ⟨cl14, Ar14, q14, S14, M14, Hs14, G14⟩ := (((V_ct.keep Kc7 nin0).keep Kc9 (ninS nq_ct_lh (ninS (Ne.symm ne_hp_ct) (ninS (Ne.symm ne_sl_ct) (ninS nq_ct_ix nin0))))).other W12 nq_ct_it)
 have hin14 : ¬ ((0 : Int32) < 0 ∨ cl14.slots.size ≤ ((0 : Int32)).toNatClampNeg) := inb_of S14 ⟨by decide, hzk⟩
 obtain ⟨T15, h15, X15, e15, W15, st15⟩ := stJ X13 hx hZ e13 Ar14 (j := (0 : Int32)) hin14 (g := (mkF m 80 #[.val (.ref x), .val (.long hs), .second, .val (.ref bf), .val (.int fo), .val (.int ln), .val (.int (-1 : Int32)), .val (.ref rt_7), .val (.int (0 : Int32))] [(.long (1 : Int64)), (.int (0 : Int32)), (.ref ct)])) rfl rfl (hb hby d11_80)
 have V15 : Arv Z h15 ct k_ct .long kl [(.long (1 : Int64)), (.long cb), (.long cc)] (.long (0 : Int64)) := Arv.set Ar14 q14 S14 M14 Hs14 G14 rfl W15 0 rfl (Nat.le_of_ble_eq_true rfl)
 have K15 : Keep h0 h15 [x, lh, hp, sl, ix, it, ct] := K12.wr W15 (Or.inl (List.mem_of_getElem? (i := 6) rfl))
 have Zs15 : n0 ≤ h15.size := Nat.le_trans Zs12 (Keep.of_wr W15).1
 have N15 := Fr.snoc X15 N12 g_ct
 obtain ⟨T16, X16, e16, st16⟩ := getF X15 hx hZ hown (host := "") (Or.inl (Wd hw 137 rfl)) Via.refl e15 (Fld.other W15 (Fld.other W12 ((F_records_x.keep Kc7 nin0).keep Kc9 (ninS nq_x_lh (ninS nq_x_hp (ninS nq_x_sl (ninS nq_x_ix nin0))))) (Or.inl nq_x_it)) (Or.inl nq_x_ct)) (g := (mkF m 83 #[.val (.ref x), .val (.long hs), .second, .val (.ref bf), .val (.int fo), .val (.int ln), .val (.int (-1 : Int32)), .val (.ref rt_7), .val (.int (0 : Int32))] [(.ref x), (.ref x)])) rfl rfl (hb hby d11_83)
 obtain ⟨T17, h17, X17, e17, W17, st17⟩ := putF X16 hx hZ hown (host := "") (Or.inl (Wd hw 137 rfl)) Via.refl e16 (Fld.other W15 (Fld.other W12 ((F_records_x.keep Kc7 nin0).keep Kc9 (ninS nq_x_lh (ninS nq_x_hp (ninS nq_x_sl (ninS nq_x_ix nin0))))) (Or.inl nq_x_it)) (Or.inl nq_x_ct)) ((((E_x.keep Kc7).keep Kc9).wr W12).wr W15) (Or.inl (Wd hw 138 rfl)) (Wd hw 2 rfl) (ty := .long) (by decide) rfl rfl (g := (mkF m 88 #[.val (.ref x), .val (.long hs), .second, .val (.ref bf), .val (.int fo), .val (.int ln), .val (.int (-1 : Int32)), .val (.ref rt_7), .val (.int (0 : Int32))] [(.long (rd + (1 : Int64))), (.ref x)])) rfl rfl (hb hby d11_88)
 have F17 : Fld Z h17 x cRE "records" "J" (.long (rd + (1 : Int64))) := Fld.same W17 (Fld.other W15 (Fld.other W12 ((F_records_x.keep Kc7 nin0).keep Kc9 (ninS nq_x_lh (ninS nq_x_hp (ninS nq_x_sl (ninS nq_x_ix nin0))))) (Or.inl nq_x_it)) (Or.inl nq_x_ct))
 have K17 : Keep h0 h17 [x, lh, hp, sl, ix, it, ct] := K15.wr W17 (Or.inl (List.mem_of_getElem? (i := 0) rfl))
 have Zs17 : n0 ≤ h17.size := Nat.le_trans Zs15 (Keep.of_wr W17).1
 have N17 := Fr.snoc X17 N15 g_x
 obtain ⟨fs, hr, hrun, hended, hW, hsame⟩ := X17.leave (v := none) (fun _ => rfl) hlk
 refine ⟨_, _, (pre0 _ (r3 _ (r4 _ ?_))), hrun, hended, _, _, rfl, ?_, ⟨_, rfl⟩, hW, hsame.mono (by decide) (by decide)⟩
 ·show Steps p.tables e below (T2.setTop (mkF m 10 #[.val (.ref x), .val (.long hs), .second, .val (.ref bf), .val (.int fo), .val (.int ln), .val (.int (-1 : Int32)), .unset, .unset] [])) _
  refine XS.iload X2.here hx rfl (hb hby d11_10) rfl ?_
  refine XS.iconst X2.here hx rfl (hb hby d11_12) ?_
  refine XS.icmpYes X2.here hx rfl (pc0 := 13) (pc' := 30) rfl (hb hby d11_13) rfl (teq (by decide : (-1 : Int32) = (-1 : Int32))).1 (by decide) (by decide) ?_
  refine XS.aloadN X2.here hx rfl (hb hby d11_30) rfl rfl ?_
  refine st5 _ ?_
  refine XS.lloadN X5.here hx rfl (hb hby d11_34) rfl ?_
  refine st6.trans ?_
  refine XS.ifNo X6.here hx rfl (hb hby d11_38) rfl ((if0 _ _).trans (feq (own_ad1 (own_ltne hzk))).1) ?_
  refine XS.aloadN X6.here hx rfl (hb hby d11_41) rfl rfl ?_
  refine XS.iload X6.here hx rfl (hb hby d11_42) rfl ?_
  refine XS.iload X6.here hx rfl (hb hby d11_44) rfl ?_
  refine XS.iload X6.here hx rfl (hb hby d11_46) rfl ?_
  refine XS.iadd X6.here hx rfl (hb hby d11_48) rfl ?_
  refine st7 _ ?_
  refine XS.astore X7.here hx rfl (hb hby d11_52) rfl rfl (l' := #[.val (.ref x), .val (.long hs), .second, .val (.ref bf), .val (.int fo), .val (.int ln), .val (.int (-1 : Int32)), .val (.ref rt_7), .unset]) rfl ?_
  refine XS.aloadN X7.here hx rfl (hb hby d11_54) rfl rfl ?_
  refine st8 _ ?_
  refine XS.lloadN X8.here hx rfl (hb hby d11_58) rfl ?_
  refine st9.trans ?_
  refine XS.istore X9.here hx rfl (hb hby d11_62) rfl (l' := #[.val (.ref x), .val (.long hs), .second, .val (.ref bf), .val (.int fo), .val (.int ln), .val (.int (-1 : Int32)), .val (.ref rt_7), .val (.int (0 : Int32))]) rfl ?_
  refine XS.aloadN X9.here hx rfl (hb hby d11_64) rfl rfl ?_
  refine st10 _ ?_
  refine XS.iload X10.here hx rfl (hb hby d11_68) rfl ?_
  refine XS.aload X10.here hx rfl (hb hby d11_70) rfl rfl ?_
  refine st12 _ ?_
  refine XS.aloadN X12.here hx rfl (hb hby d11_73) rfl rfl ?_
  refine st13 _ ?_
  refine XS.iload X13.here hx rfl (hb hby d11_77) rfl ?_
  refine XS.lconst X13.here hx rfl (hb hby d11_79) ?_
  refine st15 _ ?_
  refine XS.aloadN X15.here hx rfl (hb hby d11_81) rfl rfl ?_
  refine XS.dup X15.here hx rfl (hb hby d11_82) rfl rfl ?_
  refine st16 _ ?_
  refine XS.lconst X16.here hx rfl (hb hby d11_86) ?_
  refine XS.ladd X16.here hx rfl (hb hby d11_87) rfl ?_
  refine st17 _ ?_
  exact X17.returnOut hx Bd.returns (hb hby d11_91) hr
 ·show QONa Z x hs bf fo ln lh it ct rd hp sl ix mk xa xb xc kl k_hp nl k_sl sv k_ix iv ca cb cc k_ct k_it rr k_bf h0 n0 _ T17.heap _
  rw [e17]
  exact ⟨rt_7, k_rt_7, lw_7, (1 : Int64), cb, cc, rfl, N17, K17, g_rt_7, sz_rt_7, (((((E_x.keep Kc7).keep Kc9).wr W12).wr W15).wr W17), (Fld.other W17 (Fld.other W15 (Fld.other W12 ((F_kept_x.keep Kc7 nin0).keep Kc9 (ninS nq_x_lh (ninS nq_x_hp (ninS nq_x_sl (ninS nq_x_ix nin0))))) (Or.inl nq_x_it)) (Or.inl nq_x_ct)) (Or.inr (slot_ne (Or.inr (Wd hw 78 rfl)) (Or.inl (Wd hw 138 rfl)) (by decide) (t := (.object cLH)) (t' := .long) (by decide) (by decide)))), (Fld.other W17 (Fld.other W15 (Fld.other W12 ((F_items_x.keep Kc7 nin0).keep Kc9 (ninS nq_x_lh (ninS nq_x_hp (ninS nq_x_sl (ninS nq_x_ix nin0))))) (Or.inl nq_x_it)) (Or.inl nq_x_ct)) (Or.inr (slot_ne (Or.inr (Wd hw 82 rfl)) (Or.inl (Wd hw 138 rfl)) (by decide) (t := (.array (.array .byte))) (t' := .long) (by decide) (by decide)))), (Fld.other W17 (Fld.other W15 (Fld.other W12 ((F_counts_x.keep Kc7 nin0).keep Kc9 (ninS nq_x_lh (ninS nq_x_hp (ninS nq_x_sl (ninS nq_x_ix nin0))))) (Or.inl nq_x_it)) (Or.inl nq_x_ct)) (Or.inr (slot_ne (Or.inr (Wd hw 84 rfl)) (Or.inl (Wd hw 138 rfl)) (by decide) (t := (.array .long)) (t' := .long) (by decide) (by decide)))), F17, (((q9_0.wr W12).wr W15).wr W17), (Fld.other W17 (Fld.other W15 (Fld.other W12 q9_1 (Or.inl nq_it_lh.symm)) (Or.inl nq_ct_lh.symm)) (Or.inl nq_x_lh.symm)), (Fld.other W17 (Fld.other W15 (Fld.other W12 q9_2 (Or.inl nq_it_lh.symm)) (Or.inl nq_ct_lh.symm)) (Or.inl nq_x_lh.symm)), (Fld.other W17 (Fld.other W15 (Fld.other W12 q9_3 (Or.inl nq_it_lh.symm)) (Or.inl nq_ct_lh.symm)) (Or.inl nq_x_lh.symm)), (Fld.other W17 (Fld.other W15 (Fld.other W12 q9_4 (Or.inl nq_it_lh.symm)) (Or.inl nq_ct_lh.symm)) (Or.inl nq_x_lh.symm)), (Fld.other W17 (Fld.other W15 (Fld.other W12 q9_5 (Or.inl nq_it_lh.symm)) (Or.inl nq_ct_lh.symm)) (Or.inl nq_x_lh.symm)), (((q9_6.other W12 nq_it_hp.symm).other W15 ne_hp_ct).other W17 nq_x_hp.symm), (((q9_7.other W12 nq_it_sl.symm).other W15 ne_sl_ct).other W17 nq_x_sl.symm), (((q9_8.other W12 nq_it_ix.symm).other W15 nq_ct_ix.symm).other W17 nq_x_ix.symm), ((V12.other W15 nq_ct_it.symm).other W17 nq_x_it.symm), (V15.other W17 nq_x_ct.symm), ((((q7_1.keep Kc9 (ninS (Ne.symm ((nlt E_lh.lt zq_rt_7))) (ninS (Ne.symm ((nlt V_hp.lt zq_rt_7))) (ninS (Ne.symm ((nlt V_sl.lt zq_rt_7))) (ninS (Ne.symm ((nlt V_ix.lt zq_rt_7))) nin0))))).other W12 (Ne.symm ((nlt V_it.lt zq_rt_7)))).other W15 (Ne.symm ((nlt V_ct.lt zq_rt_7)))).other W17 (Ne.symm ((nlt E_x.lt zq_rt_7))))⟩
theorem efONb (m : MethodId) (x : Addr) (hs : Int64) (bf : Addr) (fo : Int32) (ln : Int32) : entryFrame m #[(.ref x), (.long hs), (.ref bf), (.int fo), (.int ln)] 9 = mkF m 0 #[.val (.ref x), .val (.long hs), .second, .val (.ref bf), .val (.int fo), .val (.int ln), .unset, .unset, .unset] [] := by first | (simp [entryFrame, mkF, argsToLocals, Value.category]; done) | rfl
def QONb (Z : State) (x : Addr) (hs : Int64) (bf : Addr) (fo : Int32) (ln : Int32) (lh : Addr) (it : Addr) (ct : Addr) (rd : Int64) (hp : Addr) (sl : Addr) (ix : Addr) (mk : Int32) (xa : Int64) (xb : Int64) (xc : Int64) (kl : Int32) (k_hp : ClassId) (nl : Int32) (k_sl : ClassId) (sv : List Int64) (k_ix : ClassId) (iv : List Int32) (ca : Int64) (cb : Int64) (cc : Int64) (k_ct : ClassId) (ia : Addr) (k_it : ClassId) (rr : Int32) (k_bf : ClassId) (h0 : Heap) (n0 : Nat) (v : Option Value) (h : Heap) (L : List Loc) : Prop := ∃ rt : Addr, ∃ k_rt : ClassId, ∃ lw : List Value, ∃ da : Int64, ∃ db : Int64, ∃ dc : Int64, v = none ∧ Fr n0 L ∧ Keep h0 h [x, lh, hp, sl, ix, it, ct] ∧ n0 ≤ rt ∧ h0.size ≤ rt ∧ Exa Z h x cRE ∧ Fld Z h x cRE "kept" "Lcom/example/tallysketch/tallysketch/LargestHashes;" (.ref lh) ∧ Fld Z h x cRE "items" "[[B" (.ref it) ∧ Fld Z h x cRE "counts" "[J" (.ref ct) ∧ Fld Z h x cRE "records" "J" (.long (rd + (1 : Int64))) ∧ Exa Z h lh cLH ∧ Fld Z h lh cLH "heap" "[J" (.ref hp) ∧ Fld Z h lh cLH "size" "I" (.int (2 : Int32)) ∧ Fld Z h lh cLH "slots" "[J" (.ref sl) ∧ Fld Z h lh cLH "indices" "[I" (.ref ix) ∧ Fld Z h lh cLH "mask" "I" (.int mk) ∧ Arv Z h hp k_hp .long kl [(.long (own_mn hs xa)), (.long (own_mx hs xa)), (.long xc)] (.long (0 : Int64)) ∧ Arv Z h sl k_sl .long nl ((sv.set rr.toNatClampNeg hs).map Value.long) (.long (0 : Int64)) ∧ Arv Z h ix k_ix .int nl ((iv.set rr.toNatClampNeg (1 : Int32)).map Value.int) (.int (0 : Int32)) ∧ Arv Z h it k_it (.array .byte) kl [(.ref ia), (.ref rt), .null] .null ∧ Arv Z h ct k_ct .long kl [(.long da), (.long db), (.long dc)] (.long (0 : Int64)) ∧ Arv Z h rt k_rt .byte ln lw (.int (0 : Int32))
set_option maxRecDepth 65536 in
set_option maxHeartbeats 40000000 in
theorem rmONb (l : Launch) (Z : State) (a0 : Array Value) (hw : ∀ d ∈ tables_1, d.before a0 Z = true) (ws : List Jvm.Cond) (x : Addr) (hs : Int64) (bf : Addr) (fo : Int32) (ln : Int32) (lh : Addr) (it : Addr) (ct : Addr) (rd : Int64) (hp : Addr) (sl : Addr) (ix : Addr) (mk : Int32) (xa : Int64) (xb : Int64) (xc : Int64) (kl : Int32) (k_hp : ClassId) (nl : Int32) (k_sl : ClassId) (sv : List Int64) (k_ix : ClassId) (iv : List Int32) (ca : Int64) (cb : Int64) (cc : Int64) (k_ct : ClassId) (ia : Addr) (k_it : ClassId) (rr : Int32) (k_bf : ClassId) (h0 : Heap) (n0 : Nat) (Z0 : n0 ≤ h0.size) (E_x : Exa Z h0 x cRE) (F_kept_x : Fld Z h0 x cRE "kept" "Lcom/example/tallysketch/tallysketch/LargestHashes;" (.ref lh)) (F_items_x : Fld Z h0 x cRE "items" "[[B" (.ref it)) (F_counts_x : Fld Z h0 x cRE "counts" "[J" (.ref ct)) (F_records_x : Fld Z h0 x cRE "records" "J" (.long rd)) (E_lh : Exa Z h0 lh cLH) (F_heap_lh : Fld Z h0 lh cLH "heap" "[J" (.ref hp)) (F_size_lh : Fld Z h0 lh cLH "size" "I" (.int (1 : Int32))) (F_slots_lh : Fld Z h0 lh cLH "slots" "[J" (.ref sl)) (F_indices_lh : Fld Z h0 lh cLH "indices" "[I" (.ref ix)) (F_mask_lh : Fld Z h0 lh cLH "mask" "I" (.int mk)) (V_hp : Arv Z h0 hp k_hp .long kl [(.long xa), (.long xb), (.long xc)] (.long (0 : Int64))) (V_sl : Arv Z h0 sl k_sl .long nl (sv.map Value.long) (.long (0 : Int64))) (V_ix : Arv Z h0 ix k_ix .int nl (iv.map Value.int) (.int (0 : Int32))) (V_ct : Arv Z h0 ct k_ct .long kl [(.long ca), (.long cb), (.long cc)] (.long (0 : Int64))) (V_it : Arv Z h0 it k_it (.array .byte) kl [(.ref ia), .null, .null] .null) (K : own_kmn kl mk nl) (ne_hp_sl : hp ≠ sl) (ne_hp_ct : hp ≠ ct) (ne_sl_ct : sl ≠ ct) (ovr : OvrA Z k_it .byte "[B") (hr : own_run sv iv mk hs 8 (hs.toInt32 &&& mk) = some rr) (hl8 : sv.length = 8 ∧ iv.length = 8) (hzk : (1 : Int32) < kl) (hnew : own_get iv rr = (-1 : Int32)) (V_bf : Arv Z h0 bf k_bf .byte (10 : Int32) [(.int (0 : Int32)), (.int (0 : Int32)), (.int (0 : Int32)), (.int (0 : Int32)), (.int (0 : Int32)), (.int (0 : Int32)), (.int (0 : Int32)), (.int (0 : Int32)), (.int (0 : Int32)), (.int (0 : Int32))] (.int (0 : Int32))) (hfo : 0 ≤ fo.toInt ∧ fo.toInt ≤ 3) (hln : 0 ≤ ln.toInt ∧ ln.toInt ≤ 7) (g_x : n0 ≤ x) (g_lh : n0 ≤ lh) (g_hp : n0 ≤ hp) (g_sl : n0 ≤ sl) (g_ix : n0 ≤ ix) (g_it : n0 ≤ it) (g_ct : n0 ≤ ct) :
  MetFree l (⟨cRE, "offerItem", "(J[BII)V"⟩ : MethodName) (head1 (Jvm.Cond.code (⟨cRE, "offerItem", "(J[BII)V"⟩ : MethodName) prog_7_method_11_code 9 none :: ws) ({ frames := 4, cells := 1, slots := 7, locals := 140 } : Room)) (fun av_ U => av_ = #[(.ref x), (.long hs), (.ref bf), (.int fo), (.int ln)] ∧ Z.Warmed39 U.vm ∧ U.heap = h0) (fun _ _ _ _ _ => True) (fun _ U o U' => ∃ v L, o = .returned v ∧ QONb Z x hs bf fo ln lh it ct rd hp sl ix mk xa xb xc kl k_hp nl k_sl sv k_ix iv ca cb cc k_ct ia k_it rr k_bf h0 n0 v U'.heap L ∧ FrameEnd U o U' L ({ frames := 4, cells := 1, slots := 7, locals := 140 } : Room).cells ({ frames := 4, cells := 1, slots := 7, locals := 140 } : Room).slots) := by
 refine MetFree.of_bodySF (plainFor_of_name own_pn3) hisR ?_
 intro p e s m args below meth c s₁ Bd hml0 hP hK
 obtain ⟨rfl, hZ, hh⟩ := hP
 have hx := Bd.exec
 have hby := Bd.bytes
 have hml : c.maxLocals = 9 := hml0
 have hown : s.vm.findClass cRE = some m.cls := findClass_of_methodNamed Bd.named
 have hnm := (name_of_methodNamed Bd.named Bd.method).1
 have X0 : Stand p l e ({ frames := 4, cells := 1, slots := 7, locals := 140 } : Room) s m #[(.ref x), (.long hs), (.ref bf), (.int fo), (.int ln)] below meth c s₁ [] 0 0 := Stand.of_body Bd
 have e0 : s₁.heap = h0 := by rw [← hh, Bd.state]; rfl
 have N0 := Fr.nil n0
 have hlk : meth.locks = false := Bd.notSynchronized
 have pre0 : ∀ t, Steps p.tables e below (s₁.setTop (mkF m 0 #[.val (.ref x), .val (.long hs), .second, .val (.ref bf), .val (.int fo), .val (.int ln), .unset, .unset, .unset] [])) t → Steps p.tables e below (s₁.setTop (entryFrame m #[(.ref x), (.long hs), (.ref bf), (.int fo), (.int ln)] 9)) t := fun t k => castTop (efONb m x hs bf fo ln) k
 have nq_x_ix : x ≠ ix := (Exa.neArv E_x V_ix (Wd hw 2 rfl))
 have nq_x_sl : x ≠ sl := (Exa.neArv E_x V_sl (Wd hw 2 rfl))
 have nq_x_hp : x ≠ hp := (Exa.neArv E_x V_hp (Wd hw 2 rfl))
 have nq_x_lh : x ≠ lh := (Exa.ne E_x E_lh (by decide))
 have nq_it_ix : it ≠ ix := (own_neT V_it V_ix (by simp))
 have nq_it_sl : it ≠ sl := (own_neT V_it V_sl (by simp))
 have nq_it_hp : it ≠ hp := (own_neT V_it V_hp (by simp))
 have nq_it_lh : it ≠ lh := (Ne.symm (Exa.neArv E_lh V_it (Wd hw 49 rfl)))
 have nq_x_it : x ≠ it := (Exa.neArv E_x V_it (Wd hw 2 rfl))
 have nq_ct_ix : ct ≠ ix := (own_neT V_ct V_ix (by simp))
 have nq_ct_lh : ct ≠ lh := (Ne.symm (Exa.neArv E_lh V_ct (Wd hw 49 rfl)))
 have nq_ct_it : ct ≠ it := (own_neT V_ct V_it (by simp))
 have nq_x_ct : x ≠ ct := (Exa.neArv E_x V_ct (Wd hw 2 rfl))
 obtain ⟨T1, X1, e1, st1⟩ := getF X0 hx hZ hown (host := "") (Or.inl (Wd hw 77 rfl)) Via.refl e0 F_kept_x (g := (mkF m 1 #[.val (.ref x), .val (.long hs), .second, .val (.ref bf), .val (.int fo), .val (.int ln), .unset, .unset, .unset] [(.ref x)])) rfl rfl (hb hby d11_1)
 obtain ⟨cq2, kq2, q2a, q2b, q2c⟩ := isOf hZ e1 E_lh
 obtain ⟨_, _, ⟨T2, L2, k2, n2⟩, -, X2, ⟨Lc2, hQ2, l2, y2, z2⟩, st2⟩ := X1.virtualBack hx (y := (⟨cLH, "indexOf", "(J)I"⟩ : MethodName)) (z := (⟨cLH, "indexOf", "(J)I"⟩ : MethodName)) hown (mvT hZ (Wd hw 90 rfl)) (mvT hZ (Wd hw 91 rfl)) (notFace_of_selects (args := #[]) (mvT hZ (Wd hw 93 rfl))) (mvT hZ (Wd hw 93 rfl)) (mvT hZ (Wd hw 92 rfl)) (by decide) (backOf (W := 0) (rmIO l Z a0 hw [] lh hs hp (1 : Int32) sl ix mk xa xb xc kl k_hp nl k_sl sv k_ix iv rr h0 n0 Z0 E_lh F_heap_lh F_size_lh F_slots_lh F_indices_lh F_mask_lh V_hp V_sl V_ix K hr) hZ (Wd hw 94 rfl) (Wd hw 50 rfl) (by decide) (by decide)) q2a q2c (g := (mkF m 5 #[.val (.ref x), .val (.long hs), .second, .val (.ref bf), .val (.int fo), .val (.int ln), .unset, .unset, .unset] [(.long hs), (.ref lh)])) rfl (by rw [hml]; rfl) (Steps.refl _) (argsL := [(.long hs)]) (rest := []) (lenOf own_pd2 rfl) rfl (by show 2 * 0 + _ ≤ _; exact Nat.le_of_eq rfl) (hb hby d11_5) (fun _ _ => ⟨rfl, e1, (by decide : 0 + 0 ≤ _), (by decide : 0 + 0 ≤ _)⟩)
 dsimp only [Pt.U, Pt.locs, Pt.cells, Pt.slots] at X2 l2 y2 z2 st2 hQ2
 subst l2 y2 z2
 obtain ⟨rfl, Nq2, e2⟩ := hQ2
 have N2 := Fr.app N0 Nq2
 have r3 : ∀ t, Steps p.tables e below (T2.setTop (mkF m 10 #[.val (.ref x), .val (.long hs), .second, .val (.ref bf), .val (.int fo), .val (.int ln), .val (.int (own_ix (1 : Int32) kl hs xa iv rr)), .unset, .unset] [])) t → Steps p.tables e below (s₁.setTop (mkF m 0 #[.val (.ref x), .val (.long hs), .second, .val (.ref bf), .val (.int fo), .val (.int ln), .unset, .unset, .unset] [])) t := fun t kt => by
  refine XS.aloadN X0.here hx rfl (hb hby d11_0) rfl rfl ?_
  refine st1 _ ?_
  refine XS.lloadN X1.here hx rfl (hb hby d11_4) rfl ?_
  refine st2.trans ?_
  refine XS.istore X2.here hx rfl (hb hby d11_8) rfl (l' := #[.val (.ref x), .val (.long hs), .second, .val (.ref bf), .val (.int fo), .val (.int ln), .val (.int (own_ix (1 : Int32) kl hs xa iv rr)), .unset, .unset]) rfl ?_
  exact kt
 have r4 : ∀ t, Steps p.tables e below (T2.setTop (mkF m 10 #[.val (.ref x), .val (.long hs), .second, .val (.ref bf), .val (.int fo), .val (.int ln), .val (.int (-1 : Int32)), .unset, .unset] [])) t → Steps p.tables e below (T2.setTop (mkF m 10 #[.val (.ref x), .val (.long hs), .second, .val (.ref bf), .val (.int fo), .val (.int ln), .val (.int (own_ix (1 : Int32) kl hs xa iv rr)), .unset, .unset] [])) t := fun t kt => by
  have q : (own_ix (1 : Int32) kl hs xa iv rr) = (-1 : Int32) := (own_ixm hnew)
  rw [q]
  exact kt
 obtain ⟨T5, X5, e5, st5⟩ := getF X2 hx hZ hown (host := "") (Or.inl (Wd hw 77 rfl)) Via.refl e2 F_kept_x (g := (mkF m 31 #[.val (.ref x), .val (.long hs), .second, .val (.ref bf), .val (.int fo), .val (.int ln), .val (.int (-1 : Int32)), .unset, .unset] [(.ref x)])) rfl rfl (hb hby d11_31)
 obtain ⟨cq6, kq6, q6a, q6b, q6c⟩ := isOf hZ e5 E_lh
 obtain ⟨_, _, ⟨T6, L6, k6, n6⟩, -, X6, ⟨Lc6, hQ6, l6, y6, z6⟩, st6⟩ := X5.virtualBack hx (y := (⟨cLH, "admits", "(J)Z"⟩ : MethodName)) (z := (⟨cLH, "admits", "(J)Z"⟩ : MethodName)) hown (mvT hZ (Wd hw 105 rfl)) (mvT hZ (Wd hw 106 rfl)) (notFace_of_selects (args := #[]) (mvT hZ (Wd hw 108 rfl))) (mvT hZ (Wd hw 108 rfl)) (mvT hZ (Wd hw 107 rfl)) (by decide) (backOf (W := 0) (rmAD l Z a0 hw [] lh hs hp (1 : Int32) xa xb xc kl k_hp h0 n0 Z0 E_lh F_heap_lh F_size_lh V_hp (own_kpos K)) hZ (Wd hw 109 rfl) (Wd hw 50 rfl) (by decide) (by decide)) q6a q6c (g := (mkF m 35 #[.val (.ref x), .val (.long hs), .second, .val (.ref bf), .val (.int fo), .val (.int ln), .val (.int (-1 : Int32)), .unset, .unset] [(.long hs), (.ref lh)])) rfl (by rw [hml]; rfl) (Steps.refl _) (argsL := [(.long hs)]) (rest := []) (lenOf own_pd7 rfl) rfl (by show 2 * 0 + _ ≤ _; exact Nat.le_of_eq rfl) (hb hby d11_35) (fun _ _ => ⟨rfl, e5, (by decide : 0 + 0 ≤ _), (by decide : 0 + 0 ≤ _)⟩)
 dsimp only [Pt.U, Pt.locs, Pt.cells, Pt.slots] at X6 l6 y6 z6 st6 hQ6
 subst l6 y6 z6
 obtain ⟨rfl, Nq6, e6⟩ := hQ6
 have N6 := Fr.app N2 Nq6
 obtain ⟨_, _, ⟨T7, L7, k7, n7⟩, -, X7, ⟨Lc7, hQ7, l7, y7, z7⟩, st7⟩ := Jvm.LawKit.callS X6 hx (y := (⟨"java/util/Arrays", "copyOfRange", "([BII)[B"⟩ : MethodName)) hown (mvT hZ (Wd hw 110 rfl)) (mvT hZ (Wd hw 111 rfl)) (mvT hZ (Wd hw 73 rfl)) (mvT hZ (Wd hw 112 rfl)) (by decide) (backOf (W := 0) (rmCR l Z a0 hw [] bf fo ln k_bf h0 n0 Z0 V_bf hfo hln) hZ (Wd hw 112 rfl) (Wd hw 73 rfl) (by decide) (by decide)) (g := (mkF m 49 #[.val (.ref x), .val (.long hs), .second, .val (.ref bf), .val (.int fo), .val (.int ln), .val (.int (-1 : Int32)), .unset, .unset] [(.int (fo + ln)), (.int fo), (.ref bf)])) rfl (by rw [hml]; rfl) (argsL := [(.ref bf), (.int fo), (.int (fo + ln))]) (rest := []) (lenOf own_pd6 rfl) rfl (by show 2 * 0 + _ ≤ _; exact Nat.le_of_eq rfl) (hb hby d11_49) (fun _ _ => ⟨rfl, e6, (by decide : 0 + 1 ≤ _), (by decide : 0 + 7 ≤ _)⟩)
 dsimp only [Pt.U, Pt.locs, Pt.cells, Pt.slots] at X7 l7 y7 z7 st7 hQ7
 subst l7 y7 z7
 obtain ⟨rt_7, k_rt_7, lw_7, rfl, Nq7, Kc7, g_rt_7, zq_rt_7, q7_0, q7_1⟩ := hQ7
 have sz_rt_7 : h0.size ≤ rt_7 := Nat.le_trans (Keep.refl h0 [x, lh, hp, sl, ix, it, ct]).1 zq_rt_7
 have K7 : Keep h0 T7.heap [x, lh, hp, sl, ix, it, ct] := Keep.trans (Keep.refl h0 [x, lh, hp, sl, ix, it, ct]) Kc7 all0
 have Zs7 : n0 ≤ T7.heap.size := Nat.le_trans Z0 Kc7.1
 have N7 := Fr.app N6 Nq7
 obtain ⟨T8, X8, e8, st8⟩ := getF X7 hx hZ hown (host := "") (Or.inl (Wd hw 77 rfl)) Via.refl rfl (F_kept_x.keep Kc7 nin0) (g := (mkF m 55 #[.val (.ref x), .val (.long hs), .second, .val (.ref bf), .val (.int fo), .val (.int ln), .val (.int (-1 : Int32)), .val (.ref rt_7), .unset] [(.ref x)])) rfl rfl (hb hby d11_55)
 obtain ⟨cq9, kq9, q9a, q9b, q9c⟩ := isOf hZ e8 (E_lh.keep Kc7)
 obtain ⟨_, _, ⟨T9, L9, k9, n9⟩, -, X9, ⟨Lc9, hQ9, l9, y9, z9⟩, st9⟩ := X8.virtualBack hx (y := (⟨cLH, "add", "(J)I"⟩ : MethodName)) (z := (⟨cLH, "add", "(J)I"⟩ : MethodName)) hown (mvT hZ (Wd hw 127 rfl)) (mvT hZ (Wd hw 128 rfl)) (notFace_of_selects (args := #[]) (mvT hZ (Wd hw 130 rfl))) (mvT hZ (Wd hw 130 rfl)) (mvT hZ (Wd hw 129 rfl)) (by decide) (backOf (W := 0) (rmANb l Z a0 hw [] lh hs hp sl ix mk xa xb xc kl k_hp nl k_sl sv k_ix iv rr T7.heap n0 Zs7 (E_lh.keep Kc7) (F_heap_lh.keep Kc7 nin0) (F_size_lh.keep Kc7 nin0) (F_slots_lh.keep Kc7 nin0) (F_indices_lh.keep Kc7 nin0) (F_mask_lh.keep Kc7 nin0) (V_hp.keep Kc7 nin0) (V_sl.keep Kc7 nin0) (V_ix.keep Kc7 nin0) K hr hl8 hzk ne_hp_sl g_lh g_hp g_sl g_ix) hZ (Wd hw 131 rfl) (Wd hw 50 rfl) (by decide) (by decide)) q9a q9c (g := (mkF m 59 #[.val (.ref x), .val (.long hs), .second, .val (.ref bf), .val (.int fo), .val (.int ln), .val (.int (-1 : Int32)), .val (.ref rt_7), .unset] [(.long hs), (.ref lh)])) rfl (by rw [hml]; rfl) (Steps.refl _) (argsL := [(.long hs)]) (rest := []) (lenOf own_pd2 rfl) rfl (by show 2 * 0 + _ ≤ _; exact Nat.le_of_eq rfl) (hb hby d11_59) (fun _ _ => ⟨rfl, e8, (by decide : 1 + 0 ≤ _), (by decide : 7 + 0 ≤ _)⟩)
 dsimp only [Pt.U, Pt.locs, Pt.cells, Pt.slots] at X9 l9 y9 z9 st9 hQ9
 subst l9 y9 z9
 obtain ⟨rfl, Nq9, Kc9, q9_0, q9_1, q9_2, q9_3, q9_4, q9_5, q9_6, q9_7, q9_8⟩ := hQ9
 have K9 : Keep h0 T9.heap [x, lh, hp, sl, ix, it, ct] := Keep.trans K7 Kc9 (allS (Or.inl (List.mem_of_getElem? (i := 1) rfl)) (allS (Or.inl (List.mem_of_getElem? (i := 2) rfl)) (allS (Or.inl (List.mem_of_getElem? (i := 3) rfl)) (allS (Or.inl (List.mem_of_getElem? (i := 4) rfl)) all0))))
 have Zs9 : n0 ≤ T9.heap.size := Nat.le_trans Zs7 Kc9.1
 have N9 := Fr.app N7 Nq9
 obtain ⟨T10, X10, e10, st10⟩ := getF X9 hx hZ hown (host := "") (Or.inl (Wd hw 81 rfl)) Via.refl rfl ((F_items_x.keep Kc7 nin0).keep Kc9 (ninS nq_x_lh (ninS nq_x_hp (ninS nq_x_sl (ninS nq_x_ix nin0))))) (g := (mkF m 65 #[.val (.ref x), .val (.long hs), .second, .val (.ref bf), .val (.int fo), .val (.int ln), .val (.int (-1 : Int32)), .val (.ref rt_7), .val (.int (1 : Int32))] [(.ref x)])) rfl rfl (hb hby d11_65)
 obtain ⟨cl11, Ar11, q11, S11, M11, Hs11, G11⟩ := ((V_it.keep Kc7 nin0).keep Kc9 (ninS nq_it_lh (ninS nq_it_hp (ninS nq_it_sl (ninS nq_it_ix nin0)))))
 have hin11 : ¬ ((1 : Int32) < 0 ∨ cl11.slots.size ≤ ((1 : Int32)).toNatClampNeg) := inb_of S11 ⟨by decide, hzk⟩
 obtain ⟨T12, h12, X12, e12, W12, st12⟩ := stR X10 hx hZ e10 Ar11 (j := (1 : Int32)) hin11 rfl (Sto.ofVA Ar11 q11 ovr (Ins.self (q7_0.keep Kc9))) (g := (mkF m 72 #[.val (.ref x), .val (.long hs), .second, .val (.ref bf), .val (.int fo), .val (.int ln), .val (.int (-1 : Int32)), .val (.ref rt_7), .val (.int (1 : Int32))] [(.ref rt_7), (.int (1 : Int32)), (.ref it)])) rfl rfl (hb hby d11_72)
 have V12 : Arv Z h12 it k_it (.array .byte) kl [(.ref ia), (.ref rt_7), .null] .null := Arv.set Ar11 q11 S11 M11 Hs11 G11 rfl W12 1 rfl (Nat.le_of_ble_eq_true rfl)
 have K12 : Keep h0 h12 [x, lh, hp, sl, ix, it, ct] := K9.wr W12 (Or.inl (List.mem_of_getElem? (i := 5) rfl))
 have Zs12 : n0 ≤ h12.size := Nat.le_trans Zs9 (Keep.of_wr W12).1
 have N12 := Fr.snoc X12 N9 g_it
 obtain ⟨T13, X13, e13, st13⟩ := getF X12 hx hZ hown (host := "") (Or.inl (Wd hw 83 rfl)) Via.refl e12 (Fld.other W12 ((F_counts_x.keep Kc7 nin0).keep Kc9 (ninS nq_x_lh (ninS nq_x_hp (ninS nq_x_sl (ninS nq_x_ix nin0))))) (Or.inl nq_x_it)) (g := (mkF m 74 #[.val (.ref x), .val (.long hs), .second, .val (.ref bf), .val (.int fo), .val (.int ln), .val (.int (-1 : Int32)), .val (.ref rt_7), .val (.int (1 : Int32))] [(.ref x)])) rfl rfl (hb hby d11_74)
 obtain ⟨cl14, Ar14, q14, S14, M14, Hs14, G14⟩ := (((V_ct.keep Kc7 nin0).keep Kc9 (ninS nq_ct_lh (ninS (Ne.symm ne_hp_ct) (ninS (Ne.symm ne_sl_ct) (ninS nq_ct_ix nin0))))).other W12 nq_ct_it)
 have hin14 : ¬ ((1 : Int32) < 0 ∨ cl14.slots.size ≤ ((1 : Int32)).toNatClampNeg) := inb_of S14 ⟨by decide, hzk⟩
 obtain ⟨T15, h15, X15, e15, W15, st15⟩ := stJ X13 hx hZ e13 Ar14 (j := (1 : Int32)) hin14 (g := (mkF m 80 #[.val (.ref x), .val (.long hs), .second, .val (.ref bf), .val (.int fo), .val (.int ln), .val (.int (-1 : Int32)), .val (.ref rt_7), .val (.int (1 : Int32))] [(.long (1 : Int64)), (.int (1 : Int32)), (.ref ct)])) rfl rfl (hb hby d11_80)
 have V15 : Arv Z h15 ct k_ct .long kl [(.long ca), (.long (1 : Int64)), (.long cc)] (.long (0 : Int64)) := Arv.set Ar14 q14 S14 M14 Hs14 G14 rfl W15 1 rfl (Nat.le_of_ble_eq_true rfl)
 have K15 : Keep h0 h15 [x, lh, hp, sl, ix, it, ct] := K12.wr W15 (Or.inl (List.mem_of_getElem? (i := 6) rfl))
 have Zs15 : n0 ≤ h15.size := Nat.le_trans Zs12 (Keep.of_wr W15).1
 have N15 := Fr.snoc X15 N12 g_ct
 obtain ⟨T16, X16, e16, st16⟩ := getF X15 hx hZ hown (host := "") (Or.inl (Wd hw 137 rfl)) Via.refl e15 (Fld.other W15 (Fld.other W12 ((F_records_x.keep Kc7 nin0).keep Kc9 (ninS nq_x_lh (ninS nq_x_hp (ninS nq_x_sl (ninS nq_x_ix nin0))))) (Or.inl nq_x_it)) (Or.inl nq_x_ct)) (g := (mkF m 83 #[.val (.ref x), .val (.long hs), .second, .val (.ref bf), .val (.int fo), .val (.int ln), .val (.int (-1 : Int32)), .val (.ref rt_7), .val (.int (1 : Int32))] [(.ref x), (.ref x)])) rfl rfl (hb hby d11_83)
 obtain ⟨T17, h17, X17, e17, W17, st17⟩ := putF X16 hx hZ hown (host := "") (Or.inl (Wd hw 137 rfl)) Via.refl e16 (Fld.other W15 (Fld.other W12 ((F_records_x.keep Kc7 nin0).keep Kc9 (ninS nq_x_lh (ninS nq_x_hp (ninS nq_x_sl (ninS nq_x_ix nin0))))) (Or.inl nq_x_it)) (Or.inl nq_x_ct)) ((((E_x.keep Kc7).keep Kc9).wr W12).wr W15) (Or.inl (Wd hw 138 rfl)) (Wd hw 2 rfl) (ty := .long) (by decide) rfl rfl (g := (mkF m 88 #[.val (.ref x), .val (.long hs), .second, .val (.ref bf), .val (.int fo), .val (.int ln), .val (.int (-1 : Int32)), .val (.ref rt_7), .val (.int (1 : Int32))] [(.long (rd + (1 : Int64))), (.ref x)])) rfl rfl (hb hby d11_88)
 have F17 : Fld Z h17 x cRE "records" "J" (.long (rd + (1 : Int64))) := Fld.same W17 (Fld.other W15 (Fld.other W12 ((F_records_x.keep Kc7 nin0).keep Kc9 (ninS nq_x_lh (ninS nq_x_hp (ninS nq_x_sl (ninS nq_x_ix nin0))))) (Or.inl nq_x_it)) (Or.inl nq_x_ct))
 have K17 : Keep h0 h17 [x, lh, hp, sl, ix, it, ct] := K15.wr W17 (Or.inl (List.mem_of_getElem? (i := 0) rfl))
 have Zs17 : n0 ≤ h17.size := Nat.le_trans Zs15 (Keep.of_wr W17).1
 have N17 := Fr.snoc X17 N15 g_x
 obtain ⟨fs, hr, hrun, hended, hW, hsame⟩ := X17.leave (v := none) (fun _ => rfl) hlk
 refine ⟨_, _, (pre0 _ (r3 _ (r4 _ ?_))), hrun, hended, _, _, rfl, ?_, ⟨_, rfl⟩, hW, hsame.mono (by decide) (by decide)⟩
 ·show Steps p.tables e below (T2.setTop (mkF m 10 #[.val (.ref x), .val (.long hs), .second, .val (.ref bf), .val (.int fo), .val (.int ln), .val (.int (-1 : Int32)), .unset, .unset] [])) _
  refine XS.iload X2.here hx rfl (hb hby d11_10) rfl ?_
  refine XS.iconst X2.here hx rfl (hb hby d11_12) ?_
  refine XS.icmpYes X2.here hx rfl (pc0 := 13) (pc' := 30) rfl (hb hby d11_13) rfl (teq (by decide : (-1 : Int32) = (-1 : Int32))).1 (by decide) (by decide) ?_
  refine XS.aloadN X2.here hx rfl (hb hby d11_30) rfl rfl ?_
  refine st5 _ ?_
  refine XS.lloadN X5.here hx rfl (hb hby d11_34) rfl ?_
  refine st6.trans ?_
  refine XS.ifNo X6.here hx rfl (hb hby d11_38) rfl ((if0 _ _).trans (feq (own_ad1 (own_ltne hzk))).1) ?_
  refine XS.aloadN X6.here hx rfl (hb hby d11_41) rfl rfl ?_
  refine XS.iload X6.here hx rfl (hb hby d11_42) rfl ?_
  refine XS.iload X6.here hx rfl (hb hby d11_44) rfl ?_
  refine XS.iload X6.here hx rfl (hb hby d11_46) rfl ?_
  refine XS.iadd X6.here hx rfl (hb hby d11_48) rfl ?_
  refine st7 _ ?_
  refine XS.astore X7.here hx rfl (hb hby d11_52) rfl rfl (l' := #[.val (.ref x), .val (.long hs), .second, .val (.ref bf), .val (.int fo), .val (.int ln), .val (.int (-1 : Int32)), .val (.ref rt_7), .unset]) rfl ?_
  refine XS.aloadN X7.here hx rfl (hb hby d11_54) rfl rfl ?_
  refine st8 _ ?_
  refine XS.lloadN X8.here hx rfl (hb hby d11_58) rfl ?_
  refine st9.trans ?_
  refine XS.istore X9.here hx rfl (hb hby d11_62) rfl (l' := #[.val (.ref x), .val (.long hs), .second, .val (.ref bf), .val (.int fo), .val (.int ln), .val (.int (-1 : Int32)), .val (.ref rt_7), .val (.int (1 : Int32))]) rfl ?_
  refine XS.aloadN X9.here hx rfl (hb hby d11_64) rfl rfl ?_
  refine st10 _ ?_
  refine XS.iload X10.here hx rfl (hb hby d11_68) rfl ?_
  refine XS.aload X10.here hx rfl (hb hby d11_70) rfl rfl ?_
  refine st12 _ ?_
  refine XS.aloadN X12.here hx rfl (hb hby d11_73) rfl rfl ?_
  refine st13 _ ?_
  refine XS.iload X13.here hx rfl (hb hby d11_77) rfl ?_
  refine XS.lconst X13.here hx rfl (hb hby d11_79) ?_
  refine st15 _ ?_
  refine XS.aloadN X15.here hx rfl (hb hby d11_81) rfl rfl ?_
  refine XS.dup X15.here hx rfl (hb hby d11_82) rfl rfl ?_
  refine st16 _ ?_
  refine XS.lconst X16.here hx rfl (hb hby d11_86) ?_
  refine XS.ladd X16.here hx rfl (hb hby d11_87) rfl ?_
  refine st17 _ ?_
  exact X17.returnOut hx Bd.returns (hb hby d11_91) hr
 ·show QONb Z x hs bf fo ln lh it ct rd hp sl ix mk xa xb xc kl k_hp nl k_sl sv k_ix iv ca cb cc k_ct ia k_it rr k_bf h0 n0 _ T17.heap _
  rw [e17]
  exact ⟨rt_7, k_rt_7, lw_7, ca, (1 : Int64), cc, rfl, N17, K17, g_rt_7, sz_rt_7, (((((E_x.keep Kc7).keep Kc9).wr W12).wr W15).wr W17), (Fld.other W17 (Fld.other W15 (Fld.other W12 ((F_kept_x.keep Kc7 nin0).keep Kc9 (ninS nq_x_lh (ninS nq_x_hp (ninS nq_x_sl (ninS nq_x_ix nin0))))) (Or.inl nq_x_it)) (Or.inl nq_x_ct)) (Or.inr (slot_ne (Or.inr (Wd hw 78 rfl)) (Or.inl (Wd hw 138 rfl)) (by decide) (t := (.object cLH)) (t' := .long) (by decide) (by decide)))), (Fld.other W17 (Fld.other W15 (Fld.other W12 ((F_items_x.keep Kc7 nin0).keep Kc9 (ninS nq_x_lh (ninS nq_x_hp (ninS nq_x_sl (ninS nq_x_ix nin0))))) (Or.inl nq_x_it)) (Or.inl nq_x_ct)) (Or.inr (slot_ne (Or.inr (Wd hw 82 rfl)) (Or.inl (Wd hw 138 rfl)) (by decide) (t := (.array (.array .byte))) (t' := .long) (by decide) (by decide)))), (Fld.other W17 (Fld.other W15 (Fld.other W12 ((F_counts_x.keep Kc7 nin0).keep Kc9 (ninS nq_x_lh (ninS nq_x_hp (ninS nq_x_sl (ninS nq_x_ix nin0))))) (Or.inl nq_x_it)) (Or.inl nq_x_ct)) (Or.inr (slot_ne (Or.inr (Wd hw 84 rfl)) (Or.inl (Wd hw 138 rfl)) (by decide) (t := (.array .long)) (t' := .long) (by decide) (by decide)))), F17, (((q9_0.wr W12).wr W15).wr W17), (Fld.other W17 (Fld.other W15 (Fld.other W12 q9_1 (Or.inl nq_it_lh.symm)) (Or.inl nq_ct_lh.symm)) (Or.inl nq_x_lh.symm)), (Fld.other W17 (Fld.other W15 (Fld.other W12 q9_2 (Or.inl nq_it_lh.symm)) (Or.inl nq_ct_lh.symm)) (Or.inl nq_x_lh.symm)), (Fld.other W17 (Fld.other W15 (Fld.other W12 q9_3 (Or.inl nq_it_lh.symm)) (Or.inl nq_ct_lh.symm)) (Or.inl nq_x_lh.symm)), (Fld.other W17 (Fld.other W15 (Fld.other W12 q9_4 (Or.inl nq_it_lh.symm)) (Or.inl nq_ct_lh.symm)) (Or.inl nq_x_lh.symm)), (Fld.other W17 (Fld.other W15 (Fld.other W12 q9_5 (Or.inl nq_it_lh.symm)) (Or.inl nq_ct_lh.symm)) (Or.inl nq_x_lh.symm)), (((q9_6.other W12 nq_it_hp.symm).other W15 ne_hp_ct).other W17 nq_x_hp.symm), (((q9_7.other W12 nq_it_sl.symm).other W15 ne_sl_ct).other W17 nq_x_sl.symm), (((q9_8.other W12 nq_it_ix.symm).other W15 nq_ct_ix.symm).other W17 nq_x_ix.symm), ((V12.other W15 nq_ct_it.symm).other W17 nq_x_it.symm), (V15.other W17 nq_x_ct.symm), ((((q7_1.keep Kc9 (ninS (Ne.symm ((nlt E_lh.lt zq_rt_7))) (ninS (Ne.symm ((nlt V_hp.lt zq_rt_7))) (ninS (Ne.symm ((nlt V_sl.lt zq_rt_7))) (ninS (Ne.symm ((nlt V_ix.lt zq_rt_7))) nin0))))).other W12 (Ne.symm ((nlt V_it.lt zq_rt_7)))).other W15 (Ne.symm ((nlt V_ct.lt zq_rt_7)))).other W17 (Ne.symm ((nlt E_x.lt zq_rt_7))))⟩
theorem efONc (m : MethodId) (x : Addr) (hs : Int64) (bf : Addr) (fo : Int32) (ln : Int32) : entryFrame m #[(.ref x), (.long hs), (.ref bf), (.int fo), (.int ln)] 9 = mkF m 0 #[.val (.ref x), .val (.long hs), .second, .val (.ref bf), .val (.int fo), .val (.int ln), .unset, .unset, .unset] [] := by first | (simp [entryFrame, mkF, argsToLocals, Value.category]; done) | rfl
def QONc (Z : State) (x : Addr) (hs : Int64) (bf : Addr) (fo : Int32) (ln : Int32) (lh : Addr) (it : Addr) (ct : Addr) (rd : Int64) (hp : Addr) (sl : Addr) (ix : Addr) (mk : Int32) (xa : Int64) (xb : Int64) (xc : Int64) (kl : Int32) (k_hp : ClassId) (nl : Int32) (k_sl : ClassId) (sv : List Int64) (k_ix : ClassId) (iv : List Int32) (ca : Int64) (cb : Int64) (cc : Int64) (k_ct : ClassId) (ia : Addr) (ib : Addr) (k_it : ClassId) (rr : Int32) (k_bf : ClassId) (h0 : Heap) (n0 : Nat) (v : Option Value) (h : Heap) (L : List Loc) : Prop := ∃ rt : Addr, ∃ k_rt : ClassId, ∃ lw : List Value, ∃ da : Int64, ∃ db : Int64, ∃ dc : Int64, v = none ∧ Fr n0 L ∧ Keep h0 h [x, lh, hp, sl, ix, it, ct] ∧ n0 ≤ rt ∧ h0.size ≤ rt ∧ Exa Z h x cRE ∧ Fld Z h x cRE "kept" "Lcom/example/tallysketch/tallysketch/LargestHashes;" (.ref lh) ∧ Fld Z h x cRE "items" "[[B" (.ref it) ∧ Fld Z h x cRE "counts" "[J" (.ref ct) ∧ Fld Z h x cRE "records" "J" (.long (rd + (1 : Int64))) ∧ Exa Z h lh cLH ∧ Fld Z h lh cLH "heap" "[J" (.ref hp) ∧ Fld Z h lh cLH "size" "I" (.int (3 : Int32)) ∧ Fld Z h lh cLH "slots" "[J" (.ref sl) ∧ Fld Z h lh cLH "indices" "[I" (.ref ix) ∧ Fld Z h lh cLH "mask" "I" (.int mk) ∧ Arv Z h hp k_hp .long kl [(.long (own_mn hs xa)), (.long xb), (.long (own_mx hs xa))] (.long (0 : Int64)) ∧ Arv Z h sl k_sl .long nl ((sv.set rr.toNatClampNeg hs).map Value.long) (.long (0 : Int64)) ∧ Arv Z h ix k_ix .int nl ((iv.set rr.toNatClampNeg (2 : Int32)).map Value.int) (.int (0 : Int32)) ∧ Arv Z h it k_it (.array .byte) kl [(.ref ia), (.ref ib), (.ref rt)] .null ∧ Arv Z h ct k_ct .long kl [(.long da), (.long db), (.long dc)] (.long (0 : Int64)) ∧ Arv Z h rt k_rt .byte ln lw (.int (0 : Int32))
set_option maxRecDepth 65536 in
set_option maxHeartbeats 40000000 in
theorem rmONc (l : Launch) (Z : State) (a0 : Array Value) (hw : ∀ d ∈ tables_1, d.before a0 Z = true) (ws : List Jvm.Cond) (x : Addr) (hs : Int64) (bf : Addr) (fo : Int32) (ln : Int32) (lh : Addr) (it : Addr) (ct : Addr) (rd : Int64) (hp : Addr) (sl : Addr) (ix : Addr) (mk : Int32) (xa : Int64) (xb : Int64) (xc : Int64) (kl : Int32) (k_hp : ClassId) (nl : Int32) (k_sl : ClassId) (sv : List Int64) (k_ix : ClassId) (iv : List Int32) (ca : Int64) (cb : Int64) (cc : Int64) (k_ct : ClassId) (ia : Addr) (ib : Addr) (k_it : ClassId) (rr : Int32) (k_bf : ClassId) (h0 : Heap) (n0 : Nat) (Z0 : n0 ≤ h0.size) (E_x : Exa Z h0 x cRE) (F_kept_x : Fld Z h0 x cRE "kept" "Lcom/example/tallysketch/tallysketch/LargestHashes;" (.ref lh)) (F_items_x : Fld Z h0 x cRE "items" "[[B" (.ref it)) (F_counts_x : Fld Z h0 x cRE "counts" "[J" (.ref ct)) (F_records_x : Fld Z h0 x cRE "records" "J" (.long rd)) (E_lh : Exa Z h0 lh cLH) (F_heap_lh : Fld Z h0 lh cLH "heap" "[J" (.ref hp)) (F_size_lh : Fld Z h0 lh cLH "size" "I" (.int (2 : Int32))) (F_slots_lh : Fld Z h0 lh cLH "slots" "[J" (.ref sl)) (F_indices_lh : Fld Z h0 lh cLH "indices" "[I" (.ref ix)) (F_mask_lh : Fld Z h0 lh cLH "mask" "I" (.int mk)) (V_hp : Arv Z h0 hp k_hp .long kl [(.long xa), (.long xb), (.long xc)] (.long (0 : Int64))) (V_sl : Arv Z h0 sl k_sl .long nl (sv.map Value.long) (.long (0 : Int64))) (V_ix : Arv Z h0 ix k_ix .int nl (iv.map Value.int) (.int (0 : Int32))) (V_ct : Arv Z h0 ct k_ct .long kl [(.long ca), (.long cb), (.long cc)] (.long (0 : Int64))) (V_it : Arv Z h0 it k_it (.array .byte) kl [(.ref ia), (.ref ib), .null] .null) (K : own_kmn kl mk nl) (ne_hp_sl : hp ≠ sl) (ne_hp_ct : hp ≠ ct) (ne_sl_ct : sl ≠ ct) (ovr : OvrA Z k_it .byte "[B") (hr : own_run sv iv mk hs 8 (hs.toInt32 &&& mk) = some rr) (hl8 : sv.length = 8 ∧ iv.length = 8) (hzk : (2 : Int32) < kl) (hnew : own_get iv rr = (-1 : Int32)) (V_bf : Arv Z h0 bf k_bf .byte (10 : Int32) [(.int (0 : Int32)), (.int (0 : Int32)), (.int (0 : Int32)), (.int (0 : Int32)), (.int (0 : Int32)), (.int (0 : Int32)), (.int (0 : Int32)), (.int (0 : Int32)), (.int (0 : Int32)), (.int (0 : Int32))] (.int (0 : Int32))) (hfo : 0 ≤ fo.toInt ∧ fo.toInt ≤ 3) (hln : 0 ≤ ln.toInt ∧ ln.toInt ≤ 7) (g_x : n0 ≤ x) (g_lh : n0 ≤ lh) (g_hp : n0 ≤ hp) (g_sl : n0 ≤ sl) (g_ix : n0 ≤ ix) (g_it : n0 ≤ it) (g_ct : n0 ≤ ct) :
  MetFree l (⟨cRE, "offerItem", "(J[BII)V"⟩ : MethodName) (head1 (Jvm.Cond.code (⟨cRE, "offerItem", "(J[BII)V"⟩ : MethodName) prog_7_method_11_code 9 none :: ws) ({ frames := 4, cells := 1, slots := 7, locals := 140 } : Room)) (fun av_ U => av_ = #[(.ref x), (.long hs), (.ref bf), (.int fo), (.int ln)] ∧ Z.Warmed39 U.vm ∧ U.heap = h0) (fun _ _ _ _ _ => True) (fun _ U o U' => ∃ v L, o = .returned v ∧ QONc Z x hs bf fo ln lh it ct rd hp sl ix mk xa xb xc kl k_hp nl k_sl sv k_ix iv ca cb cc k_ct ia ib k_it rr k_bf h0 n0 v U'.heap L ∧ FrameEnd U o U' L ({ frames := 4, cells := 1, slots := 7, locals := 140 } : Room).cells ({ frames := 4, cells := 1, slots := 7, locals := 140 } : Room).slots) := by
 refine MetFree.of_bodySF (plainFor_of_name own_pn3) hisR ?_
 intro p e s m args below meth c s₁ Bd hml0 hP hK
 obtain ⟨rfl, hZ, hh⟩ := hP
 have hx := Bd.exec
 have hby := Bd.bytes
 have hml : c.maxLocals = 9 := hml0
 have hown : s.vm.findClass cRE = some m.cls := findClass_of_methodNamed Bd.named
 have hnm := (name_of_methodNamed Bd.named Bd.method).1
 have X0 : Stand p l e ({ frames := 4, cells := 1, slots := 7, locals := 140 } : Room) s m #[(.ref x), (.long hs), (.ref bf), (.int fo), (.int ln)] below meth c s₁ [] 0 0 := Stand.of_body Bd
 have e0 : s₁.heap = h0 := by rw [← hh, Bd.state]; rfl
 have N0 := Fr.nil n0
 have hlk : meth.locks = false := Bd.notSynchronized
 have pre0 : ∀ t, Steps p.tables e below (s₁.setTop (mkF m 0 #[.val (.ref x), .val (.long hs), .second, .val (.ref bf), .val (.int fo), .val (.int ln), .unset, .unset, .unset] [])) t → Steps p.tables e below (s₁.setTop (entryFrame m #[(.ref x), (.long hs), (.ref bf), (.int fo), (.int ln)] 9)) t := fun t k => castTop (efONc m x hs bf fo ln) k
 have nq_x_ix : x ≠ ix := (Exa.neArv E_x V_ix (Wd hw 2 rfl))
 have nq_x_sl : x ≠ sl := (Exa.neArv E_x V_sl (Wd hw 2 rfl))
 have nq_x_hp : x ≠ hp := (Exa.neArv E_x V_hp (Wd hw 2 rfl))
 have nq_x_lh : x ≠ lh := (Exa.ne E_x E_lh (by decide))
 have nq_it_ix : it ≠ ix := (own_neT V_it V_ix (by simp))
 have nq_it_sl : it ≠ sl := (own_neT V_it V_sl (by simp))
 have nq_it_hp : it ≠ hp := (own_neT V_it V_hp (by simp))
 have nq_it_lh : it ≠ lh := (Ne.symm (Exa.neArv E_lh V_it (Wd hw 49 rfl)))
 have nq_x_it : x ≠ it := (Exa.neArv E_x V_it (Wd hw 2 rfl))
 have nq_ct_ix : ct ≠ ix := (own_neT V_ct V_ix (by simp))
 have nq_ct_lh : ct ≠ lh := (Ne.symm (Exa.neArv E_lh V_ct (Wd hw 49 rfl)))
 have nq_ct_it : ct ≠ it := (own_neT V_ct V_it (by simp))
 have nq_x_ct : x ≠ ct := (Exa.neArv E_x V_ct (Wd hw 2 rfl))
 obtain ⟨T1, X1, e1, st1⟩ := getF X0 hx hZ hown (host := "") (Or.inl (Wd hw 77 rfl)) Via.refl e0 F_kept_x (g := (mkF m 1 #[.val (.ref x), .val (.long hs), .second, .val (.ref bf), .val (.int fo), .val (.int ln), .unset, .unset, .unset] [(.ref x)])) rfl rfl (hb hby d11_1)
 obtain ⟨cq2, kq2, q2a, q2b, q2c⟩ := isOf hZ e1 E_lh
 obtain ⟨_, _, ⟨T2, L2, k2, n2⟩, -, X2, ⟨Lc2, hQ2, l2, y2, z2⟩, st2⟩ := X1.virtualBack hx (y := (⟨cLH, "indexOf", "(J)I"⟩ : MethodName)) (z := (⟨cLH, "indexOf", "(J)I"⟩ : MethodName)) hown (mvT hZ (Wd hw 90 rfl)) (mvT hZ (Wd hw 91 rfl)) (notFace_of_selects (args := #[]) (mvT hZ (Wd hw 93 rfl))) (mvT hZ (Wd hw 93 rfl)) (mvT hZ (Wd hw 92 rfl)) (by decide) (backOf (W := 0) (rmIO l Z a0 hw [] lh hs hp (2 : Int32) sl ix mk xa xb xc kl k_hp nl k_sl sv k_ix iv rr h0 n0 Z0 E_lh F_heap_lh F_size_lh F_slots_lh F_indices_lh F_mask_lh V_hp V_sl V_ix K hr) hZ (Wd hw 94 rfl) (Wd hw 50 rfl) (by decide) (by decide)) q2a q2c (g := (mkF m 5 #[.val (.ref x), .val (.long hs), .second, .val (.ref bf), .val (.int fo), .val (.int ln), .unset, .unset, .unset] [(.long hs), (.ref lh)])) rfl (by rw [hml]; rfl) (Steps.refl _) (argsL := [(.long hs)]) (rest := []) (lenOf own_pd2 rfl) rfl (by show 2 * 0 + _ ≤ _; exact Nat.le_of_eq rfl) (hb hby d11_5) (fun _ _ => ⟨rfl, e1, (by decide : 0 + 0 ≤ _), (by decide : 0 + 0 ≤ _)⟩)
 dsimp only [Pt.U, Pt.locs, Pt.cells, Pt.slots] at X2 l2 y2 z2 st2 hQ2
 subst l2 y2 z2
 obtain ⟨rfl, Nq2, e2⟩ := hQ2
 have N2 := Fr.app N0 Nq2
 have r3 : ∀ t, Steps p.tables e below (T2.setTop (mkF m 10 #[.val (.ref x), .val (.long hs), .second, .val (.ref bf), .val (.int fo), .val (.int ln), .val (.int (own_ix (2 : Int32) kl hs xa iv rr)), .unset, .unset] [])) t → Steps p.tables e below (s₁.setTop (mkF m 0 #[.val (.ref x), .val (.long hs), .second, .val (.ref bf), .val (.int fo), .val (.int ln), .unset, .unset, .unset] [])) t := fun t kt => by
  refine XS.aloadN X0.here hx rfl (hb hby d11_0) rfl rfl ?_
  refine st1 _ ?_
  refine XS.lloadN X1.here hx rfl (hb hby d11_4) rfl ?_
  refine st2.trans ?_
  refine XS.istore X2.here hx rfl (hb hby d11_8) rfl (l' := #[.val (.ref x), .val (.long hs), .second, .val (.ref bf), .val (.int fo), .val (.int ln), .val (.int (own_ix (2 : Int32) kl hs xa iv rr)), .unset, .unset]) rfl ?_
  exact kt
 have r4 : ∀ t, Steps p.tables e below (T2.setTop (mkF m 10 #[.val (.ref x), .val (.long hs), .second, .val (.ref bf), .val (.int fo), .val (.int ln), .val (.int (-1 : Int32)), .unset, .unset] [])) t → Steps p.tables e below (T2.setTop (mkF m 10 #[.val (.ref x), .val (.long hs), .second, .val (.ref bf), .val (.int fo), .val (.int ln), .val (.int (own_ix (2 : Int32) kl hs xa iv rr)), .unset, .unset] [])) t := fun t kt => by
  have q : (own_ix (2 : Int32) kl hs xa iv rr) = (-1 : Int32) := (own_ixm hnew)
  rw [q]
  exact kt
 obtain ⟨T5, X5, e5, st5⟩ := getF X2 hx hZ hown (host := "") (Or.inl (Wd hw 77 rfl)) Via.refl e2 F_kept_x (g := (mkF m 31 #[.val (.ref x), .val (.long hs), .second, .val (.ref bf), .val (.int fo), .val (.int ln), .val (.int (-1 : Int32)), .unset, .unset] [(.ref x)])) rfl rfl (hb hby d11_31)
 obtain ⟨cq6, kq6, q6a, q6b, q6c⟩ := isOf hZ e5 E_lh
 obtain ⟨_, _, ⟨T6, L6, k6, n6⟩, -, X6, ⟨Lc6, hQ6, l6, y6, z6⟩, st6⟩ := X5.virtualBack hx (y := (⟨cLH, "admits", "(J)Z"⟩ : MethodName)) (z := (⟨cLH, "admits", "(J)Z"⟩ : MethodName)) hown (mvT hZ (Wd hw 105 rfl)) (mvT hZ (Wd hw 106 rfl)) (notFace_of_selects (args := #[]) (mvT hZ (Wd hw 108 rfl))) (mvT hZ (Wd hw 108 rfl)) (mvT hZ (Wd hw 107 rfl)) (by decide) (backOf (W := 0) (rmAD l Z a0 hw [] lh hs hp (2 : Int32) xa xb xc kl k_hp h0 n0 Z0 E_lh F_heap_lh F_size_lh V_hp (own_kpos K)) hZ (Wd hw 109 rfl) (Wd hw 50 rfl) (by decide) (by decide)) q6a q6c (g := (mkF m 35 #[.val (.ref x), .val (.long hs), .second, .val (.ref bf), .val (.int fo), .val (.int ln), .val (.int (-1 : Int32)), .unset, .unset] [(.long hs), (.ref lh)])) rfl (by rw [hml]; rfl) (Steps.refl _) (argsL := [(.long hs)]) (rest := []) (lenOf own_pd7 rfl) rfl (by show 2 * 0 + _ ≤ _; exact Nat.le_of_eq rfl) (hb hby d11_35) (fun _ _ => ⟨rfl, e5, (by decide : 0 + 0 ≤ _), (by decide : 0 + 0 ≤ _)⟩)
 dsimp only [Pt.U, Pt.locs, Pt.cells, Pt.slots] at X6 l6 y6 z6 st6 hQ6
 subst l6 y6 z6
 obtain ⟨rfl, Nq6, e6⟩ := hQ6
 have N6 := Fr.app N2 Nq6
 obtain ⟨_, _, ⟨T7, L7, k7, n7⟩, -, X7, ⟨Lc7, hQ7, l7, y7, z7⟩, st7⟩ := Jvm.LawKit.callS X6 hx (y := (⟨"java/util/Arrays", "copyOfRange", "([BII)[B"⟩ : MethodName)) hown (mvT hZ (Wd hw 110 rfl)) (mvT hZ (Wd hw 111 rfl)) (mvT hZ (Wd hw 73 rfl)) (mvT hZ (Wd hw 112 rfl)) (by decide) (backOf (W := 0) (rmCR l Z a0 hw [] bf fo ln k_bf h0 n0 Z0 V_bf hfo hln) hZ (Wd hw 112 rfl) (Wd hw 73 rfl) (by decide) (by decide)) (g := (mkF m 49 #[.val (.ref x), .val (.long hs), .second, .val (.ref bf), .val (.int fo), .val (.int ln), .val (.int (-1 : Int32)), .unset, .unset] [(.int (fo + ln)), (.int fo), (.ref bf)])) rfl (by rw [hml]; rfl) (argsL := [(.ref bf), (.int fo), (.int (fo + ln))]) (rest := []) (lenOf own_pd6 rfl) rfl (by show 2 * 0 + _ ≤ _; exact Nat.le_of_eq rfl) (hb hby d11_49) (fun _ _ => ⟨rfl, e6, (by decide : 0 + 1 ≤ _), (by decide : 0 + 7 ≤ _)⟩)
 dsimp only [Pt.U, Pt.locs, Pt.cells, Pt.slots] at X7 l7 y7 z7 st7 hQ7
 subst l7 y7 z7
 obtain ⟨rt_7, k_rt_7, lw_7, rfl, Nq7, Kc7, g_rt_7, zq_rt_7, q7_0, q7_1⟩ := hQ7
 have sz_rt_7 : h0.size ≤ rt_7 := Nat.le_trans (Keep.refl h0 [x, lh, hp, sl, ix, it, ct]).1 zq_rt_7
 have K7 : Keep h0 T7.heap [x, lh, hp, sl, ix, it, ct] := Keep.trans (Keep.refl h0 [x, lh, hp, sl, ix, it, ct]) Kc7 all0
 have Zs7 : n0 ≤ T7.heap.size := Nat.le_trans Z0 Kc7.1
 have N7 := Fr.app N6 Nq7
 obtain ⟨T8, X8, e8, st8⟩ := getF X7 hx hZ hown (host := "") (Or.inl (Wd hw 77 rfl)) Via.refl rfl (F_kept_x.keep Kc7 nin0) (g := (mkF m 55 #[.val (.ref x), .val (.long hs), .second, .val (.ref bf), .val (.int fo), .val (.int ln), .val (.int (-1 : Int32)), .val (.ref rt_7), .unset] [(.ref x)])) rfl rfl (hb hby d11_55)
 obtain ⟨cq9, kq9, q9a, q9b, q9c⟩ := isOf hZ e8 (E_lh.keep Kc7)
 obtain ⟨_, _, ⟨T9, L9, k9, n9⟩, -, X9, ⟨Lc9, hQ9, l9, y9, z9⟩, st9⟩ := X8.virtualBack hx (y := (⟨cLH, "add", "(J)I"⟩ : MethodName)) (z := (⟨cLH, "add", "(J)I"⟩ : MethodName)) hown (mvT hZ (Wd hw 127 rfl)) (mvT hZ (Wd hw 128 rfl)) (notFace_of_selects (args := #[]) (mvT hZ (Wd hw 130 rfl))) (mvT hZ (Wd hw 130 rfl)) (mvT hZ (Wd hw 129 rfl)) (by decide) (backOf (W := 0) (rmANc l Z a0 hw [] lh hs hp sl ix mk xa xb xc kl k_hp nl k_sl sv k_ix iv rr T7.heap n0 Zs7 (E_lh.keep Kc7) (F_heap_lh.keep Kc7 nin0) (F_size_lh.keep Kc7 nin0) (F_slots_lh.keep Kc7 nin0) (F_indices_lh.keep Kc7 nin0) (F_mask_lh.keep Kc7 nin0) (V_hp.keep Kc7 nin0) (V_sl.keep Kc7 nin0) (V_ix.keep Kc7 nin0) K hr hl8 hzk ne_hp_sl g_lh g_hp g_sl g_ix) hZ (Wd hw 131 rfl) (Wd hw 50 rfl) (by decide) (by decide)) q9a q9c (g := (mkF m 59 #[.val (.ref x), .val (.long hs), .second, .val (.ref bf), .val (.int fo), .val (.int ln), .val (.int (-1 : Int32)), .val (.ref rt_7), .unset] [(.long hs), (.ref lh)])) rfl (by rw [hml]; rfl) (Steps.refl _) (argsL := [(.long hs)]) (rest := []) (lenOf own_pd2 rfl) rfl (by show 2 * 0 + _ ≤ _; exact Nat.le_of_eq rfl) (hb hby d11_59) (fun _ _ => ⟨rfl, e8, (by decide : 1 + 0 ≤ _), (by decide : 7 + 0 ≤ _)⟩)
 dsimp only [Pt.U, Pt.locs, Pt.cells, Pt.slots] at X9 l9 y9 z9 st9 hQ9
 subst l9 y9 z9
 obtain ⟨rfl, Nq9, Kc9, q9_0, q9_1, q9_2, q9_3, q9_4, q9_5, q9_6, q9_7, q9_8⟩ := hQ9
 have K9 : Keep h0 T9.heap [x, lh, hp, sl, ix, it, ct] := Keep.trans K7 Kc9 (allS (Or.inl (List.mem_of_getElem? (i := 1) rfl)) (allS (Or.inl (List.mem_of_getElem? (i := 2) rfl)) (allS (Or.inl (List.mem_of_getElem? (i := 3) rfl)) (allS (Or.inl (List.mem_of_getElem? (i := 4) rfl)) all0))))
 have Zs9 : n0 ≤ T9.heap.size := Nat.le_trans Zs7 Kc9.1
 have N9 := Fr.app N7 Nq9
 obtain ⟨T10, X10, e10, st10⟩ := getF X9 hx hZ hown (host := "") (Or.inl (Wd hw 81 rfl)) Via.refl rfl ((F_items_x.keep Kc7 nin0).keep Kc9 (ninS nq_x_lh (ninS nq_x_hp (ninS nq_x_sl (ninS nq_x_ix nin0))))) (g := (mkF m 65 #[.val (.ref x), .val (.long hs), .second, .val (.ref bf), .val (.int fo), .val (.int ln), .val (.int (-1 : Int32)), .val (.ref rt_7), .val (.int (2 : Int32))] [(.ref x)])) rfl rfl (hb hby d11_65)
 obtain ⟨cl11, Ar11, q11, S11, M11, Hs11, G11⟩ := ((V_it.keep Kc7 nin0).keep Kc9 (ninS nq_it_lh (ninS nq_it_hp (ninS nq_it_sl (ninS nq_it_ix nin0)))))
 have hin11 : ¬ ((2 : Int32) < 0 ∨ cl11.slots.size ≤ ((2 : Int32)).toNatClampNeg) := inb_of S11 ⟨by decide, hzk⟩
 obtain ⟨T12, h12, X12, e12, W12, st12⟩ := stR X10 hx hZ e10 Ar11 (j := (2 : Int32)) hin11 rfl (Sto.ofVA Ar11 q11 ovr (Ins.self (q7_0.keep Kc9))) (g := (mkF m 72 #[.val (.ref x), .val (.long hs), .second, .val (.ref bf), .val (.int fo), .val (.int ln), .val (.int (-1 : Int32)), .val (.ref rt_7), .val (.int (2 : Int32))] [(.ref rt_7), (.int (2 : Int32)), (.ref it)])) rfl rfl (hb hby d11_72)
 have V12 : Arv Z h12 it k_it (.array .byte) kl [(.ref ia), (.ref ib), (.ref rt_7)] .null := Arv.set Ar11 q11 S11 M11 Hs11 G11 rfl W12 2 rfl (Nat.le_of_ble_eq_true rfl)
 have K12 : Keep h0 h12 [x, lh, hp, sl, ix, it, ct] := K9.wr W12 (Or.inl (List.mem_of_getElem? (i := 5) rfl))
 have Zs12 : n0 ≤ h12.size := Nat.le_trans Zs9 (Keep.of_wr W12).1
 have N12 := Fr.snoc X12 N9 g_it
 obtain ⟨T13, X13, e13, st13⟩ := getF X12 hx hZ hown (host := "") (Or.inl (Wd hw 83 rfl)) Via.refl e12 (Fld.other W12 ((F_counts_x.keep Kc7 nin0).keep Kc9 (ninS nq_x_lh (ninS nq_x_hp (ninS nq_x_sl (ninS nq_x_ix nin0))))) (Or.inl nq_x_it)) (g := (mkF m 74 #[.val (.ref x), .val (.long hs), .second, .val (.ref bf), .val (.int fo), .val (.int ln), .val (.int (-1 : Int32)), .val (.ref rt_7), .val (.int (2 : Int32))] [(.ref x)])) rfl rfl (hb hby d11_74)
 obtain ⟨cl14, Ar14, q14, S14, M14, Hs14, G14⟩ := (((V_ct.keep Kc7 nin0).keep Kc9 (ninS nq_ct_lh (ninS (Ne.symm ne_hp_ct) (ninS (Ne.symm ne_sl_ct) (ninS nq_ct_ix nin0))))).other W12 nq_ct_it)
 have hin14 : ¬ ((2 : Int32) < 0 ∨ cl14.slots.size ≤ ((2 : Int32)).toNatClampNeg) := inb_of S14 ⟨by decide, hzk⟩
 obtain ⟨T15, h15, X15, e15, W15, st15⟩ := stJ X13 hx hZ e13 Ar14 (j := (2 : Int32)) hin14 (g := (mkF m 80 #[.val (.ref x), .val (.long hs), .second, .val (.ref bf), .val (.int fo), .val (.int ln), .val (.int (-1 : Int32)), .val (.ref rt_7), .val (.int (2 : Int32))] [(.long (1 : Int64)), (.int (2 : Int32)), (.ref ct)])) rfl rfl (hb hby d11_80)
 have V15 : Arv Z h15 ct k_ct .long kl [(.long ca), (.long cb), (.long (1 : Int64))] (.long (0 : Int64)) := Arv.set Ar14 q14 S14 M14 Hs14 G14 rfl W15 2 rfl (Nat.le_of_ble_eq_true rfl)
 have K15 : Keep h0 h15 [x, lh, hp, sl, ix, it, ct] := K12.wr W15 (Or.inl (List.mem_of_getElem? (i := 6) rfl))
 have Zs15 : n0 ≤ h15.size := Nat.le_trans Zs12 (Keep.of_wr W15).1
 have N15 := Fr.snoc X15 N12 g_ct
 obtain ⟨T16, X16, e16, st16⟩ := getF X15 hx hZ hown (host := "") (Or.inl (Wd hw 137 rfl)) Via.refl e15 (Fld.other W15 (Fld.other W12 ((F_records_x.keep Kc7 nin0).keep Kc9 (ninS nq_x_lh (ninS nq_x_hp (ninS nq_x_sl (ninS nq_x_ix nin0))))) (Or.inl nq_x_it)) (Or.inl nq_x_ct)) (g := (mkF m 83 #[.val (.ref x), .val (.long hs), .second, .val (.ref bf), .val (.int fo), .val (.int ln), .val (.int (-1 : Int32)), .val (.ref rt_7), .val (.int (2 : Int32))] [(.ref x), (.ref x)])) rfl rfl (hb hby d11_83)
 obtain ⟨T17, h17, X17, e17, W17, st17⟩ := putF X16 hx hZ hown (host := "") (Or.inl (Wd hw 137 rfl)) Via.refl e16 (Fld.other W15 (Fld.other W12 ((F_records_x.keep Kc7 nin0).keep Kc9 (ninS nq_x_lh (ninS nq_x_hp (ninS nq_x_sl (ninS nq_x_ix nin0))))) (Or.inl nq_x_it)) (Or.inl nq_x_ct)) ((((E_x.keep Kc7).keep Kc9).wr W12).wr W15) (Or.inl (Wd hw 138 rfl)) (Wd hw 2 rfl) (ty := .long) (by decide) rfl rfl (g := (mkF m 88 #[.val (.ref x), .val (.long hs), .second, .val (.ref bf), .val (.int fo), .val (.int ln), .val (.int (-1 : Int32)), .val (.ref rt_7), .val (.int (2 : Int32))] [(.long (rd + (1 : Int64))), (.ref x)])) rfl rfl (hb hby d11_88)
 have F17 : Fld Z h17 x cRE "records" "J" (.long (rd + (1 : Int64))) := Fld.same W17 (Fld.other W15 (Fld.other W12 ((F_records_x.keep Kc7 nin0).keep Kc9 (ninS nq_x_lh (ninS nq_x_hp (ninS nq_x_sl (ninS nq_x_ix nin0))))) (Or.inl nq_x_it)) (Or.inl nq_x_ct))
 have K17 : Keep h0 h17 [x, lh, hp, sl, ix, it, ct] := K15.wr W17 (Or.inl (List.mem_of_getElem? (i := 0) rfl))
 have Zs17 : n0 ≤ h17.size := Nat.le_trans Zs15 (Keep.of_wr W17).1
 have N17 := Fr.snoc X17 N15 g_x
 obtain ⟨fs, hr, hrun, hended, hW, hsame⟩ := X17.leave (v := none) (fun _ => rfl) hlk
 refine ⟨_, _, (pre0 _ (r3 _ (r4 _ ?_))), hrun, hended, _, _, rfl, ?_, ⟨_, rfl⟩, hW, hsame.mono (by decide) (by decide)⟩
 ·show Steps p.tables e below (T2.setTop (mkF m 10 #[.val (.ref x), .val (.long hs), .second, .val (.ref bf), .val (.int fo), .val (.int ln), .val (.int (-1 : Int32)), .unset, .unset] [])) _
  refine XS.iload X2.here hx rfl (hb hby d11_10) rfl ?_
  refine XS.iconst X2.here hx rfl (hb hby d11_12) ?_
  refine XS.icmpYes X2.here hx rfl (pc0 := 13) (pc' := 30) rfl (hb hby d11_13) rfl (teq (by decide : (-1 : Int32) = (-1 : Int32))).1 (by decide) (by decide) ?_
  refine XS.aloadN X2.here hx rfl (hb hby d11_30) rfl rfl ?_
  refine st5 _ ?_
  refine XS.lloadN X5.here hx rfl (hb hby d11_34) rfl ?_
  refine st6.trans ?_
  refine XS.ifNo X6.here hx rfl (hb hby d11_38) rfl ((if0 _ _).trans (feq (own_ad1 (own_ltne hzk))).1) ?_
  refine XS.aloadN X6.here hx rfl (hb hby d11_41) rfl rfl ?_
  refine XS.iload X6.here hx rfl (hb hby d11_42) rfl ?_
  refine XS.iload X6.here hx rfl (hb hby d11_44) rfl ?_
  refine XS.iload X6.here hx rfl (hb hby d11_46) rfl ?_
  refine XS.iadd X6.here hx rfl (hb hby d11_48) rfl ?_
  refine st7 _ ?_
  refine XS.astore X7.here hx rfl (hb hby d11_52) rfl rfl (l' := #[.val (.ref x), .val (.long hs), .second, .val (.ref bf), .val (.int fo), .val (.int ln), .val (.int (-1 : Int32)), .val (.ref rt_7), .unset]) rfl ?_
  refine XS.aloadN X7.here hx rfl (hb hby d11_54) rfl rfl ?_
  refine st8 _ ?_
  refine XS.lloadN X8.here hx rfl (hb hby d11_58) rfl ?_
  refine st9.trans ?_
  refine XS.istore X9.here hx rfl (hb hby d11_62) rfl (l' := #[.val (.ref x), .val (.long hs), .second, .val (.ref bf), .val (.int fo), .val (.int ln), .val (.int (-1 : Int32)), .val (.ref rt_7), .val (.int (2 : Int32))]) rfl ?_
  refine XS.aloadN X9.here hx rfl (hb hby d11_64) rfl rfl ?_
  refine st10 _ ?_
  refine XS.iload X10.here hx rfl (hb hby d11_68) rfl ?_
  refine XS.aload X10.here hx rfl (hb hby d11_70) rfl rfl ?_
  refine st12 _ ?_
  refine XS.aloadN X12.here hx rfl (hb hby d11_73) rfl rfl ?_
  refine st13 _ ?_
  refine XS.iload X13.here hx rfl (hb hby d11_77) rfl ?_
  refine XS.lconst X13.here hx rfl (hb hby d11_79) ?_
  refine st15 _ ?_
  refine XS.aloadN X15.here hx rfl (hb hby d11_81) rfl rfl ?_
  refine XS.dup X15.here hx rfl (hb hby d11_82) rfl rfl ?_
  refine st16 _ ?_
  refine XS.lconst X16.here hx rfl (hb hby d11_86) ?_
  refine XS.ladd X16.here hx rfl (hb hby d11_87) rfl ?_
  refine st17 _ ?_
  exact X17.returnOut hx Bd.returns (hb hby d11_91) hr
 ·show QONc Z x hs bf fo ln lh it ct rd hp sl ix mk xa xb xc kl k_hp nl k_sl sv k_ix iv ca cb cc k_ct ia ib k_it rr k_bf h0 n0 _ T17.heap _
  rw [e17]
  exact ⟨rt_7, k_rt_7, lw_7, ca, cb, (1 : Int64), rfl, N17, K17, g_rt_7, sz_rt_7, (((((E_x.keep Kc7).keep Kc9).wr W12).wr W15).wr W17), (Fld.other W17 (Fld.other W15 (Fld.other W12 ((F_kept_x.keep Kc7 nin0).keep Kc9 (ninS nq_x_lh (ninS nq_x_hp (ninS nq_x_sl (ninS nq_x_ix nin0))))) (Or.inl nq_x_it)) (Or.inl nq_x_ct)) (Or.inr (slot_ne (Or.inr (Wd hw 78 rfl)) (Or.inl (Wd hw 138 rfl)) (by decide) (t := (.object cLH)) (t' := .long) (by decide) (by decide)))), (Fld.other W17 (Fld.other W15 (Fld.other W12 ((F_items_x.keep Kc7 nin0).keep Kc9 (ninS nq_x_lh (ninS nq_x_hp (ninS nq_x_sl (ninS nq_x_ix nin0))))) (Or.inl nq_x_it)) (Or.inl nq_x_ct)) (Or.inr (slot_ne (Or.inr (Wd hw 82 rfl)) (Or.inl (Wd hw 138 rfl)) (by decide) (t := (.array (.array .byte))) (t' := .long) (by decide) (by decide)))), (Fld.other W17 (Fld.other W15 (Fld.other W12 ((F_counts_x.keep Kc7 nin0).keep Kc9 (ninS nq_x_lh (ninS nq_x_hp (ninS nq_x_sl (ninS nq_x_ix nin0))))) (Or.inl nq_x_it)) (Or.inl nq_x_ct)) (Or.inr (slot_ne (Or.inr (Wd hw 84 rfl)) (Or.inl (Wd hw 138 rfl)) (by decide) (t := (.array .long)) (t' := .long) (by decide) (by decide)))), F17, (((q9_0.wr W12).wr W15).wr W17), (Fld.other W17 (Fld.other W15 (Fld.other W12 q9_1 (Or.inl nq_it_lh.symm)) (Or.inl nq_ct_lh.symm)) (Or.inl nq_x_lh.symm)), (Fld.other W17 (Fld.other W15 (Fld.other W12 q9_2 (Or.inl nq_it_lh.symm)) (Or.inl nq_ct_lh.symm)) (Or.inl nq_x_lh.symm)), (Fld.other W17 (Fld.other W15 (Fld.other W12 q9_3 (Or.inl nq_it_lh.symm)) (Or.inl nq_ct_lh.symm)) (Or.inl nq_x_lh.symm)), (Fld.other W17 (Fld.other W15 (Fld.other W12 q9_4 (Or.inl nq_it_lh.symm)) (Or.inl nq_ct_lh.symm)) (Or.inl nq_x_lh.symm)), (Fld.other W17 (Fld.other W15 (Fld.other W12 q9_5 (Or.inl nq_it_lh.symm)) (Or.inl nq_ct_lh.symm)) (Or.inl nq_x_lh.symm)), (((q9_6.other W12 nq_it_hp.symm).other W15 ne_hp_ct).other W17 nq_x_hp.symm), (((q9_7.other W12 nq_it_sl.symm).other W15 ne_sl_ct).other W17 nq_x_sl.symm), (((q9_8.other W12 nq_it_ix.symm).other W15 nq_ct_ix.symm).other W17 nq_x_ix.symm), ((V12.other W15 nq_ct_it.symm).other W17 nq_x_it.symm), (V15.other W17 nq_x_ct.symm), ((((q7_1.keep Kc9 (ninS (Ne.symm ((nlt E_lh.lt zq_rt_7))) (ninS (Ne.symm ((nlt V_hp.lt zq_rt_7))) (ninS (Ne.symm ((nlt V_sl.lt zq_rt_7))) (ninS (Ne.symm ((nlt V_ix.lt zq_rt_7))) nin0))))).other W12 (Ne.symm ((nlt V_it.lt zq_rt_7)))).other W15 (Ne.symm ((nlt V_ct.lt zq_rt_7)))).other W17 (Ne.symm ((nlt E_x.lt zq_rt_7))))⟩
theorem efOUb (m : MethodId) (x : Addr) (hs : Int64) (bf : Addr) (fo : Int32) (ln : Int32) : entryFrame m #[(.ref x), (.long hs), (.ref bf), (.int fo), (.int ln)] 9 = mkF m 0 #[.val (.ref x), .val (.long hs), .second, .val (.ref bf), .val (.int fo), .val (.int ln), .unset, .unset, .unset] [] := by first | (simp [entryFrame, mkF, argsToLocals, Value.category]; done) | rfl
def QOUb (Z : State) (x : Addr) (hs : Int64) (bf : Addr) (fo : Int32) (ln : Int32) (lh : Addr) (it : Addr) (ct : Addr) (rd : Int64) (hp : Addr) (sl : Addr) (ix : Addr) (mk : Int32) (xa : Int64) (xb : Int64) (xc : Int64) (kl : Int32) (k_hp : ClassId) (nl : Int32) (k_sl : ClassId) (sv : List Int64) (k_ix : ClassId) (iv : List Int32) (ca : Int64) (cb : Int64) (cc : Int64) (k_ct : ClassId) (ia : Addr) (k_it : ClassId) (na : Int32) (wa : List Value) (k_ia : ClassId) (k_bf : ClassId) (h0 : Heap) (n0 : Nat) (v : Option Value) (h : Heap) (L : List Loc) : Prop := ∃ xz : Int64, ∃ iz : Addr, ∃ k_iz : ClassId, ∃ nz : Int32, ∃ wz : List Value, ∃ svd : List Int64, ∃ ivd : List Int32, ∃ re : Int64, ∃ da : Int64, ∃ db : Int64, ∃ dc : Int64, v = none ∧ Fr n0 L ∧ Keep h0 h [x, hp, sl, ix, it, ct] ∧ Exa Z h x cRE ∧ Fld Z h x cRE "kept" "Lcom/example/tallysketch/tallysketch/LargestHashes;" (.ref lh) ∧ Fld Z h x cRE "items" "[[B" (.ref it) ∧ Fld Z h x cRE "counts" "[J" (.ref ct) ∧ Fld Z h x cRE "records" "J" (.long re) ∧ Arv Z h hp k_hp .long kl [(.long xz), (.long xb), (.long xc)] (.long (0 : Int64)) ∧ Arv Z h sl k_sl .long nl (svd.map Value.long) (.long (0 : Int64)) ∧ Arv Z h ix k_ix .int nl (ivd.map Value.int) (.int (0 : Int32)) ∧ Arv Z h it k_it (.array .byte) kl [(.ref iz), .null, .null] .null ∧ Arv Z h ct k_ct .long kl [(.long da), (.long db), (.long dc)] (.long (0 : Int64)) ∧ Arv Z h iz k_iz .byte nz wz (.int (0 : Int32)) ∧ own_t1 mk svd ivd xz ∧ ((own_lt xa hs ∧ xz = hs ∧ nz = ln) ∨ (¬ own_lt xa hs ∧ xz = xa ∧ nz = na))
set_option maxRecDepth 65536 in
set_option maxHeartbeats 40000000 in
theorem rmOUb (l : Launch) (Z : State) (a0 : Array Value) (hw : ∀ d ∈ tables_1, d.before a0 Z = true) (ws : List Jvm.Cond) (x : Addr) (hs : Int64) (bf : Addr) (fo : Int32) (ln : Int32) (lh : Addr) (it : Addr) (ct : Addr) (rd : Int64) (hp : Addr) (sl : Addr) (ix : Addr) (mk : Int32) (xa : Int64) (xb : Int64) (xc : Int64) (kl : Int32) (k_hp : ClassId) (nl : Int32) (k_sl : ClassId) (sv : List Int64) (k_ix : ClassId) (iv : List Int32) (ca : Int64) (cb : Int64) (cc : Int64) (k_ct : ClassId) (ia : Addr) (k_it : ClassId) (na : Int32) (wa : List Value) (k_ia : ClassId) (k_bf : ClassId) (h0 : Heap) (n0 : Nat) (Z0 : n0 ≤ h0.size) (E_x : Exa Z h0 x cRE) (F_kept_x : Fld Z h0 x cRE "kept" "Lcom/example/tallysketch/tallysketch/LargestHashes;" (.ref lh)) (F_items_x : Fld Z h0 x cRE "items" "[[B" (.ref it)) (F_counts_x : Fld Z h0 x cRE "counts" "[J" (.ref ct)) (F_records_x : Fld Z h0 x cRE "records" "J" (.long rd)) (E_lh : Exa Z h0 lh cLH) (F_heap_lh : Fld Z h0 lh cLH "heap" "[J" (.ref hp)) (F_size_lh : Fld Z h0 lh cLH "size" "I" (.int (1 : Int32))) (F_slots_lh : Fld Z h0 lh cLH "slots" "[J" (.ref sl)) (F_indices_lh : Fld Z h0 lh cLH "indices" "[I" (.ref ix)) (F_mask_lh : Fld Z h0 lh cLH "mask" "I" (.int mk)) (V_hp : Arv Z h0 hp k_hp .long kl [(.long xa), (.long xb), (.long xc)] (.long (0 : Int64))) (V_sl : Arv Z h0 sl k_sl .long nl (sv.map Value.long) (.long (0 : Int64))) (V_ix : Arv Z h0 ix k_ix .int nl (iv.map Value.int) (.int (0 : Int32))) (V_ct : Arv Z h0 ct k_ct .long kl [(.long ca), (.long cb), (.long cc)] (.long (0 : Int64))) (V_it : Arv Z h0 it k_it (.array .byte) kl [(.ref ia), .null, .null] .null) (K : own_kmn kl mk nl) (ne_hp_sl : hp ≠ sl) (ne_hp_ct : hp ≠ ct) (ne_sl_ct : sl ≠ ct) (ovr : OvrA Z k_it .byte "[B") (V_ia : Arv Z h0 ia k_ia .byte na wa (.int (0 : Int32))) (V_bf : Arv Z h0 bf k_bf .byte (10 : Int32) [(.int (0 : Int32)), (.int (0 : Int32)), (.int (0 : Int32)), (.int (0 : Int32)), (.int (0 : Int32)), (.int (0 : Int32)), (.int (0 : Int32)), (.int (0 : Int32)), (.int (0 : Int32)), (.int (0 : Int32))] (.int (0 : Int32))) (hfo : 0 ≤ fo.toInt ∧ fo.toInt ≤ 3) (hln : 0 ≤ ln.toInt ∧ ln.toInt ≤ 7) (hz : (1 : Int32) = kl) (tt : own_t1 mk sv iv xa) (g_x : n0 ≤ x) (g_hp : n0 ≤ hp) (g_sl : n0 ≤ sl) (g_ix : n0 ≤ ix) (g_it : n0 ≤ it) (g_ct : n0 ≤ ct) :
  MetFree l (⟨cRE, "offerItem", "(J[BII)V"⟩ : MethodName) (head1 (Jvm.Cond.code (⟨cRE, "offerItem", "(J[BII)V"⟩ : MethodName) prog_7_method_11_code 9 none :: ws) ({ frames := 4, cells := 1, slots := 7, locals := 140 } : Room)) (fun av_ U => av_ = #[(.ref x), (.long hs), (.ref bf), (.int fo), (.int ln)] ∧ Z.Warmed39 U.vm ∧ U.heap = h0) (fun _ _ _ _ _ => True) (fun _ U o U' => ∃ v L, o = .returned v ∧ QOUb Z x hs bf fo ln lh it ct rd hp sl ix mk xa xb xc kl k_hp nl k_sl sv k_ix iv ca cb cc k_ct ia k_it na wa k_ia k_bf h0 n0 v U'.heap L ∧ FrameEnd U o U' L ({ frames := 4, cells := 1, slots := 7, locals := 140 } : Room).cells ({ frames := 4, cells := 1, slots := 7, locals := 140 } : Room).slots) := by
 refine MetFree.of_bodySF (plainFor_of_name own_pn3) hisR ?_
 intro p e s m args below meth c s₁ Bd hml0 hP hK
 obtain ⟨rfl, hZ, hh⟩ := hP
 have hx := Bd.exec
 have hby := Bd.bytes
 have hml : c.maxLocals = 9 := hml0
 have hown : s.vm.findClass cRE = some m.cls := findClass_of_methodNamed Bd.named
 have hnm := (name_of_methodNamed Bd.named Bd.method).1
 have X0 : Stand p l e ({ frames := 4, cells := 1, slots := 7, locals := 140 } : Room) s m #[(.ref x), (.long hs), (.ref bf), (.int fo), (.int ln)] below meth c s₁ [] 0 0 := Stand.of_body Bd
 have e0 : s₁.heap = h0 := by rw [← hh, Bd.state]; rfl
 have N0 := Fr.nil n0
 have hlk : meth.locks = false := Bd.notSynchronized
 have pre0 : ∀ t, Steps p.tables e below (s₁.setTop (mkF m 0 #[.val (.ref x), .val (.long hs), .second, .val (.ref bf), .val (.int fo), .val (.int ln), .unset, .unset, .unset] [])) t → Steps p.tables e below (s₁.setTop (entryFrame m #[(.ref x), (.long hs), (.ref bf), (.int fo), (.int ln)] 9)) t := fun t k => castTop (efOUb m x hs bf fo ln) k
 have nq_x_ct : x ≠ ct := (Exa.neArv E_x V_ct (Wd hw 2 rfl))
 have nq_ix_ct : ix ≠ ct := (own_neT V_ix V_ct (by simp))
 have nq_it_ct : it ≠ ct := (own_neT V_it V_ct (by simp))
 have nq_ia_ct : ia ≠ ct := (own_neT V_ia V_ct (by simp))
 have nq_x_ix : x ≠ ix := (Exa.neArv E_x V_ix (Wd hw 2 rfl))
 have nq_x_sl : x ≠ sl := (Exa.neArv E_x V_sl (Wd hw 2 rfl))
 have nq_x_hp : x ≠ hp := (Exa.neArv E_x V_hp (Wd hw 2 rfl))
 have nq_it_ix : it ≠ ix := (own_neT V_it V_ix (by simp))
 have nq_it_sl : it ≠ sl := (own_neT V_it V_sl (by simp))
 have nq_it_hp : it ≠ hp := (own_neT V_it V_hp (by simp))
 have nq_x_it : x ≠ it := (Exa.neArv E_x V_it (Wd hw 2 rfl))
 obtain ⟨rr, hr, hri, hr1, hr2⟩ := own_f1 K tt hs
 obtain ⟨T1, X1, e1, st1⟩ := getF X0 hx hZ hown (host := "") (Or.inl (Wd hw 77 rfl)) Via.refl e0 F_kept_x (g := (mkF m 1 #[.val (.ref x), .val (.long hs), .second, .val (.ref bf), .val (.int fo), .val (.int ln), .unset, .unset, .unset] [(.ref x)])) rfl rfl (hb hby d11_1)
 obtain ⟨cq2, kq2, q2a, q2b, q2c⟩ := isOf hZ e1 E_lh
 obtain ⟨_, _, ⟨T2, L2, k2, n2⟩, -, X2, ⟨Lc2, hQ2, l2, y2, z2⟩, st2⟩ := X1.virtualBack hx (y := (⟨cLH, "indexOf", "(J)I"⟩ : MethodName)) (z := (⟨cLH, "indexOf", "(J)I"⟩ : MethodName)) hown (mvT hZ (Wd hw 90 rfl)) (mvT hZ (Wd hw 91 rfl)) (notFace_of_selects (args := #[]) (mvT hZ (Wd hw 93 rfl))) (mvT hZ (Wd hw 93 rfl)) (mvT hZ (Wd hw 92 rfl)) (by decide) (backOf (W := 0) (rmIO l Z a0 hw [] lh hs hp (1 : Int32) sl ix mk xa xb xc kl k_hp nl k_sl sv k_ix iv rr h0 n0 Z0 E_lh F_heap_lh F_size_lh F_slots_lh F_indices_lh F_mask_lh V_hp V_sl V_ix K hr) hZ (Wd hw 94 rfl) (Wd hw 50 rfl) (by decide) (by decide)) q2a q2c (g := (mkF m 5 #[.val (.ref x), .val (.long hs), .second, .val (.ref bf), .val (.int fo), .val (.int ln), .unset, .unset, .unset] [(.long hs), (.ref lh)])) rfl (by rw [hml]; rfl) (Steps.refl _) (argsL := [(.long hs)]) (rest := []) (lenOf own_pd2 rfl) rfl (by show 2 * 0 + _ ≤ _; exact Nat.le_of_eq rfl) (hb hby d11_5) (fun _ _ => ⟨rfl, e1, (by decide : 0 + 0 ≤ _), (by decide : 0 + 0 ≤ _)⟩)
 dsimp only [Pt.U, Pt.locs, Pt.cells, Pt.slots] at X2 l2 y2 z2 st2 hQ2
 subst l2 y2 z2
 obtain ⟨rfl, Nq2, e2⟩ := hQ2
 have N2 := Fr.app N0 Nq2
 have r3 : ∀ t, Steps p.tables e below (T2.setTop (mkF m 10 #[.val (.ref x), .val (.long hs), .second, .val (.ref bf), .val (.int fo), .val (.int ln), .val (.int (own_ix (1 : Int32) kl hs xa iv rr)), .unset, .unset] [])) t → Steps p.tables e below (s₁.setTop (mkF m 0 #[.val (.ref x), .val (.long hs), .second, .val (.ref bf), .val (.int fo), .val (.int ln), .unset, .unset, .unset] [])) t := fun t kt => by
  refine XS.aloadN X0.here hx rfl (hb hby d11_0) rfl rfl ?_
  refine st1 _ ?_
  refine XS.lloadN X1.here hx rfl (hb hby d11_4) rfl ?_
  refine st2.trans ?_
  refine XS.istore X2.here hx rfl (hb hby d11_8) rfl (l' := #[.val (.ref x), .val (.long hs), .second, .val (.ref bf), .val (.int fo), .val (.int ln), .val (.int (own_ix (1 : Int32) kl hs xa iv rr)), .unset, .unset]) rfl ?_
  exact kt
 by_cases heq : hs = xa
 ·have r4 : ∀ t, Steps p.tables e below (T2.setTop (mkF m 10 #[.val (.ref x), .val (.long hs), .second, .val (.ref bf), .val (.int fo), .val (.int ln), .val (.int (0 : Int32)), .unset, .unset] [])) t → Steps p.tables e below (T2.setTop (mkF m 10 #[.val (.ref x), .val (.long hs), .second, .val (.ref bf), .val (.int fo), .val (.int ln), .val (.int (own_ix (1 : Int32) kl hs xa iv rr)), .unset, .unset] [])) t := fun t kt => by
   have q : (own_ix (1 : Int32) kl hs xa iv rr) = (0 : Int32) := ((if_neg (fun q => by have q2 := q.2; rw [heq] at q2; exact absurd q2 (Int.lt_irrefl _))).trans (hr1 heq).2)
   rw [q]
   exact kt
  obtain ⟨T5, X5, e5, st5⟩ := getF X2 hx hZ hown (host := "") (Or.inl (Wd hw 83 rfl)) Via.refl e2 F_counts_x (g := (mkF m 17 #[.val (.ref x), .val (.long hs), .second, .val (.ref bf), .val (.int fo), .val (.int ln), .val (.int (0 : Int32)), .unset, .unset] [(.ref x)])) rfl rfl (hb hby d11_17)
  obtain ⟨cl6, Ar6, q6, S6, M6, Hs6, G6⟩ := (id V_ct)
  have hin6 : ¬ ((0 : Int32) < 0 ∨ cl6.slots.size ≤ ((0 : Int32)).toNatClampNeg) := inb_of S6 ⟨by decide, own_kpos K⟩
  have hat6 : cl6.slots[((0 : Int32)).toNatClampNeg]? = some (.long ca) := Hs6.at hin6 rfl
  obtain ⟨cl7, Ar7, q7, S7, M7, Hs7, G7⟩ := (id V_ct)
  have hin7 : ¬ ((0 : Int32) < 0 ∨ cl7.slots.size ≤ ((0 : Int32)).toNatClampNeg) := inb_of S7 ⟨by decide, own_kpos K⟩
  obtain ⟨T8, h8, X8, e8, W8, st8⟩ := stJ X5 hx hZ e5 Ar7 (j := (0 : Int32)) hin7 (g := (mkF m 26 #[.val (.ref x), .val (.long hs), .second, .val (.ref bf), .val (.int fo), .val (.int ln), .val (.int (0 : Int32)), .unset, .unset] [(.long (ca + (1 : Int64))), (.int (0 : Int32)), (.ref ct)])) rfl rfl (hb hby d11_26)
  have V8 : Arv Z h8 ct k_ct .long kl [(.long (ca + (1 : Int64))), (.long cb), (.long cc)] (.long (0 : Int64)) := Arv.set Ar7 q7 S7 M7 Hs7 G7 rfl W8 0 rfl (Nat.le_of_ble_eq_true rfl)
  have K8 : Keep h0 h8 [x, hp, sl, ix, it, ct] := (Keep.refl h0 [x, hp, sl, ix, it, ct]).wr W8 (Or.inl (List.mem_of_getElem? (i := 5) rfl))
  have Zs8 : n0 ≤ h8.size := Nat.le_trans Z0 (Keep.of_wr W8).1
  have N8 := Fr.snoc X8 N2 g_ct
  obtain ⟨fs, hr, hrun, hended, hW, hsame⟩ := X8.leave (v := none) (fun _ => rfl) hlk
  refine ⟨_, _, (pre0 _ (r3 _ (r4 _ ?_))), hrun, hended, _, _, rfl, ?_, ⟨_, rfl⟩, hW, hsame.mono (by decide) (by decide)⟩
  ·show Steps p.tables e below (T2.setTop (mkF m 10 #[.val (.ref x), .val (.long hs), .second, .val (.ref bf), .val (.int fo), .val (.int ln), .val (.int (0 : Int32)), .unset, .unset] [])) _
   refine XS.iload X2.here hx rfl (hb hby d11_10) rfl ?_
   refine XS.iconst X2.here hx rfl (hb hby d11_12) ?_
   refine XS.icmpNo X2.here hx rfl (hb hby d11_13) rfl (feq (by decide : ¬ ((0 : Int32) = (-1 : Int32)))).1 ?_
   refine XS.aloadN X2.here hx rfl (hb hby d11_16) rfl rfl ?_
   refine st5 _ ?_
   refine XS.iload X5.here hx rfl (hb hby d11_20) rfl ?_
   jvm_step X5.here [X5.here.top, hx, (hb hby d11_22), Value.category]
   refine X5.laload hx (j := (0 : Int32)) (v := (.long ca)) (by rw [e5]; exact Ar6.1) (State.isArrayOf_alike hZ.alike Ar6.2.1) Ar6.2.2 hin6 hat6 (g := (mkF m 23 #[.val (.ref x), .val (.long hs), .second, .val (.ref bf), .val (.int fo), .val (.int ln), .val (.int (0 : Int32)), .unset, .unset] [(.int (0 : Int32)), (.ref ct), (.int (0 : Int32)), (.ref ct)])) rfl rfl (hb hby d11_23) _ ?_
   refine XS.lconst X5.here hx rfl (hb hby d11_24) ?_
   refine XS.ladd X5.here hx rfl (hb hby d11_25) rfl ?_
   refine st8 _ ?_
   refine XS.goto X8.here hx rfl (pc0 := 27) (pc' := 91) rfl (hb hby d11_27) (by decide) (by decide) ?_
   exact X8.returnOut hx Bd.returns (hb hby d11_91) hr
  ·show QOUb Z x hs bf fo ln lh it ct rd hp sl ix mk xa xb xc kl k_hp nl k_sl sv k_ix iv ca cb cc k_ct ia k_it na wa k_ia k_bf h0 n0 _ T8.heap _
   rw [e8]
   exact ⟨xa, ia, k_ia, na, wa, sv, iv, rd, (ca + (1 : Int64)), cb, cc, rfl, N8, K8, (E_x.wr W8), (Fld.other W8 F_kept_x (Or.inl nq_x_ct)), (Fld.other W8 F_items_x (Or.inl nq_x_ct)), (Fld.other W8 F_counts_x (Or.inl nq_x_ct)), (Fld.other W8 F_records_x (Or.inl nq_x_ct)), (V_hp.other W8 ne_hp_ct), (V_sl.other W8 ne_sl_ct), (V_ix.other W8 nq_ix_ct), (V_it.other W8 nq_it_ct), V8, (V_ia.other W8 nq_ia_ct), tt, (Or.inr ⟨by rw [heq]; exact Int.lt_irrefl _, rfl, rfl⟩)⟩
 ·have r9 : ∀ t, Steps p.tables e below (T2.setTop (mkF m 10 #[.val (.ref x), .val (.long hs), .second, .val (.ref bf), .val (.int fo), .val (.int ln), .val (.int (-1 : Int32)), .unset, .unset] [])) t → Steps p.tables e below (T2.setTop (mkF m 10 #[.val (.ref x), .val (.long hs), .second, .val (.ref bf), .val (.int fo), .val (.int ln), .val (.int (own_ix (1 : Int32) kl hs xa iv rr)), .unset, .unset] [])) t := fun t kt => by
   have q : (own_ix (1 : Int32) kl hs xa iv rr) = (-1 : Int32) := (own_ixm (hr2 heq).1)
   rw [q]
   exact kt
  obtain ⟨T10, X10, e10, st10⟩ := getF X2 hx hZ hown (host := "") (Or.inl (Wd hw 77 rfl)) Via.refl e2 F_kept_x (g := (mkF m 31 #[.val (.ref x), .val (.long hs), .second, .val (.ref bf), .val (.int fo), .val (.int ln), .val (.int (-1 : Int32)), .unset, .unset] [(.ref x)])) rfl rfl (hb hby d11_31)
  obtain ⟨cq11, kq11, q11a, q11b, q11c⟩ := isOf hZ e10 E_lh
  obtain ⟨_, _, ⟨T11, L11, k11, n11⟩, -, X11, ⟨Lc11, hQ11, l11, y11, z11⟩, st11⟩ := X10.virtualBack hx (y := (⟨cLH, "admits", "(J)Z"⟩ : MethodName)) (z := (⟨cLH, "admits", "(J)Z"⟩ : MethodName)) hown (mvT hZ (Wd hw 105 rfl)) (mvT hZ (Wd hw 106 rfl)) (notFace_of_selects (args := #[]) (mvT hZ (Wd hw 108 rfl))) (mvT hZ (Wd hw 108 rfl)) (mvT hZ (Wd hw 107 rfl)) (by decide) (backOf (W := 0) (rmAD l Z a0 hw [] lh hs hp (1 : Int32) xa xb xc kl k_hp h0 n0 Z0 E_lh F_heap_lh F_size_lh V_hp (own_kpos K)) hZ (Wd hw 109 rfl) (Wd hw 50 rfl) (by decide) (by decide)) q11a q11c (g := (mkF m 35 #[.val (.ref x), .val (.long hs), .second, .val (.ref bf), .val (.int fo), .val (.int ln), .val (.int (-1 : Int32)), .unset, .unset] [(.long hs), (.ref lh)])) rfl (by rw [hml]; rfl) (Steps.refl _) (argsL := [(.long hs)]) (rest := []) (lenOf own_pd7 rfl) rfl (by show 2 * 0 + _ ≤ _; exact Nat.le_of_eq rfl) (hb hby d11_35) (fun _ _ => ⟨rfl, e10, (by decide : 0 + 0 ≤ _), (by decide : 0 + 0 ≤ _)⟩)
  dsimp only [Pt.U, Pt.locs, Pt.cells, Pt.slots] at X11 l11 y11 z11 st11 hQ11
  subst l11 y11 z11
  obtain ⟨rfl, Nq11, e11⟩ := hQ11
  have N11 := Fr.app N2 Nq11
  have r12 : ∀ t, Steps p.tables e below (T11.setTop (mkF m 38 #[.val (.ref x), .val (.long hs), .second, .val (.ref bf), .val (.int fo), .val (.int ln), .val (.int (-1 : Int32)), .unset, .unset] [(.int (own_ad (1 : Int32) kl hs xa))])) t → Steps p.tables e below (T2.setTop (mkF m 10 #[.val (.ref x), .val (.long hs), .second, .val (.ref bf), .val (.int fo), .val (.int ln), .val (.int (-1 : Int32)), .unset, .unset] [])) t := fun t kt => by
   refine XS.iload X2.here hx rfl (hb hby d11_10) rfl ?_
   refine XS.iconst X2.here hx rfl (hb hby d11_12) ?_
   refine XS.icmpYes X2.here hx rfl (pc0 := 13) (pc' := 30) rfl (hb hby d11_13) rfl (teq (by decide : (-1 : Int32) = (-1 : Int32))).1 (by decide) (by decide) ?_
   refine XS.aloadN X2.here hx rfl (hb hby d11_30) rfl rfl ?_
   refine st10 _ ?_
   refine XS.lloadN X10.here hx rfl (hb hby d11_34) rfl ?_
   refine st11.trans ?_
   exact kt
  by_cases hc13 : (own_ad (1 : Int32) kl hs xa) = (0 : Int32)
  ·obtain ⟨fs, hr, hrun, hended, hW, hsame⟩ := X11.leave (v := none) (fun _ => rfl) hlk
   refine ⟨_, _, (pre0 _ (r3 _ (r9 _ (r12 _ ?_)))), hrun, hended, _, _, rfl, ?_, ⟨_, rfl⟩, hW, hsame.mono (by decide) (by decide)⟩
   ·show Steps p.tables e below (T11.setTop (mkF m 38 #[.val (.ref x), .val (.long hs), .second, .val (.ref bf), .val (.int fo), .val (.int ln), .val (.int (-1 : Int32)), .unset, .unset] [(.int (own_ad (1 : Int32) kl hs xa))])) _
    refine XS.ifYes X11.here hx rfl (pc0 := 38) (pc' := 91) rfl (hb hby d11_38) rfl ((if0 _ _).trans (teq hc13).1) (by decide) (by decide) ?_
    exact X11.returnOut hx Bd.returns (hb hby d11_91) hr
   ·show QOUb Z x hs bf fo ln lh it ct rd hp sl ix mk xa xb xc kl k_hp nl k_sl sv k_ix iv ca cb cc k_ct ia k_it na wa k_ia k_bf h0 n0 _ T11.heap _
    rw [e11]
    exact ⟨xa, ia, k_ia, na, wa, sv, iv, rd, ca, cb, cc, rfl, N11, (Keep.refl h0 [x, hp, sl, ix, it, ct]), E_x, F_kept_x, F_items_x, F_counts_x, F_records_x, V_hp, V_sl, V_ix, V_it, V_ct, V_ia, tt, (Or.inr ⟨own_adN hc13, rfl, rfl⟩)⟩
  ·obtain ⟨_, _, ⟨T14, L14, k14, n14⟩, -, X14, ⟨Lc14, hQ14, l14, y14, z14⟩, st14⟩ := Jvm.LawKit.callS X11 hx (y := (⟨"java/util/Arrays", "copyOfRange", "([BII)[B"⟩ : MethodName)) hown (mvT hZ (Wd hw 110 rfl)) (mvT hZ (Wd hw 111 rfl)) (mvT hZ (Wd hw 73 rfl)) (mvT hZ (Wd hw 112 rfl)) (by decide) (backOf (W := 0) (rmCR l Z a0 hw [] bf fo ln k_bf h0 n0 Z0 V_bf hfo hln) hZ (Wd hw 112 rfl) (Wd hw 73 rfl) (by decide) (by decide)) (g := (mkF m 49 #[.val (.ref x), .val (.long hs), .second, .val (.ref bf), .val (.int fo), .val (.int ln), .val (.int (-1 : Int32)), .unset, .unset] [(.int (fo + ln)), (.int fo), (.ref bf)])) rfl (by rw [hml]; rfl) (argsL := [(.ref bf), (.int fo), (.int (fo + ln))]) (rest := []) (lenOf own_pd6 rfl) rfl (by show 2 * 0 + _ ≤ _; exact Nat.le_of_eq rfl) (hb hby d11_49) (fun _ _ => ⟨rfl, e11, (by decide : 0 + 1 ≤ _), (by decide : 0 + 7 ≤ _)⟩)
   dsimp only [Pt.U, Pt.locs, Pt.cells, Pt.slots] at X14 l14 y14 z14 st14 hQ14
   subst l14 y14 z14
   obtain ⟨rt_14, k_rt_14, lw_14, rfl, Nq14, Kc14, g_rt_14, zq_rt_14, q14_0, q14_1⟩ := hQ14
   have sz_rt_14 : h0.size ≤ rt_14 := Nat.le_trans (Keep.refl h0 [x, hp, sl, ix, it, ct]).1 zq_rt_14
   have K14 : Keep h0 T14.heap [x, hp, sl, ix, it, ct] := Keep.trans (Keep.refl h0 [x, hp, sl, ix, it, ct]) Kc14 all0
   have Zs14 : n0 ≤ T14.heap.size := Nat.le_trans Z0 Kc14.1
   have N14 := Fr.app N11 Nq14
   obtain ⟨T15, X15, e15, st15⟩ := getF X14 hx hZ hown (host := "") (Or.inl (Wd hw 77 rfl)) Via.refl rfl (F_kept_x.keep Kc14 nin0) (g := (mkF m 55 #[.val (.ref x), .val (.long hs), .second, .val (.ref bf), .val (.int fo), .val (.int ln), .val (.int (-1 : Int32)), .val (.ref rt_14), .unset] [(.ref x)])) rfl rfl (hb hby d11_55)
   obtain ⟨cq16, kq16, q16a, q16b, q16c⟩ := isOf hZ e15 (E_lh.keep Kc14)
   obtain ⟨_, _, ⟨T16, L16, k16, n16⟩, -, X16, ⟨Lc16, hQ16, l16, y16, z16⟩, st16⟩ := X15.virtualBack hx (y := (⟨cLH, "add", "(J)I"⟩ : MethodName)) (z := (⟨cLH, "add", "(J)I"⟩ : MethodName)) hown (mvT hZ (Wd hw 127 rfl)) (mvT hZ (Wd hw 128 rfl)) (notFace_of_selects (args := #[]) (mvT hZ (Wd hw 130 rfl))) (mvT hZ (Wd hw 130 rfl)) (mvT hZ (Wd hw 129 rfl)) (by decide) (backOf (W := 0) (rmAUb l Z a0 hw [] lh hs hp sl ix mk xa xb xc kl k_hp nl k_sl sv k_ix iv T14.heap n0 Zs14 (E_lh.keep Kc14) (F_heap_lh.keep Kc14 nin0) (F_size_lh.keep Kc14 nin0) (F_slots_lh.keep Kc14 nin0) (F_indices_lh.keep Kc14 nin0) (F_mask_lh.keep Kc14 nin0) (V_hp.keep Kc14 nin0) (V_sl.keep Kc14 nin0) (V_ix.keep Kc14 nin0) K hz tt ne_hp_sl g_hp g_sl g_ix) hZ (Wd hw 131 rfl) (Wd hw 50 rfl) (by decide) (by decide)) q16a q16c (g := (mkF m 59 #[.val (.ref x), .val (.long hs), .second, .val (.ref bf), .val (.int fo), .val (.int ln), .val (.int (-1 : Int32)), .val (.ref rt_14), .unset] [(.long hs), (.ref lh)])) rfl (by rw [hml]; rfl) (Steps.refl _) (argsL := [(.long hs)]) (rest := []) (lenOf own_pd2 rfl) rfl (by show 2 * 0 + _ ≤ _; exact Nat.le_of_eq rfl) (hb hby d11_59) (fun _ _ => ⟨rfl, e15, (by decide : 1 + 0 ≤ _), (by decide : 7 + 0 ≤ _)⟩)
   dsimp only [Pt.U, Pt.locs, Pt.cells, Pt.slots] at X16 l16 y16 z16 st16 hQ16
   subst l16 y16 z16
   obtain ⟨svc_16, ivc_16, rfl, Nq16, Kc16, q16_0, q16_1, q16_2, q16_3⟩ := hQ16
   have K16 : Keep h0 T16.heap [x, hp, sl, ix, it, ct] := Keep.trans K14 Kc16 (allS (Or.inl (List.mem_of_getElem? (i := 1) rfl)) (allS (Or.inl (List.mem_of_getElem? (i := 2) rfl)) (allS (Or.inl (List.mem_of_getElem? (i := 3) rfl)) all0)))
   have Zs16 : n0 ≤ T16.heap.size := Nat.le_trans Zs14 Kc16.1
   have N16 := Fr.app N14 Nq16
   obtain ⟨T17, X17, e17, st17⟩ := getF X16 hx hZ hown (host := "") (Or.inl (Wd hw 81 rfl)) Via.refl rfl ((F_items_x.keep Kc14 nin0).keep Kc16 (ninS nq_x_hp (ninS nq_x_sl (ninS nq_x_ix nin0)))) (g := (mkF m 65 #[.val (.ref x), .val (.long hs), .second, .val (.ref bf), .val (.int fo), .val (.int ln), .val (.int (-1 : Int32)), .val (.ref rt_14), .val (.int (0 : Int32))] [(.ref x)])) rfl rfl (hb hby d11_65)
   obtain ⟨cl18, Ar18, q18, S18, M18, Hs18, G18⟩ := ((V_it.keep Kc14 nin0).keep Kc16 (ninS nq_it_hp (ninS nq_it_sl (ninS nq_it_ix nin0))))
   have hin18 : ¬ ((0 : Int32) < 0 ∨ cl18.slots.size ≤ ((0 : Int32)).toNatClampNeg) := inb_of S18 ⟨by decide, own_kpos K⟩
   obtain ⟨T19, h19, X19, e19, W19, st19⟩ := stR X17 hx hZ e17 Ar18 (j := (0 : Int32)) hin18 rfl (Sto.ofVA Ar18 q18 ovr (Ins.self (q14_0.keep Kc16))) (g := (mkF m 72 #[.val (.ref x), .val (.long hs), .second, .val (.ref bf), .val (.int fo), .val (.int ln), .val (.int (-1 : Int32)), .val (.ref rt_14), .val (.int (0 : Int32))] [(.ref rt_14), (.int (0 : Int32)), (.ref it)])) rfl rfl (hb hby d11_72)
   have V19 : Arv Z h19 it k_it (.array .byte) kl [(.ref rt_14), .null, .null] .null := Arv.set Ar18 q18 S18 M18 Hs18 G18 rfl W19 0 rfl (Nat.le_of_ble_eq_true rfl)
   have K19 : Keep h0 h19 [x, hp, sl, ix, it, ct] := K16.wr W19 (Or.inl (List.mem_of_getElem? (i := 4) rfl))
   have Zs19 : n0 ≤ h19.size := Nat.le_trans Zs16 (Keep.of_wr W19).1
   have N19 := Fr.snoc X19 N16 g_it
   obtain ⟨T20, X20, e20, st20⟩ := getF X19 hx hZ hown (host := "") (Or.inl (Wd hw 83 rfl)) Via.refl e19 (Fld.other W19 ((F_counts_x.keep Kc14 nin0).keep Kc16 (ninS nq_x_hp (ninS nq_x_sl (ninS nq_x_ix nin0)))) (Or.inl nq_x_it)) (g := (mkF m 74 #[.val (.ref x), .val (.long hs), .second, .val (.ref bf), .val (.int fo), .val (.int ln), .val (.int (-1 : Int32)), .val (.ref rt_14), .val (.int (0 : Int32))] [(.ref x)])) rfl rfl (hb hby d11_74)
   obtain ⟨cl21, Ar21, q21, S21, M21, Hs21, G21⟩ := (((V_ct.keep Kc14 nin0).keep Kc16 (ninS (Ne.symm ne_hp_ct) (ninS (Ne.symm ne_sl_ct) (ninS nq_ix_ct.symm nin0)))).other W19 nq_it_ct.symm)
   have hin21 : ¬ ((0 : Int32) < 0 ∨ cl21.slots.size ≤ ((0 : Int32)).toNatClampNeg) := inb_of S21 ⟨by decide, own_kpos K⟩
   obtain ⟨T22, h22, X22, e22, W22, st22⟩ := stJ X20 hx hZ e20 Ar21 (j := (0 : Int32)) hin21 (g := (mkF m 80 #[.val (.ref x), .val (.long hs), .second, .val (.ref bf), .val (.int fo), .val (.int ln), .val (.int (-1 : Int32)), .val (.ref rt_14), .val (.int (0 : Int32))] [(.long (1 : Int64)), (.int (0 : Int32)), (.ref ct)])) rfl rfl (hb hby d11_80)
   have V22 : Arv Z h22 ct k_ct .long kl [(.long (1 : Int64)), (.long cb), (.long cc)] (.long (0 : Int64)) := Arv.set Ar21 q21 S21 M21 Hs21 G21 rfl W22 0 rfl (Nat.le_of_ble_eq_true rfl)
   have K22 : Keep h0 h22 [x, hp, sl, ix, it, ct] := K19.wr W22 (Or.inl (List.mem_of_getElem? (i := 5) rfl))
   have Zs22 : n0 ≤ h22.size := Nat.le_trans Zs19 (Keep.of_wr W22).1
   have N22 := Fr.snoc X22 N19 g_ct
   obtain ⟨T23, X23, e23, st23⟩ := getF X22 hx hZ hown (host := "") (Or.inl (Wd hw 137 rfl)) Via.refl e22 (Fld.other W22 (Fld.other W19 ((F_records_x.keep Kc14 nin0).keep Kc16 (ninS nq_x_hp (ninS nq_x_sl (ninS nq_x_ix nin0)))) (Or.inl nq_x_it)) (Or.inl nq_x_ct)) (g := (mkF m 83 #[.val (.ref x), .val (.long hs), .second, .val (.ref bf), .val (.int fo), .val (.int ln), .val (.int (-1 : Int32)), .val (.ref rt_14), .val (.int (0 : Int32))] [(.ref x), (.ref x)])) rfl rfl (hb hby d11_83)
   obtain ⟨T24, h24, X24, e24, W24, st24⟩ := putF X23 hx hZ hown (host := "") (Or.inl (Wd hw 137 rfl)) Via.refl e23 (Fld.other W22 (Fld.other W19 ((F_records_x.keep Kc14 nin0).keep Kc16 (ninS nq_x_hp (ninS nq_x_sl (ninS nq_x_ix nin0)))) (Or.inl nq_x_it)) (Or.inl nq_x_ct)) ((((E_x.keep Kc14).keep Kc16).wr W19).wr W22) (Or.inl (Wd hw 138 rfl)) (Wd hw 2 rfl) (ty := .long) (by decide) rfl rfl (g := (mkF m 88 #[.val (.ref x), .val (.long hs), .second, .val (.ref bf), .val (.int fo), .val (.int ln), .val (.int (-1 : Int32)), .val (.ref rt_14), .val (.int (0 : Int32))] [(.long (rd + (1 : Int64))), (.ref x)])) rfl rfl (hb hby d11_88)
   have F24 : Fld Z h24 x cRE "records" "J" (.long (rd + (1 : Int64))) := Fld.same W24 (Fld.other W22 (Fld.other W19 ((F_records_x.keep Kc14 nin0).keep Kc16 (ninS nq_x_hp (ninS nq_x_sl (ninS nq_x_ix nin0)))) (Or.inl nq_x_it)) (Or.inl nq_x_ct))
   have K24 : Keep h0 h24 [x, hp, sl, ix, it, ct] := K22.wr W24 (Or.inl (List.mem_of_getElem? (i := 0) rfl))
   have Zs24 : n0 ≤ h24.size := Nat.le_trans Zs22 (Keep.of_wr W24).1
   have N24 := Fr.snoc X24 N22 g_x
   obtain ⟨fs, hr, hrun, hended, hW, hsame⟩ := X24.leave (v := none) (fun _ => rfl) hlk
   refine ⟨_, _, (pre0 _ (r3 _ (r9 _ (r12 _ ?_)))), hrun, hended, _, _, rfl, ?_, ⟨_, rfl⟩, hW, hsame.mono (by decide) (by decide)⟩
   ·show Steps p.tables e below (T11.setTop (mkF m 38 #[.val (.ref x), .val (.long hs), .second, .val (.ref bf), .val (.int fo), .val (.int ln), .val (.int (-1 : Int32)), .unset, .unset] [(.int (own_ad (1 : Int32) kl hs xa))])) _
    refine XS.ifNo X11.here hx rfl (hb hby d11_38) rfl ((if0 _ _).trans (feq hc13).1) ?_
    refine XS.aloadN X11.here hx rfl (hb hby d11_41) rfl rfl ?_
    refine XS.iload X11.here hx rfl (hb hby d11_42) rfl ?_
    refine XS.iload X11.here hx rfl (hb hby d11_44) rfl ?_
    refine XS.iload X11.here hx rfl (hb hby d11_46) rfl ?_
    refine XS.iadd X11.here hx rfl (hb hby d11_48) rfl ?_
    refine st14 _ ?_
    refine XS.astore X14.here hx rfl (hb hby d11_52) rfl rfl (l' := #[.val (.ref x), .val (.long hs), .second, .val (.ref bf), .val (.int fo), .val (.int ln), .val (.int (-1 : Int32)), .val (.ref rt_14), .unset]) rfl ?_
    refine XS.aloadN X14.here hx rfl (hb hby d11_54) rfl rfl ?_
    refine st15 _ ?_
    refine XS.lloadN X15.here hx rfl (hb hby d11_58) rfl ?_
    refine st16.trans ?_
    refine XS.istore X16.here hx rfl (hb hby d11_62) rfl (l' := #[.val (.ref x), .val (.long hs), .second, .val (.ref bf), .val (.int fo), .val (.int ln), .val (.int (-1 : Int32)), .val (.ref rt_14), .val (.int (0 : Int32))]) rfl ?_
    refine XS.aloadN X16.here hx rfl (hb hby d11_64) rfl rfl ?_
    refine st17 _ ?_
    refine XS.iload X17.here hx rfl (hb hby d11_68) rfl ?_
    refine XS.aload X17.here hx rfl (hb hby d11_70) rfl rfl ?_
    refine st19 _ ?_
    refine XS.aloadN X19.here hx rfl (hb hby d11_73) rfl rfl ?_
    refine st20 _ ?_
    refine XS.iload X20.here hx rfl (hb hby d11_77) rfl ?_
    refine XS.lconst X20.here hx rfl (hb hby d11_79) ?_
    refine st22 _ ?_
    refine XS.aloadN X22.here hx rfl (hb hby d11_81) rfl rfl ?_
    refine XS.dup X22.here hx rfl (hb hby d11_82) rfl rfl ?_
    refine st23 _ ?_
    refine XS.lconst X23.here hx rfl (hb hby d11_86) ?_
    refine XS.ladd X23.here hx rfl (hb hby d11_87) rfl ?_
    refine st24 _ ?_
    exact X24.returnOut hx Bd.returns (hb hby d11_91) hr
   ·show QOUb Z x hs bf fo ln lh it ct rd hp sl ix mk xa xb xc kl k_hp nl k_sl sv k_ix iv ca cb cc k_ct ia k_it na wa k_ia k_bf h0 n0 _ T24.heap _
    rw [e24]
    exact ⟨hs, rt_14, k_rt_14, ln, lw_14, svc_16, ivc_16, (rd + (1 : Int64)), (1 : Int64), cb, cc, rfl, N24, K24, (((((E_x.keep Kc14).keep Kc16).wr W19).wr W22).wr W24), (Fld.other W24 (Fld.other W22 (Fld.other W19 ((F_kept_x.keep Kc14 nin0).keep Kc16 (ninS nq_x_hp (ninS nq_x_sl (ninS nq_x_ix nin0)))) (Or.inl nq_x_it)) (Or.inl nq_x_ct)) (Or.inr (slot_ne (Or.inr (Wd hw 78 rfl)) (Or.inl (Wd hw 138 rfl)) (by decide) (t := (.object cLH)) (t' := .long) (by decide) (by decide)))), (Fld.other W24 (Fld.other W22 (Fld.other W19 ((F_items_x.keep Kc14 nin0).keep Kc16 (ninS nq_x_hp (ninS nq_x_sl (ninS nq_x_ix nin0)))) (Or.inl nq_x_it)) (Or.inl nq_x_ct)) (Or.inr (slot_ne (Or.inr (Wd hw 82 rfl)) (Or.inl (Wd hw 138 rfl)) (by decide) (t := (.array (.array .byte))) (t' := .long) (by decide) (by decide)))), (Fld.other W24 (Fld.other W22 (Fld.other W19 ((F_counts_x.keep Kc14 nin0).keep Kc16 (ninS nq_x_hp (ninS nq_x_sl (ninS nq_x_ix nin0)))) (Or.inl nq_x_it)) (Or.inl nq_x_ct)) (Or.inr (slot_ne (Or.inr (Wd hw 84 rfl)) (Or.inl (Wd hw 138 rfl)) (by decide) (t := (.array .long)) (t' := .long) (by decide) (by decide)))), F24, (((q16_0.other W19 nq_it_hp.symm).other W22 ne_hp_ct).other W24 nq_x_hp.symm), (((q16_1.other W19 nq_it_sl.symm).other W22 ne_sl_ct).other W24 nq_x_sl.symm), (((q16_2.other W19 nq_it_ix.symm).other W22 nq_ix_ct).other W24 nq_x_ix.symm), ((V19.other W22 nq_it_ct).other W24 nq_x_it.symm), (V22.other W24 nq_x_ct.symm), ((((q14_1.keep Kc16 (ninS (Ne.symm ((nlt V_hp.lt zq_rt_14))) (ninS (Ne.symm ((nlt V_sl.lt zq_rt_14))) (ninS (Ne.symm ((nlt V_ix.lt zq_rt_14))) nin0)))).other W19 (Ne.symm ((nlt V_it.lt zq_rt_14)))).other W22 (Ne.symm ((nlt V_ct.lt zq_rt_14)))).other W24 (Ne.symm ((nlt E_x.lt zq_rt_14)))), q16_3, (Or.inl ⟨own_adY hz hc13, rfl, rfl⟩)⟩
theorem efOUc (m : MethodId) (x : Addr) (hs : Int64) (bf : Addr) (fo : Int32) (ln : Int32) : entryFrame m #[(.ref x), (.long hs), (.ref bf), (.int fo), (.int ln)] 9 = mkF m 0 #[.val (.ref x), .val (.long hs), .second, .val (.ref bf), .val (.int fo), .val (.int ln), .unset, .unset, .unset] [] := by first | (simp [entryFrame, mkF, argsToLocals, Value.category]; done) | rfl
def QOUc (Z : State) (x : Addr) (hs : Int64) (bf : Addr) (fo : Int32) (ln : Int32) (lh : Addr) (it : Addr) (ct : Addr) (rd : Int64) (hp : Addr) (sl : Addr) (ix : Addr) (mk : Int32) (xa : Int64) (xb : Int64) (xc : Int64) (kl : Int32) (k_hp : ClassId) (nl : Int32) (k_sl : ClassId) (sv : List Int64) (k_ix : ClassId) (iv : List Int32) (ca : Int64) (cb : Int64) (cc : Int64) (k_ct : ClassId) (ia : Addr) (ib : Addr) (k_it : ClassId) (na : Int32) (wa : List Value) (k_ia : ClassId) (nb : Int32) (wb : List Value) (k_ib : ClassId) (k_bf : ClassId) (ka : Int64) (kb : Int64) (h0 : Heap) (n0 : Nat) (v : Option Value) (h : Heap) (L : List Loc) : Prop := ∃ iz : Addr, ∃ k_iz : ClassId, ∃ nz : Int32, ∃ wz : List Value, ∃ jz : Addr, ∃ k_jz : ClassId, ∃ oz : Int32, ∃ vz : List Value, v = none ∧ Fr n0 L ∧ Keep h0 h [x, hp, sl, ix, it, ct] ∧ Exa Z h x cRE ∧ Fld Z h x cRE "kept" "Lcom/example/tallysketch/tallysketch/LargestHashes;" (.ref lh) ∧ Fld Z h x cRE "items" "[[B" (.ref it) ∧ Fld Z h x cRE "counts" "[J" (.ref ct) ∧ Arv Z h it k_it (.array .byte) kl [(.ref iz), (.ref jz), .null] .null ∧ Arv Z h iz k_iz .byte nz wz (.int (0 : Int32)) ∧ Arv Z h jz k_jz .byte oz vz (.int (0 : Int32)) ∧ ((¬ own_lt xa hs ∧ nz = na ∧ oz = nb) ∨ (own_lt xa hs ∧ ((xa = ka ∧ nz = ln ∧ oz = nb) ∨ (xa = kb ∧ nz = na ∧ oz = ln))))
set_option maxRecDepth 65536 in
set_option maxHeartbeats 40000000 in
theorem rmOUc (l : Launch) (Z : State) (a0 : Array Value) (hw : ∀ d ∈ tables_1, d.before a0 Z = true) (ws : List Jvm.Cond) (x : Addr) (hs : Int64) (bf : Addr) (fo : Int32) (ln : Int32) (lh : Addr) (it : Addr) (ct : Addr) (rd : Int64) (hp : Addr) (sl : Addr) (ix : Addr) (mk : Int32) (xa : Int64) (xb : Int64) (xc : Int64) (kl : Int32) (k_hp : ClassId) (nl : Int32) (k_sl : ClassId) (sv : List Int64) (k_ix : ClassId) (iv : List Int32) (ca : Int64) (cb : Int64) (cc : Int64) (k_ct : ClassId) (ia : Addr) (ib : Addr) (k_it : ClassId) (na : Int32) (wa : List Value) (k_ia : ClassId) (nb : Int32) (wb : List Value) (k_ib : ClassId) (k_bf : ClassId) (ka : Int64) (kb : Int64) (h0 : Heap) (n0 : Nat) (Z0 : n0 ≤ h0.size) (E_x : Exa Z h0 x cRE) (F_kept_x : Fld Z h0 x cRE "kept" "Lcom/example/tallysketch/tallysketch/LargestHashes;" (.ref lh)) (F_items_x : Fld Z h0 x cRE "items" "[[B" (.ref it)) (F_counts_x : Fld Z h0 x cRE "counts" "[J" (.ref ct)) (F_records_x : Fld Z h0 x cRE "records" "J" (.long rd)) (E_lh : Exa Z h0 lh cLH) (F_heap_lh : Fld Z h0 lh cLH "heap" "[J" (.ref hp)) (F_size_lh : Fld Z h0 lh cLH "size" "I" (.int (2 : Int32))) (F_slots_lh : Fld Z h0 lh cLH "slots" "[J" (.ref sl)) (F_indices_lh : Fld Z h0 lh cLH "indices" "[I" (.ref ix)) (F_mask_lh : Fld Z h0 lh cLH "mask" "I" (.int mk)) (V_hp : Arv Z h0 hp k_hp .long kl [(.long xa), (.long xb), (.long xc)] (.long (0 : Int64))) (V_sl : Arv Z h0 sl k_sl .long nl (sv.map Value.long) (.long (0 : Int64))) (V_ix : Arv Z h0 ix k_ix .int nl (iv.map Value.int) (.int (0 : Int32))) (V_ct : Arv Z h0 ct k_ct .long kl [(.long ca), (.long cb), (.long cc)] (.long (0 : Int64))) (V_it : Arv Z h0 it k_it (.array .byte) kl [(.ref ia), (.ref ib), .null] .null) (K : own_kmn kl mk nl) (ne_hp_sl : hp ≠ sl) (ne_hp_ct : hp ≠ ct) (ne_sl_ct : sl ≠ ct) (ovr : OvrA Z k_it .byte "[B") (V_ia : Arv Z h0 ia k_ia .byte na wa (.int (0 : Int32))) (V_ib : Arv Z h0 ib k_ib .byte nb wb (.int (0 : Int32))) (V_bf : Arv Z h0 bf k_bf .byte (10 : Int32) [(.int (0 : Int32)), (.int (0 : Int32)), (.int (0 : Int32)), (.int (0 : Int32)), (.int (0 : Int32)), (.int (0 : Int32)), (.int (0 : Int32)), (.int (0 : Int32)), (.int (0 : Int32)), (.int (0 : Int32))] (.int (0 : Int32))) (hfo : 0 ≤ fo.toInt ∧ fo.toInt ≤ 3) (hln : 0 ≤ ln.toInt ∧ ln.toInt ≤ 7) (hz : (2 : Int32) = kl) (hab : ¬ kb = ka) (tt : own_t2 mk sv iv ka kb) (hxa : xa = ka ∨ xa = kb) (hna : ¬ hs = ka) (hnb : ¬ hs = kb) (g_x : n0 ≤ x) (g_hp : n0 ≤ hp) (g_sl : n0 ≤ sl) (g_ix : n0 ≤ ix) (g_it : n0 ≤ it) (g_ct : n0 ≤ ct) :
  MetFree l (⟨cRE, "offerItem", "(J[BII)V"⟩ : MethodName) (head1 (Jvm.Cond.code (⟨cRE, "offerItem", "(J[BII)V"⟩ : MethodName) prog_7_method_11_code 9 none :: ws) ({ frames := 4, cells := 1, slots := 7, locals := 140 } : Room)) (fun av_ U => av_ = #[(.ref x), (.long hs), (.ref bf), (.int fo), (.int ln)] ∧ Z.Warmed39 U.vm ∧ U.heap = h0) (fun _ _ _ _ _ => True) (fun _ U o U' => ∃ v L, o = .returned v ∧ QOUc Z x hs bf fo ln lh it ct rd hp sl ix mk xa xb xc kl k_hp nl k_sl sv k_ix iv ca cb cc k_ct ia ib k_it na wa k_ia nb wb k_ib k_bf ka kb h0 n0 v U'.heap L ∧ FrameEnd U o U' L ({ frames := 4, cells := 1, slots := 7, locals := 140 } : Room).cells ({ frames := 4, cells := 1, slots := 7, locals := 140 } : Room).slots) := by
 refine MetFree.of_bodySF (plainFor_of_name own_pn3) hisR ?_
 intro p e s m args below meth c s₁ Bd hml0 hP hK
 obtain ⟨rfl, hZ, hh⟩ := hP
 have hx := Bd.exec
 have hby := Bd.bytes
 have hml : c.maxLocals = 9 := hml0
 have hown : s.vm.findClass cRE = some m.cls := findClass_of_methodNamed Bd.named
 have hnm := (name_of_methodNamed Bd.named Bd.method).1
 have X0 : Stand p l e ({ frames := 4, cells := 1, slots := 7, locals := 140 } : Room) s m #[(.ref x), (.long hs), (.ref bf), (.int fo), (.int ln)] below meth c s₁ [] 0 0 := Stand.of_body Bd
 have e0 : s₁.heap = h0 := by rw [← hh, Bd.state]; rfl
 have N0 := Fr.nil n0
 have hlk : meth.locks = false := Bd.notSynchronized
 have pre0 : ∀ t, Steps p.tables e below (s₁.setTop (mkF m 0 #[.val (.ref x), .val (.long hs), .second, .val (.ref bf), .val (.int fo), .val (.int ln), .unset, .unset, .unset] [])) t → Steps p.tables e below (s₁.setTop (entryFrame m #[(.ref x), (.long hs), (.ref bf), (.int fo), (.int ln)] 9)) t := fun t k => castTop (efOUc m x hs bf fo ln) k
 have nq_x_ix : x ≠ ix := (Exa.neArv E_x V_ix (Wd hw 2 rfl))
 have nq_x_sl : x ≠ sl := (Exa.neArv E_x V_sl (Wd hw 2 rfl))
 have nq_x_hp : x ≠ hp := (Exa.neArv E_x V_hp (Wd hw 2 rfl))
 have nq_it_ix : it ≠ ix := (own_neT V_it V_ix (by simp))
 have nq_it_sl : it ≠ sl := (own_neT V_it V_sl (by simp))
 have nq_it_hp : it ≠ hp := (own_neT V_it V_hp (by simp))
 have nq_x_it : x ≠ it := (Exa.neArv E_x V_it (Wd hw 2 rfl))
 have nq_ct_ix : ct ≠ ix := (own_neT V_ct V_ix (by simp))
 have nq_ct_it : ct ≠ it := (own_neT V_ct V_it (by simp))
 have nq_x_ct : x ≠ ct := (Exa.neArv E_x V_ct (Wd hw 2 rfl))
 have nq_ib_ix : ib ≠ ix := (own_neT V_ib V_ix (by simp))
 have nq_ib_sl : ib ≠ sl := (own_neT V_ib V_sl (by simp))
 have nq_ib_hp : ib ≠ hp := (own_neT V_ib V_hp (by simp))
 have nq_ib_it : ib ≠ it := (own_neT V_ib V_it (by simp))
 have nq_ib_ct : ib ≠ ct := (own_neT V_ib V_ct (by simp))
 have nq_ib_x : ib ≠ x := (Ne.symm (Exa.neArv E_x V_ib (Wd hw 2 rfl)))
 have nq_ia_ix : ia ≠ ix := (own_neT V_ia V_ix (by simp))
 have nq_ia_sl : ia ≠ sl := (own_neT V_ia V_sl (by simp))
 have nq_ia_hp : ia ≠ hp := (own_neT V_ia V_hp (by simp))
 have nq_ia_it : ia ≠ it := (own_neT V_ia V_it (by simp))
 have nq_ia_ct : ia ≠ ct := (own_neT V_ia V_ct (by simp))
 have nq_ia_x : ia ≠ x := (Ne.symm (Exa.neArv E_x V_ia (Wd hw 2 rfl)))
 have hk1 : ¬ kl = 1 := by rw [← hz]; decide
 obtain ⟨rr, hr, hri, -, -, hr2, -⟩ := own_f2 K hk1 hab tt hs
 obtain ⟨T1, X1, e1, st1⟩ := getF X0 hx hZ hown (host := "") (Or.inl (Wd hw 77 rfl)) Via.refl e0 F_kept_x (g := (mkF m 1 #[.val (.ref x), .val (.long hs), .second, .val (.ref bf), .val (.int fo), .val (.int ln), .unset, .unset, .unset] [(.ref x)])) rfl rfl (hb hby d11_1)
 obtain ⟨cq2, kq2, q2a, q2b, q2c⟩ := isOf hZ e1 E_lh
 obtain ⟨_, _, ⟨T2, L2, k2, n2⟩, -, X2, ⟨Lc2, hQ2, l2, y2, z2⟩, st2⟩ := X1.virtualBack hx (y := (⟨cLH, "indexOf", "(J)I"⟩ : MethodName)) (z := (⟨cLH, "indexOf", "(J)I"⟩ : MethodName)) hown (mvT hZ (Wd hw 90 rfl)) (mvT hZ (Wd hw 91 rfl)) (notFace_of_selects (args := #[]) (mvT hZ (Wd hw 93 rfl))) (mvT hZ (Wd hw 93 rfl)) (mvT hZ (Wd hw 92 rfl)) (by decide) (backOf (W := 0) (rmIO l Z a0 hw [] lh hs hp (2 : Int32) sl ix mk xa xb xc kl k_hp nl k_sl sv k_ix iv rr h0 n0 Z0 E_lh F_heap_lh F_size_lh F_slots_lh F_indices_lh F_mask_lh V_hp V_sl V_ix K hr) hZ (Wd hw 94 rfl) (Wd hw 50 rfl) (by decide) (by decide)) q2a q2c (g := (mkF m 5 #[.val (.ref x), .val (.long hs), .second, .val (.ref bf), .val (.int fo), .val (.int ln), .unset, .unset, .unset] [(.long hs), (.ref lh)])) rfl (by rw [hml]; rfl) (Steps.refl _) (argsL := [(.long hs)]) (rest := []) (lenOf own_pd2 rfl) rfl (by show 2 * 0 + _ ≤ _; exact Nat.le_of_eq rfl) (hb hby d11_5) (fun _ _ => ⟨rfl, e1, (by decide : 0 + 0 ≤ _), (by decide : 0 + 0 ≤ _)⟩)
 dsimp only [Pt.U, Pt.locs, Pt.cells, Pt.slots] at X2 l2 y2 z2 st2 hQ2
 subst l2 y2 z2
 obtain ⟨rfl, Nq2, e2⟩ := hQ2
 have N2 := Fr.app N0 Nq2
 have r3 : ∀ t, Steps p.tables e below (T2.setTop (mkF m 10 #[.val (.ref x), .val (.long hs), .second, .val (.ref bf), .val (.int fo), .val (.int ln), .val (.int (own_ix (2 : Int32) kl hs xa iv rr)), .unset, .unset] [])) t → Steps p.tables e below (s₁.setTop (mkF m 0 #[.val (.ref x), .val (.long hs), .second, .val (.ref bf), .val (.int fo), .val (.int ln), .unset, .unset, .unset] [])) t := fun t kt => by
  refine XS.aloadN X0.here hx rfl (hb hby d11_0) rfl rfl ?_
  refine st1 _ ?_
  refine XS.lloadN X1.here hx rfl (hb hby d11_4) rfl ?_
  refine st2.trans ?_
  refine XS.istore X2.here hx rfl (hb hby d11_8) rfl (l' := #[.val (.ref x), .val (.long hs), .second, .val (.ref bf), .val (.int fo), .val (.int ln), .val (.int (own_ix (2 : Int32) kl hs xa iv rr)), .unset, .unset]) rfl ?_
  exact kt
 have r4 : ∀ t, Steps p.tables e below (T2.setTop (mkF m 10 #[.val (.ref x), .val (.long hs), .second, .val (.ref bf), .val (.int fo), .val (.int ln), .val (.int (-1 : Int32)), .unset, .unset] [])) t → Steps p.tables e below (T2.setTop (mkF m 10 #[.val (.ref x), .val (.long hs), .second, .val (.ref bf), .val (.int fo), .val (.int ln), .val (.int (own_ix (2 : Int32) kl hs xa iv rr)), .unset, .unset] [])) t := fun t kt => by
  have q : (own_ix (2 : Int32) kl hs xa iv rr) = (-1 : Int32) := (own_ixm (hr2 hna hnb))
  rw [q]
  exact kt
 obtain ⟨T5, X5, e5, st5⟩ := getF X2 hx hZ hown (host := "") (Or.inl (Wd hw 77 rfl)) Via.refl e2 F_kept_x (g := (mkF m 31 #[.val (.ref x), .val (.long hs), .second, .val (.ref bf), .val (.int fo), .val (.int ln), .val (.int (-1 : Int32)), .unset, .unset] [(.ref x)])) rfl rfl (hb hby d11_31)
 obtain ⟨cq6, kq6, q6a, q6b, q6c⟩ := isOf hZ e5 E_lh
 obtain ⟨_, _, ⟨T6, L6, k6, n6⟩, -, X6, ⟨Lc6, hQ6, l6, y6, z6⟩, st6⟩ := X5.virtualBack hx (y := (⟨cLH, "admits", "(J)Z"⟩ : MethodName)) (z := (⟨cLH, "admits", "(J)Z"⟩ : MethodName)) hown (mvT hZ (Wd hw 105 rfl)) (mvT hZ (Wd hw 106 rfl)) (notFace_of_selects (args := #[]) (mvT hZ (Wd hw 108 rfl))) (mvT hZ (Wd hw 108 rfl)) (mvT hZ (Wd hw 107 rfl)) (by decide) (backOf (W := 0) (rmAD l Z a0 hw [] lh hs hp (2 : Int32) xa xb xc kl k_hp h0 n0 Z0 E_lh F_heap_lh F_size_lh V_hp (own_kpos K)) hZ (Wd hw 109 rfl) (Wd hw 50 rfl) (by decide) (by decide)) q6a q6c (g := (mkF m 35 #[.val (.ref x), .val (.long hs), .second, .val (.ref bf), .val (.int fo), .val (.int ln), .val (.int (-1 : Int32)), .unset, .unset] [(.long hs), (.ref lh)])) rfl (by rw [hml]; rfl) (Steps.refl _) (argsL := [(.long hs)]) (rest := []) (lenOf own_pd7 rfl) rfl (by show 2 * 0 + _ ≤ _; exact Nat.le_of_eq rfl) (hb hby d11_35) (fun _ _ => ⟨rfl, e5, (by decide : 0 + 0 ≤ _), (by decide : 0 + 0 ≤ _)⟩)
 dsimp only [Pt.U, Pt.locs, Pt.cells, Pt.slots] at X6 l6 y6 z6 st6 hQ6
 subst l6 y6 z6
 obtain ⟨rfl, Nq6, e6⟩ := hQ6
 have N6 := Fr.app N2 Nq6
 have r7 : ∀ t, Steps p.tables e below (T6.setTop (mkF m 38 #[.val (.ref x), .val (.long hs), .second, .val (.ref bf), .val (.int fo), .val (.int ln), .val (.int (-1 : Int32)), .unset, .unset] [(.int (own_ad (2 : Int32) kl hs xa))])) t → Steps p.tables e below (T2.setTop (mkF m 10 #[.val (.ref x), .val (.long hs), .second, .val (.ref bf), .val (.int fo), .val (.int ln), .val (.int (-1 : Int32)), .unset, .unset] [])) t := fun t kt => by
  refine XS.iload X2.here hx rfl (hb hby d11_10) rfl ?_
  refine XS.iconst X2.here hx rfl (hb hby d11_12) ?_
  refine XS.icmpYes X2.here hx rfl (pc0 := 13) (pc' := 30) rfl (hb hby d11_13) rfl (teq (by decide : (-1 : Int32) = (-1 : Int32))).1 (by decide) (by decide) ?_
  refine XS.aloadN X2.here hx rfl (hb hby d11_30) rfl rfl ?_
  refine st5 _ ?_
  refine XS.lloadN X5.here hx rfl (hb hby d11_34) rfl ?_
  refine st6.trans ?_
  exact kt
 by_cases hc8 : (own_ad (2 : Int32) kl hs xa) = (0 : Int32)
 ·obtain ⟨fs, hr, hrun, hended, hW, hsame⟩ := X6.leave (v := none) (fun _ => rfl) hlk
  refine ⟨_, _, (pre0 _ (r3 _ (r4 _ (r7 _ ?_)))), hrun, hended, _, _, rfl, ?_, ⟨_, rfl⟩, hW, hsame.mono (by decide) (by decide)⟩
  ·show Steps p.tables e below (T6.setTop (mkF m 38 #[.val (.ref x), .val (.long hs), .second, .val (.ref bf), .val (.int fo), .val (.int ln), .val (.int (-1 : Int32)), .unset, .unset] [(.int (own_ad (2 : Int32) kl hs xa))])) _
   refine XS.ifYes X6.here hx rfl (pc0 := 38) (pc' := 91) rfl (hb hby d11_38) rfl ((if0 _ _).trans (teq hc8).1) (by decide) (by decide) ?_
   exact X6.returnOut hx Bd.returns (hb hby d11_91) hr
  ·show QOUc Z x hs bf fo ln lh it ct rd hp sl ix mk xa xb xc kl k_hp nl k_sl sv k_ix iv ca cb cc k_ct ia ib k_it na wa k_ia nb wb k_ib k_bf ka kb h0 n0 _ T6.heap _
   rw [e6]
   exact ⟨ia, k_ia, na, wa, ib, k_ib, nb, wb, rfl, N6, (Keep.refl h0 [x, hp, sl, ix, it, ct]), E_x, F_kept_x, F_items_x, F_counts_x, V_it, V_ia, V_ib, (Or.inl ⟨own_adN hc8, rfl, rfl⟩)⟩
 ·obtain ⟨_, _, ⟨T9, L9, k9, n9⟩, -, X9, ⟨Lc9, hQ9, l9, y9, z9⟩, st9⟩ := Jvm.LawKit.callS X6 hx (y := (⟨"java/util/Arrays", "copyOfRange", "([BII)[B"⟩ : MethodName)) hown (mvT hZ (Wd hw 110 rfl)) (mvT hZ (Wd hw 111 rfl)) (mvT hZ (Wd hw 73 rfl)) (mvT hZ (Wd hw 112 rfl)) (by decide) (backOf (W := 0) (rmCR l Z a0 hw [] bf fo ln k_bf h0 n0 Z0 V_bf hfo hln) hZ (Wd hw 112 rfl) (Wd hw 73 rfl) (by decide) (by decide)) (g := (mkF m 49 #[.val (.ref x), .val (.long hs), .second, .val (.ref bf), .val (.int fo), .val (.int ln), .val (.int (-1 : Int32)), .unset, .unset] [(.int (fo + ln)), (.int fo), (.ref bf)])) rfl (by rw [hml]; rfl) (argsL := [(.ref bf), (.int fo), (.int (fo + ln))]) (rest := []) (lenOf own_pd6 rfl) rfl (by show 2 * 0 + _ ≤ _; exact Nat.le_of_eq rfl) (hb hby d11_49) (fun _ _ => ⟨rfl, e6, (by decide : 0 + 1 ≤ _), (by decide : 0 + 7 ≤ _)⟩)
  dsimp only [Pt.U, Pt.locs, Pt.cells, Pt.slots] at X9 l9 y9 z9 st9 hQ9
  subst l9 y9 z9
  obtain ⟨rt_9, k_rt_9, lw_9, rfl, Nq9, Kc9, g_rt_9, zq_rt_9, q9_0, q9_1⟩ := hQ9
  have sz_rt_9 : h0.size ≤ rt_9 := Nat.le_trans (Keep.refl h0 [x, hp, sl, ix, it, ct]).1 zq_rt_9
  have K9 : Keep h0 T9.heap [x, hp, sl, ix, it, ct] := Keep.trans (Keep.refl h0 [x, hp, sl, ix, it, ct]) Kc9 all0
  have Zs9 : n0 ≤ T9.heap.size := Nat.le_trans Z0 Kc9.1
  have N9 := Fr.app N6 Nq9
  obtain ⟨T10, X10, e10, st10⟩ := getF X9 hx hZ hown (host := "") (Or.inl (Wd hw 77 rfl)) Via.refl rfl (F_kept_x.keep Kc9 nin0) (g := (mkF m 55 #[.val (.ref x), .val (.long hs), .second, .val (.ref bf), .val (.int fo), .val (.int ln), .val (.int (-1 : Int32)), .val (.ref rt_9), .unset] [(.ref x)])) rfl rfl (hb hby d11_55)
  obtain ⟨cq11, kq11, q11a, q11b, q11c⟩ := isOf hZ e10 (E_lh.keep Kc9)
  obtain ⟨_, _, ⟨T11, L11, k11, n11⟩, -, X11, ⟨Lc11, hQ11, l11, y11, z11⟩, st11⟩ := X10.virtualBack hx (y := (⟨cLH, "add", "(J)I"⟩ : MethodName)) (z := (⟨cLH, "add", "(J)I"⟩ : MethodName)) hown (mvT hZ (Wd hw 127 rfl)) (mvT hZ (Wd hw 128 rfl)) (notFace_of_selects (args := #[]) (mvT hZ (Wd hw 130 rfl))) (mvT hZ (Wd hw 130 rfl)) (mvT hZ (Wd hw 129 rfl)) (by decide) (backOf (W := 0) (rmAUc l Z a0 hw [] lh hs hp sl ix mk xa xb xc kl k_hp nl k_sl sv k_ix iv ka kb T9.heap n0 Zs9 (E_lh.keep Kc9) (F_heap_lh.keep Kc9 nin0) (F_size_lh.keep Kc9 nin0) (F_slots_lh.keep Kc9 nin0) (F_indices_lh.keep Kc9 nin0) (F_mask_lh.keep Kc9 nin0) (V_hp.keep Kc9 nin0) (V_sl.keep Kc9 nin0) (V_ix.keep Kc9 nin0) K hz hab tt hxa ne_hp_sl g_hp g_sl g_ix) hZ (Wd hw 131 rfl) (Wd hw 50 rfl) (by decide) (by decide)) q11a q11c (g := (mkF m 59 #[.val (.ref x), .val (.long hs), .second, .val (.ref bf), .val (.int fo), .val (.int ln), .val (.int (-1 : Int32)), .val (.ref rt_9), .unset] [(.long hs), (.ref lh)])) rfl (by rw [hml]; rfl) (Steps.refl _) (argsL := [(.long hs)]) (rest := []) (lenOf own_pd2 rfl) rfl (by show 2 * 0 + _ ≤ _; exact Nat.le_of_eq rfl) (hb hby d11_59) (fun _ _ => ⟨rfl, e10, (by decide : 1 + 0 ≤ _), (by decide : 7 + 0 ≤ _)⟩)
  dsimp only [Pt.U, Pt.locs, Pt.cells, Pt.slots] at X11 l11 y11 z11 st11 hQ11
  subst l11 y11 z11
  obtain ⟨jx_11, rfl, Nq11, Kc11, q11_0⟩ := hQ11
  have K11 : Keep h0 T11.heap [x, hp, sl, ix, it, ct] := Keep.trans K9 Kc11 (allS (Or.inl (List.mem_of_getElem? (i := 1) rfl)) (allS (Or.inl (List.mem_of_getElem? (i := 2) rfl)) (allS (Or.inl (List.mem_of_getElem? (i := 3) rfl)) all0)))
  have Zs11 : n0 ≤ T11.heap.size := Nat.le_trans Zs9 Kc11.1
  have N11 := Fr.app N9 Nq11
  have r12 : ∀ t, Steps p.tables e below (T11.setTop (mkF m 64 #[.val (.ref x), .val (.long hs), .second, .val (.ref bf), .val (.int fo), .val (.int ln), .val (.int (-1 : Int32)), .val (.ref rt_9), .val (.int jx_11)] [])) t → Steps p.tables e below (T6.setTop (mkF m 38 #[.val (.ref x), .val (.long hs), .second, .val (.ref bf), .val (.int fo), .val (.int ln), .val (.int (-1 : Int32)), .unset, .unset] [(.int (own_ad (2 : Int32) kl hs xa))])) t := fun t kt => by
   refine XS.ifNo X6.here hx rfl (hb hby d11_38) rfl ((if0 _ _).trans (feq hc8).1) ?_
   refine XS.aloadN X6.here hx rfl (hb hby d11_41) rfl rfl ?_
   refine XS.iload X6.here hx rfl (hb hby d11_42) rfl ?_
   refine XS.iload X6.here hx rfl (hb hby d11_44) rfl ?_
   refine XS.iload X6.here hx rfl (hb hby d11_46) rfl ?_
   refine XS.iadd X6.here hx rfl (hb hby d11_48) rfl ?_
   refine st9 _ ?_
   refine XS.astore X9.here hx rfl (hb hby d11_52) rfl rfl (l' := #[.val (.ref x), .val (.long hs), .second, .val (.ref bf), .val (.int fo), .val (.int ln), .val (.int (-1 : Int32)), .val (.ref rt_9), .unset]) rfl ?_
   refine XS.aloadN X9.here hx rfl (hb hby d11_54) rfl rfl ?_
   refine st10 _ ?_
   refine XS.lloadN X10.here hx rfl (hb hby d11_58) rfl ?_
   refine st11.trans ?_
   refine XS.istore X11.here hx rfl (hb hby d11_62) rfl (l' := #[.val (.ref x), .val (.long hs), .second, .val (.ref bf), .val (.int fo), .val (.int ln), .val (.int (-1 : Int32)), .val (.ref rt_9), .val (.int jx_11)]) rfl ?_
   exact kt
  rcases hxa with hxe | hxe
  ·have r13 : ∀ t, Steps p.tables e below (T11.setTop (mkF m 64 #[.val (.ref x), .val (.long hs), .second, .val (.ref bf), .val (.int fo), .val (.int ln), .val (.int (-1 : Int32)), .val (.ref rt_9), .val (.int (0 : Int32))] [])) t → Steps p.tables e below (T11.setTop (mkF m 64 #[.val (.ref x), .val (.long hs), .second, .val (.ref bf), .val (.int fo), .val (.int ln), .val (.int (-1 : Int32)), .val (.ref rt_9), .val (.int jx_11)] [])) t := fun t kt => by
    have q : jx_11 = (0 : Int32) := (q11_0.1 hxe)
    rw [q]
    exact kt
   obtain ⟨T14, X14, e14, st14⟩ := getF X11 hx hZ hown (host := "") (Or.inl (Wd hw 81 rfl)) Via.refl rfl ((F_items_x.keep Kc9 nin0).keep Kc11 (ninS nq_x_hp (ninS nq_x_sl (ninS nq_x_ix nin0)))) (g := (mkF m 65 #[.val (.ref x), .val (.long hs), .second, .val (.ref bf), .val (.int fo), .val (.int ln), .val (.int (-1 : Int32)), .val (.ref rt_9), .val (.int (0 : Int32))] [(.ref x)])) rfl rfl (hb hby d11_65)
   obtain ⟨cl15, Ar15, q15, S15, M15, Hs15, G15⟩ := ((V_it.keep Kc9 nin0).keep Kc11 (ninS nq_it_hp (ninS nq_it_sl (ninS nq_it_ix nin0))))
   have hin15 : ¬ ((0 : Int32) < 0 ∨ cl15.slots.size ≤ ((0 : Int32)).toNatClampNeg) := inb_of S15 ⟨by decide, by rw [← hz]; decide⟩
   obtain ⟨T16, h16, X16, e16, W16, st16⟩ := stR X14 hx hZ e14 Ar15 (j := (0 : Int32)) hin15 rfl (Sto.ofVA Ar15 q15 ovr (Ins.self (q9_0.keep Kc11))) (g := (mkF m 72 #[.val (.ref x), .val (.long hs), .second, .val (.ref bf), .val (.int fo), .val (.int ln), .val (.int (-1 : Int32)), .val (.ref rt_9), .val (.int (0 : Int32))] [(.ref rt_9), (.int (0 : Int32)), (.ref it)])) rfl rfl (hb hby d11_72)
   have V16 : Arv Z h16 it k_it (.array .byte) kl [(.ref rt_9), (.ref ib), .null] .null := Arv.set Ar15 q15 S15 M15 Hs15 G15 rfl W16 0 rfl (Nat.le_of_ble_eq_true rfl)
   have K16 : Keep h0 h16 [x, hp, sl, ix, it, ct] := K11.wr W16 (Or.inl (List.mem_of_getElem? (i := 4) rfl))
   have Zs16 : n0 ≤ h16.size := Nat.le_trans Zs11 (Keep.of_wr W16).1
   have N16 := Fr.snoc X16 N11 g_it
   obtain ⟨T17, X17, e17, st17⟩ := getF X16 hx hZ hown (host := "") (Or.inl (Wd hw 83 rfl)) Via.refl e16 (Fld.other W16 ((F_counts_x.keep Kc9 nin0).keep Kc11 (ninS nq_x_hp (ninS nq_x_sl (ninS nq_x_ix nin0)))) (Or.inl nq_x_it)) (g := (mkF m 74 #[.val (.ref x), .val (.long hs), .second, .val (.ref bf), .val (.int fo), .val (.int ln), .val (.int (-1 : Int32)), .val (.ref rt_9), .val (.int (0 : Int32))] [(.ref x)])) rfl rfl (hb hby d11_74)
   obtain ⟨cl18, Ar18, q18, S18, M18, Hs18, G18⟩ := (((V_ct.keep Kc9 nin0).keep Kc11 (ninS (Ne.symm ne_hp_ct) (ninS (Ne.symm ne_sl_ct) (ninS nq_ct_ix nin0)))).other W16 nq_ct_it)
   have hin18 : ¬ ((0 : Int32) < 0 ∨ cl18.slots.size ≤ ((0 : Int32)).toNatClampNeg) := inb_of S18 ⟨by decide, by rw [← hz]; decide⟩
   obtain ⟨T19, h19, X19, e19, W19, st19⟩ := stJ X17 hx hZ e17 Ar18 (j := (0 : Int32)) hin18 (g := (mkF m 80 #[.val (.ref x), .val (.long hs), .second, .val (.ref bf), .val (.int fo), .val (.int ln), .val (.int (-1 : Int32)), .val (.ref rt_9), .val (.int (0 : Int32))] [(.long (1 : Int64)), (.int (0 : Int32)), (.ref ct)])) rfl rfl (hb hby d11_80)
   have V19 : Arv Z h19 ct k_ct .long kl [(.long (1 : Int64)), (.long cb), (.long cc)] (.long (0 : Int64)) := Arv.set Ar18 q18 S18 M18 Hs18 G18 rfl W19 0 rfl (Nat.le_of_ble_eq_true rfl)
   have K19 : Keep h0 h19 [x, hp, sl, ix, it, ct] := K16.wr W19 (Or.inl (List.mem_of_getElem? (i := 5) rfl))
   have Zs19 : n0 ≤ h19.size := Nat.le_trans Zs16 (Keep.of_wr W19).1
   have N19 := Fr.snoc X19 N16 g_ct
   obtain ⟨T20, X20, e20, st20⟩ := getF X19 hx hZ hown (host := "") (Or.inl (Wd hw 137 rfl)) Via.refl e19 (Fld.other W19 (Fld.other W16 ((F_records_x.keep Kc9 nin0).keep Kc11 (ninS nq_x_hp (ninS nq_x_sl (ninS nq_x_ix nin0)))) (Or.inl nq_x_it)) (Or.inl nq_x_ct)) (g := (mkF m 83 #[.val (.ref x), .val (.long hs), .second, .val (.ref bf), .val (.int fo), .val (.int ln), .val (.int (-1 : Int32)), .val (.ref rt_9), .val (.int (0 : Int32))] [(.ref x), (.ref x)])) rfl rfl (hb hby d11_83)
   obtain ⟨T21, h21, X21, e21, W21, st21⟩ := putF X20 hx hZ hown (host := "") (Or.inl (Wd hw 137 rfl)) Via.refl e20 (Fld.other W19 (Fld.other W16 ((F_records_x.keep Kc9 nin0).keep Kc11 (ninS nq_x_hp (ninS nq_x_sl (ninS nq_x_ix nin0)))) (Or.inl nq_x_it)) (Or.inl nq_x_ct)) ((((E_x.keep Kc9).keep Kc11).wr W16).wr W19) (Or.inl (Wd hw 138 rfl)) (Wd hw 2 rfl) (ty := .long) (by decide) rfl rfl (g := (mkF m 88 #[.val (.ref x), .val (.long hs), .second, .val (.ref bf), .val (.int fo), .val (.int ln), .val (.int (-1 : Int32)), .val (.ref rt_9), .val (.int (0 : Int32))] [(.long (rd + (1 : Int64))), (.ref x)])) rfl rfl (hb hby d11_88)
   have F21 : Fld Z h21 x cRE "records" "J" (.long (rd + (1 : Int64))) := Fld.same W21 (Fld.other W19 (Fld.other W16 ((F_records_x.keep Kc9 nin0).keep Kc11 (ninS nq_x_hp (ninS nq_x_sl (ninS nq_x_ix nin0)))) (Or.inl nq_x_it)) (Or.inl nq_x_ct))
   have K21 : Keep h0 h21 [x, hp, sl, ix, it, ct] := K19.wr W21 (Or.inl (List.mem_of_getElem? (i := 0) rfl))
   have Zs21 : n0 ≤ h21.size := Nat.le_trans Zs19 (Keep.of_wr W21).1
   have N21 := Fr.snoc X21 N19 g_x
   obtain ⟨fs, hr, hrun, hended, hW, hsame⟩ := X21.leave (v := none) (fun _ => rfl) hlk
   refine ⟨_, _, (pre0 _ (r3 _ (r4 _ (r7 _ (r12 _ (r13 _ ?_)))))), hrun, hended, _, _, rfl, ?_, ⟨_, rfl⟩, hW, hsame.mono (by decide) (by decide)⟩
   ·show Steps p.tables e below (T11.setTop (mkF m 64 #[.val (.ref x), .val (.long hs), .second, .val (.ref bf), .val (.int fo), .val (.int ln), .val (.int (-1 : Int32)), .val (.ref rt_9), .val (.int (0 : Int32))] [])) _
    refine XS.aloadN X11.here hx rfl (hb hby d11_64) rfl rfl ?_
    refine st14 _ ?_
    refine XS.iload X14.here hx rfl (hb hby d11_68) rfl ?_
    refine XS.aload X14.here hx rfl (hb hby d11_70) rfl rfl ?_
    refine st16 _ ?_
    refine XS.aloadN X16.here hx rfl (hb hby d11_73) rfl rfl ?_
    refine st17 _ ?_
    refine XS.iload X17.here hx rfl (hb hby d11_77) rfl ?_
    refine XS.lconst X17.here hx rfl (hb hby d11_79) ?_
    refine st19 _ ?_
    refine XS.aloadN X19.here hx rfl (hb hby d11_81) rfl rfl ?_
    refine XS.dup X19.here hx rfl (hb hby d11_82) rfl rfl ?_
    refine st20 _ ?_
    refine XS.lconst X20.here hx rfl (hb hby d11_86) ?_
    refine XS.ladd X20.here hx rfl (hb hby d11_87) rfl ?_
    refine st21 _ ?_
    exact X21.returnOut hx Bd.returns (hb hby d11_91) hr
   ·show QOUc Z x hs bf fo ln lh it ct rd hp sl ix mk xa xb xc kl k_hp nl k_sl sv k_ix iv ca cb cc k_ct ia ib k_it na wa k_ia nb wb k_ib k_bf ka kb h0 n0 _ T21.heap _
    rw [e21]
    exact ⟨rt_9, k_rt_9, ln, lw_9, ib, k_ib, nb, wb, rfl, N21, K21, (((((E_x.keep Kc9).keep Kc11).wr W16).wr W19).wr W21), (Fld.other W21 (Fld.other W19 (Fld.other W16 ((F_kept_x.keep Kc9 nin0).keep Kc11 (ninS nq_x_hp (ninS nq_x_sl (ninS nq_x_ix nin0)))) (Or.inl nq_x_it)) (Or.inl nq_x_ct)) (Or.inr (slot_ne (Or.inr (Wd hw 78 rfl)) (Or.inl (Wd hw 138 rfl)) (by decide) (t := (.object cLH)) (t' := .long) (by decide) (by decide)))), (Fld.other W21 (Fld.other W19 (Fld.other W16 ((F_items_x.keep Kc9 nin0).keep Kc11 (ninS nq_x_hp (ninS nq_x_sl (ninS nq_x_ix nin0)))) (Or.inl nq_x_it)) (Or.inl nq_x_ct)) (Or.inr (slot_ne (Or.inr (Wd hw 82 rfl)) (Or.inl (Wd hw 138 rfl)) (by decide) (t := (.array (.array .byte))) (t' := .long) (by decide) (by decide)))), (Fld.other W21 (Fld.other W19 (Fld.other W16 ((F_counts_x.keep Kc9 nin0).keep Kc11 (ninS nq_x_hp (ninS nq_x_sl (ninS nq_x_ix nin0)))) (Or.inl nq_x_it)) (Or.inl nq_x_ct)) (Or.inr (slot_ne (Or.inr (Wd hw 84 rfl)) (Or.inl (Wd hw 138 rfl)) (by decide) (t := (.array .long)) (t' := .long) (by decide) (by decide)))), ((V16.other W19 nq_ct_it.symm).other W21 nq_x_it.symm), ((((q9_1.keep Kc11 (ninS (Ne.symm ((nlt V_hp.lt zq_rt_9))) (ninS (Ne.symm ((nlt V_sl.lt zq_rt_9))) (ninS (Ne.symm ((nlt V_ix.lt zq_rt_9))) nin0)))).other W16 (Ne.symm ((nlt V_it.lt zq_rt_9)))).other W19 (Ne.symm ((nlt V_ct.lt zq_rt_9)))).other W21 (Ne.symm ((nlt E_x.lt zq_rt_9)))), (((((V_ib.keep Kc9 nin0).keep Kc11 (ninS nq_ib_hp (ninS nq_ib_sl (ninS nq_ib_ix nin0)))).other W16 nq_ib_it).other W19 nq_ib_ct).other W21 nq_ib_x), (Or.inr ⟨own_adY hz hc8, Or.inl ⟨hxe, rfl, rfl⟩⟩)⟩
  ·have r22 : ∀ t, Steps p.tables e below (T11.setTop (mkF m 64 #[.val (.ref x), .val (.long hs), .second, .val (.ref bf), .val (.int fo), .val (.int ln), .val (.int (-1 : Int32)), .val (.ref rt_9), .val (.int (1 : Int32))] [])) t → Steps p.tables e below (T11.setTop (mkF m 64 #[.val (.ref x), .val (.long hs), .second, .val (.ref bf), .val (.int fo), .val (.int ln), .val (.int (-1 : Int32)), .val (.ref rt_9), .val (.int jx_11)] [])) t := fun t kt => by
    have q : jx_11 = (1 : Int32) := (q11_0.2 hxe)
    rw [q]
    exact kt
   obtain ⟨T23, X23, e23, st23⟩ := getF X11 hx hZ hown (host := "") (Or.inl (Wd hw 81 rfl)) Via.refl rfl ((F_items_x.keep Kc9 nin0).keep Kc11 (ninS nq_x_hp (ninS nq_x_sl (ninS nq_x_ix nin0)))) (g := (mkF m 65 #[.val (.ref x), .val (.long hs), .second, .val (.ref bf), .val (.int fo), .val (.int ln), .val (.int (-1 : Int32)), .val (.ref rt_9), .val (.int (1 : Int32))] [(.ref x)])) rfl rfl (hb hby d11_65)
   obtain ⟨cl24, Ar24, q24, S24, M24, Hs24, G24⟩ := ((V_it.keep Kc9 nin0).keep Kc11 (ninS nq_it_hp (ninS nq_it_sl (ninS nq_it_ix nin0))))
   have hin24 : ¬ ((1 : Int32) < 0 ∨ cl24.slots.size ≤ ((1 : Int32)).toNatClampNeg) := inb_of S24 ⟨by decide, by rw [← hz]; decide⟩
   obtain ⟨T25, h25, X25, e25, W25, st25⟩ := stR X23 hx hZ e23 Ar24 (j := (1 : Int32)) hin24 rfl (Sto.ofVA Ar24 q24 ovr (Ins.self (q9_0.keep Kc11))) (g := (mkF m 72 #[.val (.ref x), .val (.long hs), .second, .val (.ref bf), .val (.int fo), .val (.int ln), .val (.int (-1 : Int32)), .val (.ref rt_9), .val (.int (1 : Int32))] [(.ref rt_9), (.int (1 : Int32)), (.ref it)])) rfl rfl (hb hby d11_72)
   have V25 : Arv Z h25 it k_it (.array .byte) kl [(.ref ia), (.ref rt_9), .null] .null := Arv.set Ar24 q24 S24 M24 Hs24 G24 rfl W25 1 rfl (Nat.le_of_ble_eq_true rfl)
   have K25 : Keep h0 h25 [x, hp, sl, ix, it, ct] := K11.wr W25 (Or.inl (List.mem_of_getElem? (i := 4) rfl))
   have Zs25 : n0 ≤ h25.size := Nat.le_trans Zs11 (Keep.of_wr W25).1
   have N25 := Fr.snoc X25 N11 g_it
   obtain ⟨T26, X26, e26, st26⟩ := getF X25 hx hZ hown (host := "") (Or.inl (Wd hw 83 rfl)) Via.refl e25 (Fld.other W25 ((F_counts_x.keep Kc9 nin0).keep Kc11 (ninS nq_x_hp (ninS nq_x_sl (ninS nq_x_ix nin0)))) (Or.inl nq_x_it)) (g := (mkF m 74 #[.val (.ref x), .val (.long hs), .second, .val (.ref bf), .val (.int fo), .val (.int ln), .val (.int (-1 : Int32)), .val (.ref rt_9), .val (.int (1 : Int32))] [(.ref x)])) rfl rfl (hb hby d11_74)
   obtain ⟨cl27, Ar27, q27, S27, M27, Hs27, G27⟩ := (((V_ct.keep Kc9 nin0).keep Kc11 (ninS (Ne.symm ne_hp_ct) (ninS (Ne.symm ne_sl_ct) (ninS nq_ct_ix nin0)))).other W25 nq_ct_it)
   have hin27 : ¬ ((1 : Int32) < 0 ∨ cl27.slots.size ≤ ((1 : Int32)).toNatClampNeg) := inb_of S27 ⟨by decide, by rw [← hz]; decide⟩
   obtain ⟨T28, h28, X28, e28, W28, st28⟩ := stJ X26 hx hZ e26 Ar27 (j := (1 : Int32)) hin27 (g := (mkF m 80 #[.val (.ref x), .val (.long hs), .second, .val (.ref bf), .val (.int fo), .val (.int ln), .val (.int (-1 : Int32)), .val (.ref rt_9), .val (.int (1 : Int32))] [(.long (1 : Int64)), (.int (1 : Int32)), (.ref ct)])) rfl rfl (hb hby d11_80)
   have V28 : Arv Z h28 ct k_ct .long kl [(.long ca), (.long (1 : Int64)), (.long cc)] (.long (0 : Int64)) := Arv.set Ar27 q27 S27 M27 Hs27 G27 rfl W28 1 rfl (Nat.le_of_ble_eq_true rfl)
   have K28 : Keep h0 h28 [x, hp, sl, ix, it, ct] := K25.wr W28 (Or.inl (List.mem_of_getElem? (i := 5) rfl))
   have Zs28 : n0 ≤ h28.size := Nat.le_trans Zs25 (Keep.of_wr W28).1
   have N28 := Fr.snoc X28 N25 g_ct
   obtain ⟨T29, X29, e29, st29⟩ := getF X28 hx hZ hown (host := "") (Or.inl (Wd hw 137 rfl)) Via.refl e28 (Fld.other W28 (Fld.other W25 ((F_records_x.keep Kc9 nin0).keep Kc11 (ninS nq_x_hp (ninS nq_x_sl (ninS nq_x_ix nin0)))) (Or.inl nq_x_it)) (Or.inl nq_x_ct)) (g := (mkF m 83 #[.val (.ref x), .val (.long hs), .second, .val (.ref bf), .val (.int fo), .val (.int ln), .val (.int (-1 : Int32)), .val (.ref rt_9), .val (.int (1 : Int32))] [(.ref x), (.ref x)])) rfl rfl (hb hby d11_83)
   obtain ⟨T30, h30, X30, e30, W30, st30⟩ := putF X29 hx hZ hown (host := "") (Or.inl (Wd hw 137 rfl)) Via.refl e29 (Fld.other W28 (Fld.other W25 ((F_records_x.keep Kc9 nin0).keep Kc11 (ninS nq_x_hp (ninS nq_x_sl (ninS nq_x_ix nin0)))) (Or.inl nq_x_it)) (Or.inl nq_x_ct)) ((((E_x.keep Kc9).keep Kc11).wr W25).wr W28) (Or.inl (Wd hw 138 rfl)) (Wd hw 2 rfl) (ty := .long) (by decide) rfl rfl (g := (mkF m 88 #[.val (.ref x), .val (.long hs), .second, .val (.ref bf), .val (.int fo), .val (.int ln), .val (.int (-1 : Int32)), .val (.ref rt_9), .val (.int (1 : Int32))] [(.long (rd + (1 : Int64))), (.ref x)])) rfl rfl (hb hby d11_88)
   have F30 : Fld Z h30 x cRE "records" "J" (.long (rd + (1 : Int64))) := Fld.same W30 (Fld.other W28 (Fld.other W25 ((F_records_x.keep Kc9 nin0).keep Kc11 (ninS nq_x_hp (ninS nq_x_sl (ninS nq_x_ix nin0)))) (Or.inl nq_x_it)) (Or.inl nq_x_ct))
   have K30 : Keep h0 h30 [x, hp, sl, ix, it, ct] := K28.wr W30 (Or.inl (List.mem_of_getElem? (i := 0) rfl))
   have Zs30 : n0 ≤ h30.size := Nat.le_trans Zs28 (Keep.of_wr W30).1
   have N30 := Fr.snoc X30 N28 g_x
   obtain ⟨fs, hr, hrun, hended, hW, hsame⟩ := X30.leave (v := none) (fun _ => rfl) hlk
   refine ⟨_, _, (pre0 _ (r3 _ (r4 _ (r7 _ (r12 _ (r22 _ ?_)))))), hrun, hended, _, _, rfl, ?_, ⟨_, rfl⟩, hW, hsame.mono (by decide) (by decide)⟩
   ·show Steps p.tables e below (T11.setTop (mkF m 64 #[.val (.ref x), .val (.long hs), .second, .val (.ref bf), .val (.int fo), .val (.int ln), .val (.int (-1 : Int32)), .val (.ref rt_9), .val (.int (1 : Int32))] [])) _
    refine XS.aloadN X11.here hx rfl (hb hby d11_64) rfl rfl ?_
    refine st23 _ ?_
    refine XS.iload X23.here hx rfl (hb hby d11_68) rfl ?_
    refine XS.aload X23.here hx rfl (hb hby d11_70) rfl rfl ?_
    refine st25 _ ?_
    refine XS.aloadN X25.here hx rfl (hb hby d11_73) rfl rfl ?_
    refine st26 _ ?_
    refine XS.iload X26.here hx rfl (hb hby d11_77) rfl ?_
    refine XS.lconst X26.here hx rfl (hb hby d11_79) ?_
    refine st28 _ ?_
    refine XS.aloadN X28.here hx rfl (hb hby d11_81) rfl rfl ?_
    refine XS.dup X28.here hx rfl (hb hby d11_82) rfl rfl ?_
    refine st29 _ ?_
    refine XS.lconst X29.here hx rfl (hb hby d11_86) ?_
    refine XS.ladd X29.here hx rfl (hb hby d11_87) rfl ?_
    refine st30 _ ?_
    exact X30.returnOut hx Bd.returns (hb hby d11_91) hr
   ·show QOUc Z x hs bf fo ln lh it ct rd hp sl ix mk xa xb xc kl k_hp nl k_sl sv k_ix iv ca cb cc k_ct ia ib k_it na wa k_ia nb wb k_ib k_bf ka kb h0 n0 _ T30.heap _
    rw [e30]
    exact ⟨ia, k_ia, na, wa, rt_9, k_rt_9, ln, lw_9, rfl, N30, K30, (((((E_x.keep Kc9).keep Kc11).wr W25).wr W28).wr W30), (Fld.other W30 (Fld.other W28 (Fld.other W25 ((F_kept_x.keep Kc9 nin0).keep Kc11 (ninS nq_x_hp (ninS nq_x_sl (ninS nq_x_ix nin0)))) (Or.inl nq_x_it)) (Or.inl nq_x_ct)) (Or.inr (slot_ne (Or.inr (Wd hw 78 rfl)) (Or.inl (Wd hw 138 rfl)) (by decide) (t := (.object cLH)) (t' := .long) (by decide) (by decide)))), (Fld.other W30 (Fld.other W28 (Fld.other W25 ((F_items_x.keep Kc9 nin0).keep Kc11 (ninS nq_x_hp (ninS nq_x_sl (ninS nq_x_ix nin0)))) (Or.inl nq_x_it)) (Or.inl nq_x_ct)) (Or.inr (slot_ne (Or.inr (Wd hw 82 rfl)) (Or.inl (Wd hw 138 rfl)) (by decide) (t := (.array (.array .byte))) (t' := .long) (by decide) (by decide)))), (Fld.other W30 (Fld.other W28 (Fld.other W25 ((F_counts_x.keep Kc9 nin0).keep Kc11 (ninS nq_x_hp (ninS nq_x_sl (ninS nq_x_ix nin0)))) (Or.inl nq_x_it)) (Or.inl nq_x_ct)) (Or.inr (slot_ne (Or.inr (Wd hw 84 rfl)) (Or.inl (Wd hw 138 rfl)) (by decide) (t := (.array .long)) (t' := .long) (by decide) (by decide)))), ((V25.other W28 nq_ct_it.symm).other W30 nq_x_it.symm), (((((V_ia.keep Kc9 nin0).keep Kc11 (ninS nq_ia_hp (ninS nq_ia_sl (ninS nq_ia_ix nin0)))).other W25 nq_ia_it).other W28 nq_ia_ct).other W30 nq_ia_x), ((((q9_1.keep Kc11 (ninS (Ne.symm ((nlt V_hp.lt zq_rt_9))) (ninS (Ne.symm ((nlt V_sl.lt zq_rt_9))) (ninS (Ne.symm ((nlt V_ix.lt zq_rt_9))) nin0)))).other W25 (Ne.symm ((nlt V_it.lt zq_rt_9)))).other W28 (Ne.symm ((nlt V_ct.lt zq_rt_9)))).other W30 (Ne.symm ((nlt E_x.lt zq_rt_9)))), (Or.inr ⟨own_adY hz hc8, Or.inr ⟨hxe, rfl, rfl⟩⟩)⟩
theorem own_pd8 : parseMethodDescriptor "()I" = some ⟨[], some .int⟩ := by decide +kernel
theorem d26_0 : decode prog_7_method_8_code 0 = .ok (.ldc2_w 96, 3) := by decide +kernel
theorem d26_3 : decode prog_7_method_8_code 3 = .ok (.lstore_n 1, 1) := by decide +kernel
theorem d26_4 : decode prog_7_method_8_code 4 = .ok (.iconst 0, 1) := by decide +kernel
theorem d26_5 : decode prog_7_method_8_code 5 = .ok (.istore_n 3, 1) := by decide +kernel
theorem d26_6 : decode prog_7_method_8_code 6 = .ok (.iload_n 3, 1) := by decide +kernel
theorem d26_7 : decode prog_7_method_8_code 7 = .ok (.aload_n 0, 1) := by decide +kernel
theorem d26_8 : decode prog_7_method_8_code 8 = .ok (.getfield 26, 3) := by decide +kernel
theorem d26_11 : decode prog_7_method_8_code 11 = .ok (.invokevirtual 47, 3) := by decide +kernel
theorem d26_14 : decode prog_7_method_8_code 14 = .ok (.if_icmp .ge 24, 3) := by decide +kernel
theorem d26_38 : decode prog_7_method_8_code 38 = .ok (.lload_n 1, 1) := by decide +kernel
theorem d26_39 : decode prog_7_method_8_code 39 = .ok (.lreturn, 1) := by decide +kernel
theorem efCLa (m : MethodId) (x : Addr) : entryFrame m #[(.ref x)] 4 = mkF m 0 #[.val (.ref x), .unset, .unset, .unset] [] := by first | (simp [entryFrame, mkF, argsToLocals, Value.category]; done) | rfl
def QCLa (Z : State) (x : Addr) (lh : Addr) (it : Addr) (h0 : Heap) (n0 : Nat) (v : Option Value) (h : Heap) (L : List Loc) : Prop := v = some (.long (12 : Int64)) ∧ Fr n0 L ∧ h = h0
set_option maxRecDepth 65536 in
set_option maxHeartbeats 40000000 in
theorem rmCLa (l : Launch) (Z : State) (a0 : Array Value) (hw : ∀ d ∈ tables_1, d.before a0 Z = true) (ws : List Jvm.Cond) (x : Addr) (lh : Addr) (it : Addr) (h0 : Heap) (n0 : Nat) (Z0 : n0 ≤ h0.size) (E_x : Exa Z h0 x cRE) (F_kept_x : Fld Z h0 x cRE "kept" "Lcom/example/tallysketch/tallysketch/LargestHashes;" (.ref lh)) (F_items_x : Fld Z h0 x cRE "items" "[[B" (.ref it)) (E_lh : Exa Z h0 lh cLH) (F_size_lh : Fld Z h0 lh cLH "size" "I" (.int (0 : Int32))) :
  MetFree l (⟨cRE, "contentLength", "()J"⟩ : MethodName) (head1 (Jvm.Cond.code (⟨cRE, "contentLength", "()J"⟩ : MethodName) prog_7_method_8_code 4 (some .long) :: ws) ({ frames := 1, cells := 0, slots := 0, locals := 30 } : Room)) (fun av_ U => av_ = #[(.ref x)] ∧ Z.Warmed39 U.vm ∧ U.heap = h0) (fun _ _ _ _ _ => True) (fun _ U o U' => ∃ v L, o = .returned v ∧ QCLa Z x lh it h0 n0 v U'.heap L ∧ FrameEnd U o U' L ({ frames := 1, cells := 0, slots := 0, locals := 30 } : Room).cells ({ frames := 1, cells := 0, slots := 0, locals := 30 } : Room).slots) := by
 refine MetFree.of_bodySF (plainFor_of_name own_pn3) hisR ?_
 intro p e s m args below meth c s₁ Bd hml0 hP hK
 obtain ⟨rfl, hZ, hh⟩ := hP
 have hx := Bd.exec
 have hby := Bd.bytes
 have hml : c.maxLocals = 4 := hml0
 have hown : s.vm.findClass cRE = some m.cls := findClass_of_methodNamed Bd.named
 have hnm := (name_of_methodNamed Bd.named Bd.method).1
 have X0 : Stand p l e ({ frames := 1, cells := 0, slots := 0, locals := 30 } : Room) s m #[(.ref x)] below meth c s₁ [] 0 0 := Stand.of_body Bd
 have e0 : s₁.heap = h0 := by rw [← hh, Bd.state]; rfl
 have N0 := Fr.nil n0
 have hlk : meth.locks = false := Bd.notSynchronized
 have pre0 : ∀ t, Steps p.tables e below (s₁.setTop (mkF m 0 #[.val (.ref x), .unset, .unset, .unset] [])) t → Steps p.tables e below (s₁.setTop (entryFrame m #[(.ref x)] 4)) t := fun t k => castTop (efCLa m x) k
 obtain ⟨T1, X1, e1, st1⟩ := getF X0 hx hZ hown (host := "") (Or.inl (Wd hw 77 rfl)) Via.refl e0 F_kept_x (g := (mkF m 8 #[.val (.ref x), .val (.long (12 : Int64)), .second, .val (.int (0 : Int32))] [(.ref x), (.int (0 : Int32))])) rfl rfl (hb hby d26_8)
 obtain ⟨cq2, kq2, q2a, q2b, q2c⟩ := isOf hZ e1 E_lh
 obtain ⟨_, _, ⟨T2, L2, k2, n2⟩, -, X2, ⟨Lc2, hQ2, l2, y2, z2⟩, st2⟩ := X1.virtualBack hx (y := (⟨cLH, "size", "()I"⟩ : MethodName)) (z := (⟨cLH, "size", "()I"⟩ : MethodName)) hown (mvT hZ (Wd hw 161 rfl)) (mvT hZ (Wd hw 162 rfl)) (notFace_of_selects (args := #[]) (mvT hZ (Wd hw 164 rfl))) (mvT hZ (Wd hw 164 rfl)) (mvT hZ (Wd hw 163 rfl)) (by decide) (backOf (W := 1) (rmSZ l Z a0 hw [] lh (0 : Int32) h0 n0 Z0 E_lh F_size_lh) hZ (Wd hw 165 rfl) (Wd hw 50 rfl) (by decide) (by decide)) q2a q2c (g := (mkF m 11 #[.val (.ref x), .val (.long (12 : Int64)), .second, .val (.int (0 : Int32))] [(.ref lh), (.int (0 : Int32))])) rfl (by rw [hml]; rfl) (Steps.refl _) (argsL := []) (rest := [(.int (0 : Int32))]) (lenOf own_pd8 rfl) rfl (by show 2 * 0 + _ ≤ _; exact Nat.le_of_eq rfl) (hb hby d26_11) (fun _ _ => ⟨rfl, e1, (by decide : 0 + 0 ≤ _), (by decide : 0 + 0 ≤ _)⟩)
 dsimp only [Pt.U, Pt.locs, Pt.cells, Pt.slots] at X2 l2 y2 z2 st2 hQ2
 subst l2 y2 z2
 obtain ⟨rfl, Nq2, e2⟩ := hQ2
 have N2 := Fr.app N0 Nq2
 obtain ⟨fs, hr, hrun, hended, hW, hsame⟩ := X2.leave (v := some (.long (12 : Int64))) (fun h => by rw [Bd.returns] at h; cases h) hlk
 refine ⟨_, _, (pre0 _ ?_), hrun, hended, _, _, rfl, ?_, ⟨_, rfl⟩, hW, hsame.mono (by decide) (by decide)⟩
 ·show Steps p.tables e below (s₁.setTop (mkF m 0 #[.val (.ref x), .unset, .unset, .unset] [])) _
  refine X0.ldc2Long hx hown (mvT hZ (Wd hw 160 rfl)) (g := (mkF m 0 #[.val (.ref x), .unset, .unset, .unset] [])) rfl (hb hby d26_0) _ ?_
  refine XS.lstoreN X0.here hx rfl (hb hby d26_3) rfl (l' := #[.val (.ref x), .val (.long (12 : Int64)), .second, .unset]) rfl ?_
  refine XS.iconst X0.here hx rfl (hb hby d26_4) ?_
  refine XS.istoreN X0.here hx rfl (hb hby d26_5) rfl (l' := #[.val (.ref x), .val (.long (12 : Int64)), .second, .val (.int (0 : Int32))]) rfl ?_
  refine XS.iloadN X0.here hx rfl (hb hby d26_6) rfl ?_
  refine XS.aloadN X0.here hx rfl (hb hby d26_7) rfl rfl ?_
  refine st1 _ ?_
  refine st2.trans ?_
  refine XS.icmpYes X2.here hx rfl (pc0 := 14) (pc' := 38) rfl (hb hby d26_14) rfl (flt (by decide : ¬ ((0 : Int32) < (0 : Int32)))).2.1 (by decide) (by decide) ?_
  refine XS.lloadN X2.here hx rfl (hb hby d26_38) rfl ?_
  jvm_step X2.here [X2.here.top, hx, (hb hby d26_39), X2.method', Bd.returns, narrow]
  first | (intro acts; rw [hr _ acts rfl rfl rfl]) | rw [hr _ _ rfl rfl rfl]
  exact Steps.refl _
 ·show QCLa Z x lh it h0 n0 _ T2.heap _
  rw [e2]
  exact ⟨rfl, N2, rfl⟩
theorem d26_17 : decode prog_7_method_8_code 17 = .ok (.lload_n 1, 1) := by decide +kernel
theorem d26_18 : decode prog_7_method_8_code 18 = .ok (.ldc2_w 96, 3) := by decide +kernel
theorem d26_21 : decode prog_7_method_8_code 21 = .ok (.aload_n 0, 1) := by decide +kernel
theorem d26_22 : decode prog_7_method_8_code 22 = .ok (.getfield 32, 3) := by decide +kernel
theorem d26_25 : decode prog_7_method_8_code 25 = .ok (.iload_n 3, 1) := by decide +kernel
theorem d26_26 : decode prog_7_method_8_code 26 = .ok (.aaload, 1) := by decide +kernel
theorem d26_27 : decode prog_7_method_8_code 27 = .ok (.arraylength, 1) := by decide +kernel
theorem d26_28 : decode prog_7_method_8_code 28 = .ok (.i2l, 1) := by decide +kernel
theorem d26_29 : decode prog_7_method_8_code 29 = .ok (.ladd, 1) := by decide +kernel
theorem d26_30 : decode prog_7_method_8_code 30 = .ok (.ladd, 1) := by decide +kernel
theorem d26_31 : decode prog_7_method_8_code 31 = .ok (.lstore_n 1, 1) := by decide +kernel
theorem d26_32 : decode prog_7_method_8_code 32 = .ok (.iinc 3 1, 3) := by decide +kernel
theorem d26_35 : decode prog_7_method_8_code 35 = .ok (.goto (-29), 3) := by decide +kernel
theorem efCLb (m : MethodId) (x : Addr) : entryFrame m #[(.ref x)] 4 = mkF m 0 #[.val (.ref x), .unset, .unset, .unset] [] := by first | (simp [entryFrame, mkF, argsToLocals, Value.category]; done) | rfl
def QCLb (Z : State) (x : Addr) (lh : Addr) (it : Addr) (kl : Int32) (ia : Addr) (k_it : ClassId) (na : Int32) (wa : List Value) (k_ia : ClassId) (h0 : Heap) (n0 : Nat) (v : Option Value) (h : Heap) (L : List Loc) : Prop := v = some (.long ((12 : Int64) + ((12 : Int64) + (na.toInt64)))) ∧ Fr n0 L ∧ h = h0
set_option maxRecDepth 65536 in
set_option maxHeartbeats 40000000 in
theorem rmCLb (l : Launch) (Z : State) (a0 : Array Value) (hw : ∀ d ∈ tables_1, d.before a0 Z = true) (ws : List Jvm.Cond) (x : Addr) (lh : Addr) (it : Addr) (kl : Int32) (ia : Addr) (k_it : ClassId) (na : Int32) (wa : List Value) (k_ia : ClassId) (h0 : Heap) (n0 : Nat) (Z0 : n0 ≤ h0.size) (E_x : Exa Z h0 x cRE) (F_kept_x : Fld Z h0 x cRE "kept" "Lcom/example/tallysketch/tallysketch/LargestHashes;" (.ref lh)) (F_items_x : Fld Z h0 x cRE "items" "[[B" (.ref it)) (E_lh : Exa Z h0 lh cLH) (F_size_lh : Fld Z h0 lh cLH "size" "I" (.int (1 : Int32))) (V_it : Arv Z h0 it k_it (.array .byte) kl [(.ref ia), .null, .null] .null) (V_ia : Arv Z h0 ia k_ia .byte na wa (.int (0 : Int32))) (hzk : (0 : Int32) < kl) :
  MetFree l (⟨cRE, "contentLength", "()J"⟩ : MethodName) (head1 (Jvm.Cond.code (⟨cRE, "contentLength", "()J"⟩ : MethodName) prog_7_method_8_code 4 (some .long) :: ws) ({ frames := 1, cells := 0, slots := 0, locals := 30 } : Room)) (fun av_ U => av_ = #[(.ref x)] ∧ Z.Warmed39 U.vm ∧ U.heap = h0) (fun _ _ _ _ _ => True) (fun _ U o U' => ∃ v L, o = .returned v ∧ QCLb Z x lh it kl ia k_it na wa k_ia h0 n0 v U'.heap L ∧ FrameEnd U o U' L ({ frames := 1, cells := 0, slots := 0, locals := 30 } : Room).cells ({ frames := 1, cells := 0, slots := 0, locals := 30 } : Room).slots) := by
 refine MetFree.of_bodySF (plainFor_of_name own_pn3) hisR ?_
 intro p e s m args below meth c s₁ Bd hml0 hP hK
 obtain ⟨rfl, hZ, hh⟩ := hP
 have hx := Bd.exec
 have hby := Bd.bytes
 have hml : c.maxLocals = 4 := hml0
 have hown : s.vm.findClass cRE = some m.cls := findClass_of_methodNamed Bd.named
 have hnm := (name_of_methodNamed Bd.named Bd.method).1
 have X0 : Stand p l e ({ frames := 1, cells := 0, slots := 0, locals := 30 } : Room) s m #[(.ref x)] below meth c s₁ [] 0 0 := Stand.of_body Bd
 have e0 : s₁.heap = h0 := by rw [← hh, Bd.state]; rfl
 have N0 := Fr.nil n0
 have hlk : meth.locks = false := Bd.notSynchronized
 have pre0 : ∀ t, Steps p.tables e below (s₁.setTop (mkF m 0 #[.val (.ref x), .unset, .unset, .unset] [])) t → Steps p.tables e below (s₁.setTop (entryFrame m #[(.ref x)] 4)) t := fun t k => castTop (efCLb m x) k
 obtain ⟨T1, X1, e1, st1⟩ := getF X0 hx hZ hown (host := "") (Or.inl (Wd hw 77 rfl)) Via.refl e0 F_kept_x (g := (mkF m 8 #[.val (.ref x), .val (.long (12 : Int64)), .second, .val (.int (0 : Int32))] [(.ref x), (.int (0 : Int32))])) rfl rfl (hb hby d26_8)
 obtain ⟨cq2, kq2, q2a, q2b, q2c⟩ := isOf hZ e1 E_lh
 obtain ⟨_, _, ⟨T2, L2, k2, n2⟩, -, X2, ⟨Lc2, hQ2, l2, y2, z2⟩, st2⟩ := X1.virtualBack hx (y := (⟨cLH, "size", "()I"⟩ : MethodName)) (z := (⟨cLH, "size", "()I"⟩ : MethodName)) hown (mvT hZ (Wd hw 161 rfl)) (mvT hZ (Wd hw 162 rfl)) (notFace_of_selects (args := #[]) (mvT hZ (Wd hw 164 rfl))) (mvT hZ (Wd hw 164 rfl)) (mvT hZ (Wd hw 163 rfl)) (by decide) (backOf (W := 1) (rmSZ l Z a0 hw [] lh (1 : Int32) h0 n0 Z0 E_lh F_size_lh) hZ (Wd hw 165 rfl) (Wd hw 50 rfl) (by decide) (by decide)) q2a q2c (g := (mkF m 11 #[.val (.ref x), .val (.long (12 : Int64)), .second, .val (.int (0 : Int32))] [(.ref lh), (.int (0 : Int32))])) rfl (by rw [hml]; rfl) (Steps.refl _) (argsL := []) (rest := [(.int (0 : Int32))]) (lenOf own_pd8 rfl) rfl (by show 2 * 0 + _ ≤ _; exact Nat.le_of_eq rfl) (hb hby d26_11) (fun _ _ => ⟨rfl, e1, (by decide : 0 + 0 ≤ _), (by decide : 0 + 0 ≤ _)⟩)
 dsimp only [Pt.U, Pt.locs, Pt.cells, Pt.slots] at X2 l2 y2 z2 st2 hQ2
 subst l2 y2 z2
 obtain ⟨rfl, Nq2, e2⟩ := hQ2
 have N2 := Fr.app N0 Nq2
 obtain ⟨T3, X3, e3, st3⟩ := getF X2 hx hZ hown (host := "") (Or.inl (Wd hw 81 rfl)) Via.refl e2 F_items_x (g := (mkF m 22 #[.val (.ref x), .val (.long (12 : Int64)), .second, .val (.int (0 : Int32))] [(.ref x), (.long (12 : Int64)), (.long (12 : Int64))])) rfl rfl (hb hby d26_22)
 obtain ⟨cl4, Ar4, q4, S4, M4, Hs4, G4⟩ := (id V_it)
 have hin4 : ¬ ((0 : Int32) < 0 ∨ cl4.slots.size ≤ ((0 : Int32)).toNatClampNeg) := inb_of S4 ⟨by decide, own_gt0 hzk (by decide)⟩
 have hat4 : cl4.slots[((0 : Int32)).toNatClampNeg]? = some (.ref ia) := Hs4.at hin4 rfl
 obtain ⟨cl5, Ar5, q5, S5, M5, Hs5, G5⟩ := (id V_ia)
 obtain ⟨T6, X6, e6, st6⟩ := getF X3 hx hZ hown (host := "") (Or.inl (Wd hw 77 rfl)) Via.refl e3 F_kept_x (g := (mkF m 8 #[.val (.ref x), .val (.long ((12 : Int64) + ((12 : Int64) + (na.toInt64)))), .second, .val (.int (1 : Int32))] [(.ref x), (.int (1 : Int32))])) rfl rfl (hb hby d26_8)
 obtain ⟨cq7, kq7, q7a, q7b, q7c⟩ := isOf hZ e6 E_lh
 obtain ⟨_, _, ⟨T7, L7, k7, n7⟩, -, X7, ⟨Lc7, hQ7, l7, y7, z7⟩, st7⟩ := X6.virtualBack hx (y := (⟨cLH, "size", "()I"⟩ : MethodName)) (z := (⟨cLH, "size", "()I"⟩ : MethodName)) hown (mvT hZ (Wd hw 161 rfl)) (mvT hZ (Wd hw 162 rfl)) (notFace_of_selects (args := #[]) (mvT hZ (Wd hw 164 rfl))) (mvT hZ (Wd hw 164 rfl)) (mvT hZ (Wd hw 163 rfl)) (by decide) (backOf (W := 1) (rmSZ l Z a0 hw [] lh (1 : Int32) h0 n0 Z0 E_lh F_size_lh) hZ (Wd hw 165 rfl) (Wd hw 50 rfl) (by decide) (by decide)) q7a q7c (g := (mkF m 11 #[.val (.ref x), .val (.long ((12 : Int64) + ((12 : Int64) + (na.toInt64)))), .second, .val (.int (1 : Int32))] [(.ref lh), (.int (1 : Int32))])) rfl (by rw [hml]; rfl) (Steps.refl _) (argsL := []) (rest := [(.int (1 : Int32))]) (lenOf own_pd8 rfl) rfl (by show 2 * 0 + _ ≤ _; exact Nat.le_of_eq rfl) (hb hby d26_11) (fun _ _ => ⟨rfl, e6, (by decide : 0 + 0 ≤ _), (by decide : 0 + 0 ≤ _)⟩)
 dsimp only [Pt.U, Pt.locs, Pt.cells, Pt.slots] at X7 l7 y7 z7 st7 hQ7
 subst l7 y7 z7
 obtain ⟨rfl, Nq7, e7⟩ := hQ7
 have N7 := Fr.app N2 Nq7
 obtain ⟨fs, hr, hrun, hended, hW, hsame⟩ := X7.leave (v := some (.long ((12 : Int64) + ((12 : Int64) + (na.toInt64))))) (fun h => by rw [Bd.returns] at h; cases h) hlk
 refine ⟨_, _, (pre0 _ ?_), hrun, hended, _, _, rfl, ?_, ⟨_, rfl⟩, hW, hsame.mono (by decide) (by decide)⟩
 ·show Steps p.tables e below (s₁.setTop (mkF m 0 #[.val (.ref x), .unset, .unset, .unset] [])) _
  refine X0.ldc2Long hx hown (mvT hZ (Wd hw 160 rfl)) (g := (mkF m 0 #[.val (.ref x), .unset, .unset, .unset] [])) rfl (hb hby d26_0) _ ?_
  refine XS.lstoreN X0.here hx rfl (hb hby d26_3) rfl (l' := #[.val (.ref x), .val (.long (12 : Int64)), .second, .unset]) rfl ?_
  refine XS.iconst X0.here hx rfl (hb hby d26_4) ?_
  refine XS.istoreN X0.here hx rfl (hb hby d26_5) rfl (l' := #[.val (.ref x), .val (.long (12 : Int64)), .second, .val (.int (0 : Int32))]) rfl ?_
  refine XS.iloadN X0.here hx rfl (hb hby d26_6) rfl ?_
  refine XS.aloadN X0.here hx rfl (hb hby d26_7) rfl rfl ?_
  refine st1 _ ?_
  refine st2.trans ?_
  refine XS.icmpNo X2.here hx rfl (hb hby d26_14) rfl (tlt (by decide : (0 : Int32) < (1 : Int32))).2.1 ?_
  refine XS.lloadN X2.here hx rfl (hb hby d26_17) rfl ?_
  refine X2.ldc2Long hx hown (mvT hZ (Wd hw 160 rfl)) (g := (mkF m 18 #[.val (.ref x), .val (.long (12 : Int64)), .second, .val (.int (0 : Int32))] [(.long (12 : Int64))])) rfl (hb hby d26_18) _ ?_
  refine XS.aloadN X2.here hx rfl (hb hby d26_21) rfl rfl ?_
  refine st3 _ ?_
  refine XS.iloadN X3.here hx rfl (hb hby d26_25) rfl ?_
  refine X3.aaload hx (j := (0 : Int32)) (v := (.ref ia)) (by rw [e3]; exact Ar4.1) (State.isArrayOf_alike hZ.alike Ar4.2.1) rfl Ar4.2.2 hin4 hat4 (g := (mkF m 26 #[.val (.ref x), .val (.long (12 : Int64)), .second, .val (.int (0 : Int32))] [(.int (0 : Int32)), (.ref it), (.long (12 : Int64)), (.long (12 : Int64))])) rfl rfl (hb hby d26_26) _ ?_
  refine X3.arraylength hx (by rw [e3]; exact Ar5.1) (State.isArrayOf_alike hZ.alike Ar5.2.1) (g := (mkF m 27 #[.val (.ref x), .val (.long (12 : Int64)), .second, .val (.int (0 : Int32))] [(.ref ia), (.long (12 : Int64)), (.long (12 : Int64))])) rfl rfl (hb hby d26_27) _ ?_
  rw [len_of S5 M5]
  refine XS.i2l X3.here hx rfl (hb hby d26_28) rfl ?_
  refine XS.ladd X3.here hx rfl (hb hby d26_29) rfl ?_
  refine XS.ladd X3.here hx rfl (hb hby d26_30) rfl ?_
  refine XS.lstoreN X3.here hx rfl (hb hby d26_31) rfl (l' := #[.val (.ref x), .val (.long ((12 : Int64) + ((12 : Int64) + (na.toInt64)))), .second, .val (.int (0 : Int32))]) rfl ?_
  refine XS.iinc X3.here hx rfl (hb hby d26_32) rfl (l' := #[.val (.ref x), .val (.long ((12 : Int64) + ((12 : Int64) + (na.toInt64)))), .second, .val (.int (1 : Int32))]) rfl ?_
  refine XS.goto X3.here hx rfl (pc0 := 35) (pc' := 6) rfl (hb hby d26_35) (by decide) (by decide) ?_
  refine XS.iloadN X3.here hx rfl (hb hby d26_6) rfl ?_
  refine XS.aloadN X3.here hx rfl (hb hby d26_7) rfl rfl ?_
  refine st6 _ ?_
  refine st7.trans ?_
  refine XS.icmpYes X7.here hx rfl (pc0 := 14) (pc' := 38) rfl (hb hby d26_14) rfl (flt (by decide : ¬ ((1 : Int32) < (1 : Int32)))).2.1 (by decide) (by decide) ?_
  refine XS.lloadN X7.here hx rfl (hb hby d26_38) rfl ?_
  jvm_step X7.here [X7.here.top, hx, (hb hby d26_39), X7.method', Bd.returns, narrow]
  first | (intro acts; rw [hr _ acts rfl rfl rfl]) | rw [hr _ _ rfl rfl rfl]
  exact Steps.refl _
 ·show QCLb Z x lh it kl ia k_it na wa k_ia h0 n0 _ T7.heap _
  rw [e7]
  exact ⟨rfl, N7, rfl⟩
theorem efCLc (m : MethodId) (x : Addr) : entryFrame m #[(.ref x)] 4 = mkF m 0 #[.val (.ref x), .unset, .unset, .unset] [] := by first | (simp [entryFrame, mkF, argsToLocals, Value.category]; done) | rfl
def QCLc (Z : State) (x : Addr) (lh : Addr) (it : Addr) (kl : Int32) (ia : Addr) (ib : Addr) (k_it : ClassId) (na : Int32) (wa : List Value) (k_ia : ClassId) (nb : Int32) (wb : List Value) (k_ib : ClassId) (h0 : Heap) (n0 : Nat) (v : Option Value) (h : Heap) (L : List Loc) : Prop := v = some (.long (((12 : Int64) + ((12 : Int64) + (na.toInt64))) + ((12 : Int64) + (nb.toInt64)))) ∧ Fr n0 L ∧ h = h0
set_option maxRecDepth 65536 in
set_option maxHeartbeats 40000000 in
theorem rmCLc (l : Launch) (Z : State) (a0 : Array Value) (hw : ∀ d ∈ tables_1, d.before a0 Z = true) (ws : List Jvm.Cond) (x : Addr) (lh : Addr) (it : Addr) (kl : Int32) (ia : Addr) (ib : Addr) (k_it : ClassId) (na : Int32) (wa : List Value) (k_ia : ClassId) (nb : Int32) (wb : List Value) (k_ib : ClassId) (h0 : Heap) (n0 : Nat) (Z0 : n0 ≤ h0.size) (E_x : Exa Z h0 x cRE) (F_kept_x : Fld Z h0 x cRE "kept" "Lcom/example/tallysketch/tallysketch/LargestHashes;" (.ref lh)) (F_items_x : Fld Z h0 x cRE "items" "[[B" (.ref it)) (E_lh : Exa Z h0 lh cLH) (F_size_lh : Fld Z h0 lh cLH "size" "I" (.int (2 : Int32))) (V_it : Arv Z h0 it k_it (.array .byte) kl [(.ref ia), (.ref ib), .null] .null) (V_ia : Arv Z h0 ia k_ia .byte na wa (.int (0 : Int32))) (V_ib : Arv Z h0 ib k_ib .byte nb wb (.int (0 : Int32))) (hzk : (1 : Int32) < kl) :
  MetFree l (⟨cRE, "contentLength", "()J"⟩ : MethodName) (head1 (Jvm.Cond.code (⟨cRE, "contentLength", "()J"⟩ : MethodName) prog_7_method_8_code 4 (some .long) :: ws) ({ frames := 1, cells := 0, slots := 0, locals := 30 } : Room)) (fun av_ U => av_ = #[(.ref x)] ∧ Z.Warmed39 U.vm ∧ U.heap = h0) (fun _ _ _ _ _ => True) (fun _ U o U' => ∃ v L, o = .returned v ∧ QCLc Z x lh it kl ia ib k_it na wa k_ia nb wb k_ib h0 n0 v U'.heap L ∧ FrameEnd U o U' L ({ frames := 1, cells := 0, slots := 0, locals := 30 } : Room).cells ({ frames := 1, cells := 0, slots := 0, locals := 30 } : Room).slots) := by
 refine MetFree.of_bodySF (plainFor_of_name own_pn3) hisR ?_
 intro p e s m args below meth c s₁ Bd hml0 hP hK
 obtain ⟨rfl, hZ, hh⟩ := hP
 have hx := Bd.exec
 have hby := Bd.bytes
 have hml : c.maxLocals = 4 := hml0
 have hown : s.vm.findClass cRE = some m.cls := findClass_of_methodNamed Bd.named
 have hnm := (name_of_methodNamed Bd.named Bd.method).1
 have X0 : Stand p l e ({ frames := 1, cells := 0, slots := 0, locals := 30 } : Room) s m #[(.ref x)] below meth c s₁ [] 0 0 := Stand.of_body Bd
 have e0 : s₁.heap = h0 := by rw [← hh, Bd.state]; rfl
 have N0 := Fr.nil n0
 have hlk : meth.locks = false := Bd.notSynchronized
 have pre0 : ∀ t, Steps p.tables e below (s₁.setTop (mkF m 0 #[.val (.ref x), .unset, .unset, .unset] [])) t → Steps p.tables e below (s₁.setTop (entryFrame m #[(.ref x)] 4)) t := fun t k => castTop (efCLc m x) k
 obtain ⟨T1, X1, e1, st1⟩ := getF X0 hx hZ hown (host := "") (Or.inl (Wd hw 77 rfl)) Via.refl e0 F_kept_x (g := (mkF m 8 #[.val (.ref x), .val (.long (12 : Int64)), .second, .val (.int (0 : Int32))] [(.ref x), (.int (0 : Int32))])) rfl rfl (hb hby d26_8)
 obtain ⟨cq2, kq2, q2a, q2b, q2c⟩ := isOf hZ e1 E_lh
 obtain ⟨_, _, ⟨T2, L2, k2, n2⟩, -, X2, ⟨Lc2, hQ2, l2, y2, z2⟩, st2⟩ := X1.virtualBack hx (y := (⟨cLH, "size", "()I"⟩ : MethodName)) (z := (⟨cLH, "size", "()I"⟩ : MethodName)) hown (mvT hZ (Wd hw 161 rfl)) (mvT hZ (Wd hw 162 rfl)) (notFace_of_selects (args := #[]) (mvT hZ (Wd hw 164 rfl))) (mvT hZ (Wd hw 164 rfl)) (mvT hZ (Wd hw 163 rfl)) (by decide) (backOf (W := 1) (rmSZ l Z a0 hw [] lh (2 : Int32) h0 n0 Z0 E_lh F_size_lh) hZ (Wd hw 165 rfl) (Wd hw 50 rfl) (by decide) (by decide)) q2a q2c (g := (mkF m 11 #[.val (.ref x), .val (.long (12 : Int64)), .second, .val (.int (0 : Int32))] [(.ref lh), (.int (0 : Int32))])) rfl (by rw [hml]; rfl) (Steps.refl _) (argsL := []) (rest := [(.int (0 : Int32))]) (lenOf own_pd8 rfl) rfl (by show 2 * 0 + _ ≤ _; exact Nat.le_of_eq rfl) (hb hby d26_11) (fun _ _ => ⟨rfl, e1, (by decide : 0 + 0 ≤ _), (by decide : 0 + 0 ≤ _)⟩)
 dsimp only [Pt.U, Pt.locs, Pt.cells, Pt.slots] at X2 l2 y2 z2 st2 hQ2
 subst l2 y2 z2
 obtain ⟨rfl, Nq2, e2⟩ := hQ2
 have N2 := Fr.app N0 Nq2
 obtain ⟨T3, X3, e3, st3⟩ := getF X2 hx hZ hown (host := "") (Or.inl (Wd hw 81 rfl)) Via.refl e2 F_items_x (g := (mkF m 22 #[.val (.ref x), .val (.long (12 : Int64)), .second, .val (.int (0 : Int32))] [(.ref x), (.long (12 : Int64)), (.long (12 : Int64))])) rfl rfl (hb hby d26_22)
 obtain ⟨cl4, Ar4, q4, S4, M4, Hs4, G4⟩ := (id V_it)
 have hin4 : ¬ ((0 : Int32) < 0 ∨ cl4.slots.size ≤ ((0 : Int32)).toNatClampNeg) := inb_of S4 ⟨by decide, own_gt0 hzk (by decide)⟩
 have hat4 : cl4.slots[((0 : Int32)).toNatClampNeg]? = some (.ref ia) := Hs4.at hin4 rfl
 obtain ⟨cl5, Ar5, q5, S5, M5, Hs5, G5⟩ := (id V_ia)
 obtain ⟨T6, X6, e6, st6⟩ := getF X3 hx hZ hown (host := "") (Or.inl (Wd hw 77 rfl)) Via.refl e3 F_kept_x (g := (mkF m 8 #[.val (.ref x), .val (.long ((12 : Int64) + ((12 : Int64) + (na.toInt64)))), .second, .val (.int (1 : Int32))] [(.ref x), (.int (1 : Int32))])) rfl rfl (hb hby d26_8)
 obtain ⟨cq7, kq7, q7a, q7b, q7c⟩ := isOf hZ e6 E_lh
 obtain ⟨_, _, ⟨T7, L7, k7, n7⟩, -, X7, ⟨Lc7, hQ7, l7, y7, z7⟩, st7⟩ := X6.virtualBack hx (y := (⟨cLH, "size", "()I"⟩ : MethodName)) (z := (⟨cLH, "size", "()I"⟩ : MethodName)) hown (mvT hZ (Wd hw 161 rfl)) (mvT hZ (Wd hw 162 rfl)) (notFace_of_selects (args := #[]) (mvT hZ (Wd hw 164 rfl))) (mvT hZ (Wd hw 164 rfl)) (mvT hZ (Wd hw 163 rfl)) (by decide) (backOf (W := 1) (rmSZ l Z a0 hw [] lh (2 : Int32) h0 n0 Z0 E_lh F_size_lh) hZ (Wd hw 165 rfl) (Wd hw 50 rfl) (by decide) (by decide)) q7a q7c (g := (mkF m 11 #[.val (.ref x), .val (.long ((12 : Int64) + ((12 : Int64) + (na.toInt64)))), .second, .val (.int (1 : Int32))] [(.ref lh), (.int (1 : Int32))])) rfl (by rw [hml]; rfl) (Steps.refl _) (argsL := []) (rest := [(.int (1 : Int32))]) (lenOf own_pd8 rfl) rfl (by show 2 * 0 + _ ≤ _; exact Nat.le_of_eq rfl) (hb hby d26_11) (fun _ _ => ⟨rfl, e6, (by decide : 0 + 0 ≤ _), (by decide : 0 + 0 ≤ _)⟩)
 dsimp only [Pt.U, Pt.locs, Pt.cells, Pt.slots] at X7 l7 y7 z7 st7 hQ7
 subst l7 y7 z7
 obtain ⟨rfl, Nq7, e7⟩ := hQ7
 have N7 := Fr.app N2 Nq7
 obtain ⟨T8, X8, e8, st8⟩ := getF X7 hx hZ hown (host := "") (Or.inl (Wd hw 81 rfl)) Via.refl e7 F_items_x (g := (mkF m 22 #[.val (.ref x), .val (.long ((12 : Int64) + ((12 : Int64) + (na.toInt64)))), .second, .val (.int (1 : Int32))] [(.ref x), (.long (12 : Int64)), (.long ((12 : Int64) + ((12 : Int64) + (na.toInt64))))])) rfl rfl (hb hby d26_22)
 obtain ⟨cl9, Ar9, q9, S9, M9, Hs9, G9⟩ := (id V_it)
 have hin9 : ¬ ((1 : Int32) < 0 ∨ cl9.slots.size ≤ ((1 : Int32)).toNatClampNeg) := inb_of S9 ⟨by decide, own_gt0 hzk (by decide)⟩
 have hat9 : cl9.slots[((1 : Int32)).toNatClampNeg]? = some (.ref ib) := Hs9.at hin9 rfl
 obtain ⟨cl10, Ar10, q10, S10, M10, Hs10, G10⟩ := (id V_ib)
 obtain ⟨T11, X11, e11, st11⟩ := getF X8 hx hZ hown (host := "") (Or.inl (Wd hw 77 rfl)) Via.refl e8 F_kept_x (g := (mkF m 8 #[.val (.ref x), .val (.long (((12 : Int64) + ((12 : Int64) + (na.toInt64))) + ((12 : Int64) + (nb.toInt64)))), .second, .val (.int (2 : Int32))] [(.ref x), (.int (2 : Int32))])) rfl rfl (hb hby d26_8)
 obtain ⟨cq12, kq12, q12a, q12b, q12c⟩ := isOf hZ e11 E_lh
 obtain ⟨_, _, ⟨T12, L12, k12, n12⟩, -, X12, ⟨Lc12, hQ12, l12, y12, z12⟩, st12⟩ := X11.virtualBack hx (y := (⟨cLH, "size", "()I"⟩ : MethodName)) (z := (⟨cLH, "size", "()I"⟩ : MethodName)) hown (mvT hZ (Wd hw 161 rfl)) (mvT hZ (Wd hw 162 rfl)) (notFace_of_selects (args := #[]) (mvT hZ (Wd hw 164 rfl))) (mvT hZ (Wd hw 164 rfl)) (mvT hZ (Wd hw 163 rfl)) (by decide) (backOf (W := 1) (rmSZ l Z a0 hw [] lh (2 : Int32) h0 n0 Z0 E_lh F_size_lh) hZ (Wd hw 165 rfl) (Wd hw 50 rfl) (by decide) (by decide)) q12a q12c (g := (mkF m 11 #[.val (.ref x), .val (.long (((12 : Int64) + ((12 : Int64) + (na.toInt64))) + ((12 : Int64) + (nb.toInt64)))), .second, .val (.int (2 : Int32))] [(.ref lh), (.int (2 : Int32))])) rfl (by rw [hml]; rfl) (Steps.refl _) (argsL := []) (rest := [(.int (2 : Int32))]) (lenOf own_pd8 rfl) rfl (by show 2 * 0 + _ ≤ _; exact Nat.le_of_eq rfl) (hb hby d26_11) (fun _ _ => ⟨rfl, e11, (by decide : 0 + 0 ≤ _), (by decide : 0 + 0 ≤ _)⟩)
 dsimp only [Pt.U, Pt.locs, Pt.cells, Pt.slots] at X12 l12 y12 z12 st12 hQ12
 subst l12 y12 z12
 obtain ⟨rfl, Nq12, e12⟩ := hQ12
 have N12 := Fr.app N7 Nq12
 obtain ⟨fs, hr, hrun, hended, hW, hsame⟩ := X12.leave (v := some (.long (((12 : Int64) + ((12 : Int64) + (na.toInt64))) + ((12 : Int64) + (nb.toInt64))))) (fun h => by rw [Bd.returns] at h; cases h) hlk
 refine ⟨_, _, (pre0 _ ?_), hrun, hended, _, _, rfl, ?_, ⟨_, rfl⟩, hW, hsame.mono (by decide) (by decide)⟩
 ·show Steps p.tables e below (s₁.setTop (mkF m 0 #[.val (.ref x), .unset, .unset, .unset] [])) _
  refine X0.ldc2Long hx hown (mvT hZ (Wd hw 160 rfl)) (g := (mkF m 0 #[.val (.ref x), .unset, .unset, .unset] [])) rfl (hb hby d26_0) _ ?_
  refine XS.lstoreN X0.here hx rfl (hb hby d26_3) rfl (l' := #[.val (.ref x), .val (.long (12 : Int64)), .second, .unset]) rfl ?_
  refine XS.iconst X0.here hx rfl (hb hby d26_4) ?_
  refine XS.istoreN X0.here hx rfl (hb hby d26_5) rfl (l' := #[.val (.ref x), .val (.long (12 : Int64)), .second, .val (.int (0 : Int32))]) rfl ?_
  refine XS.iloadN X0.here hx rfl (hb hby d26_6) rfl ?_
  refine XS.aloadN X0.here hx rfl (hb hby d26_7) rfl rfl ?_
  refine st1 _ ?_
  refine st2.trans ?_
  refine XS.icmpNo X2.here hx rfl (hb hby d26_14) rfl (tlt (by decide : (0 : Int32) < (2 : Int32))).2.1 ?_
  refine XS.lloadN X2.here hx rfl (hb hby d26_17) rfl ?_
  refine X2.ldc2Long hx hown (mvT hZ (Wd hw 160 rfl)) (g := (mkF m 18 #[.val (.ref x), .val (.long (12 : Int64)), .second, .val (.int (0 : Int32))] [(.long (12 : Int64))])) rfl (hb hby d26_18) _ ?_
  refine XS.aloadN X2.here hx rfl (hb hby d26_21) rfl rfl ?_
  refine st3 _ ?_
  refine XS.iloadN X3.here hx rfl (hb hby d26_25) rfl ?_
  refine X3.aaload hx (j := (0 : Int32)) (v := (.ref ia)) (by rw [e3]; exact Ar4.1) (State.isArrayOf_alike hZ.alike Ar4.2.1) rfl Ar4.2.2 hin4 hat4 (g := (mkF m 26 #[.val (.ref x), .val (.long (12 : Int64)), .second, .val (.int (0 : Int32))] [(.int (0 : Int32)), (.ref it), (.long (12 : Int64)), (.long (12 : Int64))])) rfl rfl (hb hby d26_26) _ ?_
  refine X3.arraylength hx (by rw [e3]; exact Ar5.1) (State.isArrayOf_alike hZ.alike Ar5.2.1) (g := (mkF m 27 #[.val (.ref x), .val (.long (12 : Int64)), .second, .val (.int (0 : Int32))] [(.ref ia), (.long (12 : Int64)), (.long (12 : Int64))])) rfl rfl (hb hby d26_27) _ ?_
  rw [len_of S5 M5]
  refine XS.i2l X3.here hx rfl (hb hby d26_28) rfl ?_
  refine XS.ladd X3.here hx rfl (hb hby d26_29) rfl ?_
  refine XS.ladd X3.here hx rfl (hb hby d26_30) rfl ?_
  refine XS.lstoreN X3.here hx rfl (hb hby d26_31) rfl (l' := #[.val (.ref x), .val (.long ((12 : Int64) + ((12 : Int64) + (na.toInt64)))), .second, .val (.int (0 : Int32))]) rfl ?_
  refine XS.iinc X3.here hx rfl (hb hby d26_32) rfl (l' := #[.val (.ref x), .val (.long ((12 : Int64) + ((12 : Int64) + (na.toInt64)))), .second, .val (.int (1 : Int32))]) rfl ?_
  refine XS.goto X3.here hx rfl (pc0 := 35) (pc' := 6) rfl (hb hby d26_35) (by decide) (by decide) ?_
  refine XS.iloadN X3.here hx rfl (hb hby d26_6) rfl ?_
  refine XS.aloadN X3.here hx rfl (hb hby d26_7) rfl rfl ?_
  refine st6 _ ?_
  refine st7.trans ?_
  refine XS.icmpNo X7.here hx rfl (hb hby d26_14) rfl (tlt (by decide : (1 : Int32) < (2 : Int32))).2.1 ?_
  refine XS.lloadN X7.here hx rfl (hb hby d26_17) rfl ?_
  refine X7.ldc2Long hx hown (mvT hZ (Wd hw 160 rfl)) (g := (mkF m 18 #[.val (.ref x), .val (.long ((12 : Int64) + ((12 : Int64) + (na.toInt64)))), .second, .val (.int (1 : Int32))] [(.long ((12 : Int64) + ((12 : Int64) + (na.toInt64))))])) rfl (hb hby d26_18) _ ?_
  refine XS.aloadN X7.here hx rfl (hb hby d26_21) rfl rfl ?_
  refine st8 _ ?_
  refine XS.iloadN X8.here hx rfl (hb hby d26_25) rfl ?_
  refine X8.aaload hx (j := (1 : Int32)) (v := (.ref ib)) (by rw [e8]; exact Ar9.1) (State.isArrayOf_alike hZ.alike Ar9.2.1) rfl Ar9.2.2 hin9 hat9 (g := (mkF m 26 #[.val (.ref x), .val (.long ((12 : Int64) + ((12 : Int64) + (na.toInt64)))), .second, .val (.int (1 : Int32))] [(.int (1 : Int32)), (.ref it), (.long (12 : Int64)), (.long ((12 : Int64) + ((12 : Int64) + (na.toInt64))))])) rfl rfl (hb hby d26_26) _ ?_
  refine X8.arraylength hx (by rw [e8]; exact Ar10.1) (State.isArrayOf_alike hZ.alike Ar10.2.1) (g := (mkF m 27 #[.val (.ref x), .val (.long ((12 : Int64) + ((12 : Int64) + (na.toInt64)))), .second, .val (.int (1 : Int32))] [(.ref ib), (.long (12 : Int64)), (.long ((12 : Int64) + ((12 : Int64) + (na.toInt64))))])) rfl rfl (hb hby d26_27) _ ?_
  rw [len_of S10 M10]
  refine XS.i2l X8.here hx rfl (hb hby d26_28) rfl ?_
  refine XS.ladd X8.here hx rfl (hb hby d26_29) rfl ?_
  refine XS.ladd X8.here hx rfl (hb hby d26_30) rfl ?_
  refine XS.lstoreN X8.here hx rfl (hb hby d26_31) rfl (l' := #[.val (.ref x), .val (.long (((12 : Int64) + ((12 : Int64) + (na.toInt64))) + ((12 : Int64) + (nb.toInt64)))), .second, .val (.int (1 : Int32))]) rfl ?_
  refine XS.iinc X8.here hx rfl (hb hby d26_32) rfl (l' := #[.val (.ref x), .val (.long (((12 : Int64) + ((12 : Int64) + (na.toInt64))) + ((12 : Int64) + (nb.toInt64)))), .second, .val (.int (2 : Int32))]) rfl ?_
  refine XS.goto X8.here hx rfl (pc0 := 35) (pc' := 6) rfl (hb hby d26_35) (by decide) (by decide) ?_
  refine XS.iloadN X8.here hx rfl (hb hby d26_6) rfl ?_
  refine XS.aloadN X8.here hx rfl (hb hby d26_7) rfl rfl ?_
  refine st11 _ ?_
  refine st12.trans ?_
  refine XS.icmpYes X12.here hx rfl (pc0 := 14) (pc' := 38) rfl (hb hby d26_14) rfl (flt (by decide : ¬ ((2 : Int32) < (2 : Int32)))).2.1 (by decide) (by decide) ?_
  refine XS.lloadN X12.here hx rfl (hb hby d26_38) rfl ?_
  jvm_step X12.here [X12.here.top, hx, (hb hby d26_39), X12.method', Bd.returns, narrow]
  first | (intro acts; rw [hr _ acts rfl rfl rfl]) | rw [hr _ _ rfl rfl rfl]
  exact Steps.refl _
 ·show QCLc Z x lh it kl ia ib k_it na wa k_ia nb wb k_ib h0 n0 _ T12.heap _
  rw [e12]
  exact ⟨rfl, N12, rfl⟩
theorem efCLd (m : MethodId) (x : Addr) : entryFrame m #[(.ref x)] 4 = mkF m 0 #[.val (.ref x), .unset, .unset, .unset] [] := by first | (simp [entryFrame, mkF, argsToLocals, Value.category]; done) | rfl
def QCLd (Z : State) (x : Addr) (lh : Addr) (it : Addr) (kl : Int32) (ia : Addr) (ib : Addr) (ic : Addr) (k_it : ClassId) (na : Int32) (wa : List Value) (k_ia : ClassId) (nb : Int32) (wb : List Value) (k_ib : ClassId) (nc : Int32) (wc : List Value) (k_ic : ClassId) (h0 : Heap) (n0 : Nat) (v : Option Value) (h : Heap) (L : List Loc) : Prop := v = some (.long ((((12 : Int64) + ((12 : Int64) + (na.toInt64))) + ((12 : Int64) + (nb.toInt64))) + ((12 : Int64) + (nc.toInt64)))) ∧ Fr n0 L ∧ h = h0
set_option maxRecDepth 65536 in
set_option maxHeartbeats 40000000 in
theorem rmCLd (l : Launch) (Z : State) (a0 : Array Value) (hw : ∀ d ∈ tables_1, d.before a0 Z = true) (ws : List Jvm.Cond) (x : Addr) (lh : Addr) (it : Addr) (kl : Int32) (ia : Addr) (ib : Addr) (ic : Addr) (k_it : ClassId) (na : Int32) (wa : List Value) (k_ia : ClassId) (nb : Int32) (wb : List Value) (k_ib : ClassId) (nc : Int32) (wc : List Value) (k_ic : ClassId) (h0 : Heap) (n0 : Nat) (Z0 : n0 ≤ h0.size) (E_x : Exa Z h0 x cRE) (F_kept_x : Fld Z h0 x cRE "kept" "Lcom/example/tallysketch/tallysketch/LargestHashes;" (.ref lh)) (F_items_x : Fld Z h0 x cRE "items" "[[B" (.ref it)) (E_lh : Exa Z h0 lh cLH) (F_size_lh : Fld Z h0 lh cLH "size" "I" (.int (3 : Int32))) (V_it : Arv Z h0 it k_it (.array .byte) kl [(.ref ia), (.ref ib), (.ref ic)] .null) (V_ia : Arv Z h0 ia k_ia .byte na wa (.int (0 : Int32))) (V_ib : Arv Z h0 ib k_ib .byte nb wb (.int (0 : Int32))) (V_ic : Arv Z h0 ic k_ic .byte nc wc (.int (0 : Int32))) (hzk : (2 : Int32) < kl) :
  MetFree l (⟨cRE, "contentLength", "()J"⟩ : MethodName) (head1 (Jvm.Cond.code (⟨cRE, "contentLength", "()J"⟩ : MethodName) prog_7_method_8_code 4 (some .long) :: ws) ({ frames := 1, cells := 0, slots := 0, locals := 30 } : Room)) (fun av_ U => av_ = #[(.ref x)] ∧ Z.Warmed39 U.vm ∧ U.heap = h0) (fun _ _ _ _ _ => True) (fun _ U o U' => ∃ v L, o = .returned v ∧ QCLd Z x lh it kl ia ib ic k_it na wa k_ia nb wb k_ib nc wc k_ic h0 n0 v U'.heap L ∧ FrameEnd U o U' L ({ frames := 1, cells := 0, slots := 0, locals := 30 } : Room).cells ({ frames := 1, cells := 0, slots := 0, locals := 30 } : Room).slots) := by
 refine MetFree.of_bodySF (plainFor_of_name own_pn3) hisR ?_
 intro p e s m args below meth c s₁ Bd hml0 hP hK
 obtain ⟨rfl, hZ, hh⟩ := hP
 have hx := Bd.exec
 have hby := Bd.bytes
 have hml : c.maxLocals = 4 := hml0
 have hown : s.vm.findClass cRE = some m.cls := findClass_of_methodNamed Bd.named
 have hnm := (name_of_methodNamed Bd.named Bd.method).1
 have X0 : Stand p l e ({ frames := 1, cells := 0, slots := 0, locals := 30 } : Room) s m #[(.ref x)] below meth c s₁ [] 0 0 := Stand.of_body Bd
 have e0 : s₁.heap = h0 := by rw [← hh, Bd.state]; rfl
 have N0 := Fr.nil n0
 have hlk : meth.locks = false := Bd.notSynchronized
 have pre0 : ∀ t, Steps p.tables e below (s₁.setTop (mkF m 0 #[.val (.ref x), .unset, .unset, .unset] [])) t → Steps p.tables e below (s₁.setTop (entryFrame m #[(.ref x)] 4)) t := fun t k => castTop (efCLd m x) k
 obtain ⟨T1, X1, e1, st1⟩ := getF X0 hx hZ hown (host := "") (Or.inl (Wd hw 77 rfl)) Via.refl e0 F_kept_x (g := (mkF m 8 #[.val (.ref x), .val (.long (12 : Int64)), .second, .val (.int (0 : Int32))] [(.ref x), (.int (0 : Int32))])) rfl rfl (hb hby d26_8)
 obtain ⟨cq2, kq2, q2a, q2b, q2c⟩ := isOf hZ e1 E_lh
 obtain ⟨_, _, ⟨T2, L2, k2, n2⟩, -, X2, ⟨Lc2, hQ2, l2, y2, z2⟩, st2⟩ := X1.virtualBack hx (y := (⟨cLH, "size", "()I"⟩ : MethodName)) (z := (⟨cLH, "size", "()I"⟩ : MethodName)) hown (mvT hZ (Wd hw 161 rfl)) (mvT hZ (Wd hw 162 rfl)) (notFace_of_selects (args := #[]) (mvT hZ (Wd hw 164 rfl))) (mvT hZ (Wd hw 164 rfl)) (mvT hZ (Wd hw 163 rfl)) (by decide) (backOf (W := 1) (rmSZ l Z a0 hw [] lh (3 : Int32) h0 n0 Z0 E_lh F_size_lh) hZ (Wd hw 165 rfl) (Wd hw 50 rfl) (by decide) (by decide)) q2a q2c (g := (mkF m 11 #[.val (.ref x), .val (.long (12 : Int64)), .second, .val (.int (0 : Int32))] [(.ref lh), (.int (0 : Int32))])) rfl (by rw [hml]; rfl) (Steps.refl _) (argsL := []) (rest := [(.int (0 : Int32))]) (lenOf own_pd8 rfl) rfl (by show 2 * 0 + _ ≤ _; exact Nat.le_of_eq rfl) (hb hby d26_11) (fun _ _ => ⟨rfl, e1, (by decide : 0 + 0 ≤ _), (by decide : 0 + 0 ≤ _)⟩)
 dsimp only [Pt.U, Pt.locs, Pt.cells, Pt.slots] at X2 l2 y2 z2 st2 hQ2
 subst l2 y2 z2
 obtain ⟨rfl, Nq2, e2⟩ := hQ2
 have N2 := Fr.app N0 Nq2
 obtain ⟨T3, X3, e3, st3⟩ := getF X2 hx hZ hown (host := "") (Or.inl (Wd hw 81 rfl)) Via.refl e2 F_items_x (g := (mkF m 22 #[.val (.ref x), .val (.long (12 : Int64)), .second, .val (.int (0 : Int32))] [(.ref x), (.long (12 : Int64)), (.long (12 : Int64))])) rfl rfl (hb hby d26_22)
 obtain ⟨cl4, Ar4, q4, S4, M4, Hs4, G4⟩ := (id V_it)
 have hin4 : ¬ ((0 : Int32) < 0 ∨ cl4.slots.size ≤ ((0 : Int32)).toNatClampNeg) := inb_of S4 ⟨by decide, own_gt0 hzk (by decide)⟩
 have hat4 : cl4.slots[((0 : Int32)).toNatClampNeg]? = some (.ref ia) := Hs4.at hin4 rfl
 obtain ⟨cl5, Ar5, q5, S5, M5, Hs5, G5⟩ := (id V_ia)
 obtain ⟨T6, X6, e6, st6⟩ := getF X3 hx hZ hown (host := "") (Or.inl (Wd hw 77 rfl)) Via.refl e3 F_kept_x (g := (mkF m 8 #[.val (.ref x), .val (.long ((12 : Int64) + ((12 : Int64) + (na.toInt64)))), .second, .val (.int (1 : Int32))] [(.ref x), (.int (1 : Int32))])) rfl rfl (hb hby d26_8)
 obtain ⟨cq7, kq7, q7a, q7b, q7c⟩ := isOf hZ e6 E_lh
 obtain ⟨_, _, ⟨T7, L7, k7, n7⟩, -, X7, ⟨Lc7, hQ7, l7, y7, z7⟩, st7⟩ := X6.virtualBack hx (y := (⟨cLH, "size", "()I"⟩ : MethodName)) (z := (⟨cLH, "size", "()I"⟩ : MethodName)) hown (mvT hZ (Wd hw 161 rfl)) (mvT hZ (Wd hw 162 rfl)) (notFace_of_selects (args := #[]) (mvT hZ (Wd hw 164 rfl))) (mvT hZ (Wd hw 164 rfl)) (mvT hZ (Wd hw 163 rfl)) (by decide) (backOf (W := 1) (rmSZ l Z a0 hw [] lh (3 : Int32) h0 n0 Z0 E_lh F_size_lh) hZ (Wd hw 165 rfl) (Wd hw 50 rfl) (by decide) (by decide)) q7a q7c (g := (mkF m 11 #[.val (.ref x), .val (.long ((12 : Int64) + ((12 : Int64) + (na.toInt64)))), .second, .val (.int (1 : Int32))] [(.ref lh), (.int (1 : Int32))])) rfl (by rw [hml]; rfl) (Steps.refl _) (argsL := []) (rest := [(.int (1 : Int32))]) (lenOf own_pd8 rfl) rfl (by show 2 * 0 + _ ≤ _; exact Nat.le_of_eq rfl) (hb hby d26_11) (fun _ _ => ⟨rfl, e6, (by decide : 0 + 0 ≤ _), (by decide : 0 + 0 ≤ _)⟩)
 dsimp only [Pt.U, Pt.locs, Pt.cells, Pt.slots] at X7 l7 y7 z7 st7 hQ7
 subst l7 y7 z7
 obtain ⟨rfl, Nq7, e7⟩ := hQ7
 have N7 := Fr.app N2 Nq7
 obtain ⟨T8, X8, e8, st8⟩ := getF X7 hx hZ hown (host := "") (Or.inl (Wd hw 81 rfl)) Via.refl e7 F_items_x (g := (mkF m 22 #[.val (.ref x), .val (.long ((12 : Int64) + ((12 : Int64) + (na.toInt64)))), .second, .val (.int (1 : Int32))] [(.ref x), (.long (12 : Int64)), (.long ((12 : Int64) + ((12 : Int64) + (na.toInt64))))])) rfl rfl (hb hby d26_22)
 obtain ⟨cl9, Ar9, q9, S9, M9, Hs9, G9⟩ := (id V_it)
 have hin9 : ¬ ((1 : Int32) < 0 ∨ cl9.slots.size ≤ ((1 : Int32)).toNatClampNeg) := inb_of S9 ⟨by decide, own_gt0 hzk (by decide)⟩
 have hat9 : cl9.slots[((1 : Int32)).toNatClampNeg]? = some (.ref ib) := Hs9.at hin9 rfl
 obtain ⟨cl10, Ar10, q10, S10, M10, Hs10, G10⟩ := (id V_ib)
 obtain ⟨T11, X11, e11, st11⟩ := getF X8 hx hZ hown (host := "") (Or.inl (Wd hw 77 rfl)) Via.refl e8 F_kept_x (g := (mkF m 8 #[.val (.ref x), .val (.long (((12 : Int64) + ((12 : Int64) + (na.toInt64))) + ((12 : Int64) + (nb.toInt64)))), .second, .val (.int (2 : Int32))] [(.ref x), (.int (2 : Int32))])) rfl rfl (hb hby d26_8)
 obtain ⟨cq12, kq12, q12a, q12b, q12c⟩ := isOf hZ e11 E_lh
 obtain ⟨_, _, ⟨T12, L12, k12, n12⟩, -, X12, ⟨Lc12, hQ12, l12, y12, z12⟩, st12⟩ := X11.virtualBack hx (y := (⟨cLH, "size", "()I"⟩ : MethodName)) (z := (⟨cLH, "size", "()I"⟩ : MethodName)) hown (mvT hZ (Wd hw 161 rfl)) (mvT hZ (Wd hw 162 rfl)) (notFace_of_selects (args := #[]) (mvT hZ (Wd hw 164 rfl))) (mvT hZ (Wd hw 164 rfl)) (mvT hZ (Wd hw 163 rfl)) (by decide) (backOf (W := 1) (rmSZ l Z a0 hw [] lh (3 : Int32) h0 n0 Z0 E_lh F_size_lh) hZ (Wd hw 165 rfl) (Wd hw 50 rfl) (by decide) (by decide)) q12a q12c (g := (mkF m 11 #[.val (.ref x), .val (.long (((12 : Int64) + ((12 : Int64) + (na.toInt64))) + ((12 : Int64) + (nb.toInt64)))), .second, .val (.int (2 : Int32))] [(.ref lh), (.int (2 : Int32))])) rfl (by rw [hml]; rfl) (Steps.refl _) (argsL := []) (rest := [(.int (2 : Int32))]) (lenOf own_pd8 rfl) rfl (by show 2 * 0 + _ ≤ _; exact Nat.le_of_eq rfl) (hb hby d26_11) (fun _ _ => ⟨rfl, e11, (by decide : 0 + 0 ≤ _), (by decide : 0 + 0 ≤ _)⟩)
 dsimp only [Pt.U, Pt.locs, Pt.cells, Pt.slots] at X12 l12 y12 z12 st12 hQ12
 subst l12 y12 z12
 obtain ⟨rfl, Nq12, e12⟩ := hQ12
 have N12 := Fr.app N7 Nq12
 obtain ⟨T13, X13, e13, st13⟩ := getF X12 hx hZ hown (host := "") (Or.inl (Wd hw 81 rfl)) Via.refl e12 F_items_x (g := (mkF m 22 #[.val (.ref x), .val (.long (((12 : Int64) + ((12 : Int64) + (na.toInt64))) + ((12 : Int64) + (nb.toInt64)))), .second, .val (.int (2 : Int32))] [(.ref x), (.long (12 : Int64)), (.long (((12 : Int64) + ((12 : Int64) + (na.toInt64))) + ((12 : Int64) + (nb.toInt64))))])) rfl rfl (hb hby d26_22)
 obtain ⟨cl14, Ar14, q14, S14, M14, Hs14, G14⟩ := (id V_it)
 have hin14 : ¬ ((2 : Int32) < 0 ∨ cl14.slots.size ≤ ((2 : Int32)).toNatClampNeg) := inb_of S14 ⟨by decide, own_gt0 hzk (by decide)⟩
 have hat14 : cl14.slots[((2 : Int32)).toNatClampNeg]? = some (.ref ic) := Hs14.at hin14 rfl
 obtain ⟨cl15, Ar15, q15, S15, M15, Hs15, G15⟩ := (id V_ic)
 obtain ⟨T16, X16, e16, st16⟩ := getF X13 hx hZ hown (host := "") (Or.inl (Wd hw 77 rfl)) Via.refl e13 F_kept_x (g := (mkF m 8 #[.val (.ref x), .val (.long ((((12 : Int64) + ((12 : Int64) + (na.toInt64))) + ((12 : Int64) + (nb.toInt64))) + ((12 : Int64) + (nc.toInt64)))), .second, .val (.int (3 : Int32))] [(.ref x), (.int (3 : Int32))])) rfl rfl (hb hby d26_8)
 obtain ⟨cq17, kq17, q17a, q17b, q17c⟩ := isOf hZ e16 E_lh
 obtain ⟨_, _, ⟨T17, L17, k17, n17⟩, -, X17, ⟨Lc17, hQ17, l17, y17, z17⟩, st17⟩ := X16.virtualBack hx (y := (⟨cLH, "size", "()I"⟩ : MethodName)) (z := (⟨cLH, "size", "()I"⟩ : MethodName)) hown (mvT hZ (Wd hw 161 rfl)) (mvT hZ (Wd hw 162 rfl)) (notFace_of_selects (args := #[]) (mvT hZ (Wd hw 164 rfl))) (mvT hZ (Wd hw 164 rfl)) (mvT hZ (Wd hw 163 rfl)) (by decide) (backOf (W := 1) (rmSZ l Z a0 hw [] lh (3 : Int32) h0 n0 Z0 E_lh F_size_lh) hZ (Wd hw 165 rfl) (Wd hw 50 rfl) (by decide) (by decide)) q17a q17c (g := (mkF m 11 #[.val (.ref x), .val (.long ((((12 : Int64) + ((12 : Int64) + (na.toInt64))) + ((12 : Int64) + (nb.toInt64))) + ((12 : Int64) + (nc.toInt64)))), .second, .val (.int (3 : Int32))] [(.ref lh), (.int (3 : Int32))])) rfl (by rw [hml]; rfl) (Steps.refl _) (argsL := []) (rest := [(.int (3 : Int32))]) (lenOf own_pd8 rfl) rfl (by show 2 * 0 + _ ≤ _; exact Nat.le_of_eq rfl) (hb hby d26_11) (fun _ _ => ⟨rfl, e16, (by decide : 0 + 0 ≤ _), (by decide : 0 + 0 ≤ _)⟩)
 dsimp only [Pt.U, Pt.locs, Pt.cells, Pt.slots] at X17 l17 y17 z17 st17 hQ17
 subst l17 y17 z17
 obtain ⟨rfl, Nq17, e17⟩ := hQ17
 have N17 := Fr.app N12 Nq17
 obtain ⟨fs, hr, hrun, hended, hW, hsame⟩ := X17.leave (v := some (.long ((((12 : Int64) + ((12 : Int64) + (na.toInt64))) + ((12 : Int64) + (nb.toInt64))) + ((12 : Int64) + (nc.toInt64))))) (fun h => by rw [Bd.returns] at h; cases h) hlk
 refine ⟨_, _, (pre0 _ ?_), hrun, hended, _, _, rfl, ?_, ⟨_, rfl⟩, hW, hsame.mono (by decide) (by decide)⟩
 ·show Steps p.tables e below (s₁.setTop (mkF m 0 #[.val (.ref x), .unset, .unset, .unset] [])) _
  refine X0.ldc2Long hx hown (mvT hZ (Wd hw 160 rfl)) (g := (mkF m 0 #[.val (.ref x), .unset, .unset, .unset] [])) rfl (hb hby d26_0) _ ?_
  refine XS.lstoreN X0.here hx rfl (hb hby d26_3) rfl (l' := #[.val (.ref x), .val (.long (12 : Int64)), .second, .unset]) rfl ?_
  refine XS.iconst X0.here hx rfl (hb hby d26_4) ?_
  refine XS.istoreN X0.here hx rfl (hb hby d26_5) rfl (l' := #[.val (.ref x), .val (.long (12 : Int64)), .second, .val (.int (0 : Int32))]) rfl ?_
  refine XS.iloadN X0.here hx rfl (hb hby d26_6) rfl ?_
  refine XS.aloadN X0.here hx rfl (hb hby d26_7) rfl rfl ?_
  refine st1 _ ?_
  refine st2.trans ?_
  refine XS.icmpNo X2.here hx rfl (hb hby d26_14) rfl (tlt (by decide : (0 : Int32) < (3 : Int32))).2.1 ?_
  refine XS.lloadN X2.here hx rfl (hb hby d26_17) rfl ?_
  refine X2.ldc2Long hx hown (mvT hZ (Wd hw 160 rfl)) (g := (mkF m 18 #[.val (.ref x), .val (.long (12 : Int64)), .second, .val (.int (0 : Int32))] [(.long (12 : Int64))])) rfl (hb hby d26_18) _ ?_
  refine XS.aloadN X2.here hx rfl (hb hby d26_21) rfl rfl ?_
  refine st3 _ ?_
  refine XS.iloadN X3.here hx rfl (hb hby d26_25) rfl ?_
  refine X3.aaload hx (j := (0 : Int32)) (v := (.ref ia)) (by rw [e3]; exact Ar4.1) (State.isArrayOf_alike hZ.alike Ar4.2.1) rfl Ar4.2.2 hin4 hat4 (g := (mkF m 26 #[.val (.ref x), .val (.long (12 : Int64)), .second, .val (.int (0 : Int32))] [(.int (0 : Int32)), (.ref it), (.long (12 : Int64)), (.long (12 : Int64))])) rfl rfl (hb hby d26_26) _ ?_
  refine X3.arraylength hx (by rw [e3]; exact Ar5.1) (State.isArrayOf_alike hZ.alike Ar5.2.1) (g := (mkF m 27 #[.val (.ref x), .val (.long (12 : Int64)), .second, .val (.int (0 : Int32))] [(.ref ia), (.long (12 : Int64)), (.long (12 : Int64))])) rfl rfl (hb hby d26_27) _ ?_
  rw [len_of S5 M5]
  refine XS.i2l X3.here hx rfl (hb hby d26_28) rfl ?_
  refine XS.ladd X3.here hx rfl (hb hby d26_29) rfl ?_
  refine XS.ladd X3.here hx rfl (hb hby d26_30) rfl ?_
  refine XS.lstoreN X3.here hx rfl (hb hby d26_31) rfl (l' := #[.val (.ref x), .val (.long ((12 : Int64) + ((12 : Int64) + (na.toInt64)))), .second, .val (.int (0 : Int32))]) rfl ?_
  refine XS.iinc X3.here hx rfl (hb hby d26_32) rfl (l' := #[.val (.ref x), .val (.long ((12 : Int64) + ((12 : Int64) + (na.toInt64)))), .second, .val (.int (1 : Int32))]) rfl ?_
  refine XS.goto X3.here hx rfl (pc0 := 35) (pc' := 6) rfl (hb hby d26_35) (by decide) (by decide) ?_
  refine XS.iloadN X3.here hx rfl (hb hby d26_6) rfl ?_
  refine XS.aloadN X3.here hx rfl (hb hby d26_7) rfl rfl ?_
  refine st6 _ ?_
  refine st7.trans ?_
  refine XS.icmpNo X7.here hx rfl (hb hby d26_14) rfl (tlt (by decide : (1 : Int32) < (3 : Int32))).2.1 ?_
  refine XS.lloadN X7.here hx rfl (hb hby d26_17) rfl ?_
  refine X7.ldc2Long hx hown (mvT hZ (Wd hw 160 rfl)) (g := (mkF m 18 #[.val (.ref x), .val (.long ((12 : Int64) + ((12 : Int64) + (na.toInt64)))), .second, .val (.int (1 : Int32))] [(.long ((12 : Int64) + ((12 : Int64) + (na.toInt64))))])) rfl (hb hby d26_18) _ ?_
  refine XS.aloadN X7.here hx rfl (hb hby d26_21) rfl rfl ?_
  refine st8 _ ?_
  refine XS.iloadN X8.here hx rfl (hb hby d26_25) rfl ?_
  refine X8.aaload hx (j := (1 : Int32)) (v := (.ref ib)) (by rw [e8]; exact Ar9.1) (State.isArrayOf_alike hZ.alike Ar9.2.1) rfl Ar9.2.2 hin9 hat9 (g := (mkF m 26 #[.val (.ref x), .val (.long ((12 : Int64) + ((12 : Int64) + (na.toInt64)))), .second, .val (.int (1 : Int32))] [(.int (1 : Int32)), (.ref it), (.long (12 : Int64)), (.long ((12 : Int64) + ((12 : Int64) + (na.toInt64))))])) rfl rfl (hb hby d26_26) _ ?_
  refine X8.arraylength hx (by rw [e8]; exact Ar10.1) (State.isArrayOf_alike hZ.alike Ar10.2.1) (g := (mkF m 27 #[.val (.ref x), .val (.long ((12 : Int64) + ((12 : Int64) + (na.toInt64)))), .second, .val (.int (1 : Int32))] [(.ref ib), (.long (12 : Int64)), (.long ((12 : Int64) + ((12 : Int64) + (na.toInt64))))])) rfl rfl (hb hby d26_27) _ ?_
  rw [len_of S10 M10]
  refine XS.i2l X8.here hx rfl (hb hby d26_28) rfl ?_
  refine XS.ladd X8.here hx rfl (hb hby d26_29) rfl ?_
  refine XS.ladd X8.here hx rfl (hb hby d26_30) rfl ?_
  refine XS.lstoreN X8.here hx rfl (hb hby d26_31) rfl (l' := #[.val (.ref x), .val (.long (((12 : Int64) + ((12 : Int64) + (na.toInt64))) + ((12 : Int64) + (nb.toInt64)))), .second, .val (.int (1 : Int32))]) rfl ?_
  refine XS.iinc X8.here hx rfl (hb hby d26_32) rfl (l' := #[.val (.ref x), .val (.long (((12 : Int64) + ((12 : Int64) + (na.toInt64))) + ((12 : Int64) + (nb.toInt64)))), .second, .val (.int (2 : Int32))]) rfl ?_
  refine XS.goto X8.here hx rfl (pc0 := 35) (pc' := 6) rfl (hb hby d26_35) (by decide) (by decide) ?_
  refine XS.iloadN X8.here hx rfl (hb hby d26_6) rfl ?_
  refine XS.aloadN X8.here hx rfl (hb hby d26_7) rfl rfl ?_
  refine st11 _ ?_
  refine st12.trans ?_
  refine XS.icmpNo X12.here hx rfl (hb hby d26_14) rfl (tlt (by decide : (2 : Int32) < (3 : Int32))).2.1 ?_
  refine XS.lloadN X12.here hx rfl (hb hby d26_17) rfl ?_
  refine X12.ldc2Long hx hown (mvT hZ (Wd hw 160 rfl)) (g := (mkF m 18 #[.val (.ref x), .val (.long (((12 : Int64) + ((12 : Int64) + (na.toInt64))) + ((12 : Int64) + (nb.toInt64)))), .second, .val (.int (2 : Int32))] [(.long (((12 : Int64) + ((12 : Int64) + (na.toInt64))) + ((12 : Int64) + (nb.toInt64))))])) rfl (hb hby d26_18) _ ?_
  refine XS.aloadN X12.here hx rfl (hb hby d26_21) rfl rfl ?_
  refine st13 _ ?_
  refine XS.iloadN X13.here hx rfl (hb hby d26_25) rfl ?_
  refine X13.aaload hx (j := (2 : Int32)) (v := (.ref ic)) (by rw [e13]; exact Ar14.1) (State.isArrayOf_alike hZ.alike Ar14.2.1) rfl Ar14.2.2 hin14 hat14 (g := (mkF m 26 #[.val (.ref x), .val (.long (((12 : Int64) + ((12 : Int64) + (na.toInt64))) + ((12 : Int64) + (nb.toInt64)))), .second, .val (.int (2 : Int32))] [(.int (2 : Int32)), (.ref it), (.long (12 : Int64)), (.long (((12 : Int64) + ((12 : Int64) + (na.toInt64))) + ((12 : Int64) + (nb.toInt64))))])) rfl rfl (hb hby d26_26) _ ?_
  refine X13.arraylength hx (by rw [e13]; exact Ar15.1) (State.isArrayOf_alike hZ.alike Ar15.2.1) (g := (mkF m 27 #[.val (.ref x), .val (.long (((12 : Int64) + ((12 : Int64) + (na.toInt64))) + ((12 : Int64) + (nb.toInt64)))), .second, .val (.int (2 : Int32))] [(.ref ic), (.long (12 : Int64)), (.long (((12 : Int64) + ((12 : Int64) + (na.toInt64))) + ((12 : Int64) + (nb.toInt64))))])) rfl rfl (hb hby d26_27) _ ?_
  rw [len_of S15 M15]
  refine XS.i2l X13.here hx rfl (hb hby d26_28) rfl ?_
  refine XS.ladd X13.here hx rfl (hb hby d26_29) rfl ?_
  refine XS.ladd X13.here hx rfl (hb hby d26_30) rfl ?_
  refine XS.lstoreN X13.here hx rfl (hb hby d26_31) rfl (l' := #[.val (.ref x), .val (.long ((((12 : Int64) + ((12 : Int64) + (na.toInt64))) + ((12 : Int64) + (nb.toInt64))) + ((12 : Int64) + (nc.toInt64)))), .second, .val (.int (2 : Int32))]) rfl ?_
  refine XS.iinc X13.here hx rfl (hb hby d26_32) rfl (l' := #[.val (.ref x), .val (.long ((((12 : Int64) + ((12 : Int64) + (na.toInt64))) + ((12 : Int64) + (nb.toInt64))) + ((12 : Int64) + (nc.toInt64)))), .second, .val (.int (3 : Int32))]) rfl ?_
  refine XS.goto X13.here hx rfl (pc0 := 35) (pc' := 6) rfl (hb hby d26_35) (by decide) (by decide) ?_
  refine XS.iloadN X13.here hx rfl (hb hby d26_6) rfl ?_
  refine XS.aloadN X13.here hx rfl (hb hby d26_7) rfl rfl ?_
  refine st16 _ ?_
  refine st17.trans ?_
  refine XS.icmpYes X17.here hx rfl (pc0 := 14) (pc' := 38) rfl (hb hby d26_14) rfl (flt (by decide : ¬ ((3 : Int32) < (3 : Int32)))).2.1 (by decide) (by decide) ?_
  refine XS.lloadN X17.here hx rfl (hb hby d26_38) rfl ?_
  jvm_step X17.here [X17.here.top, hx, (hb hby d26_39), X17.method', Bd.returns, narrow]
  first | (intro acts; rw [hr _ acts rfl rfl rfl]) | rw [hr _ _ rfl rfl rfl]
  exact Steps.refl _
 ·show QCLd Z x lh it kl ia ib ic k_it na wa k_ia nb wb k_ib nc wc k_ic h0 n0 _ T17.heap _
  rw [e17]
  exact ⟨rfl, N17, rfl⟩
theorem own_pn4 : plainName "java/lang/Integer" = true := by first | (simp [plainName, overriddenIn]; done) | decide +kernel
theorem d9_0 : decode jdk_33_method_47_code 0 = .ok (.iload_n 0, 1) := by decide +kernel
theorem d9_1 : decode jdk_33_method_47_code 1 = .ok (.ifCond .gt 14, 3) := by decide +kernel
theorem d9_15 : decode jdk_33_method_47_code 15 = .ok (.bipush 31, 2) := by decide +kernel
theorem d9_17 : decode jdk_33_method_47_code 17 = .ok (.istore_n 1, 1) := by decide +kernel
theorem d9_18 : decode jdk_33_method_47_code 18 = .ok (.iload_n 0, 1) := by decide +kernel
theorem d9_19 : decode jdk_33_method_47_code 19 = .ok (.ldc_w 264, 3) := by decide +kernel
theorem d9_22 : decode jdk_33_method_47_code 22 = .ok (.if_icmp .lt 11, 3) := by decide +kernel
theorem d9_33 : decode jdk_33_method_47_code 33 = .ok (.iload_n 0, 1) := by decide +kernel
theorem d9_34 : decode jdk_33_method_47_code 34 = .ok (.sipush 256, 3) := by decide +kernel
theorem d9_37 : decode jdk_33_method_47_code 37 = .ok (.if_icmp .lt 11, 3) := by decide +kernel
theorem d9_48 : decode jdk_33_method_47_code 48 = .ok (.iload_n 0, 1) := by decide +kernel
theorem d9_49 : decode jdk_33_method_47_code 49 = .ok (.bipush 16, 2) := by decide +kernel
theorem d9_51 : decode jdk_33_method_47_code 51 = .ok (.if_icmp .lt 10, 3) := by decide +kernel
theorem d9_61 : decode jdk_33_method_47_code 61 = .ok (.iload_n 0, 1) := by decide +kernel
theorem d9_62 : decode jdk_33_method_47_code 62 = .ok (.iconst 4, 1) := by decide +kernel
theorem d9_63 : decode jdk_33_method_47_code 63 = .ok (.if_icmp .lt 10, 3) := by decide +kernel
theorem d9_73 : decode jdk_33_method_47_code 73 = .ok (.iload_n 1, 1) := by decide +kernel
theorem d9_74 : decode jdk_33_method_47_code 74 = .ok (.iload_n 0, 1) := by decide +kernel
theorem d9_75 : decode jdk_33_method_47_code 75 = .ok (.iconst 1, 1) := by decide +kernel
theorem d9_76 : decode jdk_33_method_47_code 76 = .ok (.iushr, 1) := by decide +kernel
theorem d9_77 : decode jdk_33_method_47_code 77 = .ok (.isub, 1) := by decide +kernel
theorem d9_78 : decode jdk_33_method_47_code 78 = .ok (.ireturn, 1) := by decide +kernel
theorem efA0 (m : MethodId)  : entryFrame m #[(.int (1 : Int32))] 2 = mkF m 0 #[.val (.int (1 : Int32)), .unset] [] := by first | (simp [entryFrame, mkF, argsToLocals, Value.category]; done) | rfl
def QA0 (Z : State)  (h0 : Heap) (n0 : Nat) (v : Option Value) (h : Heap) (L : List Loc) : Prop := v = some (.int (31 : Int32)) ∧ Fr n0 L ∧ h = h0
set_option maxRecDepth 65536 in
set_option maxHeartbeats 40000000 in
theorem rmA0 (l : Launch) (Z : State) (a0 : Array Value) (hw : ∀ d ∈ tables_1, d.before a0 Z = true) (ws : List Jvm.Cond)  (h0 : Heap) (n0 : Nat) (Z0 : n0 ≤ h0.size) :
  MetFree l (⟨"java/lang/Integer", "numberOfLeadingZeros", "(I)I"⟩ : MethodName) (head1 (Jvm.Cond.code (⟨"java/lang/Integer", "numberOfLeadingZeros", "(I)I"⟩ : MethodName) jdk_33_method_47_code 2 (some .int) :: ws) ({ frames := 0, cells := 0, slots := 0, locals := 0 } : Room)) (fun av_ U => av_ = #[(.int (1 : Int32))] ∧ Z.Warmed39 U.vm ∧ U.heap = h0) (fun _ _ _ _ _ => True) (fun _ U o U' => ∃ v L, o = .returned v ∧ QA0 Z  h0 n0 v U'.heap L ∧ FrameEnd U o U' L ({ frames := 0, cells := 0, slots := 0, locals := 0 } : Room).cells ({ frames := 0, cells := 0, slots := 0, locals := 0 } : Room).slots) := by
 refine MetFree.of_bodySF (plainFor_of_name own_pn4) hisR ?_
 intro p e s m args below meth c s₁ Bd hml0 hP hK
 obtain ⟨rfl, hZ, hh⟩ := hP
 have hx := Bd.exec
 have hby := Bd.bytes
 have hml : c.maxLocals = 2 := hml0
 have hown : s.vm.findClass "java/lang/Integer" = some m.cls := findClass_of_methodNamed Bd.named
 have hnm := (name_of_methodNamed Bd.named Bd.method).1
 have X0 : Stand p l e ({ frames := 0, cells := 0, slots := 0, locals := 0 } : Room) s m #[(.int (1 : Int32))] below meth c s₁ [] 0 0 := Stand.of_body Bd
 have e0 : s₁.heap = h0 := by rw [← hh, Bd.state]; rfl
 have N0 := Fr.nil n0
 have hlk : meth.locks = false := Bd.notSynchronized
 have pre0 : ∀ t, Steps p.tables e below (s₁.setTop (mkF m 0 #[.val (.int (1 : Int32)), .unset] [])) t → Steps p.tables e below (s₁.setTop (entryFrame m #[(.int (1 : Int32))] 2)) t := fun t k => castTop (efA0 m ) k
 obtain ⟨fs, hr, hrun, hended, hW, hsame⟩ := X0.leave (v := some (.int (31 : Int32))) (fun h => by rw [Bd.returns] at h; cases h) hlk
 refine ⟨_, _, (pre0 _ ?_), hrun, hended, _, _, rfl, ?_, ⟨_, rfl⟩, hW, hsame.mono (by decide) (by decide)⟩
 ·show Steps p.tables e below (s₁.setTop (mkF m 0 #[.val (.int (1 : Int32)), .unset] [])) _
  refine XS.iloadN X0.here hx rfl (hb hby d9_0) rfl ?_
  refine XS.ifYes X0.here hx rfl (pc0 := 1) (pc' := 15) rfl (hb hby d9_1) rfl ((if0 _ _).trans (tlt (by decide : (0 : Int32) < (1 : Int32))).2.2.1) (by decide) (by decide) ?_
  refine XS.bipush X0.here hx rfl (hb hby d9_15) ?_
  refine XS.istoreN X0.here hx rfl (hb hby d9_17) rfl (l' := #[.val (.int (1 : Int32)), .val (.int (31 : Int32))]) rfl ?_
  refine XS.iloadN X0.here hx rfl (hb hby d9_18) rfl ?_
  refine X0.ldcwInt hx hown (mvT hZ (Wd hw 65 rfl)) (g := (mkF m 19 #[.val (.int (1 : Int32)), .val (.int (31 : Int32))] [(.int (1 : Int32))])) rfl (hb hby d9_19) _ ?_
  refine XS.icmpYes X0.here hx rfl (pc0 := 22) (pc' := 33) rfl (hb hby d9_22) rfl (tlt (by decide : (1 : Int32) < (65536 : Int32))).1 (by decide) (by decide) ?_
  refine XS.iloadN X0.here hx rfl (hb hby d9_33) rfl ?_
  refine XS.sipush X0.here hx rfl (hb hby d9_34) ?_
  refine XS.icmpYes X0.here hx rfl (pc0 := 37) (pc' := 48) rfl (hb hby d9_37) rfl (tlt (by decide : (1 : Int32) < (256 : Int32))).1 (by decide) (by decide) ?_
  refine XS.iloadN X0.here hx rfl (hb hby d9_48) rfl ?_
  refine XS.bipush X0.here hx rfl (hb hby d9_49) ?_
  refine XS.icmpYes X0.here hx rfl (pc0 := 51) (pc' := 61) rfl (hb hby d9_51) rfl (tlt (by decide : (1 : Int32) < (16 : Int32))).1 (by decide) (by decide) ?_
  refine XS.iloadN X0.here hx rfl (hb hby d9_61) rfl ?_
  refine XS.iconst X0.here hx rfl (hb hby d9_62) ?_
  refine XS.icmpYes X0.here hx rfl (pc0 := 63) (pc' := 73) rfl (hb hby d9_63) rfl (tlt (by decide : (1 : Int32) < (4 : Int32))).1 (by decide) (by decide) ?_
  refine XS.iloadN X0.here hx rfl (hb hby d9_73) rfl ?_
  refine XS.iloadN X0.here hx rfl (hb hby d9_74) rfl ?_
  refine XS.iconst X0.here hx rfl (hb hby d9_75) ?_
  show Steps p.tables e below (s₁.setTop (mkF m 76 #[.val (.int (1 : Int32)), .val (.int (31 : Int32))] [(.int (1 : Int32)), (.int (1 : Int32)), (.int (31 : Int32))])) _
  refine XS.iushr X0.here hx rfl (hb hby d9_76) rfl ?_
  rw [show (((1 : Int32).toUInt32 >>> ((1 : Int32) &&& 31).toUInt32).toInt32) = (0 : Int32) from by decide]
  show Steps p.tables e below (s₁.setTop (mkF m 77 #[.val (.int (1 : Int32)), .val (.int (31 : Int32))] [(.int (0 : Int32)), (.int (31 : Int32))])) _
  refine XS.isub X0.here hx rfl (hb hby d9_77) rfl ?_
  exact retI X0 hx Bd.returns (hb hby d9_78) hr
 ·show QA0 Z  h0 n0 _ s₁.heap _
  rw [e0]
  exact ⟨rfl, N0, rfl⟩
theorem own_pd9 : parseMethodDescriptor "(I)I" = some ⟨[.int], some .int⟩ := by decide +kernel
theorem efA1 (m : MethodId)  : entryFrame m #[(.int (3 : Int32))] 2 = mkF m 0 #[.val (.int (3 : Int32)), .unset] [] := by first | (simp [entryFrame, mkF, argsToLocals, Value.category]; done) | rfl
def QA1 (Z : State)  (h0 : Heap) (n0 : Nat) (v : Option Value) (h : Heap) (L : List Loc) : Prop := v = some (.int (30 : Int32)) ∧ Fr n0 L ∧ h = h0
set_option maxRecDepth 65536 in
set_option maxHeartbeats 40000000 in
theorem rmA1 (l : Launch) (Z : State) (a0 : Array Value) (hw : ∀ d ∈ tables_1, d.before a0 Z = true) (ws : List Jvm.Cond)  (h0 : Heap) (n0 : Nat) (Z0 : n0 ≤ h0.size) :
  MetFree l (⟨"java/lang/Integer", "numberOfLeadingZeros", "(I)I"⟩ : MethodName) (head1 (Jvm.Cond.code (⟨"java/lang/Integer", "numberOfLeadingZeros", "(I)I"⟩ : MethodName) jdk_33_method_47_code 2 (some .int) :: ws) ({ frames := 0, cells := 0, slots := 0, locals := 0 } : Room)) (fun av_ U => av_ = #[(.int (3 : Int32))] ∧ Z.Warmed39 U.vm ∧ U.heap = h0) (fun _ _ _ _ _ => True) (fun _ U o U' => ∃ v L, o = .returned v ∧ QA1 Z  h0 n0 v U'.heap L ∧ FrameEnd U o U' L ({ frames := 0, cells := 0, slots := 0, locals := 0 } : Room).cells ({ frames := 0, cells := 0, slots := 0, locals := 0 } : Room).slots) := by
 refine MetFree.of_bodySF (plainFor_of_name own_pn4) hisR ?_
 intro p e s m args below meth c s₁ Bd hml0 hP hK
 obtain ⟨rfl, hZ, hh⟩ := hP
 have hx := Bd.exec
 have hby := Bd.bytes
 have hml : c.maxLocals = 2 := hml0
 have hown : s.vm.findClass "java/lang/Integer" = some m.cls := findClass_of_methodNamed Bd.named
 have hnm := (name_of_methodNamed Bd.named Bd.method).1
 have X0 : Stand p l e ({ frames := 0, cells := 0, slots := 0, locals := 0 } : Room) s m #[(.int (3 : Int32))] below meth c s₁ [] 0 0 := Stand.of_body Bd
 have e0 : s₁.heap = h0 := by rw [← hh, Bd.state]; rfl
 have N0 := Fr.nil n0
 have hlk : meth.locks = false := Bd.notSynchronized
 have pre0 : ∀ t, Steps p.tables e below (s₁.setTop (mkF m 0 #[.val (.int (3 : Int32)), .unset] [])) t → Steps p.tables e below (s₁.setTop (entryFrame m #[(.int (3 : Int32))] 2)) t := fun t k => castTop (efA1 m ) k
 obtain ⟨fs, hr, hrun, hended, hW, hsame⟩ := X0.leave (v := some (.int (30 : Int32))) (fun h => by rw [Bd.returns] at h; cases h) hlk
 refine ⟨_, _, (pre0 _ ?_), hrun, hended, _, _, rfl, ?_, ⟨_, rfl⟩, hW, hsame.mono (by decide) (by decide)⟩
 ·show Steps p.tables e below (s₁.setTop (mkF m 0 #[.val (.int (3 : Int32)), .unset] [])) _
  refine XS.iloadN X0.here hx rfl (hb hby d9_0) rfl ?_
  refine XS.ifYes X0.here hx rfl (pc0 := 1) (pc' := 15) rfl (hb hby d9_1) rfl ((if0 _ _).trans (tlt (by decide : (0 : Int32) < (3 : Int32))).2.2.1) (by decide) (by decide) ?_
  refine XS.bipush X0.here hx rfl (hb hby d9_15) ?_
  refine XS.istoreN X0.here hx rfl (hb hby d9_17) rfl (l' := #[.val (.int (3 : Int32)), .val (.int (31 : Int32))]) rfl ?_
  refine XS.iloadN X0.here hx rfl (hb hby d9_18) rfl ?_
  refine X0.ldcwInt hx hown (mvT hZ (Wd hw 65 rfl)) (g := (mkF m 19 #[.val (.int (3 : Int32)), .val (.int (31 : Int32))] [(.int (3 : Int32))])) rfl (hb hby d9_19) _ ?_
  refine XS.icmpYes X0.here hx rfl (pc0 := 22) (pc' := 33) rfl (hb hby d9_22) rfl (tlt (by decide : (3 : Int32) < (65536 : Int32))).1 (by decide) (by decide) ?_
  refine XS.iloadN X0.here hx rfl (hb hby d9_33) rfl ?_
  refine XS.sipush X0.here hx rfl (hb hby d9_34) ?_
  refine XS.icmpYes X0.here hx rfl (pc0 := 37) (pc' := 48) rfl (hb hby d9_37) rfl (tlt (by decide : (3 : Int32) < (256 : Int32))).1 (by decide) (by decide) ?_
  refine XS.iloadN X0.here hx rfl (hb hby d9_48) rfl ?_
  refine XS.bipush X0.here hx rfl (hb hby d9_49) ?_
  refine XS.icmpYes X0.here hx rfl (pc0 := 51) (pc' := 61) rfl (hb hby d9_51) rfl (tlt (by decide : (3 : Int32) < (16 : Int32))).1 (by decide) (by decide) ?_
  refine XS.iloadN X0.here hx rfl (hb hby d9_61) rfl ?_
  refine XS.iconst X0.here hx rfl (hb hby d9_62) ?_
  refine XS.icmpYes X0.here hx rfl (pc0 := 63) (pc' := 73) rfl (hb hby d9_63) rfl (tlt (by decide : (3 : Int32) < (4 : Int32))).1 (by decide) (by decide) ?_
  refine XS.iloadN X0.here hx rfl (hb hby d9_73) rfl ?_
  refine XS.iloadN X0.here hx rfl (hb hby d9_74) rfl ?_
  refine XS.iconst X0.here hx rfl (hb hby d9_75) ?_
  show Steps p.tables e below (s₁.setTop (mkF m 76 #[.val (.int (3 : Int32)), .val (.int (31 : Int32))] [(.int (1 : Int32)), (.int (3 : Int32)), (.int (31 : Int32))])) _
  refine XS.iushr X0.here hx rfl (hb hby d9_76) rfl ?_
  rw [show (((3 : Int32).toUInt32 >>> ((1 : Int32) &&& 31).toUInt32).toInt32) = (1 : Int32) from by decide]
  show Steps p.tables e below (s₁.setTop (mkF m 77 #[.val (.int (3 : Int32)), .val (.int (31 : Int32))] [(.int (1 : Int32)), (.int (31 : Int32))])) _
  refine XS.isub X0.here hx rfl (hb hby d9_77) rfl ?_
  exact retI X0 hx Bd.returns (hb hby d9_78) hr
 ·show QA1 Z  h0 n0 _ s₁.heap _
  rw [e0]
  exact ⟨rfl, N0, rfl⟩
theorem d9_66 : decode jdk_33_method_47_code 66 = .ok (.iinc 1 (-2), 3) := by decide +kernel
theorem d9_69 : decode jdk_33_method_47_code 69 = .ok (.iload_n 0, 1) := by decide +kernel
theorem d9_70 : decode jdk_33_method_47_code 70 = .ok (.iconst 2, 1) := by decide +kernel
theorem d9_71 : decode jdk_33_method_47_code 71 = .ok (.iushr, 1) := by decide +kernel
theorem d9_72 : decode jdk_33_method_47_code 72 = .ok (.istore_n 0, 1) := by decide +kernel
theorem efA2 (m : MethodId)  : entryFrame m #[(.int (5 : Int32))] 2 = mkF m 0 #[.val (.int (5 : Int32)), .unset] [] := by first | (simp [entryFrame, mkF, argsToLocals, Value.category]; done) | rfl
def QA2 (Z : State)  (h0 : Heap) (n0 : Nat) (v : Option Value) (h : Heap) (L : List Loc) : Prop := v = some (.int (29 : Int32)) ∧ Fr n0 L ∧ h = h0
set_option maxRecDepth 65536 in
set_option maxHeartbeats 40000000 in
theorem rmA2 (l : Launch) (Z : State) (a0 : Array Value) (hw : ∀ d ∈ tables_1, d.before a0 Z = true) (ws : List Jvm.Cond)  (h0 : Heap) (n0 : Nat) (Z0 : n0 ≤ h0.size) :
  MetFree l (⟨"java/lang/Integer", "numberOfLeadingZeros", "(I)I"⟩ : MethodName) (head1 (Jvm.Cond.code (⟨"java/lang/Integer", "numberOfLeadingZeros", "(I)I"⟩ : MethodName) jdk_33_method_47_code 2 (some .int) :: ws) ({ frames := 0, cells := 0, slots := 0, locals := 0 } : Room)) (fun av_ U => av_ = #[(.int (5 : Int32))] ∧ Z.Warmed39 U.vm ∧ U.heap = h0) (fun _ _ _ _ _ => True) (fun _ U o U' => ∃ v L, o = .returned v ∧ QA2 Z  h0 n0 v U'.heap L ∧ FrameEnd U o U' L ({ frames := 0, cells := 0, slots := 0, locals := 0 } : Room).cells ({ frames := 0, cells := 0, slots := 0, locals := 0 } : Room).slots) := by
 refine MetFree.of_bodySF (plainFor_of_name own_pn4) hisR ?_
 intro p e s m args below meth c s₁ Bd hml0 hP hK
 obtain ⟨rfl, hZ, hh⟩ := hP
 have hx := Bd.exec
 have hby := Bd.bytes
 have hml : c.maxLocals = 2 := hml0
 have hown : s.vm.findClass "java/lang/Integer" = some m.cls := findClass_of_methodNamed Bd.named
 have hnm := (name_of_methodNamed Bd.named Bd.method).1
 have X0 : Stand p l e ({ frames := 0, cells := 0, slots := 0, locals := 0 } : Room) s m #[(.int (5 : Int32))] below meth c s₁ [] 0 0 := Stand.of_body Bd
 have e0 : s₁.heap = h0 := by rw [← hh, Bd.state]; rfl
 have N0 := Fr.nil n0
 have hlk : meth.locks = false := Bd.notSynchronized
 have pre0 : ∀ t, Steps p.tables e below (s₁.setTop (mkF m 0 #[.val (.int (5 : Int32)), .unset] [])) t → Steps p.tables e below (s₁.setTop (entryFrame m #[(.int (5 : Int32))] 2)) t := fun t k => castTop (efA2 m ) k
 obtain ⟨fs, hr, hrun, hended, hW, hsame⟩ := X0.leave (v := some (.int (29 : Int32))) (fun h => by rw [Bd.returns] at h; cases h) hlk
 refine ⟨_, _, (pre0 _ ?_), hrun, hended, _, _, rfl, ?_, ⟨_, rfl⟩, hW, hsame.mono (by decide) (by decide)⟩
 ·show Steps p.tables e below (s₁.setTop (mkF m 0 #[.val (.int (5 : Int32)), .unset] [])) _
  refine XS.iloadN X0.here hx rfl (hb hby d9_0) rfl ?_
  refine XS.ifYes X0.here hx rfl (pc0 := 1) (pc' := 15) rfl (hb hby d9_1) rfl ((if0 _ _).trans (tlt (by decide : (0 : Int32) < (5 : Int32))).2.2.1) (by decide) (by decide) ?_
  refine XS.bipush X0.here hx rfl (hb hby d9_15) ?_
  refine XS.istoreN X0.here hx rfl (hb hby d9_17) rfl (l' := #[.val (.int (5 : Int32)), .val (.int (31 : Int32))]) rfl ?_
  refine XS.iloadN X0.here hx rfl (hb hby d9_18) rfl ?_
  refine X0.ldcwInt hx hown (mvT hZ (Wd hw 65 rfl)) (g := (mkF m 19 #[.val (.int (5 : Int32)), .val (.int (31 : Int32))] [(.int (5 : Int32))])) rfl (hb hby d9_19) _ ?_
  refine XS.icmpYes X0.here hx rfl (pc0 := 22) (pc' := 33) rfl (hb hby d9_22) rfl (tlt (by decide : (5 : Int32) < (65536 : Int32))).1 (by decide) (by decide) ?_
  refine XS.iloadN X0.here hx rfl (hb hby d9_33) rfl ?_
  refine XS.sipush X0.here hx rfl (hb hby d9_34) ?_
  refine XS.icmpYes X0.here hx rfl (pc0 := 37) (pc' := 48) rfl (hb hby d9_37) rfl (tlt (by decide : (5 : Int32) < (256 : Int32))).1 (by decide) (by decide) ?_
  refine XS.iloadN X0.here hx rfl (hb hby d9_48) rfl ?_
  refine XS.bipush X0.here hx rfl (hb hby d9_49) ?_
  refine XS.icmpYes X0.here hx rfl (pc0 := 51) (pc' := 61) rfl (hb hby d9_51) rfl (tlt (by decide : (5 : Int32) < (16 : Int32))).1 (by decide) (by decide) ?_
  refine XS.iloadN X0.here hx rfl (hb hby d9_61) rfl ?_
  refine XS.iconst X0.here hx rfl (hb hby d9_62) ?_
  refine XS.icmpNo X0.here hx rfl (hb hby d9_63) rfl (flt (by decide : ¬ ((5 : Int32) < (4 : Int32)))).1 ?_
  refine XS.iinc X0.here hx rfl (hb hby d9_66) rfl (l' := #[.val (.int (5 : Int32)), .val (.int (29 : Int32))]) rfl ?_
  refine XS.iloadN X0.here hx rfl (hb hby d9_69) rfl ?_
  refine XS.iconst X0.here hx rfl (hb hby d9_70) ?_
  show Steps p.tables e below (s₁.setTop (mkF m 71 #[.val (.int (5 : Int32)), .val (.int (29 : Int32))] [(.int (2 : Int32)), (.int (5 : Int32))])) _
  refine XS.iushr X0.here hx rfl (hb hby d9_71) rfl ?_
  rw [show (((5 : Int32).toUInt32 >>> ((2 : Int32) &&& 31).toUInt32).toInt32) = (1 : Int32) from by decide]
  show Steps p.tables e below (s₁.setTop (mkF m 72 #[.val (.int (5 : Int32)), .val (.int (29 : Int32))] [(.int (1 : Int32))])) _
  refine XS.istoreN X0.here hx rfl (hb hby d9_72) rfl (l' := #[.val (.int (1 : Int32)), .val (.int (29 : Int32))]) rfl ?_
  refine XS.iloadN X0.here hx rfl (hb hby d9_73) rfl ?_
  refine XS.iloadN X0.here hx rfl (hb hby d9_74) rfl ?_
  refine XS.iconst X0.here hx rfl (hb hby d9_75) ?_
  show Steps p.tables e below (s₁.setTop (mkF m 76 #[.val (.int (1 : Int32)), .val (.int (29 : Int32))] [(.int (1 : Int32)), (.int (1 : Int32)), (.int (29 : Int32))])) _
  refine XS.iushr X0.here hx rfl (hb hby d9_76) rfl ?_
  rw [show (((1 : Int32).toUInt32 >>> ((1 : Int32) &&& 31).toUInt32).toInt32) = (0 : Int32) from by decide]
  show Steps p.tables e below (s₁.setTop (mkF m 77 #[.val (.int (1 : Int32)), .val (.int (29 : Int32))] [(.int (0 : Int32)), (.int (29 : Int32))])) _
  refine XS.isub X0.here hx rfl (hb hby d9_77) rfl ?_
  exact retI X0 hx Bd.returns (hb hby d9_78) hr
 ·show QA2 Z  h0 n0 _ s₁.heap _
  rw [e0]
  exact ⟨rfl, N0, rfl⟩
theorem d8_0 : decode jdk_33_method_45_code 0 = .ok (.iload_n 0, 1) := by decide +kernel
theorem d8_1 : decode jdk_33_method_45_code 1 = .ok (.ldc 127, 2) := by decide +kernel
theorem d8_3 : decode jdk_33_method_45_code 3 = .ok (.iload_n 0, 1) := by decide +kernel
theorem d8_4 : decode jdk_33_method_45_code 4 = .ok (.invokestatic 51, 3) := by decide +kernel
theorem d8_7 : decode jdk_33_method_45_code 7 = .ok (.iushr, 1) := by decide +kernel
theorem d8_8 : decode jdk_33_method_45_code 8 = .ok (.iand, 1) := by decide +kernel
theorem d8_9 : decode jdk_33_method_45_code 9 = .ok (.ireturn, 1) := by decide +kernel
theorem efHB (m : MethodId) (pa : Int32) : entryFrame m #[(.int pa)] 1 = mkF m 0 #[.val (.int pa)] [] := by first | (simp [entryFrame, mkF, argsToLocals, Value.category]; done) | rfl
def QHB (Z : State) (pa : Int32) (h0 : Heap) (n0 : Nat) (v : Option Value) (h : Heap) (L : List Loc) : Prop := v = some (.int (own_hob pa)) ∧ Fr n0 L ∧ h = h0
set_option maxRecDepth 65536 in
set_option maxHeartbeats 40000000 in
theorem rmHB (l : Launch) (Z : State) (a0 : Array Value) (hw : ∀ d ∈ tables_1, d.before a0 Z = true) (ws : List Jvm.Cond) (pa : Int32) (h0 : Heap) (n0 : Nat) (Z0 : n0 ≤ h0.size) (ha : pa = (1 : Int32) ∨ pa = (3 : Int32) ∨ pa = (5 : Int32)) :
  MetFree l (⟨"java/lang/Integer", "highestOneBit", "(I)I"⟩ : MethodName) (head1 (Jvm.Cond.code (⟨"java/lang/Integer", "highestOneBit", "(I)I"⟩ : MethodName) jdk_33_method_45_code 1 (some .int) :: ws) ({ frames := 1, cells := 0, slots := 0, locals := 30 } : Room)) (fun av_ U => av_ = #[(.int pa)] ∧ Z.Warmed39 U.vm ∧ U.heap = h0) (fun _ _ _ _ _ => True) (fun _ U o U' => ∃ v L, o = .returned v ∧ QHB Z pa h0 n0 v U'.heap L ∧ FrameEnd U o U' L ({ frames := 1, cells := 0, slots := 0, locals := 30 } : Room).cells ({ frames := 1, cells := 0, slots := 0, locals := 30 } : Room).slots) := by
 refine MetFree.of_bodySF (plainFor_of_name own_pn4) hisR ?_
 intro p e s m args below meth c s₁ Bd hml0 hP hK
 obtain ⟨rfl, hZ, hh⟩ := hP
 have hx := Bd.exec
 have hby := Bd.bytes
 have hml : c.maxLocals = 1 := hml0
 have hown : s.vm.findClass "java/lang/Integer" = some m.cls := findClass_of_methodNamed Bd.named
 have hnm := (name_of_methodNamed Bd.named Bd.method).1
 have X0 : Stand p l e ({ frames := 1, cells := 0, slots := 0, locals := 30 } : Room) s m #[(.int pa)] below meth c s₁ [] 0 0 := Stand.of_body Bd
 have e0 : s₁.heap = h0 := by rw [← hh, Bd.state]; rfl
 have N0 := Fr.nil n0
 have hlk : meth.locks = false := Bd.notSynchronized
 have pre0 : ∀ t, Steps p.tables e below (s₁.setTop (mkF m 0 #[.val (.int pa)] [])) t → Steps p.tables e below (s₁.setTop (entryFrame m #[(.int pa)] 1)) t := fun t k => castTop (efHB m pa) k
 rcases ha with hk1 | hk1 | hk1
 ·have r2 : ∀ t, Steps p.tables e below (s₁.setTop (mkF m 0 #[.val (.int (1 : Int32))] [])) t → Steps p.tables e below (s₁.setTop (mkF m 0 #[.val (.int pa)] [])) t := fun t kt => by
   rw [hk1]
   exact kt
  obtain ⟨_, _, ⟨T3, L3, k3, n3⟩, -, X3, ⟨Lc3, hQ3, l3, y3, z3⟩, st3⟩ := Jvm.LawKit.callS X0 hx (y := (⟨"java/lang/Integer", "numberOfLeadingZeros", "(I)I"⟩ : MethodName)) hown (mvT hZ (Wd hw 62 rfl)) (mvT hZ (Wd hw 63 rfl)) (mvT hZ (Wd hw 28 rfl)) (mvT hZ (Wd hw 64 rfl)) (by decide) (backOf (W := 2) (rmA0 l Z a0 hw []  h0 n0 Z0 ) hZ (Wd hw 64 rfl) (Wd hw 28 rfl) (by decide) (by decide)) (g := (mkF m 4 #[.val (.int (1 : Int32))] [(.int (1 : Int32)), (.int (-2147483648 : Int32)), (.int (1 : Int32))])) rfl (by rw [hml]; rfl) (argsL := [(.int (1 : Int32))]) (rest := [(.int (-2147483648 : Int32)), (.int (1 : Int32))]) (lenOf own_pd9 rfl) rfl (by show 2 * 0 + _ ≤ _; exact Nat.le_of_eq rfl) (hb hby d8_4) (fun _ _ => ⟨rfl, e0, (by decide : 0 + 0 ≤ _), (by decide : 0 + 0 ≤ _)⟩)
  dsimp only [Pt.U, Pt.locs, Pt.cells, Pt.slots] at X3 l3 y3 z3 st3 hQ3
  subst l3 y3 z3
  obtain ⟨rfl, Nq3, e3⟩ := hQ3
  have N3 := Fr.app N0 Nq3
  obtain ⟨fs, hr, hrun, hended, hW, hsame⟩ := X3.leave (v := some (.int ((1 : Int32) &&& (((-2147483648 : Int32).toUInt32 >>> ((31 : Int32) &&& 31).toUInt32).toInt32)))) (fun h => by rw [Bd.returns] at h; cases h) hlk
  refine ⟨_, _, (pre0 _ (r2 _ ?_)), hrun, hended, _, _, rfl, ?_, ⟨_, rfl⟩, hW, hsame.mono (by decide) (by decide)⟩
  ·show Steps p.tables e below (s₁.setTop (mkF m 0 #[.val (.int (1 : Int32))] [])) _
   refine XS.iloadN X0.here hx rfl (hb hby d8_0) rfl ?_
   refine X0.ldcInt hx hown (mvT hZ (Wd hw 61 rfl)) (g := (mkF m 1 #[.val (.int (1 : Int32))] [(.int (1 : Int32))])) rfl (hb hby d8_1) _ ?_
   refine XS.iloadN X0.here hx rfl (hb hby d8_3) rfl ?_
   refine st3 _ ?_
   refine XS.iushr X3.here hx rfl (hb hby d8_7) rfl ?_
   refine XS.iand X3.here hx rfl (hb hby d8_8) rfl ?_
   exact retI X3 hx Bd.returns (hb hby d8_9) hr
  ·show QHB Z pa h0 n0 _ T3.heap _
   rw [e3]
   exact ⟨(congrArg (fun w => some (Value.int w)) (by rw [hk1]; decide)), N3, rfl⟩
 ·have r4 : ∀ t, Steps p.tables e below (s₁.setTop (mkF m 0 #[.val (.int (3 : Int32))] [])) t → Steps p.tables e below (s₁.setTop (mkF m 0 #[.val (.int pa)] [])) t := fun t kt => by
   rw [hk1]
   exact kt
  obtain ⟨_, _, ⟨T5, L5, k5, n5⟩, -, X5, ⟨Lc5, hQ5, l5, y5, z5⟩, st5⟩ := Jvm.LawKit.callS X0 hx (y := (⟨"java/lang/Integer", "numberOfLeadingZeros", "(I)I"⟩ : MethodName)) hown (mvT hZ (Wd hw 62 rfl)) (mvT hZ (Wd hw 63 rfl)) (mvT hZ (Wd hw 28 rfl)) (mvT hZ (Wd hw 64 rfl)) (by decide) (backOf (W := 2) (rmA1 l Z a0 hw []  h0 n0 Z0 ) hZ (Wd hw 64 rfl) (Wd hw 28 rfl) (by decide) (by decide)) (g := (mkF m 4 #[.val (.int (3 : Int32))] [(.int (3 : Int32)), (.int (-2147483648 : Int32)), (.int (3 : Int32))])) rfl (by rw [hml]; rfl) (argsL := [(.int (3 : Int32))]) (rest := [(.int (-2147483648 : Int32)), (.int (3 : Int32))]) (lenOf own_pd9 rfl) rfl (by show 2 * 0 + _ ≤ _; exact Nat.le_of_eq rfl) (hb hby d8_4) (fun _ _ => ⟨rfl, e0, (by decide : 0 + 0 ≤ _), (by decide : 0 + 0 ≤ _)⟩)
  dsimp only [Pt.U, Pt.locs, Pt.cells, Pt.slots] at X5 l5 y5 z5 st5 hQ5
  subst l5 y5 z5
  obtain ⟨rfl, Nq5, e5⟩ := hQ5
  have N5 := Fr.app N0 Nq5
  obtain ⟨fs, hr, hrun, hended, hW, hsame⟩ := X5.leave (v := some (.int ((3 : Int32) &&& (((-2147483648 : Int32).toUInt32 >>> ((30 : Int32) &&& 31).toUInt32).toInt32)))) (fun h => by rw [Bd.returns] at h; cases h) hlk
  refine ⟨_, _, (pre0 _ (r4 _ ?_)), hrun, hended, _, _, rfl, ?_, ⟨_, rfl⟩, hW, hsame.mono (by decide) (by decide)⟩
  ·show Steps p.tables e below (s₁.setTop (mkF m 0 #[.val (.int (3 : Int32))] [])) _
   refine XS.iloadN X0.here hx rfl (hb hby d8_0) rfl ?_
   refine X0.ldcInt hx hown (mvT hZ (Wd hw 61 rfl)) (g := (mkF m 1 #[.val (.int (3 : Int32))] [(.int (3 : Int32))])) rfl (hb hby d8_1) _ ?_
   refine XS.iloadN X0.here hx rfl (hb hby d8_3) rfl ?_
   refine st5 _ ?_
   refine XS.iushr X5.here hx rfl (hb hby d8_7) rfl ?_
   refine XS.iand X5.here hx rfl (hb hby d8_8) rfl ?_
   exact retI X5 hx Bd.returns (hb hby d8_9) hr
  ·show QHB Z pa h0 n0 _ T5.heap _
   rw [e5]
   exact ⟨(congrArg (fun w => some (Value.int w)) (by rw [hk1]; decide)), N5, rfl⟩
 ·have r6 : ∀ t, Steps p.tables e below (s₁.setTop (mkF m 0 #[.val (.int (5 : Int32))] [])) t → Steps p.tables e below (s₁.setTop (mkF m 0 #[.val (.int pa)] [])) t := fun t kt => by
   rw [hk1]
   exact kt
  obtain ⟨_, _, ⟨T7, L7, k7, n7⟩, -, X7, ⟨Lc7, hQ7, l7, y7, z7⟩, st7⟩ := Jvm.LawKit.callS X0 hx (y := (⟨"java/lang/Integer", "numberOfLeadingZeros", "(I)I"⟩ : MethodName)) hown (mvT hZ (Wd hw 62 rfl)) (mvT hZ (Wd hw 63 rfl)) (mvT hZ (Wd hw 28 rfl)) (mvT hZ (Wd hw 64 rfl)) (by decide) (backOf (W := 2) (rmA2 l Z a0 hw []  h0 n0 Z0 ) hZ (Wd hw 64 rfl) (Wd hw 28 rfl) (by decide) (by decide)) (g := (mkF m 4 #[.val (.int (5 : Int32))] [(.int (5 : Int32)), (.int (-2147483648 : Int32)), (.int (5 : Int32))])) rfl (by rw [hml]; rfl) (argsL := [(.int (5 : Int32))]) (rest := [(.int (-2147483648 : Int32)), (.int (5 : Int32))]) (lenOf own_pd9 rfl) rfl (by show 2 * 0 + _ ≤ _; exact Nat.le_of_eq rfl) (hb hby d8_4) (fun _ _ => ⟨rfl, e0, (by decide : 0 + 0 ≤ _), (by decide : 0 + 0 ≤ _)⟩)
  dsimp only [Pt.U, Pt.locs, Pt.cells, Pt.slots] at X7 l7 y7 z7 st7 hQ7
  subst l7 y7 z7
  obtain ⟨rfl, Nq7, e7⟩ := hQ7
  have N7 := Fr.app N0 Nq7
  obtain ⟨fs, hr, hrun, hended, hW, hsame⟩ := X7.leave (v := some (.int ((5 : Int32) &&& (((-2147483648 : Int32).toUInt32 >>> ((29 : Int32) &&& 31).toUInt32).toInt32)))) (fun h => by rw [Bd.returns] at h; cases h) hlk
  refine ⟨_, _, (pre0 _ (r6 _ ?_)), hrun, hended, _, _, rfl, ?_, ⟨_, rfl⟩, hW, hsame.mono (by decide) (by decide)⟩
  ·show Steps p.tables e below (s₁.setTop (mkF m 0 #[.val (.int (5 : Int32))] [])) _
   refine XS.iloadN X0.here hx rfl (hb hby d8_0) rfl ?_
   refine X0.ldcInt hx hown (mvT hZ (Wd hw 61 rfl)) (g := (mkF m 1 #[.val (.int (5 : Int32))] [(.int (5 : Int32))])) rfl (hb hby d8_1) _ ?_
   refine XS.iloadN X0.here hx rfl (hb hby d8_3) rfl ?_
   refine st7 _ ?_
   refine XS.iushr X7.here hx rfl (hb hby d8_7) rfl ?_
   refine XS.iand X7.here hx rfl (hb hby d8_8) rfl ?_
   exact retI X7 hx Bd.returns (hb hby d8_9) hr
  ·show QHB Z pa h0 n0 _ T7.heap _
   rw [e7]
   exact ⟨(congrArg (fun w => some (Value.int w)) (by rw [hk1]; decide)), N7, rfl⟩
theorem d10_0 : decode jdk_65_method_103_code 0 = .ok (.iconst 0, 1) := by decide +kernel
theorem d10_1 : decode jdk_65_method_103_code 1 = .ok (.istore_n 2, 1) := by decide +kernel
theorem d10_2 : decode jdk_65_method_103_code 2 = .ok (.aload_n 0, 1) := by decide +kernel
theorem d10_3 : decode jdk_65_method_103_code 3 = .ok (.arraylength, 1) := by decide +kernel
theorem d10_4 : decode jdk_65_method_103_code 4 = .ok (.istore_n 3, 1) := by decide +kernel
theorem d10_5 : decode jdk_65_method_103_code 5 = .ok (.iload_n 2, 1) := by decide +kernel
theorem d10_6 : decode jdk_65_method_103_code 6 = .ok (.iload_n 3, 1) := by decide +kernel
theorem d10_7 : decode jdk_65_method_103_code 7 = .ok (.if_icmp .ge 13, 3) := by decide +kernel
theorem d10_10 : decode jdk_65_method_103_code 10 = .ok (.aload_n 0, 1) := by decide +kernel
theorem d10_11 : decode jdk_65_method_103_code 11 = .ok (.iload_n 2, 1) := by decide +kernel
theorem d10_12 : decode jdk_65_method_103_code 12 = .ok (.iload_n 1, 1) := by decide +kernel
theorem d10_13 : decode jdk_65_method_103_code 13 = .ok (.iastore, 1) := by decide +kernel
theorem d10_14 : decode jdk_65_method_103_code 14 = .ok (.iinc 2 1, 3) := by decide +kernel
theorem d10_17 : decode jdk_65_method_103_code 17 = .ok (.goto (-12), 3) := by decide +kernel
theorem d10_20 : decode jdk_65_method_103_code 20 = .ok (.return_, 1) := by decide +kernel
theorem efFL (m : MethodId) (aa : Addr) : entryFrame m #[(.ref aa), (.int (-1 : Int32))] 4 = mkF m 0 #[.val (.ref aa), .val (.int (-1 : Int32)), .unset, .unset] [] := by first | (simp [entryFrame, mkF, argsToLocals, Value.category]; done) | rfl
def QFL (Z : State) (aa : Addr) (nl : Int32) (k_aa : ClassId) (h0 : Heap) (n0 : Nat) (v : Option Value) (h : Heap) (L : List Loc) : Prop := v = none ∧ Fr n0 L ∧ Keep h0 h [aa] ∧ Arv Z h aa k_aa .int nl [(.int (-1 : Int32)), (.int (-1 : Int32)), (.int (-1 : Int32)), (.int (-1 : Int32)), (.int (-1 : Int32)), (.int (-1 : Int32)), (.int (-1 : Int32)), (.int (-1 : Int32))] (.int (0 : Int32))
set_option maxRecDepth 65536 in
set_option maxHeartbeats 40000000 in
theorem rmFL (l : Launch) (Z : State) (a0 : Array Value) (hw : ∀ d ∈ tables_1, d.before a0 Z = true) (ws : List Jvm.Cond) (aa : Addr) (nl : Int32) (k_aa : ClassId) (h0 : Heap) (n0 : Nat) (Z0 : n0 ≤ h0.size) (V_aa : Arv Z h0 aa k_aa .int nl [(.int (0 : Int32)), (.int (0 : Int32)), (.int (0 : Int32)), (.int (0 : Int32)), (.int (0 : Int32)), (.int (0 : Int32)), (.int (0 : Int32)), (.int (0 : Int32))] (.int (0 : Int32))) (hn : ¬ (8 : Int32) < nl) (g_aa : n0 ≤ aa) :
  MetFree l (⟨"java/util/Arrays", "fill", "([II)V"⟩ : MethodName) (head1 (Jvm.Cond.code (⟨"java/util/Arrays", "fill", "([II)V"⟩ : MethodName) jdk_65_method_103_code 4 none :: ws) ({ frames := 0, cells := 0, slots := 0, locals := 0 } : Room)) (fun av_ U => av_ = #[(.ref aa), (.int (-1 : Int32))] ∧ Z.Warmed39 U.vm ∧ U.heap = h0) (fun _ _ _ _ _ => True) (fun _ U o U' => ∃ v L, o = .returned v ∧ QFL Z aa nl k_aa h0 n0 v U'.heap L ∧ FrameEnd U o U' L ({ frames := 0, cells := 0, slots := 0, locals := 0 } : Room).cells ({ frames := 0, cells := 0, slots := 0, locals := 0 } : Room).slots) := by
 refine MetFree.of_bodySF (plainFor_of_name own_pn2) hisR ?_
 intro p e s m args below meth c s₁ Bd hml0 hP hK
 obtain ⟨rfl, hZ, hh⟩ := hP
 have hx := Bd.exec
 have hby := Bd.bytes
 have hml : c.maxLocals = 4 := hml0
 have hown : s.vm.findClass "java/util/Arrays" = some m.cls := findClass_of_methodNamed Bd.named
 have hnm := (name_of_methodNamed Bd.named Bd.method).1
 have X0 : Stand p l e ({ frames := 0, cells := 0, slots := 0, locals := 0 } : Room) s m #[(.ref aa), (.int (-1 : Int32))] below meth c s₁ [] 0 0 := Stand.of_body Bd
 have e0 : s₁.heap = h0 := by rw [← hh, Bd.state]; rfl
 have N0 := Fr.nil n0
 have hlk : meth.locks = false := Bd.notSynchronized
 have pre0 : ∀ t, Steps p.tables e below (s₁.setTop (mkF m 0 #[.val (.ref aa), .val (.int (-1 : Int32)), .unset, .unset] [])) t → Steps p.tables e below (s₁.setTop (entryFrame m #[(.ref aa), (.int (-1 : Int32))] 4)) t := fun t k => castTop (efFL m aa) k
 obtain ⟨cl1, Ar1, q1, S1, M1, Hs1, G1⟩ := (id V_aa)
 have r2 : ∀ t, Steps p.tables e below (s₁.setTop (mkF m 7 #[.val (.ref aa), .val (.int (-1 : Int32)), .val (.int (0 : Int32)), .val (.int nl)] [(.int nl), (.int (0 : Int32))])) t → Steps p.tables e below (s₁.setTop (mkF m 0 #[.val (.ref aa), .val (.int (-1 : Int32)), .unset, .unset] [])) t := fun t kt => by
  refine XS.iconst X0.here hx rfl (hb hby d10_0) ?_
  refine XS.istoreN X0.here hx rfl (hb hby d10_1) rfl (l' := #[.val (.ref aa), .val (.int (-1 : Int32)), .val (.int (0 : Int32)), .unset]) rfl ?_
  refine XS.aloadN X0.here hx rfl (hb hby d10_2) rfl rfl ?_
  refine X0.arraylength hx (by rw [e0]; exact Ar1.1) (State.isArrayOf_alike hZ.alike Ar1.2.1) (g := (mkF m 3 #[.val (.ref aa), .val (.int (-1 : Int32)), .val (.int (0 : Int32)), .unset] [(.ref aa)])) rfl rfl (hb hby d10_3) _ ?_
  rw [len_of S1 M1]
  refine XS.istoreN X0.here hx rfl (hb hby d10_4) rfl (l' := #[.val (.ref aa), .val (.int (-1 : Int32)), .val (.int (0 : Int32)), .val (.int nl)]) rfl ?_
  refine XS.iloadN X0.here hx rfl (hb hby d10_5) rfl ?_
  refine XS.iloadN X0.here hx rfl (hb hby d10_6) rfl ?_
  exact kt
 by_cases hc3 : (0 : Int32) < nl
 ·obtain ⟨cl4, Ar4, q4, S4, M4, Hs4, G4⟩ := (id V_aa)
  have hin4 : ¬ ((0 : Int32) < 0 ∨ cl4.slots.size ≤ ((0 : Int32)).toNatClampNeg) := inb_of S4 ⟨by decide, hc3⟩
  obtain ⟨T5, h5, X5, e5, W5, st5⟩ := stI X0 hx hZ e0 Ar4 (j := (0 : Int32)) hin4 (g := (mkF m 13 #[.val (.ref aa), .val (.int (-1 : Int32)), .val (.int (0 : Int32)), .val (.int nl)] [(.int (-1 : Int32)), (.int (0 : Int32)), (.ref aa)])) rfl rfl (hb hby d10_13)
  have V5 : Arv Z h5 aa k_aa .int nl [(.int (-1 : Int32)), (.int (0 : Int32)), (.int (0 : Int32)), (.int (0 : Int32)), (.int (0 : Int32)), (.int (0 : Int32)), (.int (0 : Int32)), (.int (0 : Int32))] (.int (0 : Int32)) := Arv.set Ar4 q4 S4 M4 Hs4 G4 rfl W5 0 rfl (Nat.le_of_ble_eq_true rfl)
  have K5 : Keep h0 h5 [aa] := (Keep.refl h0 [aa]).wr W5 (Or.inl (List.mem_of_getElem? (i := 0) rfl))
  have Zs5 : n0 ≤ h5.size := Nat.le_trans Z0 (Keep.of_wr W5).1
  have N5 := Fr.snoc X5 N0 g_aa
  have r6 : ∀ t, Steps p.tables e below (T5.setTop (mkF m 7 #[.val (.ref aa), .val (.int (-1 : Int32)), .val (.int (1 : Int32)), .val (.int nl)] [(.int nl), (.int (1 : Int32))])) t → Steps p.tables e below (s₁.setTop (mkF m 7 #[.val (.ref aa), .val (.int (-1 : Int32)), .val (.int (0 : Int32)), .val (.int nl)] [(.int nl), (.int (0 : Int32))])) t := fun t kt => by
   refine XS.icmpNo X0.here hx rfl (hb hby d10_7) rfl (tlt hc3).2.1 ?_
   refine XS.aloadN X0.here hx rfl (hb hby d10_10) rfl rfl ?_
   refine XS.iloadN X0.here hx rfl (hb hby d10_11) rfl ?_
   refine XS.iloadN X0.here hx rfl (hb hby d10_12) rfl ?_
   refine st5 _ ?_
   refine XS.iinc X5.here hx rfl (hb hby d10_14) rfl (l' := #[.val (.ref aa), .val (.int (-1 : Int32)), .val (.int (1 : Int32)), .val (.int nl)]) rfl ?_
   refine XS.goto X5.here hx rfl (pc0 := 17) (pc' := 5) rfl (hb hby d10_17) (by decide) (by decide) ?_
   refine XS.iloadN X5.here hx rfl (hb hby d10_5) rfl ?_
   refine XS.iloadN X5.here hx rfl (hb hby d10_6) rfl ?_
   exact kt
  by_cases hc7 : (1 : Int32) < nl
  ·obtain ⟨cl8, Ar8, q8, S8, M8, Hs8, G8⟩ := (id V5)
   have hin8 : ¬ ((1 : Int32) < 0 ∨ cl8.slots.size ≤ ((1 : Int32)).toNatClampNeg) := inb_of S8 ⟨by decide, hc7⟩
   obtain ⟨T9, h9, X9, e9, W9, st9⟩ := stI X5 hx hZ e5 Ar8 (j := (1 : Int32)) hin8 (g := (mkF m 13 #[.val (.ref aa), .val (.int (-1 : Int32)), .val (.int (1 : Int32)), .val (.int nl)] [(.int (-1 : Int32)), (.int (1 : Int32)), (.ref aa)])) rfl rfl (hb hby d10_13)
   have V9 : Arv Z h9 aa k_aa .int nl [(.int (-1 : Int32)), (.int (-1 : Int32)), (.int (0 : Int32)), (.int (0 : Int32)), (.int (0 : Int32)), (.int (0 : Int32)), (.int (0 : Int32)), (.int (0 : Int32))] (.int (0 : Int32)) := Arv.set Ar8 q8 S8 M8 Hs8 G8 rfl W9 1 rfl (Nat.le_of_ble_eq_true rfl)
   have K9 : Keep h0 h9 [aa] := K5.wr W9 (Or.inl (List.mem_of_getElem? (i := 0) rfl))
   have Zs9 : n0 ≤ h9.size := Nat.le_trans Zs5 (Keep.of_wr W9).1
   have N9 := Fr.snoc X9 N5 g_aa
   have r10 : ∀ t, Steps p.tables e below (T9.setTop (mkF m 7 #[.val (.ref aa), .val (.int (-1 : Int32)), .val (.int (2 : Int32)), .val (.int nl)] [(.int nl), (.int (2 : Int32))])) t → Steps p.tables e below (T5.setTop (mkF m 7 #[.val (.ref aa), .val (.int (-1 : Int32)), .val (.int (1 : Int32)), .val (.int nl)] [(.int nl), (.int (1 : Int32))])) t := fun t kt => by
    refine XS.icmpNo X5.here hx rfl (hb hby d10_7) rfl (tlt hc7).2.1 ?_
    refine XS.aloadN X5.here hx rfl (hb hby d10_10) rfl rfl ?_
    refine XS.iloadN X5.here hx rfl (hb hby d10_11) rfl ?_
    refine XS.iloadN X5.here hx rfl (hb hby d10_12) rfl ?_
    refine st9 _ ?_
    refine XS.iinc X9.here hx rfl (hb hby d10_14) rfl (l' := #[.val (.ref aa), .val (.int (-1 : Int32)), .val (.int (2 : Int32)), .val (.int nl)]) rfl ?_
    refine XS.goto X9.here hx rfl (pc0 := 17) (pc' := 5) rfl (hb hby d10_17) (by decide) (by decide) ?_
    refine XS.iloadN X9.here hx rfl (hb hby d10_5) rfl ?_
    refine XS.iloadN X9.here hx rfl (hb hby d10_6) rfl ?_
    exact kt
   by_cases hc11 : (2 : Int32) < nl
   ·obtain ⟨cl12, Ar12, q12, S12, M12, Hs12, G12⟩ := (id V9)
    have hin12 : ¬ ((2 : Int32) < 0 ∨ cl12.slots.size ≤ ((2 : Int32)).toNatClampNeg) := inb_of S12 ⟨by decide, hc11⟩
    obtain ⟨T13, h13, X13, e13, W13, st13⟩ := stI X9 hx hZ e9 Ar12 (j := (2 : Int32)) hin12 (g := (mkF m 13 #[.val (.ref aa), .val (.int (-1 : Int32)), .val (.int (2 : Int32)), .val (.int nl)] [(.int (-1 : Int32)), (.int (2 : Int32)), (.ref aa)])) rfl rfl (hb hby d10_13)
    have V13 : Arv Z h13 aa k_aa .int nl [(.int (-1 : Int32)), (.int (-1 : Int32)), (.int (-1 : Int32)), (.int (0 : Int32)), (.int (0 : Int32)), (.int (0 : Int32)), (.int (0 : Int32)), (.int (0 : Int32))] (.int (0 : Int32)) := Arv.set Ar12 q12 S12 M12 Hs12 G12 rfl W13 2 rfl (Nat.le_of_ble_eq_true rfl)
    have K13 : Keep h0 h13 [aa] := K9.wr W13 (Or.inl (List.mem_of_getElem? (i := 0) rfl))
    have Zs13 : n0 ≤ h13.size := Nat.le_trans Zs9 (Keep.of_wr W13).1
    have N13 := Fr.snoc X13 N9 g_aa
    have r14 : ∀ t, Steps p.tables e below (T13.setTop (mkF m 7 #[.val (.ref aa), .val (.int (-1 : Int32)), .val (.int (3 : Int32)), .val (.int nl)] [(.int nl), (.int (3 : Int32))])) t → Steps p.tables e below (T9.setTop (mkF m 7 #[.val (.ref aa), .val (.int (-1 : Int32)), .val (.int (2 : Int32)), .val (.int nl)] [(.int nl), (.int (2 : Int32))])) t := fun t kt => by
     refine XS.icmpNo X9.here hx rfl (hb hby d10_7) rfl (tlt hc11).2.1 ?_
     refine XS.aloadN X9.here hx rfl (hb hby d10_10) rfl rfl ?_
     refine XS.iloadN X9.here hx rfl (hb hby d10_11) rfl ?_
     refine XS.iloadN X9.here hx rfl (hb hby d10_12) rfl ?_
     refine st13 _ ?_
     refine XS.iinc X13.here hx rfl (hb hby d10_14) rfl (l' := #[.val (.ref aa), .val (.int (-1 : Int32)), .val (.int (3 : Int32)), .val (.int nl)]) rfl ?_
     refine XS.goto X13.here hx rfl (pc0 := 17) (pc' := 5) rfl (hb hby d10_17) (by decide) (by decide) ?_
     refine XS.iloadN X13.here hx rfl (hb hby d10_5) rfl ?_
     refine XS.iloadN X13.here hx rfl (hb hby d10_6) rfl ?_
     exact kt
    by_cases hc15 : (3 : Int32) < nl
    ·obtain ⟨cl16, Ar16, q16, S16, M16, Hs16, G16⟩ := (id V13)
     have hin16 : ¬ ((3 : Int32) < 0 ∨ cl16.slots.size ≤ ((3 : Int32)).toNatClampNeg) := inb_of S16 ⟨by decide, hc15⟩
     obtain ⟨T17, h17, X17, e17, W17, st17⟩ := stI X13 hx hZ e13 Ar16 (j := (3 : Int32)) hin16 (g := (mkF m 13 #[.val (.ref aa), .val (.int (-1 : Int32)), .val (.int (3 : Int32)), .val (.int nl)] [(.int (-1 : Int32)), (.int (3 : Int32)), (.ref aa)])) rfl rfl (hb hby d10_13)
     have V17 : Arv Z h17 aa k_aa .int nl [(.int (-1 : Int32)), (.int (-1 : Int32)), (.int (-1 : Int32)), (.int (-1 : Int32)), (.int (0 : Int32)), (.int (0 : Int32)), (.int (0 : Int32)), (.int (0 : Int32))] (.int (0 : Int32)) := Arv.set Ar16 q16 S16 M16 Hs16 G16 rfl W17 3 rfl (Nat.le_of_ble_eq_true rfl)
     have K17 : Keep h0 h17 [aa] := K13.wr W17 (Or.inl (List.mem_of_getElem? (i := 0) rfl))
     have Zs17 : n0 ≤ h17.size := Nat.le_trans Zs13 (Keep.of_wr W17).1
     have N17 := Fr.snoc X17 N13 g_aa
     have r18 : ∀ t, Steps p.tables e below (T17.setTop (mkF m 7 #[.val (.ref aa), .val (.int (-1 : Int32)), .val (.int (4 : Int32)), .val (.int nl)] [(.int nl), (.int (4 : Int32))])) t → Steps p.tables e below (T13.setTop (mkF m 7 #[.val (.ref aa), .val (.int (-1 : Int32)), .val (.int (3 : Int32)), .val (.int nl)] [(.int nl), (.int (3 : Int32))])) t := fun t kt => by
      refine XS.icmpNo X13.here hx rfl (hb hby d10_7) rfl (tlt hc15).2.1 ?_
      refine XS.aloadN X13.here hx rfl (hb hby d10_10) rfl rfl ?_
      refine XS.iloadN X13.here hx rfl (hb hby d10_11) rfl ?_
      refine XS.iloadN X13.here hx rfl (hb hby d10_12) rfl ?_
      refine st17 _ ?_
      refine XS.iinc X17.here hx rfl (hb hby d10_14) rfl (l' := #[.val (.ref aa), .val (.int (-1 : Int32)), .val (.int (4 : Int32)), .val (.int nl)]) rfl ?_
      refine XS.goto X17.here hx rfl (pc0 := 17) (pc' := 5) rfl (hb hby d10_17) (by decide) (by decide) ?_
      refine XS.iloadN X17.here hx rfl (hb hby d10_5) rfl ?_
      refine XS.iloadN X17.here hx rfl (hb hby d10_6) rfl ?_
      exact kt
     by_cases hc19 : (4 : Int32) < nl
     ·obtain ⟨cl20, Ar20, q20, S20, M20, Hs20, G20⟩ := (id V17)
      have hin20 : ¬ ((4 : Int32) < 0 ∨ cl20.slots.size ≤ ((4 : Int32)).toNatClampNeg) := inb_of S20 ⟨by decide, hc19⟩
      obtain ⟨T21, h21, X21, e21, W21, st21⟩ := stI X17 hx hZ e17 Ar20 (j := (4 : Int32)) hin20 (g := (mkF m 13 #[.val (.ref aa), .val (.int (-1 : Int32)), .val (.int (4 : Int32)), .val (.int nl)] [(.int (-1 : Int32)), (.int (4 : Int32)), (.ref aa)])) rfl rfl (hb hby d10_13)
      have V21 : Arv Z h21 aa k_aa .int nl [(.int (-1 : Int32)), (.int (-1 : Int32)), (.int (-1 : Int32)), (.int (-1 : Int32)), (.int (-1 : Int32)), (.int (0 : Int32)), (.int (0 : Int32)), (.int (0 : Int32))] (.int (0 : Int32)) := Arv.set Ar20 q20 S20 M20 Hs20 G20 rfl W21 4 rfl (Nat.le_of_ble_eq_true rfl)
      have K21 : Keep h0 h21 [aa] := K17.wr W21 (Or.inl (List.mem_of_getElem? (i := 0) rfl))
      have Zs21 : n0 ≤ h21.size := Nat.le_trans Zs17 (Keep.of_wr W21).1
      have N21 := Fr.snoc X21 N17 g_aa
      have r22 : ∀ t, Steps p.tables e below (T21.setTop (mkF m 7 #[.val (.ref aa), .val (.int (-1 : Int32)), .val (.int (5 : Int32)), .val (.int nl)] [(.int nl), (.int (5 : Int32))])) t → Steps p.tables e below (T17.setTop (mkF m 7 #[.val (.ref aa), .val (.int (-1 : Int32)), .val (.int (4 : Int32)), .val (.int nl)] [(.int nl), (.int (4 : Int32))])) t := fun t kt => by
       refine XS.icmpNo X17.here hx rfl (hb hby d10_7) rfl (tlt hc19).2.1 ?_
       refine XS.aloadN X17.here hx rfl (hb hby d10_10) rfl rfl ?_
       refine XS.iloadN X17.here hx rfl (hb hby d10_11) rfl ?_
       refine XS.iloadN X17.here hx rfl (hb hby d10_12) rfl ?_
       refine st21 _ ?_
       refine XS.iinc X21.here hx rfl (hb hby d10_14) rfl (l' := #[.val (.ref aa), .val (.int (-1 : Int32)), .val (.int (5 : Int32)), .val (.int nl)]) rfl ?_
       refine XS.goto X21.here hx rfl (pc0 := 17) (pc' := 5) rfl (hb hby d10_17) (by decide) (by decide) ?_
       refine XS.iloadN X21.here hx rfl (hb hby d10_5) rfl ?_
       refine XS.iloadN X21.here hx rfl (hb hby d10_6) rfl ?_
       exact kt
      by_cases hc23 : (5 : Int32) < nl
      ·obtain ⟨cl24, Ar24, q24, S24, M24, Hs24, G24⟩ := (id V21)
       have hin24 : ¬ ((5 : Int32) < 0 ∨ cl24.slots.size ≤ ((5 : Int32)).toNatClampNeg) := inb_of S24 ⟨by decide, hc23⟩
       obtain ⟨T25, h25, X25, e25, W25, st25⟩ := stI X21 hx hZ e21 Ar24 (j := (5 : Int32)) hin24 (g := (mkF m 13 #[.val (.ref aa), .val (.int (-1 : Int32)), .val (.int (5 : Int32)), .val (.int nl)] [(.int (-1 : Int32)), (.int (5 : Int32)), (.ref aa)])) rfl rfl (hb hby d10_13)
       have V25 : Arv Z h25 aa k_aa .int nl [(.int (-1 : Int32)), (.int (-1 : Int32)), (.int (-1 : Int32)), (.int (-1 : Int32)), (.int (-1 : Int32)), (.int (-1 : Int32)), (.int (0 : Int32)), (.int (0 : Int32))] (.int (0 : Int32)) := Arv.set Ar24 q24 S24 M24 Hs24 G24 rfl W25 5 rfl (Nat.le_of_ble_eq_true rfl)
       have K25 : Keep h0 h25 [aa] := K21.wr W25 (Or.inl (List.mem_of_getElem? (i := 0) rfl))
       have Zs25 : n0 ≤ h25.size := Nat.le_trans Zs21 (Keep.of_wr W25).1
       have N25 := Fr.snoc X25 N21 g_aa
       have r26 : ∀ t, Steps p.tables e below (T25.setTop (mkF m 7 #[.val (.ref aa), .val (.int (-1 : Int32)), .val (.int (6 : Int32)), .val (.int nl)] [(.int nl), (.int (6 : Int32))])) t → Steps p.tables e below (T21.setTop (mkF m 7 #[.val (.ref aa), .val (.int (-1 : Int32)), .val (.int (5 : Int32)), .val (.int nl)] [(.int nl), (.int (5 : Int32))])) t := fun t kt => by
        refine XS.icmpNo X21.here hx rfl (hb hby d10_7) rfl (tlt hc23).2.1 ?_
        refine XS.aloadN X21.here hx rfl (hb hby d10_10) rfl rfl ?_
        refine XS.iloadN X21.here hx rfl (hb hby d10_11) rfl ?_
        refine XS.iloadN X21.here hx rfl (hb hby d10_12) rfl ?_
        refine st25 _ ?_
        refine XS.iinc X25.here hx rfl (hb hby d10_14) rfl (l' := #[.val (.ref aa), .val (.int (-1 : Int32)), .val (.int (6 : Int32)), .val (.int nl)]) rfl ?_
        refine XS.goto X25.here hx rfl (pc0 := 17) (pc' := 5) rfl (hb hby d10_17) (by decide) (by decide) ?_
        refine XS.iloadN X25.here hx rfl (hb hby d10_5) rfl ?_
        refine XS.iloadN X25.here hx rfl (hb hby d10_6) rfl ?_
        exact kt
       by_cases hc27 : (6 : Int32) < nl
       ·obtain ⟨cl28, Ar28, q28, S28, M28, Hs28, G28⟩ := (id V25)
        have hin28 : ¬ ((6 : Int32) < 0 ∨ cl28.slots.size ≤ ((6 : Int32)).toNatClampNeg) := inb_of S28 ⟨by decide, hc27⟩
        obtain ⟨T29, h29, X29, e29, W29, st29⟩ := stI X25 hx hZ e25 Ar28 (j := (6 : Int32)) hin28 (g := (mkF m 13 #[.val (.ref aa), .val (.int (-1 : Int32)), .val (.int (6 : Int32)), .val (.int nl)] [(.int (-1 : Int32)), (.int (6 : Int32)), (.ref aa)])) rfl rfl (hb hby d10_13)
        have V29 : Arv Z h29 aa k_aa .int nl [(.int (-1 : Int32)), (.int (-1 : Int32)), (.int (-1 : Int32)), (.int (-1 : Int32)), (.int (-1 : Int32)), (.int (-1 : Int32)), (.int (-1 : Int32)), (.int (0 : Int32))] (.int (0 : Int32)) := Arv.set Ar28 q28 S28 M28 Hs28 G28 rfl W29 6 rfl (Nat.le_of_ble_eq_true rfl)
        have K29 : Keep h0 h29 [aa] := K25.wr W29 (Or.inl (List.mem_of_getElem? (i := 0) rfl))
        have Zs29 : n0 ≤ h29.size := Nat.le_trans Zs25 (Keep.of_wr W29).1
        have N29 := Fr.snoc X29 N25 g_aa
        have r30 : ∀ t, Steps p.tables e below (T29.setTop (mkF m 7 #[.val (.ref aa), .val (.int (-1 : Int32)), .val (.int (7 : Int32)), .val (.int nl)] [(.int nl), (.int (7 : Int32))])) t → Steps p.tables e below (T25.setTop (mkF m 7 #[.val (.ref aa), .val (.int (-1 : Int32)), .val (.int (6 : Int32)), .val (.int nl)] [(.int nl), (.int (6 : Int32))])) t := fun t kt => by
         refine XS.icmpNo X25.here hx rfl (hb hby d10_7) rfl (tlt hc27).2.1 ?_
         refine XS.aloadN X25.here hx rfl (hb hby d10_10) rfl rfl ?_
         refine XS.iloadN X25.here hx rfl (hb hby d10_11) rfl ?_
         refine XS.iloadN X25.here hx rfl (hb hby d10_12) rfl ?_
         refine st29 _ ?_
         refine XS.iinc X29.here hx rfl (hb hby d10_14) rfl (l' := #[.val (.ref aa), .val (.int (-1 : Int32)), .val (.int (7 : Int32)), .val (.int nl)]) rfl ?_
         refine XS.goto X29.here hx rfl (pc0 := 17) (pc' := 5) rfl (hb hby d10_17) (by decide) (by decide) ?_
         refine XS.iloadN X29.here hx rfl (hb hby d10_5) rfl ?_
         refine XS.iloadN X29.here hx rfl (hb hby d10_6) rfl ?_
         exact kt
        by_cases hc31 : (7 : Int32) < nl
        ·obtain ⟨cl32, Ar32, q32, S32, M32, Hs32, G32⟩ := (id V29)
         have hin32 : ¬ ((7 : Int32) < 0 ∨ cl32.slots.size ≤ ((7 : Int32)).toNatClampNeg) := inb_of S32 ⟨by decide, hc31⟩
         obtain ⟨T33, h33, X33, e33, W33, st33⟩ := stI X29 hx hZ e29 Ar32 (j := (7 : Int32)) hin32 (g := (mkF m 13 #[.val (.ref aa), .val (.int (-1 : Int32)), .val (.int (7 : Int32)), .val (.int nl)] [(.int (-1 : Int32)), (.int (7 : Int32)), (.ref aa)])) rfl rfl (hb hby d10_13)
         have V33 : Arv Z h33 aa k_aa .int nl [(.int (-1 : Int32)), (.int (-1 : Int32)), (.int (-1 : Int32)), (.int (-1 : Int32)), (.int (-1 : Int32)), (.int (-1 : Int32)), (.int (-1 : Int32)), (.int (-1 : Int32))] (.int (0 : Int32)) := Arv.set Ar32 q32 S32 M32 Hs32 G32 rfl W33 7 rfl (Nat.le_of_ble_eq_true rfl)
         have K33 : Keep h0 h33 [aa] := K29.wr W33 (Or.inl (List.mem_of_getElem? (i := 0) rfl))
         have Zs33 : n0 ≤ h33.size := Nat.le_trans Zs29 (Keep.of_wr W33).1
         have N33 := Fr.snoc X33 N29 g_aa
         have Vq : Arv Z h33 aa k_aa .int nl [(.int (-1 : Int32)), (.int (-1 : Int32)), (.int (-1 : Int32)), (.int (-1 : Int32)), (.int (-1 : Int32)), (.int (-1 : Int32)), (.int (-1 : Int32)), (.int (-1 : Int32))] (.int (0 : Int32)) := V33
         obtain ⟨fs, hr, hrun, hended, hW, hsame⟩ := X33.leave (v := none) (fun _ => rfl) hlk
         refine ⟨_, _, (pre0 _ (r2 _ (r6 _ (r10 _ (r14 _ (r18 _ (r22 _ (r26 _ (r30 _ ?_))))))))), hrun, hended, _, _, rfl, ?_, ⟨_, rfl⟩, hW, hsame.mono (by decide) (by decide)⟩
         ·show Steps p.tables e below (T29.setTop (mkF m 7 #[.val (.ref aa), .val (.int (-1 : Int32)), .val (.int (7 : Int32)), .val (.int nl)] [(.int nl), (.int (7 : Int32))])) _
          refine XS.icmpNo X29.here hx rfl (hb hby d10_7) rfl (tlt hc31).2.1 ?_
          refine XS.aloadN X29.here hx rfl (hb hby d10_10) rfl rfl ?_
          refine XS.iloadN X29.here hx rfl (hb hby d10_11) rfl ?_
          refine XS.iloadN X29.here hx rfl (hb hby d10_12) rfl ?_
          refine st33 _ ?_
          refine XS.iinc X33.here hx rfl (hb hby d10_14) rfl (l' := #[.val (.ref aa), .val (.int (-1 : Int32)), .val (.int (8 : Int32)), .val (.int nl)]) rfl ?_
          refine XS.goto X33.here hx rfl (pc0 := 17) (pc' := 5) rfl (hb hby d10_17) (by decide) (by decide) ?_
          refine XS.iloadN X33.here hx rfl (hb hby d10_5) rfl ?_
          refine XS.iloadN X33.here hx rfl (hb hby d10_6) rfl ?_
          refine XS.icmpYes X33.here hx rfl (pc0 := 7) (pc' := 20) rfl (hb hby d10_7) rfl (flt hn).2.1 (by decide) (by decide) ?_
          exact X33.returnOut hx Bd.returns (hb hby d10_20) hr
         ·show QFL Z aa nl k_aa h0 n0 _ T33.heap _
          rw [e33]
          exact ⟨rfl, N33, K33, Vq⟩
        ·have Vq : Arv Z h29 aa k_aa .int nl [(.int (-1 : Int32)), (.int (-1 : Int32)), (.int (-1 : Int32)), (.int (-1 : Int32)), (.int (-1 : Int32)), (.int (-1 : Int32)), (.int (-1 : Int32)), (.int (0 : Int32))] (.int (0 : Int32)) := V29
         have Vt : Arv Z h29 aa k_aa .int nl [(.int (-1 : Int32)), (.int (-1 : Int32)), (.int (-1 : Int32)), (.int (-1 : Int32)), (.int (-1 : Int32)), (.int (-1 : Int32)), (.int (-1 : Int32)), (.int (-1 : Int32))] (.int (0 : Int32)) := (own_irr Vq (fun i hi => by have q : i < 7 := Nat.lt_of_lt_of_le hi (own_short hc31 (by decide)); match i, q with | 0, _ => rfl | 1, _ => rfl | 2, _ => rfl | 3, _ => rfl | 4, _ => rfl | 5, _ => rfl | 6, _ => rfl))
         obtain ⟨fs, hr, hrun, hended, hW, hsame⟩ := X29.leave (v := none) (fun _ => rfl) hlk
         refine ⟨_, _, (pre0 _ (r2 _ (r6 _ (r10 _ (r14 _ (r18 _ (r22 _ (r26 _ (r30 _ ?_))))))))), hrun, hended, _, _, rfl, ?_, ⟨_, rfl⟩, hW, hsame.mono (by decide) (by decide)⟩
         ·show Steps p.tables e below (T29.setTop (mkF m 7 #[.val (.ref aa), .val (.int (-1 : Int32)), .val (.int (7 : Int32)), .val (.int nl)] [(.int nl), (.int (7 : Int32))])) _
          refine XS.icmpYes X29.here hx rfl (pc0 := 7) (pc' := 20) rfl (hb hby d10_7) rfl (flt hc31).2.1 (by decide) (by decide) ?_
          exact X29.returnOut hx Bd.returns (hb hby d10_20) hr
         ·show QFL Z aa nl k_aa h0 n0 _ T29.heap _
          rw [e29]
          exact ⟨rfl, N29, K29, Vt⟩
       ·have Vq : Arv Z h25 aa k_aa .int nl [(.int (-1 : Int32)), (.int (-1 : Int32)), (.int (-1 : Int32)), (.int (-1 : Int32)), (.int (-1 : Int32)), (.int (-1 : Int32)), (.int (0 : Int32)), (.int (0 : Int32))] (.int (0 : Int32)) := V25
        have Vt : Arv Z h25 aa k_aa .int nl [(.int (-1 : Int32)), (.int (-1 : Int32)), (.int (-1 : Int32)), (.int (-1 : Int32)), (.int (-1 : Int32)), (.int (-1 : Int32)), (.int (-1 : Int32)), (.int (-1 : Int32))] (.int (0 : Int32)) := (own_irr Vq (fun i hi => by have q : i < 6 := Nat.lt_of_lt_of_le hi (own_short hc27 (by decide)); match i, q with | 0, _ => rfl | 1, _ => rfl | 2, _ => rfl | 3, _ => rfl | 4, _ => rfl | 5, _ => rfl))
        obtain ⟨fs, hr, hrun, hended, hW, hsame⟩ := X25.leave (v := none) (fun _ => rfl) hlk
        refine ⟨_, _, (pre0 _ (r2 _ (r6 _ (r10 _ (r14 _ (r18 _ (r22 _ (r26 _ ?_)))))))), hrun, hended, _, _, rfl, ?_, ⟨_, rfl⟩, hW, hsame.mono (by decide) (by decide)⟩
        ·show Steps p.tables e below (T25.setTop (mkF m 7 #[.val (.ref aa), .val (.int (-1 : Int32)), .val (.int (6 : Int32)), .val (.int nl)] [(.int nl), (.int (6 : Int32))])) _
         refine XS.icmpYes X25.here hx rfl (pc0 := 7) (pc' := 20) rfl (hb hby d10_7) rfl (flt hc27).2.1 (by decide) (by decide) ?_
         exact X25.returnOut hx Bd.returns (hb hby d10_20) hr
        ·show QFL Z aa nl k_aa h0 n0 _ T25.heap _
         rw [e25]
         exact ⟨rfl, N25, K25, Vt⟩
      ·have Vq : Arv Z h21 aa k_aa .int nl [(.int (-1 : Int32)), (.int (-1 : Int32)), (.int (-1 : Int32)), (.int (-1 : Int32)), (.int (-1 : Int32)), (.int (0 : Int32)), (.int (0 : Int32)), (.int (0 : Int32))] (.int (0 : Int32)) := V21
       have Vt : Arv Z h21 aa k_aa .int nl [(.int (-1 : Int32)), (.int (-1 : Int32)), (.int (-1 : Int32)), (.int (-1 : Int32)), (.int (-1 : Int32)), (.int (-1 : Int32)), (.int (-1 : Int32)), (.int (-1 : Int32))] (.int (0 : Int32)) := (own_irr Vq (fun i hi => by have q : i < 5 := Nat.lt_of_lt_of_le hi (own_short hc23 (by decide)); match i, q with | 0, _ => rfl | 1, _ => rfl | 2, _ => rfl | 3, _ => rfl | 4, _ => rfl))
       obtain ⟨fs, hr, hrun, hended, hW, hsame⟩ := X21.leave (v := none) (fun _ => rfl) hlk
       refine ⟨_, _, (pre0 _ (r2 _ (r6 _ (r10 _ (r14 _ (r18 _ (r22 _ ?_))))))), hrun, hended, _, _, rfl, ?_, ⟨_, rfl⟩, hW, hsame.mono (by decide) (by decide)⟩
       ·show Steps p.tables e below (T21.setTop (mkF m 7 #[.val (.ref aa), .val (.int (-1 : Int32)), .val (.int (5 : Int32)), .val (.int nl)] [(.int nl), (.int (5 : Int32))])) _
        refine XS.icmpYes X21.here hx rfl (pc0 := 7) (pc' := 20) rfl (hb hby d10_7) rfl (flt hc23).2.1 (by decide) (by decide) ?_
        exact X21.returnOut hx Bd.returns (hb hby d10_20) hr
       ·show QFL Z aa nl k_aa h0 n0 _ T21.heap _
        rw [e21]
        exact ⟨rfl, N21, K21, Vt⟩
     ·have Vq : Arv Z h17 aa k_aa .int nl [(.int (-1 : Int32)), (.int (-1 : Int32)), (.int (-1 : Int32)), (.int (-1 : Int32)), (.int (0 : Int32)), (.int (0 : Int32)), (.int (0 : Int32)), (.int (0 : Int32))] (.int (0 : Int32)) := V17
      have Vt : Arv Z h17 aa k_aa .int nl [(.int (-1 : Int32)), (.int (-1 : Int32)), (.int (-1 : Int32)), (.int (-1 : Int32)), (.int (-1 : Int32)), (.int (-1 : Int32)), (.int (-1 : Int32)), (.int (-1 : Int32))] (.int (0 : Int32)) := (own_irr Vq (fun i hi => by have q : i < 4 := Nat.lt_of_lt_of_le hi (own_short hc19 (by decide)); match i, q with | 0, _ => rfl | 1, _ => rfl | 2, _ => rfl | 3, _ => rfl))
      obtain ⟨fs, hr, hrun, hended, hW, hsame⟩ := X17.leave (v := none) (fun _ => rfl) hlk
      refine ⟨_, _, (pre0 _ (r2 _ (r6 _ (r10 _ (r14 _ (r18 _ ?_)))))), hrun, hended, _, _, rfl, ?_, ⟨_, rfl⟩, hW, hsame.mono (by decide) (by decide)⟩
      ·show Steps p.tables e below (T17.setTop (mkF m 7 #[.val (.ref aa), .val (.int (-1 : Int32)), .val (.int (4 : Int32)), .val (.int nl)] [(.int nl), (.int (4 : Int32))])) _
       refine XS.icmpYes X17.here hx rfl (pc0 := 7) (pc' := 20) rfl (hb hby d10_7) rfl (flt hc19).2.1 (by decide) (by decide) ?_
       exact X17.returnOut hx Bd.returns (hb hby d10_20) hr
      ·show QFL Z aa nl k_aa h0 n0 _ T17.heap _
       rw [e17]
       exact ⟨rfl, N17, K17, Vt⟩
    ·have Vq : Arv Z h13 aa k_aa .int nl [(.int (-1 : Int32)), (.int (-1 : Int32)), (.int (-1 : Int32)), (.int (0 : Int32)), (.int (0 : Int32)), (.int (0 : Int32)), (.int (0 : Int32)), (.int (0 : Int32))] (.int (0 : Int32)) := V13
     have Vt : Arv Z h13 aa k_aa .int nl [(.int (-1 : Int32)), (.int (-1 : Int32)), (.int (-1 : Int32)), (.int (-1 : Int32)), (.int (-1 : Int32)), (.int (-1 : Int32)), (.int (-1 : Int32)), (.int (-1 : Int32))] (.int (0 : Int32)) := (own_irr Vq (fun i hi => by have q : i < 3 := Nat.lt_of_lt_of_le hi (own_short hc15 (by decide)); match i, q with | 0, _ => rfl | 1, _ => rfl | 2, _ => rfl))
     obtain ⟨fs, hr, hrun, hended, hW, hsame⟩ := X13.leave (v := none) (fun _ => rfl) hlk
     refine ⟨_, _, (pre0 _ (r2 _ (r6 _ (r10 _ (r14 _ ?_))))), hrun, hended, _, _, rfl, ?_, ⟨_, rfl⟩, hW, hsame.mono (by decide) (by decide)⟩
     ·show Steps p.tables e below (T13.setTop (mkF m 7 #[.val (.ref aa), .val (.int (-1 : Int32)), .val (.int (3 : Int32)), .val (.int nl)] [(.int nl), (.int (3 : Int32))])) _
      refine XS.icmpYes X13.here hx rfl (pc0 := 7) (pc' := 20) rfl (hb hby d10_7) rfl (flt hc15).2.1 (by decide) (by decide) ?_
      exact X13.returnOut hx Bd.returns (hb hby d10_20) hr
     ·show QFL Z aa nl k_aa h0 n0 _ T13.heap _
      rw [e13]
      exact ⟨rfl, N13, K13, Vt⟩
   ·have Vq : Arv Z h9 aa k_aa .int nl [(.int (-1 : Int32)), (.int (-1 : Int32)), (.int (0 : Int32)), (.int (0 : Int32)), (.int (0 : Int32)), (.int (0 : Int32)), (.int (0 : Int32)), (.int (0 : Int32))] (.int (0 : Int32)) := V9
    have Vt : Arv Z h9 aa k_aa .int nl [(.int (-1 : Int32)), (.int (-1 : Int32)), (.int (-1 : Int32)), (.int (-1 : Int32)), (.int (-1 : Int32)), (.int (-1 : Int32)), (.int (-1 : Int32)), (.int (-1 : Int32))] (.int (0 : Int32)) := (own_irr Vq (fun i hi => by have q : i < 2 := Nat.lt_of_lt_of_le hi (own_short hc11 (by decide)); match i, q with | 0, _ => rfl | 1, _ => rfl))
    obtain ⟨fs, hr, hrun, hended, hW, hsame⟩ := X9.leave (v := none) (fun _ => rfl) hlk
    refine ⟨_, _, (pre0 _ (r2 _ (r6 _ (r10 _ ?_)))), hrun, hended, _, _, rfl, ?_, ⟨_, rfl⟩, hW, hsame.mono (by decide) (by decide)⟩
    ·show Steps p.tables e below (T9.setTop (mkF m 7 #[.val (.ref aa), .val (.int (-1 : Int32)), .val (.int (2 : Int32)), .val (.int nl)] [(.int nl), (.int (2 : Int32))])) _
     refine XS.icmpYes X9.here hx rfl (pc0 := 7) (pc' := 20) rfl (hb hby d10_7) rfl (flt hc11).2.1 (by decide) (by decide) ?_
     exact X9.returnOut hx Bd.returns (hb hby d10_20) hr
    ·show QFL Z aa nl k_aa h0 n0 _ T9.heap _
     rw [e9]
     exact ⟨rfl, N9, K9, Vt⟩
  ·have Vq : Arv Z h5 aa k_aa .int nl [(.int (-1 : Int32)), (.int (0 : Int32)), (.int (0 : Int32)), (.int (0 : Int32)), (.int (0 : Int32)), (.int (0 : Int32)), (.int (0 : Int32)), (.int (0 : Int32))] (.int (0 : Int32)) := V5
   have Vt : Arv Z h5 aa k_aa .int nl [(.int (-1 : Int32)), (.int (-1 : Int32)), (.int (-1 : Int32)), (.int (-1 : Int32)), (.int (-1 : Int32)), (.int (-1 : Int32)), (.int (-1 : Int32)), (.int (-1 : Int32))] (.int (0 : Int32)) := (own_irr Vq (fun i hi => by have q : i < 1 := Nat.lt_of_lt_of_le hi (own_short hc7 (by decide)); match i, q with | 0, _ => rfl))
   obtain ⟨fs, hr, hrun, hended, hW, hsame⟩ := X5.leave (v := none) (fun _ => rfl) hlk
   refine ⟨_, _, (pre0 _ (r2 _ (r6 _ ?_))), hrun, hended, _, _, rfl, ?_, ⟨_, rfl⟩, hW, hsame.mono (by decide) (by decide)⟩
   ·show Steps p.tables e below (T5.setTop (mkF m 7 #[.val (.ref aa), .val (.int (-1 : Int32)), .val (.int (1 : Int32)), .val (.int nl)] [(.int nl), (.int (1 : Int32))])) _
    refine XS.icmpYes X5.here hx rfl (pc0 := 7) (pc' := 20) rfl (hb hby d10_7) rfl (flt hc7).2.1 (by decide) (by decide) ?_
    exact X5.returnOut hx Bd.returns (hb hby d10_20) hr
   ·show QFL Z aa nl k_aa h0 n0 _ T5.heap _
    rw [e5]
    exact ⟨rfl, N5, K5, Vt⟩
 ·have Vq : Arv Z h0 aa k_aa .int nl [(.int (0 : Int32)), (.int (0 : Int32)), (.int (0 : Int32)), (.int (0 : Int32)), (.int (0 : Int32)), (.int (0 : Int32)), (.int (0 : Int32)), (.int (0 : Int32))] (.int (0 : Int32)) := V_aa
  have Vt : Arv Z h0 aa k_aa .int nl [(.int (-1 : Int32)), (.int (-1 : Int32)), (.int (-1 : Int32)), (.int (-1 : Int32)), (.int (-1 : Int32)), (.int (-1 : Int32)), (.int (-1 : Int32)), (.int (-1 : Int32))] (.int (0 : Int32)) := (own_irr Vq (fun i hi => by have q : i < 0 := Nat.lt_of_lt_of_le hi (own_short hc3 (by decide)); exact absurd q (Nat.not_lt_zero _)))
  obtain ⟨fs, hr, hrun, hended, hW, hsame⟩ := X0.leave (v := none) (fun _ => rfl) hlk
  refine ⟨_, _, (pre0 _ (r2 _ ?_)), hrun, hended, _, _, rfl, ?_, ⟨_, rfl⟩, hW, hsame.mono (by decide) (by decide)⟩
  ·show Steps p.tables e below (s₁.setTop (mkF m 7 #[.val (.ref aa), .val (.int (-1 : Int32)), .val (.int (0 : Int32)), .val (.int nl)] [(.int nl), (.int (0 : Int32))])) _
   refine XS.icmpYes X0.here hx rfl (pc0 := 7) (pc' := 20) rfl (hb hby d10_7) rfl (flt hc3).2.1 (by decide) (by decide) ?_
   exact X0.returnOut hx Bd.returns (hb hby d10_20) hr
  ·show QFL Z aa nl k_aa h0 n0 _ s₁.heap _
   rw [e0]
   exact ⟨rfl, N0, (Keep.refl h0 [aa]), Vt⟩
theorem own_pd10 : parseMethodDescriptor "([II)V" = some ⟨[(.array .int), .int], none⟩ := by decide +kernel
theorem d7_0 : decode prog_2_method_1_code 0 = .ok (.aload_n 0, 1) := by decide +kernel
theorem d7_1 : decode prog_2_method_1_code 1 = .ok (.invokespecial 1, 3) := by decide +kernel
theorem d7_4 : decode prog_2_method_1_code 4 = .ok (.aload_n 0, 1) := by decide +kernel
theorem d7_5 : decode prog_2_method_1_code 5 = .ok (.iload_n 1, 1) := by decide +kernel
theorem d7_6 : decode prog_2_method_1_code 6 = .ok (.newarray .long, 2) := by decide +kernel
theorem d7_8 : decode prog_2_method_1_code 8 = .ok (.putfield 7, 3) := by decide +kernel
theorem d7_11 : decode prog_2_method_1_code 11 = .ok (.iconst 2, 1) := by decide +kernel
theorem d7_12 : decode prog_2_method_1_code 12 = .ok (.iload_n 1, 1) := by decide +kernel
theorem d7_13 : decode prog_2_method_1_code 13 = .ok (.imul, 1) := by decide +kernel
theorem d7_14 : decode prog_2_method_1_code 14 = .ok (.iconst 1, 1) := by decide +kernel
theorem d7_15 : decode prog_2_method_1_code 15 = .ok (.isub, 1) := by decide +kernel
theorem d7_16 : decode prog_2_method_1_code 16 = .ok (.invokestatic 13, 3) := by decide +kernel
theorem d7_19 : decode prog_2_method_1_code 19 = .ok (.iconst 1, 1) := by decide +kernel
theorem d7_20 : decode prog_2_method_1_code 20 = .ok (.ishl, 1) := by decide +kernel
theorem d7_21 : decode prog_2_method_1_code 21 = .ok (.istore_n 2, 1) := by decide +kernel
theorem d7_22 : decode prog_2_method_1_code 22 = .ok (.aload_n 0, 1) := by decide +kernel
theorem d7_23 : decode prog_2_method_1_code 23 = .ok (.iload_n 2, 1) := by decide +kernel
theorem d7_24 : decode prog_2_method_1_code 24 = .ok (.newarray .long, 2) := by decide +kernel
theorem d7_26 : decode prog_2_method_1_code 26 = .ok (.putfield 19, 3) := by decide +kernel
theorem d7_29 : decode prog_2_method_1_code 29 = .ok (.aload_n 0, 1) := by decide +kernel
theorem d7_30 : decode prog_2_method_1_code 30 = .ok (.iload_n 2, 1) := by decide +kernel
theorem d7_31 : decode prog_2_method_1_code 31 = .ok (.newarray .int, 2) := by decide +kernel
theorem d7_33 : decode prog_2_method_1_code 33 = .ok (.putfield 22, 3) := by decide +kernel
theorem d7_36 : decode prog_2_method_1_code 36 = .ok (.aload_n 0, 1) := by decide +kernel
theorem d7_37 : decode prog_2_method_1_code 37 = .ok (.getfield 22, 3) := by decide +kernel
theorem d7_40 : decode prog_2_method_1_code 40 = .ok (.iconst (-1), 1) := by decide +kernel
theorem d7_41 : decode prog_2_method_1_code 41 = .ok (.invokestatic 26, 3) := by decide +kernel
theorem d7_44 : decode prog_2_method_1_code 44 = .ok (.aload_n 0, 1) := by decide +kernel
theorem d7_45 : decode prog_2_method_1_code 45 = .ok (.iload_n 2, 1) := by decide +kernel
theorem d7_46 : decode prog_2_method_1_code 46 = .ok (.iconst 1, 1) := by decide +kernel
theorem d7_47 : decode prog_2_method_1_code 47 = .ok (.isub, 1) := by decide +kernel
theorem d7_48 : decode prog_2_method_1_code 48 = .ok (.putfield 32, 3) := by decide +kernel
theorem d7_51 : decode prog_2_method_1_code 51 = .ok (.return_, 1) := by decide +kernel
theorem efLI (m : MethodId) (lh : Addr) (kl : Int32) : entryFrame m #[(.ref lh), (.int kl)] 3 = mkF m 0 #[.val (.ref lh), .val (.int kl), .unset] [] := by first | (simp [entryFrame, mkF, argsToLocals, Value.category]; done) | rfl
def QLI (Z : State) (lh : Addr) (kl : Int32) (h0 : Heap) (n0 : Nat) (v : Option Value) (h : Heap) (L : List Loc) : Prop := ∃ hp : Addr, ∃ k_hp : ClassId, ∃ sl : Addr, ∃ k_sl : ClassId, ∃ ix : Addr, ∃ k_ix : ClassId, ∃ mk : Int32, ∃ nl : Int32, v = none ∧ Fr n0 L ∧ Keep h0 h [lh] ∧ n0 ≤ hp ∧ h0.size ≤ hp ∧ n0 ≤ sl ∧ h0.size ≤ sl ∧ n0 ≤ ix ∧ h0.size ≤ ix ∧ hp ≠ sl ∧ hp ≠ ix ∧ sl ≠ ix ∧ Exa Z h lh cLH ∧ Fld Z h lh cLH "size" "I" (.int (0 : Int32)) ∧ Fld Z h lh cLH "heap" "[J" (.ref hp) ∧ Fld Z h lh cLH "slots" "[J" (.ref sl) ∧ Fld Z h lh cLH "indices" "[I" (.ref ix) ∧ Fld Z h lh cLH "mask" "I" (.int mk) ∧ Arv Z h hp k_hp .long kl [(.long (0 : Int64)), (.long (0 : Int64)), (.long (0 : Int64))] (.long (0 : Int64)) ∧ Arv Z h sl k_sl .long nl [(.long (0 : Int64)), (.long (0 : Int64)), (.long (0 : Int64)), (.long (0 : Int64)), (.long (0 : Int64)), (.long (0 : Int64)), (.long (0 : Int64)), (.long (0 : Int64))] (.long (0 : Int64)) ∧ Arv Z h ix k_ix .int nl [(.int (-1 : Int32)), (.int (-1 : Int32)), (.int (-1 : Int32)), (.int (-1 : Int32)), (.int (-1 : Int32)), (.int (-1 : Int32)), (.int (-1 : Int32)), (.int (-1 : Int32))] (.int (0 : Int32)) ∧ own_kmn kl mk nl
set_option maxRecDepth 65536 in
set_option maxHeartbeats 40000000 in
theorem rmLI (l : Launch) (Z : State) (a0 : Array Value) (hw : ∀ d ∈ tables_1, d.before a0 Z = true) (ws : List Jvm.Cond) (lh : Addr) (kl : Int32) (h0 : Heap) (n0 : Nat) (Z0 : n0 ≤ h0.size) (E_lh : Exa Z h0 lh cLH) (F_heap_lh : Fld Z h0 lh cLH "heap" "[J" .null) (F_size_lh : Fld Z h0 lh cLH "size" "I" (.int (0 : Int32))) (F_slots_lh : Fld Z h0 lh cLH "slots" "[J" .null) (F_indices_lh : Fld Z h0 lh cLH "indices" "[I" .null) (F_mask_lh : Fld Z h0 lh cLH "mask" "I" (.int (0 : Int32))) (g_lh : n0 ≤ lh) (hk : own_k3 kl) :
  MetFree l (⟨cLH, "<init>", "(I)V"⟩ : MethodName) (head1 (Jvm.Cond.code (⟨cLH, "<init>", "(I)V"⟩ : MethodName) prog_2_method_1_code 3 none :: ws) ({ frames := 2, cells := 3, slots := 19, locals := 70 } : Room)) (fun av_ U => av_ = #[(.ref lh), (.int kl)] ∧ Z.Warmed39 U.vm ∧ U.heap = h0) (fun _ _ _ _ _ => True) (fun _ U o U' => ∃ v L, o = .returned v ∧ QLI Z lh kl h0 n0 v U'.heap L ∧ FrameEnd U o U' L ({ frames := 2, cells := 3, slots := 19, locals := 70 } : Room).cells ({ frames := 2, cells := 3, slots := 19, locals := 70 } : Room).slots) := by
 refine MetFree.of_bodySF (plainFor_of_name own_pn1) hisR ?_
 intro p e s m args below meth c s₁ Bd hml0 hP hK
 obtain ⟨rfl, hZ, hh⟩ := hP
 have hx := Bd.exec
 have hby := Bd.bytes
 have hml : c.maxLocals = 3 := hml0
 have hown : s.vm.findClass cLH = some m.cls := findClass_of_methodNamed Bd.named
 have hnm := (name_of_methodNamed Bd.named Bd.method).1
 have X0 : Stand p l e ({ frames := 2, cells := 3, slots := 19, locals := 70 } : Room) s m #[(.ref lh), (.int kl)] below meth c s₁ [] 0 0 := Stand.of_body Bd
 have e0 : s₁.heap = h0 := by rw [← hh, Bd.state]; rfl
 have N0 := Fr.nil n0
 have hlk : meth.locks = false := Bd.notSynchronized
 have pre0 : ∀ t, Steps p.tables e below (s₁.setTop (mkF m 0 #[.val (.ref lh), .val (.int kl), .unset] [])) t → Steps p.tables e below (s₁.setTop (entryFrame m #[(.ref lh), (.int kl)] 3)) t := fun t k => castTop (efLI m lh kl) k
 obtain ⟨T1, X1, e1, st1⟩ := initO X0 hx hZ hown (Wd hw 54 rfl) (Wd hw 13 rfl) (Wd hw 14 rfl) e0 (g := (mkF m 1 #[.val (.ref lh), .val (.int kl), .unset] [(.ref lh)])) rfl (by rw [hml]; rfl) rfl (hb hby d7_1) (by decide) (W := 0) (by show 2 * 0 + _ ≤ _; exact Nat.le_of_eq rfl) (by decide)
 obtain ⟨T2, h2, k2, X2, e2, E2, A2, st2⟩ := newP X1 hx hZ (Wd hw 55 rfl) e1 (g := (mkF m 6 #[.val (.ref lh), .val (.int kl), .unset] [(.int kl), (.ref lh)])) rfl (hb hby d7_6) rfl (own_kl3 hk).1 (cap := 3) (own_kl3 hk).2 (by decide) (by decide) (by decide)
 obtain ⟨b2, g2⟩ : ∃ z, z = h0.size := ⟨_, rfl⟩
 rw [← g2] at A2 st2
 have g_b2 : n0 ≤ b2 := Nat.le_trans Z0 (Nat.le_of_eq g2.symm)
 have sz_b2 : h0.size ≤ b2 := Nat.le_trans (Keep.refl h0 [lh]).1 (Nat.le_of_eq g2.symm)
 have K2 : Keep h0 h2 [lh] := (Keep.refl h0 [lh]).ext E2
 have Zs2 : n0 ≤ h2.size := Nat.le_trans Z0 E2.1
 have V2 : Arv Z h2 b2 k2 .long kl [(.long (0 : Int64)), (.long (0 : Int64)), (.long (0 : Int64))] (.long (0 : Int64)) := (Arv.new A2 (own_kl3 hk).1).pad (pad_rep [] (.long (0 : Int64)) 3)
 obtain ⟨T3, h3, X3, e3, W3, st3⟩ := putF X2 hx hZ hown (host := "") (Or.inl (Wd hw 56 rfl)) Via.refl e2 (F_heap_lh.ext E2) (E_lh.ext E2) (Or.inr ⟨(Wd hw 57 rfl), rfl, hnm⟩) (Wd hw 49 rfl) (ty := (.array .long)) (by decide) rfl rfl (g := (mkF m 8 #[.val (.ref lh), .val (.int kl), .unset] [(.ref b2), (.ref lh)])) rfl rfl (hb hby d7_8)
 have F3 : Fld Z h3 lh cLH "heap" "[J" (.ref b2) := Fld.same W3 (F_heap_lh.ext E2)
 have K3 : Keep h0 h3 [lh] := K2.wr W3 (Or.inl (List.mem_of_getElem? (i := 0) rfl))
 have Zs3 : n0 ≤ h3.size := Nat.le_trans Zs2 (Keep.of_wr W3).1
 have N3 := Fr.snoc X3 N0 g_lh
 obtain ⟨_, _, ⟨T4, L4, k4, n4⟩, -, X4, ⟨Lc4, hQ4, l4, y4, z4⟩, st4⟩ := Jvm.LawKit.callS X3 hx (y := (⟨"java/lang/Integer", "highestOneBit", "(I)I"⟩ : MethodName)) hown (mvT hZ (Wd hw 58 rfl)) (mvT hZ (Wd hw 59 rfl)) (mvT hZ (Wd hw 28 rfl)) (mvT hZ (Wd hw 60 rfl)) (by decide) (backOf (W := 0) (rmHB l Z a0 hw [] (((2 : Int32) * kl) - (1 : Int32)) h3 n0 Zs3 (own_ha hk)) hZ (Wd hw 60 rfl) (Wd hw 28 rfl) (by decide) (by decide)) (g := (mkF m 16 #[.val (.ref lh), .val (.int kl), .unset] [(.int (((2 : Int32) * kl) - (1 : Int32)))])) rfl (by rw [hml]; rfl) (argsL := [(.int (((2 : Int32) * kl) - (1 : Int32)))]) (rest := []) (lenOf own_pd9 rfl) rfl (by show 2 * 0 + _ ≤ _; exact Nat.le_of_eq rfl) (hb hby d7_16) (fun _ _ => ⟨rfl, e3, (by decide : 1 + 0 ≤ _), (by decide : 3 + 0 ≤ _)⟩)
 dsimp only [Pt.U, Pt.locs, Pt.cells, Pt.slots] at X4 l4 y4 z4 st4 hQ4
 subst l4 y4 z4
 obtain ⟨rfl, Nq4, e4⟩ := hQ4
 have N4 := Fr.app N3 Nq4
 have r5 : ∀ t, Steps p.tables e below (T4.setTop (mkF m 22 #[.val (.ref lh), .val (.int kl), .val (.int ((own_hob (((2 : Int32) * kl) - (1 : Int32))) <<< ((1 : Int32) &&& 31)))] [])) t → Steps p.tables e below (s₁.setTop (mkF m 0 #[.val (.ref lh), .val (.int kl), .unset] [])) t := fun t kt => by
  refine XS.aloadN X0.here hx rfl (hb hby d7_0) rfl rfl ?_
  refine st1 _ ?_
  refine XS.aloadN X1.here hx rfl (hb hby d7_4) rfl rfl ?_
  refine XS.iloadN X1.here hx rfl (hb hby d7_5) rfl ?_
  refine st2 _ ?_
  refine st3 _ ?_
  refine XS.iconst X3.here hx rfl (hb hby d7_11) ?_
  refine XS.iloadN X3.here hx rfl (hb hby d7_12) rfl ?_
  refine XS.imul X3.here hx rfl (hb hby d7_13) rfl ?_
  refine XS.iconst X3.here hx rfl (hb hby d7_14) ?_
  refine XS.isub X3.here hx rfl (hb hby d7_15) rfl ?_
  refine st4 _ ?_
  refine XS.iconst X4.here hx rfl (hb hby d7_19) ?_
  refine XS.ishl X4.here hx rfl (hb hby d7_20) rfl ?_
  refine XS.istoreN X4.here hx rfl (hb hby d7_21) rfl (l' := #[.val (.ref lh), .val (.int kl), .val (.int ((own_hob (((2 : Int32) * kl) - (1 : Int32))) <<< ((1 : Int32) &&& 31)))]) rfl ?_
  exact kt
 obtain ⟨nl, hnl⟩ : ∃ zz : Int32, zz = ((own_hob (((2 : Int32) * kl) - (1 : Int32))) <<< ((1 : Int32) &&& 31)) := ⟨_, rfl⟩
 have r6 : ∀ t, Steps p.tables e below (T4.setTop (mkF m 22 #[.val (.ref lh), .val (.int kl), .val (.int nl)] [])) t → Steps p.tables e below (T4.setTop (mkF m 22 #[.val (.ref lh), .val (.int kl), .val (.int ((own_hob (((2 : Int32) * kl) - (1 : Int32))) <<< ((1 : Int32) &&& 31)))] [])) t := fun t kt => by
  subst hnl
  exact kt
 have K : own_kmn kl (nl - (1 : Int32)) nl := own_K hk hnl
 obtain ⟨T7, h7, k7, X7, e7, E7, A7, st7⟩ := newP X4 hx hZ (Wd hw 55 rfl) e4 (g := (mkF m 24 #[.val (.ref lh), .val (.int kl), .val (.int nl)] [(.int nl), (.ref lh)])) rfl (hb hby d7_24) rfl (own_n8b K).1 (cap := 8) (own_n8b K).2.1 (by decide) (by decide) (by decide)
 obtain ⟨b7, g7⟩ : ∃ z, z = h3.size := ⟨_, rfl⟩
 rw [← g7] at A7 st7
 have g_b7 : n0 ≤ b7 := Nat.le_trans Zs3 (Nat.le_of_eq g7.symm)
 have sz_b7 : h0.size ≤ b7 := Nat.le_trans K3.1 (Nat.le_of_eq g7.symm)
 have K7 : Keep h0 h7 [lh] := K3.ext E7
 have Zs7 : n0 ≤ h7.size := Nat.le_trans Zs3 E7.1
 have V7 : Arv Z h7 b7 k7 .long nl [(.long (0 : Int64)), (.long (0 : Int64)), (.long (0 : Int64)), (.long (0 : Int64)), (.long (0 : Int64)), (.long (0 : Int64)), (.long (0 : Int64)), (.long (0 : Int64))] (.long (0 : Int64)) := (Arv.new A7 (own_n8b K).1).pad (pad_rep [] (.long (0 : Int64)) 8)
 obtain ⟨T8, h8, X8, e8, W8, st8⟩ := putF X7 hx hZ hown (host := "") (Or.inl (Wd hw 66 rfl)) Via.refl e7 ((Fld.other W3 (F_slots_lh.ext E2) (Or.inr (slot_ne (Or.inr (Wd hw 67 rfl)) (Or.inr (Wd hw 57 rfl)) (by decide) (t := (.array .long)) (t' := (.array .long)) (by decide) (by decide)))).ext E7) (((E_lh.ext E2).wr W3).ext E7) (Or.inr ⟨(Wd hw 67 rfl), rfl, hnm⟩) (Wd hw 49 rfl) (ty := (.array .long)) (by decide) rfl rfl (g := (mkF m 26 #[.val (.ref lh), .val (.int kl), .val (.int nl)] [(.ref b7), (.ref lh)])) rfl rfl (hb hby d7_26)
 have F8 : Fld Z h8 lh cLH "slots" "[J" (.ref b7) := Fld.same W8 ((Fld.other W3 (F_slots_lh.ext E2) (Or.inr (slot_ne (Or.inr (Wd hw 67 rfl)) (Or.inr (Wd hw 57 rfl)) (by decide) (t := (.array .long)) (t' := (.array .long)) (by decide) (by decide)))).ext E7)
 have K8 : Keep h0 h8 [lh] := K7.wr W8 (Or.inl (List.mem_of_getElem? (i := 0) rfl))
 have Zs8 : n0 ≤ h8.size := Nat.le_trans Zs7 (Keep.of_wr W8).1
 have N8 := Fr.snoc X8 N4 g_lh
 obtain ⟨T9, h9, k9, X9, e9, E9, A9, st9⟩ := newP X8 hx hZ (Wd hw 68 rfl) e8 (g := (mkF m 31 #[.val (.ref lh), .val (.int kl), .val (.int nl)] [(.int nl), (.ref lh)])) rfl (hb hby d7_31) rfl (own_n8b K).1 (cap := 8) (own_n8b K).2.1 (by decide) (by decide) (by decide)
 obtain ⟨b9, g9⟩ : ∃ z, z = h8.size := ⟨_, rfl⟩
 rw [← g9] at A9 st9
 have g_b9 : n0 ≤ b9 := Nat.le_trans Zs8 (Nat.le_of_eq g9.symm)
 have sz_b9 : h0.size ≤ b9 := Nat.le_trans K8.1 (Nat.le_of_eq g9.symm)
 have K9 : Keep h0 h9 [lh] := K8.ext E9
 have Zs9 : n0 ≤ h9.size := Nat.le_trans Zs8 E9.1
 have V9 : Arv Z h9 b9 k9 .int nl [(.int (0 : Int32)), (.int (0 : Int32)), (.int (0 : Int32)), (.int (0 : Int32)), (.int (0 : Int32)), (.int (0 : Int32)), (.int (0 : Int32)), (.int (0 : Int32))] (.int (0 : Int32)) := (Arv.new A9 (own_n8b K).1).pad (pad_rep [] (.int (0 : Int32)) 8)
 obtain ⟨T10, h10, X10, e10, W10, st10⟩ := putF X9 hx hZ hown (host := "") (Or.inl (Wd hw 69 rfl)) Via.refl e9 ((Fld.other W8 ((Fld.other W3 (F_indices_lh.ext E2) (Or.inr (slot_ne (Or.inr (Wd hw 70 rfl)) (Or.inr (Wd hw 57 rfl)) (by decide) (t := (.array .int)) (t' := (.array .long)) (by decide) (by decide)))).ext E7) (Or.inr (slot_ne (Or.inr (Wd hw 70 rfl)) (Or.inr (Wd hw 67 rfl)) (by decide) (t := (.array .int)) (t' := (.array .long)) (by decide) (by decide)))).ext E9) (((((E_lh.ext E2).wr W3).ext E7).wr W8).ext E9) (Or.inr ⟨(Wd hw 70 rfl), rfl, hnm⟩) (Wd hw 49 rfl) (ty := (.array .int)) (by decide) rfl rfl (g := (mkF m 33 #[.val (.ref lh), .val (.int kl), .val (.int nl)] [(.ref b9), (.ref lh)])) rfl rfl (hb hby d7_33)
 have F10 : Fld Z h10 lh cLH "indices" "[I" (.ref b9) := Fld.same W10 ((Fld.other W8 ((Fld.other W3 (F_indices_lh.ext E2) (Or.inr (slot_ne (Or.inr (Wd hw 70 rfl)) (Or.inr (Wd hw 57 rfl)) (by decide) (t := (.array .int)) (t' := (.array .long)) (by decide) (by decide)))).ext E7) (Or.inr (slot_ne (Or.inr (Wd hw 70 rfl)) (Or.inr (Wd hw 67 rfl)) (by decide) (t := (.array .int)) (t' := (.array .long)) (by decide) (by decide)))).ext E9)
 have K10 : Keep h0 h10 [lh] := K9.wr W10 (Or.inl (List.mem_of_getElem? (i := 0) rfl))
 have Zs10 : n0 ≤ h10.size := Nat.le_trans Zs9 (Keep.of_wr W10).1
 have N10 := Fr.snoc X10 N8 g_lh
 obtain ⟨T11, X11, e11, st11⟩ := getF X10 hx hZ hown (host := "") (Or.inl (Wd hw 69 rfl)) Via.refl e10 F10 (g := (mkF m 37 #[.val (.ref lh), .val (.int kl), .val (.int nl)] [(.ref lh)])) rfl rfl (hb hby d7_37)
 obtain ⟨_, _, ⟨T12, L12, k12, n12⟩, -, X12, ⟨Lc12, hQ12, l12, y12, z12⟩, st12⟩ := Jvm.LawKit.callS X11 hx (y := (⟨"java/util/Arrays", "fill", "([II)V"⟩ : MethodName)) hown (mvT hZ (Wd hw 71 rfl)) (mvT hZ (Wd hw 72 rfl)) (mvT hZ (Wd hw 73 rfl)) (mvT hZ (Wd hw 74 rfl)) (by decide) (backOf (W := 0) (rmFL l Z a0 hw [] b9 nl k9 h10 n0 Zs10 (V9.other W10 (Ne.symm ((nlt ((((E_lh.ext E2).wr W3).ext E7).wr W8).lt (Nat.le_of_eq g9.symm))))) (own_n8b K).2.2 g_b9) hZ (Wd hw 74 rfl) (Wd hw 73 rfl) (by decide) (by decide)) (g := (mkF m 41 #[.val (.ref lh), .val (.int kl), .val (.int nl)] [(.int (-1 : Int32)), (.ref b9)])) rfl (by rw [hml]; rfl) (argsL := [(.ref b9), (.int (-1 : Int32))]) (rest := []) (lenOf own_pd10 rfl) rfl (by show 2 * 0 + _ ≤ _; exact Nat.le_of_eq rfl) (hb hby d7_41) (fun _ _ => ⟨rfl, e11, (by decide : 3 + 0 ≤ _), (by decide : 19 + 0 ≤ _)⟩)
 dsimp only [Pt.U, Pt.locs, Pt.cells, Pt.slots] at X12 l12 y12 z12 st12 hQ12
 subst l12 y12 z12
 obtain ⟨rfl, Nq12, Kc12, q12_0⟩ := hQ12
 have K12 : Keep h0 T12.heap [lh] := Keep.trans K10 Kc12 (allS (Or.inr sz_b9) all0)
 have Zs12 : n0 ≤ T12.heap.size := Nat.le_trans Zs10 Kc12.1
 have N12 := Fr.app N10 Nq12
 obtain ⟨T13, h13, X13, e13, W13, st13⟩ := putF X12 hx hZ hown (host := "") (Or.inl (Wd hw 75 rfl)) Via.refl rfl ((Fld.other W10 ((Fld.other W8 ((Fld.other W3 (F_mask_lh.ext E2) (Or.inr (slot_ne (Or.inr (Wd hw 76 rfl)) (Or.inr (Wd hw 57 rfl)) (by decide) (t := .int) (t' := (.array .long)) (by decide) (by decide)))).ext E7) (Or.inr (slot_ne (Or.inr (Wd hw 76 rfl)) (Or.inr (Wd hw 67 rfl)) (by decide) (t := .int) (t' := (.array .long)) (by decide) (by decide)))).ext E9) (Or.inr (slot_ne (Or.inr (Wd hw 76 rfl)) (Or.inr (Wd hw 70 rfl)) (by decide) (t := .int) (t' := (.array .int)) (by decide) (by decide)))).keep Kc12 (ninS ((nlt ((((E_lh.ext E2).wr W3).ext E7).wr W8).lt (Nat.le_of_eq g9.symm))) nin0)) (((((((E_lh.ext E2).wr W3).ext E7).wr W8).ext E9).wr W10).keep Kc12) (Or.inr ⟨(Wd hw 76 rfl), rfl, hnm⟩) (Wd hw 49 rfl) (ty := .int) (by decide) rfl rfl (g := (mkF m 48 #[.val (.ref lh), .val (.int kl), .val (.int nl)] [(.int (nl - (1 : Int32))), (.ref lh)])) rfl rfl (hb hby d7_48)
 have F13 : Fld Z h13 lh cLH "mask" "I" (.int (nl - (1 : Int32))) := Fld.same W13 ((Fld.other W10 ((Fld.other W8 ((Fld.other W3 (F_mask_lh.ext E2) (Or.inr (slot_ne (Or.inr (Wd hw 76 rfl)) (Or.inr (Wd hw 57 rfl)) (by decide) (t := .int) (t' := (.array .long)) (by decide) (by decide)))).ext E7) (Or.inr (slot_ne (Or.inr (Wd hw 76 rfl)) (Or.inr (Wd hw 67 rfl)) (by decide) (t := .int) (t' := (.array .long)) (by decide) (by decide)))).ext E9) (Or.inr (slot_ne (Or.inr (Wd hw 76 rfl)) (Or.inr (Wd hw 70 rfl)) (by decide) (t := .int) (t' := (.array .int)) (by decide) (by decide)))).keep Kc12 (ninS ((nlt ((((E_lh.ext E2).wr W3).ext E7).wr W8).lt (Nat.le_of_eq g9.symm))) nin0))
 have K13 : Keep h0 h13 [lh] := K12.wr W13 (Or.inl (List.mem_of_getElem? (i := 0) rfl))
 have Zs13 : n0 ≤ h13.size := Nat.le_trans Zs12 (Keep.of_wr W13).1
 have N13 := Fr.snoc X13 N12 g_lh
 obtain ⟨fs, hr, hrun, hended, hW, hsame⟩ := X13.leave (v := none) (fun _ => rfl) hlk
 refine ⟨_, _, (pre0 _ (r5 _ (r6 _ ?_))), hrun, hended, _, _, rfl, ?_, ⟨_, rfl⟩, hW, hsame.mono (by decide) (by decide)⟩
 ·show Steps p.tables e below (T4.setTop (mkF m 22 #[.val (.ref lh), .val (.int kl), .val (.int nl)] [])) _
  refine XS.aloadN X4.here hx rfl (hb hby d7_22) rfl rfl ?_
  refine XS.iloadN X4.here hx rfl (hb hby d7_23) rfl ?_
  refine st7 _ ?_
  refine st8 _ ?_
  refine XS.aloadN X8.here hx rfl (hb hby d7_29) rfl rfl ?_
  refine XS.iloadN X8.here hx rfl (hb hby d7_30) rfl ?_
  refine st9 _ ?_
  refine st10 _ ?_
  refine XS.aloadN X10.here hx rfl (hb hby d7_36) rfl rfl ?_
  refine st11 _ ?_
  refine XS.iconst X11.here hx rfl (hb hby d7_40) ?_
  refine st12 _ ?_
  refine XS.aloadN X12.here hx rfl (hb hby d7_44) rfl rfl ?_
  refine XS.iloadN X12.here hx rfl (hb hby d7_45) rfl ?_
  refine XS.iconst X12.here hx rfl (hb hby d7_46) ?_
  refine XS.isub X12.here hx rfl (hb hby d7_47) rfl ?_
  refine st13 _ ?_
  exact X13.returnOut hx Bd.returns (hb hby d7_51) hr
 ·show QLI Z lh kl h0 n0 _ T13.heap _
  rw [e13]
  exact ⟨b2, k2, b7, k7, b9, k9, (nl - (1 : Int32)), nl, rfl, N13, K13, g_b2, sz_b2, g_b7, sz_b7, g_b9, sz_b9, ((nlt (V2.other W3 (Ne.symm ((nlt E_lh.lt (Nat.le_of_eq g2.symm))))).lt (Nat.le_of_eq g7.symm))), ((nlt (((V2.other W3 (Ne.symm ((nlt E_lh.lt (Nat.le_of_eq g2.symm))))).ext E7).other W8 (Ne.symm ((nlt E_lh.lt (Nat.le_of_eq g2.symm))))).lt (Nat.le_of_eq g9.symm))), ((nlt (V7.other W8 (Ne.symm ((nlt ((E_lh.ext E2).wr W3).lt (Nat.le_of_eq g7.symm))))).lt (Nat.le_of_eq g9.symm))), ((((((((E_lh.ext E2).wr W3).ext E7).wr W8).ext E9).wr W10).keep Kc12).wr W13), (Fld.other W13 ((Fld.other W10 ((Fld.other W8 ((Fld.other W3 (F_size_lh.ext E2) (Or.inr (slot_ne (Or.inl (Wd hw 100 rfl)) (Or.inr (Wd hw 57 rfl)) (by decide) (t := .int) (t' := (.array .long)) (by decide) (by decide)))).ext E7) (Or.inr (slot_ne (Or.inl (Wd hw 100 rfl)) (Or.inr (Wd hw 67 rfl)) (by decide) (t := .int) (t' := (.array .long)) (by decide) (by decide)))).ext E9) (Or.inr (slot_ne (Or.inl (Wd hw 100 rfl)) (Or.inr (Wd hw 70 rfl)) (by decide) (t := .int) (t' := (.array .int)) (by decide) (by decide)))).keep Kc12 (ninS ((nlt ((((E_lh.ext E2).wr W3).ext E7).wr W8).lt (Nat.le_of_eq g9.symm))) nin0)) (Or.inr (slot_ne (Or.inl (Wd hw 100 rfl)) (Or.inr (Wd hw 76 rfl)) (by decide) (t := .int) (t' := .int) (by decide) (by decide)))), (Fld.other W13 ((Fld.other W10 ((Fld.other W8 (F3.ext E7) (Or.inr (slot_ne (Or.inr (Wd hw 57 rfl)) (Or.inr (Wd hw 67 rfl)) (by decide) (t := (.array .long)) (t' := (.array .long)) (by decide) (by decide)))).ext E9) (Or.inr (slot_ne (Or.inr (Wd hw 57 rfl)) (Or.inr (Wd hw 70 rfl)) (by decide) (t := (.array .long)) (t' := (.array .int)) (by decide) (by decide)))).keep Kc12 (ninS ((nlt ((((E_lh.ext E2).wr W3).ext E7).wr W8).lt (Nat.le_of_eq g9.symm))) nin0)) (Or.inr (slot_ne (Or.inr (Wd hw 57 rfl)) (Or.inr (Wd hw 76 rfl)) (by decide) (t := (.array .long)) (t' := .int) (by decide) (by decide)))), (Fld.other W13 ((Fld.other W10 (F8.ext E9) (Or.inr (slot_ne (Or.inr (Wd hw 67 rfl)) (Or.inr (Wd hw 70 rfl)) (by decide) (t := (.array .long)) (t' := (.array .int)) (by decide) (by decide)))).keep Kc12 (ninS ((nlt ((((E_lh.ext E2).wr W3).ext E7).wr W8).lt (Nat.le_of_eq g9.symm))) nin0)) (Or.inr (slot_ne (Or.inr (Wd hw 67 rfl)) (Or.inr (Wd hw 76 rfl)) (by decide) (t := (.array .long)) (t' := .int) (by decide) (by decide)))), (Fld.other W13 (F10.keep Kc12 (ninS ((nlt ((((E_lh.ext E2).wr W3).ext E7).wr W8).lt (Nat.le_of_eq g9.symm))) nin0)) (Or.inr (slot_ne (Or.inr (Wd hw 70 rfl)) (Or.inr (Wd hw 76 rfl)) (by decide) (t := (.array .int)) (t' := .int) (by decide) (by decide)))), F13, (((((((V2.other W3 (Ne.symm ((nlt E_lh.lt (Nat.le_of_eq g2.symm))))).ext E7).other W8 (Ne.symm ((nlt E_lh.lt (Nat.le_of_eq g2.symm))))).ext E9).other W10 (Ne.symm ((nlt E_lh.lt (Nat.le_of_eq g2.symm))))).keep Kc12 (ninS ((nlt (((V2.other W3 (Ne.symm ((nlt E_lh.lt (Nat.le_of_eq g2.symm))))).ext E7).other W8 (Ne.symm ((nlt E_lh.lt (Nat.le_of_eq g2.symm))))).lt (Nat.le_of_eq g9.symm))) nin0)).other W13 (Ne.symm ((nlt E_lh.lt (Nat.le_of_eq g2.symm))))), (((((V7.other W8 (Ne.symm ((nlt ((E_lh.ext E2).wr W3).lt (Nat.le_of_eq g7.symm))))).ext E9).other W10 (Ne.symm ((nlt ((E_lh.ext E2).wr W3).lt (Nat.le_of_eq g7.symm))))).keep Kc12 (ninS ((nlt (V7.other W8 (Ne.symm ((nlt ((E_lh.ext E2).wr W3).lt (Nat.le_of_eq g7.symm))))).lt (Nat.le_of_eq g9.symm))) nin0)).other W13 (Ne.symm ((nlt ((E_lh.ext E2).wr W3).lt (Nat.le_of_eq g7.symm))))), (q12_0.other W13 (Ne.symm ((nlt ((((E_lh.ext E2).wr W3).ext E7).wr W8).lt (Nat.le_of_eq g9.symm))))), K⟩
theorem d5_0 : decode jdk_33_method_42_code 0 = .ok (.iload_n 0, 1) := by decide +kernel
theorem d5_1 : decode jdk_33_method_42_code 1 = .ok (.i2l, 1) := by decide +kernel
theorem d5_2 : decode jdk_33_method_42_code 2 = .ok (.ldc2_w 262, 3) := by decide +kernel
theorem d5_5 : decode jdk_33_method_42_code 5 = .ok (.land, 1) := by decide +kernel
theorem d5_6 : decode jdk_33_method_42_code 6 = .ok (.lreturn, 1) := by decide +kernel
theorem efA5 (m : MethodId) (xi0_ : Int32) : entryFrame m #[(.int xi0_)] 1 = mkF m 0 #[.val (.int xi0_)] [] := by first | (simp [entryFrame, mkF, argsToLocals, Value.category]; done) | rfl
def QA5 (Z : State) (xi0_ : Int32) (h0 : Heap) (n0 : Nat) (v : Option Value) (h : Heap) (L : List Loc) : Prop := v = some (.long ((xi0_.toInt64) &&& (4294967295 : Int64))) ∧ Fr n0 L ∧ h = h0
set_option maxRecDepth 65536 in
set_option maxHeartbeats 40000000 in
theorem rmA5 (l : Launch) (Z : State) (a0 : Array Value) (hw : ∀ d ∈ tables_1, d.before a0 Z = true) (ws : List Jvm.Cond) (xi0_ : Int32) (h0 : Heap) (n0 : Nat) (Z0 : n0 ≤ h0.size) :
  MetFree l (⟨"java/lang/Integer", "toUnsignedLong", "(I)J"⟩ : MethodName) (head1 (Jvm.Cond.code (⟨"java/lang/Integer", "toUnsignedLong", "(I)J"⟩ : MethodName) jdk_33_method_42_code 1 (some .long) :: ws) ({ frames := 0, cells := 0, slots := 0, locals := 0 } : Room)) (fun av_ U => av_ = #[(.int xi0_)] ∧ Z.Warmed39 U.vm ∧ U.heap = h0) (fun _ _ _ _ _ => True) (fun _ U o U' => ∃ v L, o = .returned v ∧ QA5 Z xi0_ h0 n0 v U'.heap L ∧ FrameEnd U o U' L ({ frames := 0, cells := 0, slots := 0, locals := 0 } : Room).cells ({ frames := 0, cells := 0, slots := 0, locals := 0 } : Room).slots) := by
 refine MetFree.of_bodySF (plainFor_of_name own_pn4) hisR ?_
 intro p e s m args below meth c s₁ Bd hml0 hP hK
 obtain ⟨rfl, hZ, hh⟩ := hP
 have hx := Bd.exec
 have hby := Bd.bytes
 have hml : c.maxLocals = 1 := hml0
 have hown : s.vm.findClass "java/lang/Integer" = some m.cls := findClass_of_methodNamed Bd.named
 have hnm := (name_of_methodNamed Bd.named Bd.method).1
 have X0 : Stand p l e ({ frames := 0, cells := 0, slots := 0, locals := 0 } : Room) s m #[(.int xi0_)] below meth c s₁ [] 0 0 := Stand.of_body Bd
 have e0 : s₁.heap = h0 := by rw [← hh, Bd.state]; rfl
 have N0 := Fr.nil n0
 have hlk : meth.locks = false := Bd.notSynchronized
 have pre0 : ∀ t, Steps p.tables e below (s₁.setTop (mkF m 0 #[.val (.int xi0_)] [])) t → Steps p.tables e below (s₁.setTop (entryFrame m #[(.int xi0_)] 1)) t := fun t k => castTop (efA5 m xi0_) k
 obtain ⟨fs, hr, hrun, hended, hW, hsame⟩ := X0.leave (v := some (.long ((xi0_.toInt64) &&& (4294967295 : Int64)))) (fun h => by rw [Bd.returns] at h; cases h) hlk
 refine ⟨_, _, (pre0 _ ?_), hrun, hended, _, _, rfl, ?_, ⟨_, rfl⟩, hW, hsame.mono (by decide) (by decide)⟩
 ·show Steps p.tables e below (s₁.setTop (mkF m 0 #[.val (.int xi0_)] [])) _
  refine XS.iloadN X0.here hx rfl (hb hby d5_0) rfl ?_
  refine XS.i2l X0.here hx rfl (hb hby d5_1) rfl ?_
  refine X0.ldc2Long hx hown (mvT hZ (Wd hw 30 rfl)) (g := (mkF m 2 #[.val (.int xi0_)] [(.long (xi0_.toInt64))])) rfl (hb hby d5_2) _ ?_
  refine XS.land X0.here hx rfl (hb hby d5_5) rfl ?_
  jvm_step X0.here [X0.here.top, hx, (hb hby d5_6), X0.method', Bd.returns, narrow]
  first | (intro acts; rw [hr _ acts rfl rfl rfl]) | rw [hr _ _ rfl rfl rfl]
  exact Steps.refl _
 ·show QA5 Z xi0_ h0 n0 _ s₁.heap _
  rw [e0]
  exact ⟨rfl, N0, rfl⟩
theorem own_pd11 : parseMethodDescriptor "(I)J" = some ⟨[.int], some .long⟩ := by decide +kernel
theorem own_pn5 : plainName cMM = true := by first | (simp [plainName, overriddenIn]; done) | decide +kernel
theorem d6_0 : decode prog_6_method_7_code 0 = .ok (.aload_n 0, 1) := by decide +kernel
theorem d6_1 : decode prog_6_method_7_code 1 = .ok (.aload_n 0, 1) := by decide +kernel
theorem d6_2 : decode prog_6_method_7_code 2 = .ok (.getfield 19, 3) := by decide +kernel
theorem d6_5 : decode prog_6_method_7_code 5 = .ok (.putfield 33, 3) := by decide +kernel
theorem d6_8 : decode prog_6_method_7_code 8 = .ok (.aload_n 0, 1) := by decide +kernel
theorem d6_9 : decode prog_6_method_7_code 9 = .ok (.aload_n 0, 1) := by decide +kernel
theorem d6_10 : decode prog_6_method_7_code 10 = .ok (.getfield 19, 3) := by decide +kernel
theorem d6_13 : decode prog_6_method_7_code 13 = .ok (.putfield 36, 3) := by decide +kernel
theorem d6_16 : decode prog_6_method_7_code 16 = .ok (.aload_n 0, 1) := by decide +kernel
theorem d6_17 : decode prog_6_method_7_code 17 = .ok (.iconst 0, 1) := by decide +kernel
theorem d6_18 : decode prog_6_method_7_code 18 = .ok (.putfield 48, 3) := by decide +kernel
theorem d6_21 : decode prog_6_method_7_code 21 = .ok (.aload_n 0, 1) := by decide +kernel
theorem d6_22 : decode prog_6_method_7_code 22 = .ok (.lconst 0, 1) := by decide +kernel
theorem d6_23 : decode prog_6_method_7_code 23 = .ok (.putfield 45, 3) := by decide +kernel
theorem d6_26 : decode prog_6_method_7_code 26 = .ok (.return_, 1) := by decide +kernel
theorem efA6 (m : MethodId) (xo0_ : Addr) : entryFrame m #[(.ref xo0_)] 1 = mkF m 0 #[.val (.ref xo0_)] [] := by first | (simp [entryFrame, mkF, argsToLocals, Value.category]; done) | rfl
def QA6 (Z : State) (xo0_ : Addr) (uo1_ : Addr) (uj2_ : Int64) (h0 : Heap) (n0 : Nat) (v : Option Value) (h : Heap) (L : List Loc) : Prop := v = none ∧ Fr n0 L ∧ Keep h0 h [xo0_] ∧ Exa Z h xo0_ cMM ∧ Fld Z h xo0_ cMM "tail" "[B" (.ref uo1_) ∧ Fld Z h xo0_ cMM "seed" "J" (.long uj2_) ∧ Fld Z h xo0_ cMM "h1" "J" (.long uj2_) ∧ Fld Z h xo0_ cMM "h2" "J" (.long uj2_) ∧ Fld Z h xo0_ cMM "tailLength" "I" (.int (0 : Int32)) ∧ Fld Z h xo0_ cMM "length" "J" (.long (0 : Int64))
set_option maxRecDepth 65536 in
set_option maxHeartbeats 40000000 in
theorem rmA6 (l : Launch) (Z : State) (a0 : Array Value) (hw : ∀ d ∈ tables_1, d.before a0 Z = true) (ws : List Jvm.Cond) (xo0_ : Addr) (uo1_ : Addr) (uj2_ : Int64) (h0 : Heap) (n0 : Nat) (Z0 : n0 ≤ h0.size) (E_xo0_ : Exa Z h0 xo0_ cMM) (F_tail_xo0_ : Fld Z h0 xo0_ cMM "tail" "[B" (.ref uo1_)) (F_seed_xo0_ : Fld Z h0 xo0_ cMM "seed" "J" (.long uj2_)) (F_h1_xo0_ : Fld Z h0 xo0_ cMM "h1" "J" (.long (0 : Int64))) (F_h2_xo0_ : Fld Z h0 xo0_ cMM "h2" "J" (.long (0 : Int64))) (F_tailLength_xo0_ : Fld Z h0 xo0_ cMM "tailLength" "I" (.int (0 : Int32))) (F_length_xo0_ : Fld Z h0 xo0_ cMM "length" "J" (.long (0 : Int64))) (g_xo0_ : n0 ≤ xo0_) :
  MetFree l (⟨cMM, "start", "()V"⟩ : MethodName) (head1 (Jvm.Cond.code (⟨cMM, "start", "()V"⟩ : MethodName) prog_6_method_7_code 1 none :: ws) ({ frames := 0, cells := 0, slots := 0, locals := 0 } : Room)) (fun av_ U => av_ = #[(.ref xo0_)] ∧ Z.Warmed39 U.vm ∧ U.heap = h0) (fun _ _ _ _ _ => True) (fun _ U o U' => ∃ v L, o = .returned v ∧ QA6 Z xo0_ uo1_ uj2_ h0 n0 v U'.heap L ∧ FrameEnd U o U' L ({ frames := 0, cells := 0, slots := 0, locals := 0 } : Room).cells ({ frames := 0, cells := 0, slots := 0, locals := 0 } : Room).slots) := by
 refine MetFree.of_bodySF (plainFor_of_name own_pn5) hisR ?_
 intro p e s m args below meth c s₁ Bd hml0 hP hK
 obtain ⟨rfl, hZ, hh⟩ := hP
 have hx := Bd.exec
 have hby := Bd.bytes
 have hml : c.maxLocals = 1 := hml0
 have hown : s.vm.findClass cMM = some m.cls := findClass_of_methodNamed Bd.named
 have hnm := (name_of_methodNamed Bd.named Bd.method).1
 have X0 : Stand p l e ({ frames := 0, cells := 0, slots := 0, locals := 0 } : Room) s m #[(.ref xo0_)] below meth c s₁ [] 0 0 := Stand.of_body Bd
 have e0 : s₁.heap = h0 := by rw [← hh, Bd.state]; rfl
 have N0 := Fr.nil n0
 have hlk : meth.locks = false := Bd.notSynchronized
 have pre0 : ∀ t, Steps p.tables e below (s₁.setTop (mkF m 0 #[.val (.ref xo0_)] [])) t → Steps p.tables e below (s₁.setTop (entryFrame m #[(.ref xo0_)] 1)) t := fun t k => castTop (efA6 m xo0_) k
 obtain ⟨T1, X1, e1, st1⟩ := getF X0 hx hZ hown (host := "") (Or.inl (Wd hw 31 rfl)) Via.refl e0 F_seed_xo0_ (g := (mkF m 2 #[.val (.ref xo0_)] [(.ref xo0_), (.ref xo0_)])) rfl rfl (hb hby d6_2)
 obtain ⟨T2, h2, X2, e2, W2, st2⟩ := putF X1 hx hZ hown (host := "") (Or.inl (Wd hw 37 rfl)) Via.refl e1 F_h1_xo0_ E_xo0_ (Or.inl (Wd hw 38 rfl)) (Wd hw 18 rfl) (ty := .long) (by decide) rfl rfl (g := (mkF m 5 #[.val (.ref xo0_)] [(.long uj2_), (.ref xo0_)])) rfl rfl (hb hby d6_5)
 have F2 : Fld Z h2 xo0_ cMM "h1" "J" (.long uj2_) := Fld.same W2 F_h1_xo0_
 have K2 : Keep h0 h2 [xo0_] := (Keep.refl h0 [xo0_]).wr W2 (Or.inl (List.mem_of_getElem? (i := 0) rfl))
 have Zs2 : n0 ≤ h2.size := Nat.le_trans Z0 (Keep.of_wr W2).1
 have N2 := Fr.snoc X2 N0 g_xo0_
 obtain ⟨T3, X3, e3, st3⟩ := getF X2 hx hZ hown (host := "") (Or.inl (Wd hw 31 rfl)) Via.refl e2 (Fld.other W2 F_seed_xo0_ (Or.inr (slot_ne (Or.inr (Wd hw 32 rfl)) (Or.inl (Wd hw 38 rfl)) (by decide) (t := .long) (t' := .long) (by decide) (by decide)))) (g := (mkF m 10 #[.val (.ref xo0_)] [(.ref xo0_), (.ref xo0_)])) rfl rfl (hb hby d6_10)
 obtain ⟨T4, h4, X4, e4, W4, st4⟩ := putF X3 hx hZ hown (host := "") (Or.inl (Wd hw 39 rfl)) Via.refl e3 (Fld.other W2 F_h2_xo0_ (Or.inr (slot_ne (Or.inl (Wd hw 40 rfl)) (Or.inl (Wd hw 38 rfl)) (by decide) (t := .long) (t' := .long) (by decide) (by decide)))) (E_xo0_.wr W2) (Or.inl (Wd hw 40 rfl)) (Wd hw 18 rfl) (ty := .long) (by decide) rfl rfl (g := (mkF m 13 #[.val (.ref xo0_)] [(.long uj2_), (.ref xo0_)])) rfl rfl (hb hby d6_13)
 have F4 : Fld Z h4 xo0_ cMM "h2" "J" (.long uj2_) := Fld.same W4 (Fld.other W2 F_h2_xo0_ (Or.inr (slot_ne (Or.inl (Wd hw 40 rfl)) (Or.inl (Wd hw 38 rfl)) (by decide) (t := .long) (t' := .long) (by decide) (by decide))))
 have K4 : Keep h0 h4 [xo0_] := K2.wr W4 (Or.inl (List.mem_of_getElem? (i := 0) rfl))
 have Zs4 : n0 ≤ h4.size := Nat.le_trans Zs2 (Keep.of_wr W4).1
 have N4 := Fr.snoc X4 N2 g_xo0_
 obtain ⟨T5, h5, X5, e5, W5, st5⟩ := putF X4 hx hZ hown (host := "") (Or.inl (Wd hw 41 rfl)) Via.refl e4 (Fld.other W4 (Fld.other W2 F_tailLength_xo0_ (Or.inr (slot_ne (Or.inl (Wd hw 42 rfl)) (Or.inl (Wd hw 38 rfl)) (by decide) (t := .int) (t' := .long) (by decide) (by decide)))) (Or.inr (slot_ne (Or.inl (Wd hw 42 rfl)) (Or.inl (Wd hw 40 rfl)) (by decide) (t := .int) (t' := .long) (by decide) (by decide)))) ((E_xo0_.wr W2).wr W4) (Or.inl (Wd hw 42 rfl)) (Wd hw 18 rfl) (ty := .int) (by decide) rfl rfl (g := (mkF m 18 #[.val (.ref xo0_)] [(.int (0 : Int32)), (.ref xo0_)])) rfl rfl (hb hby d6_18)
 have F5 : Fld Z h5 xo0_ cMM "tailLength" "I" (.int (0 : Int32)) := Fld.same W5 (Fld.other W4 (Fld.other W2 F_tailLength_xo0_ (Or.inr (slot_ne (Or.inl (Wd hw 42 rfl)) (Or.inl (Wd hw 38 rfl)) (by decide) (t := .int) (t' := .long) (by decide) (by decide)))) (Or.inr (slot_ne (Or.inl (Wd hw 42 rfl)) (Or.inl (Wd hw 40 rfl)) (by decide) (t := .int) (t' := .long) (by decide) (by decide))))
 have K5 : Keep h0 h5 [xo0_] := K4.wr W5 (Or.inl (List.mem_of_getElem? (i := 0) rfl))
 have Zs5 : n0 ≤ h5.size := Nat.le_trans Zs4 (Keep.of_wr W5).1
 have N5 := Fr.snoc X5 N4 g_xo0_
 obtain ⟨T6, h6, X6, e6, W6, st6⟩ := putF X5 hx hZ hown (host := "") (Or.inl (Wd hw 43 rfl)) Via.refl e5 (Fld.other W5 (Fld.other W4 (Fld.other W2 F_length_xo0_ (Or.inr (slot_ne (Or.inl (Wd hw 44 rfl)) (Or.inl (Wd hw 38 rfl)) (by decide) (t := .long) (t' := .long) (by decide) (by decide)))) (Or.inr (slot_ne (Or.inl (Wd hw 44 rfl)) (Or.inl (Wd hw 40 rfl)) (by decide) (t := .long) (t' := .long) (by decide) (by decide)))) (Or.inr (slot_ne (Or.inl (Wd hw 44 rfl)) (Or.inl (Wd hw 42 rfl)) (by decide) (t := .long) (t' := .int) (by decide) (by decide)))) (((E_xo0_.wr W2).wr W4).wr W5) (Or.inl (Wd hw 44 rfl)) (Wd hw 18 rfl) (ty := .long) (by decide) rfl rfl (g := (mkF m 23 #[.val (.ref xo0_)] [(.long (0 : Int64)), (.ref xo0_)])) rfl rfl (hb hby d6_23)
 have F6 : Fld Z h6 xo0_ cMM "length" "J" (.long (0 : Int64)) := Fld.same W6 (Fld.other W5 (Fld.other W4 (Fld.other W2 F_length_xo0_ (Or.inr (slot_ne (Or.inl (Wd hw 44 rfl)) (Or.inl (Wd hw 38 rfl)) (by decide) (t := .long) (t' := .long) (by decide) (by decide)))) (Or.inr (slot_ne (Or.inl (Wd hw 44 rfl)) (Or.inl (Wd hw 40 rfl)) (by decide) (t := .long) (t' := .long) (by decide) (by decide)))) (Or.inr (slot_ne (Or.inl (Wd hw 44 rfl)) (Or.inl (Wd hw 42 rfl)) (by decide) (t := .long) (t' := .int) (by decide) (by decide))))
 have K6 : Keep h0 h6 [xo0_] := K5.wr W6 (Or.inl (List.mem_of_getElem? (i := 0) rfl))
 have Zs6 : n0 ≤ h6.size := Nat.le_trans Zs5 (Keep.of_wr W6).1
 have N6 := Fr.snoc X6 N5 g_xo0_
 obtain ⟨fs, hr, hrun, hended, hW, hsame⟩ := X6.leave (v := none) (fun _ => rfl) hlk
 refine ⟨_, _, (pre0 _ ?_), hrun, hended, _, _, rfl, ?_, ⟨_, rfl⟩, hW, hsame.mono (by decide) (by decide)⟩
 ·show Steps p.tables e below (s₁.setTop (mkF m 0 #[.val (.ref xo0_)] [])) _
  refine XS.aloadN X0.here hx rfl (hb hby d6_0) rfl rfl ?_
  refine XS.aloadN X0.here hx rfl (hb hby d6_1) rfl rfl ?_
  refine st1 _ ?_
  refine st2 _ ?_
  refine XS.aloadN X2.here hx rfl (hb hby d6_8) rfl rfl ?_
  refine XS.aloadN X2.here hx rfl (hb hby d6_9) rfl rfl ?_
  refine st3 _ ?_
  refine st4 _ ?_
  refine XS.aloadN X4.here hx rfl (hb hby d6_16) rfl rfl ?_
  refine XS.iconst X4.here hx rfl (hb hby d6_17) ?_
  refine st5 _ ?_
  refine XS.aloadN X5.here hx rfl (hb hby d6_21) rfl rfl ?_
  refine XS.lconst X5.here hx rfl (hb hby d6_22) ?_
  refine st6 _ ?_
  exact X6.returnOut hx Bd.returns (hb hby d6_26) hr
 ·show QA6 Z xo0_ uo1_ uj2_ h0 n0 _ T6.heap _
  rw [e6]
  exact ⟨rfl, N6, K6, ((((E_xo0_.wr W2).wr W4).wr W5).wr W6), (Fld.other W6 (Fld.other W5 (Fld.other W4 (Fld.other W2 F_tail_xo0_ (Or.inr (slot_ne (Or.inr (Wd hw 25 rfl)) (Or.inl (Wd hw 38 rfl)) (by decide) (t := (.array .byte)) (t' := .long) (by decide) (by decide)))) (Or.inr (slot_ne (Or.inr (Wd hw 25 rfl)) (Or.inl (Wd hw 40 rfl)) (by decide) (t := (.array .byte)) (t' := .long) (by decide) (by decide)))) (Or.inr (slot_ne (Or.inr (Wd hw 25 rfl)) (Or.inl (Wd hw 42 rfl)) (by decide) (t := (.array .byte)) (t' := .int) (by decide) (by decide)))) (Or.inr (slot_ne (Or.inr (Wd hw 25 rfl)) (Or.inl (Wd hw 44 rfl)) (by decide) (t := (.array .byte)) (t' := .long) (by decide) (by decide)))), (Fld.other W6 (Fld.other W5 (Fld.other W4 (Fld.other W2 F_seed_xo0_ (Or.inr (slot_ne (Or.inr (Wd hw 32 rfl)) (Or.inl (Wd hw 38 rfl)) (by decide) (t := .long) (t' := .long) (by decide) (by decide)))) (Or.inr (slot_ne (Or.inr (Wd hw 32 rfl)) (Or.inl (Wd hw 40 rfl)) (by decide) (t := .long) (t' := .long) (by decide) (by decide)))) (Or.inr (slot_ne (Or.inr (Wd hw 32 rfl)) (Or.inl (Wd hw 42 rfl)) (by decide) (t := .long) (t' := .int) (by decide) (by decide)))) (Or.inr (slot_ne (Or.inr (Wd hw 32 rfl)) (Or.inl (Wd hw 44 rfl)) (by decide) (t := .long) (t' := .long) (by decide) (by decide)))), (Fld.other W6 (Fld.other W5 (Fld.other W4 F2 (Or.inr (slot_ne (Or.inl (Wd hw 38 rfl)) (Or.inl (Wd hw 40 rfl)) (by decide) (t := .long) (t' := .long) (by decide) (by decide)))) (Or.inr (slot_ne (Or.inl (Wd hw 38 rfl)) (Or.inl (Wd hw 42 rfl)) (by decide) (t := .long) (t' := .int) (by decide) (by decide)))) (Or.inr (slot_ne (Or.inl (Wd hw 38 rfl)) (Or.inl (Wd hw 44 rfl)) (by decide) (t := .long) (t' := .long) (by decide) (by decide)))), (Fld.other W6 (Fld.other W5 F4 (Or.inr (slot_ne (Or.inl (Wd hw 40 rfl)) (Or.inl (Wd hw 42 rfl)) (by decide) (t := .long) (t' := .int) (by decide) (by decide)))) (Or.inr (slot_ne (Or.inl (Wd hw 40 rfl)) (Or.inl (Wd hw 44 rfl)) (by decide) (t := .long) (t' := .long) (by decide) (by decide)))), (Fld.other W6 F5 (Or.inr (slot_ne (Or.inl (Wd hw 42 rfl)) (Or.inl (Wd hw 44 rfl)) (by decide) (t := .int) (t' := .long) (by decide) (by decide)))), F6⟩
theorem own_pd12 : parseMethodDescriptor "()V" = some ⟨[], none⟩ := by decide +kernel
theorem d4_0 : decode prog_6_method_1_code 0 = .ok (.aload_n 0, 1) := by decide +kernel
theorem d4_1 : decode prog_6_method_1_code 1 = .ok (.invokespecial 1, 3) := by decide +kernel
theorem d4_4 : decode prog_6_method_1_code 4 = .ok (.aload_n 0, 1) := by decide +kernel
theorem d4_5 : decode prog_6_method_1_code 5 = .ok (.bipush 16, 2) := by decide +kernel
theorem d4_7 : decode prog_6_method_1_code 7 = .ok (.newarray .byte, 2) := by decide +kernel
theorem d4_9 : decode prog_6_method_1_code 9 = .ok (.putfield 9, 3) := by decide +kernel
theorem d4_12 : decode prog_6_method_1_code 12 = .ok (.aload_n 0, 1) := by decide +kernel
theorem d4_13 : decode prog_6_method_1_code 13 = .ok (.iload_n 1, 1) := by decide +kernel
theorem d4_14 : decode prog_6_method_1_code 14 = .ok (.invokestatic 13, 3) := by decide +kernel
theorem d4_17 : decode prog_6_method_1_code 17 = .ok (.putfield 19, 3) := by decide +kernel
theorem d4_20 : decode prog_6_method_1_code 20 = .ok (.aload_n 0, 1) := by decide +kernel
theorem d4_21 : decode prog_6_method_1_code 21 = .ok (.invokevirtual 23, 3) := by decide +kernel
theorem d4_24 : decode prog_6_method_1_code 24 = .ok (.return_, 1) := by decide +kernel
theorem efA4 (m : MethodId) (xo0_ : Addr) (xi1_ : Int32) : entryFrame m #[(.ref xo0_), (.int xi1_)] 2 = mkF m 0 #[.val (.ref xo0_), .val (.int xi1_)] [] := by first | (simp [entryFrame, mkF, argsToLocals, Value.category]; done) | rfl
def QA4 (Z : State) (xo0_ : Addr) (xi1_ : Int32) (h0 : Heap) (n0 : Nat) (v : Option Value) (h : Heap) (L : List Loc) : Prop := ∃ fb2 : Addr, ∃ k_fb2 : ClassId, v = none ∧ Fr n0 L ∧ Keep h0 h [xo0_] ∧ n0 ≤ fb2 ∧ h0.size ≤ fb2 ∧ Exa Z h xo0_ cMM ∧ Fld Z h xo0_ cMM "tail" "[B" (.ref fb2) ∧ Fld Z h xo0_ cMM "seed" "J" (.long ((xi1_.toInt64) &&& (4294967295 : Int64))) ∧ Fld Z h xo0_ cMM "h1" "J" (.long ((xi1_.toInt64) &&& (4294967295 : Int64))) ∧ Fld Z h xo0_ cMM "h2" "J" (.long ((xi1_.toInt64) &&& (4294967295 : Int64))) ∧ Fld Z h xo0_ cMM "tailLength" "I" (.int (0 : Int32)) ∧ Fld Z h xo0_ cMM "length" "J" (.long (0 : Int64)) ∧ Arv Z h fb2 k_fb2 .byte (16 : Int32) [(.int (0 : Int32)), (.int (0 : Int32)), (.int (0 : Int32)), (.int (0 : Int32)), (.int (0 : Int32)), (.int (0 : Int32)), (.int (0 : Int32)), (.int (0 : Int32)), (.int (0 : Int32)), (.int (0 : Int32)), (.int (0 : Int32)), (.int (0 : Int32)), (.int (0 : Int32)), (.int (0 : Int32)), (.int (0 : Int32)), (.int (0 : Int32))] (.int (0 : Int32))
set_option maxRecDepth 65536 in
set_option maxHeartbeats 40000000 in
theorem rmA4 (l : Launch) (Z : State) (a0 : Array Value) (hw : ∀ d ∈ tables_1, d.before a0 Z = true) (ws : List Jvm.Cond) (xo0_ : Addr) (xi1_ : Int32) (h0 : Heap) (n0 : Nat) (Z0 : n0 ≤ h0.size) (E_xo0_ : Exa Z h0 xo0_ cMM) (F_tail_xo0_ : Fld Z h0 xo0_ cMM "tail" "[B" .null) (F_seed_xo0_ : Fld Z h0 xo0_ cMM "seed" "J" (.long (0 : Int64))) (F_h1_xo0_ : Fld Z h0 xo0_ cMM "h1" "J" (.long (0 : Int64))) (F_h2_xo0_ : Fld Z h0 xo0_ cMM "h2" "J" (.long (0 : Int64))) (F_tailLength_xo0_ : Fld Z h0 xo0_ cMM "tailLength" "I" (.int (0 : Int32))) (F_length_xo0_ : Fld Z h0 xo0_ cMM "length" "J" (.long (0 : Int64))) (g_xo0_ : n0 ≤ xo0_) :
  MetFree l (⟨cMM, "<init>", "(I)V"⟩ : MethodName) (head1 (Jvm.Cond.code (⟨cMM, "<init>", "(I)V"⟩ : MethodName) prog_6_method_1_code 2 none :: ws) ({ frames := 1, cells := 1, slots := 16, locals := 13 } : Room)) (fun av_ U => av_ = #[(.ref xo0_), (.int xi1_)] ∧ Z.Warmed39 U.vm ∧ U.heap = h0) (fun _ _ _ _ _ => True) (fun _ U o U' => ∃ v L, o = .returned v ∧ QA4 Z xo0_ xi1_ h0 n0 v U'.heap L ∧ FrameEnd U o U' L ({ frames := 1, cells := 1, slots := 16, locals := 13 } : Room).cells ({ frames := 1, cells := 1, slots := 16, locals := 13 } : Room).slots) := by
 refine MetFree.of_bodySF (plainFor_of_name own_pn5) hisR ?_
 intro p e s m args below meth c s₁ Bd hml0 hP hK
 obtain ⟨rfl, hZ, hh⟩ := hP
 have hx := Bd.exec
 have hby := Bd.bytes
 have hml : c.maxLocals = 2 := hml0
 have hown : s.vm.findClass cMM = some m.cls := findClass_of_methodNamed Bd.named
 have hnm := (name_of_methodNamed Bd.named Bd.method).1
 have X0 : Stand p l e ({ frames := 1, cells := 1, slots := 16, locals := 13 } : Room) s m #[(.ref xo0_), (.int xi1_)] below meth c s₁ [] 0 0 := Stand.of_body Bd
 have e0 : s₁.heap = h0 := by rw [← hh, Bd.state]; rfl
 have N0 := Fr.nil n0
 have hlk : meth.locks = false := Bd.notSynchronized
 have pre0 : ∀ t, Steps p.tables e below (s₁.setTop (mkF m 0 #[.val (.ref xo0_), .val (.int xi1_)] [])) t → Steps p.tables e below (s₁.setTop (entryFrame m #[(.ref xo0_), (.int xi1_)] 2)) t := fun t k => castTop (efA4 m xo0_ xi1_) k
 obtain ⟨T1, X1, e1, st1⟩ := initO X0 hx hZ hown (Wd hw 23 rfl) (Wd hw 13 rfl) (Wd hw 14 rfl) e0 (g := (mkF m 1 #[.val (.ref xo0_), .val (.int xi1_)] [(.ref xo0_)])) rfl (by rw [hml]; rfl) rfl (hb hby d4_1) (by decide) (W := 0) (by show 2 * 0 + _ ≤ _; exact Nat.le_of_eq rfl) (by decide)
 obtain ⟨T2, h2, k2, X2, e2, E2, A2, st2⟩ := newP X1 hx hZ (Wd hw 0 rfl) e1 (g := (mkF m 7 #[.val (.ref xo0_), .val (.int xi1_)] [(.int (16 : Int32)), (.ref xo0_)])) rfl (hb hby d4_7) rfl (by decide) (cap := 16) (by decide) (by decide) (by decide) (by decide)
 obtain ⟨b2, g2⟩ : ∃ z, z = h0.size := ⟨_, rfl⟩
 rw [← g2] at A2 st2
 have g_b2 : n0 ≤ b2 := Nat.le_trans Z0 (Nat.le_of_eq g2.symm)
 have sz_b2 : h0.size ≤ b2 := Nat.le_trans (Keep.refl h0 [xo0_]).1 (Nat.le_of_eq g2.symm)
 have K2 : Keep h0 h2 [xo0_] := (Keep.refl h0 [xo0_]).ext E2
 have Zs2 : n0 ≤ h2.size := Nat.le_trans Z0 E2.1
 have V2 : Arv Z h2 b2 k2 .byte (16 : Int32) [(.int (0 : Int32)), (.int (0 : Int32)), (.int (0 : Int32)), (.int (0 : Int32)), (.int (0 : Int32)), (.int (0 : Int32)), (.int (0 : Int32)), (.int (0 : Int32)), (.int (0 : Int32)), (.int (0 : Int32)), (.int (0 : Int32)), (.int (0 : Int32)), (.int (0 : Int32)), (.int (0 : Int32)), (.int (0 : Int32)), (.int (0 : Int32))] (.int (0 : Int32)) := (Arv.new A2 (by decide)).pad (pad_rep [] (.int (0 : Int32)) 16)
 obtain ⟨T3, h3, X3, e3, W3, st3⟩ := putF X2 hx hZ hown (host := "") (Or.inl (Wd hw 24 rfl)) Via.refl e2 (F_tail_xo0_.ext E2) (E_xo0_.ext E2) (Or.inr ⟨(Wd hw 25 rfl), rfl, hnm⟩) (Wd hw 18 rfl) (ty := (.array .byte)) (by decide) rfl rfl (g := (mkF m 9 #[.val (.ref xo0_), .val (.int xi1_)] [(.ref b2), (.ref xo0_)])) rfl rfl (hb hby d4_9)
 have F3 : Fld Z h3 xo0_ cMM "tail" "[B" (.ref b2) := Fld.same W3 (F_tail_xo0_.ext E2)
 have K3 : Keep h0 h3 [xo0_] := K2.wr W3 (Or.inl (List.mem_of_getElem? (i := 0) rfl))
 have Zs3 : n0 ≤ h3.size := Nat.le_trans Zs2 (Keep.of_wr W3).1
 have N3 := Fr.snoc X3 N0 g_xo0_
 obtain ⟨_, _, ⟨T4, L4, k4, n4⟩, -, X4, ⟨Lc4, hQ4, l4, y4, z4⟩, st4⟩ := Jvm.LawKit.callS X3 hx (y := (⟨"java/lang/Integer", "toUnsignedLong", "(I)J"⟩ : MethodName)) hown (mvT hZ (Wd hw 26 rfl)) (mvT hZ (Wd hw 27 rfl)) (mvT hZ (Wd hw 28 rfl)) (mvT hZ (Wd hw 29 rfl)) (by decide) (backOf (W := 1) (rmA5 l Z a0 hw [] xi1_ h3 n0 Zs3 ) hZ (Wd hw 29 rfl) (Wd hw 28 rfl) (by decide) (by decide)) (g := (mkF m 14 #[.val (.ref xo0_), .val (.int xi1_)] [(.int xi1_), (.ref xo0_)])) rfl (by rw [hml]; rfl) (argsL := [(.int xi1_)]) (rest := [(.ref xo0_)]) (lenOf own_pd11 rfl) rfl (by show 2 * 0 + _ ≤ _; exact Nat.le_of_eq rfl) (hb hby d4_14) (fun _ _ => ⟨rfl, e3, (by decide : 1 + 0 ≤ _), (by decide : 16 + 0 ≤ _)⟩)
 dsimp only [Pt.U, Pt.locs, Pt.cells, Pt.slots] at X4 l4 y4 z4 st4 hQ4
 subst l4 y4 z4
 obtain ⟨rfl, Nq4, e4⟩ := hQ4
 have N4 := Fr.app N3 Nq4
 obtain ⟨T5, h5, X5, e5, W5, st5⟩ := putF X4 hx hZ hown (host := "") (Or.inl (Wd hw 31 rfl)) Via.refl e4 (Fld.other W3 (F_seed_xo0_.ext E2) (Or.inr (slot_ne (Or.inr (Wd hw 32 rfl)) (Or.inr (Wd hw 25 rfl)) (by decide) (t := .long) (t' := (.array .byte)) (by decide) (by decide)))) ((E_xo0_.ext E2).wr W3) (Or.inr ⟨(Wd hw 32 rfl), rfl, hnm⟩) (Wd hw 18 rfl) (ty := .long) (by decide) rfl rfl (g := (mkF m 17 #[.val (.ref xo0_), .val (.int xi1_)] [(.long ((xi1_.toInt64) &&& (4294967295 : Int64))), (.ref xo0_)])) rfl rfl (hb hby d4_17)
 have F5 : Fld Z h5 xo0_ cMM "seed" "J" (.long ((xi1_.toInt64) &&& (4294967295 : Int64))) := Fld.same W5 (Fld.other W3 (F_seed_xo0_.ext E2) (Or.inr (slot_ne (Or.inr (Wd hw 32 rfl)) (Or.inr (Wd hw 25 rfl)) (by decide) (t := .long) (t' := (.array .byte)) (by decide) (by decide))))
 have K5 : Keep h0 h5 [xo0_] := K3.wr W5 (Or.inl (List.mem_of_getElem? (i := 0) rfl))
 have Zs5 : n0 ≤ h5.size := Nat.le_trans Zs3 (Keep.of_wr W5).1
 have N5 := Fr.snoc X5 N4 g_xo0_
 obtain ⟨cq6, qa6, qb6⟩ := (((E_xo0_.ext E2).wr W3).wr W5).cell
 obtain ⟨_, _, ⟨T6, L6, k6, n6⟩, -, X6, ⟨Lc6, hQ6, l6, y6, z6⟩, st6⟩ := X5.privateBack hx (y := (⟨cMM, "start", "()V"⟩ : MethodName)) hown (mvT hZ (Wd hw 33 rfl)) (mvT hZ (Wd hw 34 rfl)) (selfInst hZ (Wd hw 18 rfl) (Wd hw 34 rfl) (Wd hw 35 rfl) (by decide)) (Cond.privateMethod_at (mvP hZ (Wd hw 35 rfl) (args := #[]))) (mvT hZ (Wd hw 36 rfl)) (by decide) (backOf (W := 0) (rmA6 l Z a0 hw [] xo0_ b2 ((xi1_.toInt64) &&& (4294967295 : Int64)) h5 n0 Zs5 (((E_xo0_.ext E2).wr W3).wr W5) (Fld.other W5 F3 (Or.inr (slot_ne (Or.inr (Wd hw 25 rfl)) (Or.inr (Wd hw 32 rfl)) (by decide) (t := (.array .byte)) (t' := .long) (by decide) (by decide)))) F5 (Fld.other W5 (Fld.other W3 (F_h1_xo0_.ext E2) (Or.inr (slot_ne (Or.inl (Wd hw 38 rfl)) (Or.inr (Wd hw 25 rfl)) (by decide) (t := .long) (t' := (.array .byte)) (by decide) (by decide)))) (Or.inr (slot_ne (Or.inl (Wd hw 38 rfl)) (Or.inr (Wd hw 32 rfl)) (by decide) (t := .long) (t' := .long) (by decide) (by decide)))) (Fld.other W5 (Fld.other W3 (F_h2_xo0_.ext E2) (Or.inr (slot_ne (Or.inl (Wd hw 40 rfl)) (Or.inr (Wd hw 25 rfl)) (by decide) (t := .long) (t' := (.array .byte)) (by decide) (by decide)))) (Or.inr (slot_ne (Or.inl (Wd hw 40 rfl)) (Or.inr (Wd hw 32 rfl)) (by decide) (t := .long) (t' := .long) (by decide) (by decide)))) (Fld.other W5 (Fld.other W3 (F_tailLength_xo0_.ext E2) (Or.inr (slot_ne (Or.inl (Wd hw 42 rfl)) (Or.inr (Wd hw 25 rfl)) (by decide) (t := .int) (t' := (.array .byte)) (by decide) (by decide)))) (Or.inr (slot_ne (Or.inl (Wd hw 42 rfl)) (Or.inr (Wd hw 32 rfl)) (by decide) (t := .int) (t' := .long) (by decide) (by decide)))) (Fld.other W5 (Fld.other W3 (F_length_xo0_.ext E2) (Or.inr (slot_ne (Or.inl (Wd hw 44 rfl)) (Or.inr (Wd hw 25 rfl)) (by decide) (t := .long) (t' := (.array .byte)) (by decide) (by decide)))) (Or.inr (slot_ne (Or.inl (Wd hw 44 rfl)) (Or.inr (Wd hw 32 rfl)) (by decide) (t := .long) (t' := .long) (by decide) (by decide)))) g_xo0_) hZ (Wd hw 36 rfl) (Wd hw 19 rfl) (by decide) (by decide)) (g := (mkF m 21 #[.val (.ref xo0_), .val (.int xi1_)] [(.ref xo0_)])) rfl (by rw [hml]; rfl) (Steps.refl _) (a := xo0_) (by rw [e5]; exact qa6) qb6 (argsL := []) (rest := []) (lenOf own_pd12 rfl) rfl (by show 2 * 0 + _ ≤ _; exact Nat.le_of_eq rfl) (hb hby d4_21) (fun _ _ => ⟨rfl, e5, (by decide : 1 + 0 ≤ _), (by decide : 16 + 0 ≤ _)⟩)
 dsimp only [Pt.U, Pt.locs, Pt.cells, Pt.slots] at X6 l6 y6 z6 st6 hQ6
 subst l6 y6 z6
 obtain ⟨rfl, Nq6, Kc6, q6_0, q6_1, q6_2, q6_3, q6_4, q6_5, q6_6⟩ := hQ6
 have K6 : Keep h0 T6.heap [xo0_] := Keep.trans K5 Kc6 (allS (Or.inl (List.mem_of_getElem? (i := 0) rfl)) all0)
 have Zs6 : n0 ≤ T6.heap.size := Nat.le_trans Zs5 Kc6.1
 have N6 := Fr.app N5 Nq6
 obtain ⟨fs, hr, hrun, hended, hW, hsame⟩ := X6.leave (v := none) (fun _ => rfl) hlk
 refine ⟨_, _, (pre0 _ ?_), hrun, hended, _, _, rfl, ?_, ⟨_, rfl⟩, hW, hsame.mono (by decide) (by decide)⟩
 ·show Steps p.tables e below (s₁.setTop (mkF m 0 #[.val (.ref xo0_), .val (.int xi1_)] [])) _
  refine XS.aloadN X0.here hx rfl (hb hby d4_0) rfl rfl ?_
  refine st1 _ ?_
  refine XS.aloadN X1.here hx rfl (hb hby d4_4) rfl rfl ?_
  refine XS.bipush X1.here hx rfl (hb hby d4_5) ?_
  refine st2 _ ?_
  refine st3 _ ?_
  refine XS.aloadN X3.here hx rfl (hb hby d4_12) rfl rfl ?_
  refine XS.iloadN X3.here hx rfl (hb hby d4_13) rfl ?_
  refine st4 _ ?_
  refine st5 _ ?_
  refine XS.aloadN X5.here hx rfl (hb hby d4_20) rfl rfl ?_
  refine st6.trans ?_
  exact X6.returnOut hx Bd.returns (hb hby d4_24) hr
 ·show QA4 Z xo0_ xi1_ h0 n0 _ T6.heap _
  exact ⟨b2, k2, rfl, N6, K6, g_b2, sz_b2, q6_0, q6_1, q6_2, q6_3, q6_4, q6_5, q6_6, (((V2.other W3 (Ne.symm ((nlt E_xo0_.lt (Nat.le_of_eq g2.symm))))).other W5 (Ne.symm ((nlt E_xo0_.lt (Nat.le_of_eq g2.symm))))).keep Kc6 (ninS (Ne.symm ((nlt E_xo0_.lt (Nat.le_of_eq g2.symm)))) nin0))⟩
theorem own_pd13 : parseMethodDescriptor "(I)V" = some ⟨[.int], none⟩ := by decide +kernel
theorem own_pn6 : plainName cSK = true := by first | (simp [plainName, overriddenIn]; done) | decide +kernel
theorem d2_0 : decode prog_12_method_1_code 0 = .ok (.aload_n 0, 1) := by decide +kernel
theorem d2_1 : decode prog_12_method_1_code 1 = .ok (.invokespecial 1, 3) := by decide +kernel
theorem d2_4 : decode prog_12_method_1_code 4 = .ok (.aload_n 0, 1) := by decide +kernel
theorem d2_5 : decode prog_12_method_1_code 5 = .ok (.iload_n 1, 1) := by decide +kernel
theorem d2_6 : decode prog_12_method_1_code 6 = .ok (.putfield 7, 3) := by decide +kernel
theorem d2_9 : decode prog_12_method_1_code 9 = .ok (.aload_n 0, 1) := by decide +kernel
theorem d2_10 : decode prog_12_method_1_code 10 = .ok (.new 13, 3) := by decide +kernel
theorem d2_13 : decode prog_12_method_1_code 13 = .ok (.dup, 1) := by decide +kernel
theorem d2_14 : decode prog_12_method_1_code 14 = .ok (.iload_n 1, 1) := by decide +kernel
theorem d2_15 : decode prog_12_method_1_code 15 = .ok (.invokespecial 15, 3) := by decide +kernel
theorem d2_18 : decode prog_12_method_1_code 18 = .ok (.putfield 18, 3) := by decide +kernel
theorem d2_21 : decode prog_12_method_1_code 21 = .ok (.return_, 1) := by decide +kernel
theorem efA3 (m : MethodId) (xo0_ : Addr) (xi1_ : Int32) : entryFrame m #[(.ref xo0_), (.int xi1_)] 2 = mkF m 0 #[.val (.ref xo0_), .val (.int xi1_)] [] := by first | (simp [entryFrame, mkF, argsToLocals, Value.category]; done) | rfl
def QA3 (Z : State) (xo0_ : Addr) (xi1_ : Int32) (h0 : Heap) (n0 : Nat) (v : Option Value) (h : Heap) (L : List Loc) : Prop := ∃ fb3 : Addr, ∃ ffb2_4 : Addr, ∃ k_ffb2_4 : ClassId, v = none ∧ Fr n0 L ∧ Keep h0 h [xo0_] ∧ n0 ≤ fb3 ∧ h0.size ≤ fb3 ∧ n0 ≤ ffb2_4 ∧ h0.size ≤ ffb2_4 ∧ fb3 ≠ ffb2_4 ∧ Exa Z h xo0_ cRE ∧ Fld Z h xo0_ cSK "seed" "I" (.int xi1_) ∧ Fld Z h xo0_ cSK "hasher" "Lcom/example/tallysketch/tallysketch/MurmurHash3;" (.ref fb3) ∧ Fld Z h xo0_ cRE "kept" "Lcom/example/tallysketch/tallysketch/LargestHashes;" .null ∧ Fld Z h xo0_ cRE "items" "[[B" .null ∧ Fld Z h xo0_ cRE "counts" "[J" .null ∧ Fld Z h xo0_ cRE "records" "J" (.long (0 : Int64)) ∧ Exa Z h fb3 cMM ∧ Fld Z h fb3 cMM "tail" "[B" (.ref ffb2_4) ∧ Fld Z h fb3 cMM "seed" "J" (.long ((xi1_.toInt64) &&& (4294967295 : Int64))) ∧ Fld Z h fb3 cMM "h1" "J" (.long ((xi1_.toInt64) &&& (4294967295 : Int64))) ∧ Fld Z h fb3 cMM "h2" "J" (.long ((xi1_.toInt64) &&& (4294967295 : Int64))) ∧ Fld Z h fb3 cMM "tailLength" "I" (.int (0 : Int32)) ∧ Fld Z h fb3 cMM "length" "J" (.long (0 : Int64)) ∧ Arv Z h ffb2_4 k_ffb2_4 .byte (16 : Int32) [(.int (0 : Int32)), (.int (0 : Int32)), (.int (0 : Int32)), (.int (0 : Int32)), (.int (0 : Int32)), (.int (0 : Int32)), (.int (0 : Int32)), (.int (0 : Int32)), (.int (0 : Int32)), (.int (0 : Int32)), (.int (0 : Int32)), (.int (0 : Int32)), (.int (0 : Int32)), (.int (0 : Int32)), (.int (0 : Int32)), (.int (0 : Int32))] (.int (0 : Int32))
set_option maxRecDepth 65536 in
set_option maxHeartbeats 40000000 in
theorem rmA3 (l : Launch) (Z : State) (a0 : Array Value) (hw : ∀ d ∈ tables_1, d.before a0 Z = true) (ws : List Jvm.Cond) (xo0_ : Addr) (xi1_ : Int32) (h0 : Heap) (n0 : Nat) (Z0 : n0 ≤ h0.size) (E_xo0_ : Exa Z h0 xo0_ cRE) (F_seed_xo0_ : Fld Z h0 xo0_ cSK "seed" "I" (.int (0 : Int32))) (F_hasher_xo0_ : Fld Z h0 xo0_ cSK "hasher" "Lcom/example/tallysketch/tallysketch/MurmurHash3;" .null) (F_kept_xo0_ : Fld Z h0 xo0_ cRE "kept" "Lcom/example/tallysketch/tallysketch/LargestHashes;" .null) (F_items_xo0_ : Fld Z h0 xo0_ cRE "items" "[[B" .null) (F_counts_xo0_ : Fld Z h0 xo0_ cRE "counts" "[J" .null) (F_records_xo0_ : Fld Z h0 xo0_ cRE "records" "J" (.long (0 : Int64))) (g_xo0_ : n0 ≤ xo0_) :
  MetFree l (⟨cSK, "<init>", "(I)V"⟩ : MethodName) (head1 (Jvm.Cond.code (⟨cSK, "<init>", "(I)V"⟩ : MethodName) prog_12_method_1_code 2 none :: ws) ({ frames := 2, cells := 2, slots := 22, locals := 28 } : Room)) (fun av_ U => av_ = #[(.ref xo0_), (.int xi1_)] ∧ Z.Warmed39 U.vm ∧ U.heap = h0) (fun _ _ _ _ _ => True) (fun _ U o U' => ∃ v L, o = .returned v ∧ QA3 Z xo0_ xi1_ h0 n0 v U'.heap L ∧ FrameEnd U o U' L ({ frames := 2, cells := 2, slots := 22, locals := 28 } : Room).cells ({ frames := 2, cells := 2, slots := 22, locals := 28 } : Room).slots) := by
 refine MetFree.of_bodySF (plainFor_of_name own_pn6) hisR ?_
 intro p e s m args below meth c s₁ Bd hml0 hP hK
 obtain ⟨rfl, hZ, hh⟩ := hP
 have hx := Bd.exec
 have hby := Bd.bytes
 have hml : c.maxLocals = 2 := hml0
 have hown : s.vm.findClass cSK = some m.cls := findClass_of_methodNamed Bd.named
 have hnm := (name_of_methodNamed Bd.named Bd.method).1
 have X0 : Stand p l e ({ frames := 2, cells := 2, slots := 22, locals := 28 } : Room) s m #[(.ref xo0_), (.int xi1_)] below meth c s₁ [] 0 0 := Stand.of_body Bd
 have e0 : s₁.heap = h0 := by rw [← hh, Bd.state]; rfl
 have N0 := Fr.nil n0
 have hlk : meth.locks = false := Bd.notSynchronized
 have pre0 : ∀ t, Steps p.tables e below (s₁.setTop (mkF m 0 #[.val (.ref xo0_), .val (.int xi1_)] [])) t → Steps p.tables e below (s₁.setTop (entryFrame m #[(.ref xo0_), (.int xi1_)] 2)) t := fun t k => castTop (efA3 m xo0_ xi1_) k
 obtain ⟨T1, X1, e1, st1⟩ := initO X0 hx hZ hown (Wd hw 12 rfl) (Wd hw 13 rfl) (Wd hw 14 rfl) e0 (g := (mkF m 1 #[.val (.ref xo0_), .val (.int xi1_)] [(.ref xo0_)])) rfl (by rw [hml]; rfl) rfl (hb hby d2_1) (by decide) (W := 0) (by show 2 * 0 + _ ≤ _; exact Nat.le_of_eq rfl) (by decide)
 obtain ⟨T2, h2, X2, e2, W2, st2⟩ := putF X1 hx hZ hown (host := "") (Or.inl (Wd hw 15 rfl)) Via.refl e1 F_seed_xo0_ E_xo0_ (Or.inr ⟨(Wd hw 16 rfl), rfl, hnm⟩) (Wd hw 2 rfl) (ty := .int) (by decide) rfl rfl (g := (mkF m 6 #[.val (.ref xo0_), .val (.int xi1_)] [(.int xi1_), (.ref xo0_)])) rfl rfl (hb hby d2_6)
 have F2 : Fld Z h2 xo0_ cSK "seed" "I" (.int xi1_) := Fld.same W2 F_seed_xo0_
 have K2 : Keep h0 h2 [xo0_] := (Keep.refl h0 [xo0_]).wr W2 (Or.inl (List.mem_of_getElem? (i := 0) rfl))
 have Zs2 : n0 ≤ h2.size := Nat.le_trans Z0 (Keep.of_wr W2).1
 have N2 := Fr.snoc X2 N0 g_xo0_
 obtain ⟨T3, h3, X3, e3, E3, A3, D3, -, st3⟩ := newO X2 hx hZ hown (Wd hw 17 rfl) (Wd hw 18 rfl) (Wd hw 19 rfl) e2 (g := (mkF m 10 #[.val (.ref xo0_), .val (.int xi1_)] [(.ref xo0_)])) rfl (hb hby d2_10) (by decide) (by decide)
 obtain ⟨b3, g3⟩ : ∃ z, z = h2.size := ⟨_, rfl⟩
 rw [← g3] at A3 D3 st3
 have g_b3 : n0 ≤ b3 := Nat.le_trans Zs2 (Nat.le_of_eq g3.symm)
 have sz_b3 : h0.size ≤ b3 := Nat.le_trans K2.1 (Nat.le_of_eq g3.symm)
 have K3 : Keep h0 h3 [xo0_] := K2.ext E3
 have Zs3 : n0 ≤ h3.size := Nat.le_trans Zs2 E3.1
 have F3_tail : Fld Z h3 b3 cMM "tail" "[B" .null := D3 (Or.inr (Wd hw 25 rfl)) (ty := (.array .byte)) (by decide)
 have F3_seed : Fld Z h3 b3 cMM "seed" "J" (.long (0 : Int64)) := D3 (Or.inr (Wd hw 32 rfl)) (ty := .long) (by decide)
 have F3_h1 : Fld Z h3 b3 cMM "h1" "J" (.long (0 : Int64)) := D3 (Or.inl (Wd hw 38 rfl)) (ty := .long) (by decide)
 have F3_h2 : Fld Z h3 b3 cMM "h2" "J" (.long (0 : Int64)) := D3 (Or.inl (Wd hw 40 rfl)) (ty := .long) (by decide)
 have F3_tailLength : Fld Z h3 b3 cMM "tailLength" "I" (.int (0 : Int32)) := D3 (Or.inl (Wd hw 42 rfl)) (ty := .int) (by decide)
 have F3_length : Fld Z h3 b3 cMM "length" "J" (.long (0 : Int64)) := D3 (Or.inl (Wd hw 44 rfl)) (ty := .long) (by decide)
 obtain ⟨_, _, ⟨T4, L4, k4, n4⟩, -, X4, ⟨Lc4, hQ4, l4, y4, z4⟩, st4⟩ := X3.specialBack hx (y := (⟨cMM, "<init>", "(I)V"⟩ : MethodName)) rfl hown (mvT hZ (Wd hw 20 rfl)) (mvT hZ (Wd hw 21 rfl)) (mvT hZ (Wd hw 22 rfl)) (by decide) (backOf (W := 2) (rmA4 l Z a0 hw [] b3 xi1_ h3 n0 Zs3 A3 F3_tail F3_seed F3_h1 F3_h2 F3_tailLength F3_length g_b3) hZ (Wd hw 22 rfl) (Wd hw 19 rfl) (by decide) (by decide)) (g := (mkF m 15 #[.val (.ref xo0_), .val (.int xi1_)] [(.int xi1_), (.ref b3), (.ref b3), (.ref xo0_)])) rfl (by rw [hml]; rfl) (Steps.refl _) (a := b3) (argsL := [(.int xi1_)]) (rest := [(.ref b3), (.ref xo0_)]) (lenOf own_pd13 rfl) rfl (by show 2 * 0 + _ ≤ _; exact Nat.le_of_eq rfl) (hb hby d2_15) (fun _ _ => ⟨rfl, e3, (by decide : 1 + 1 ≤ _), (by decide : 6 + 16 ≤ _)⟩)
 dsimp only [Pt.U, Pt.locs, Pt.cells, Pt.slots] at X4 l4 y4 z4 st4 hQ4
 subst l4 y4 z4
 obtain ⟨fb2_4, k_fb2_4, rfl, Nq4, Kc4, g_fb2_4, zq_fb2_4, q4_0, q4_1, q4_2, q4_3, q4_4, q4_5, q4_6, q4_7⟩ := hQ4
 have sz_fb2_4 : h0.size ≤ fb2_4 := Nat.le_trans K3.1 zq_fb2_4
 have K4 : Keep h0 T4.heap [xo0_] := Keep.trans K3 Kc4 (allS (Or.inr sz_b3) all0)
 have Zs4 : n0 ≤ T4.heap.size := Nat.le_trans Zs3 Kc4.1
 have N4 := Fr.app N2 Nq4
 obtain ⟨T5, h5, X5, e5, W5, st5⟩ := putF X4 hx hZ hown (host := "") (Or.inl (Wd hw 45 rfl)) Via.refl rfl (((Fld.other W2 F_hasher_xo0_ (Or.inr (slot_ne (Or.inr (Wd hw 46 rfl)) (Or.inr (Wd hw 16 rfl)) (by decide) (t := (.object cMM)) (t' := .int) (by decide) (by decide)))).ext E3).keep Kc4 (ninS ((nlt (E_xo0_.wr W2).lt (Nat.le_of_eq g3.symm))) nin0)) (((E_xo0_.wr W2).ext E3).keep Kc4) (Or.inr ⟨(Wd hw 46 rfl), rfl, hnm⟩) (Wd hw 2 rfl) (ty := (.object cMM)) (by decide) rfl rfl (g := (mkF m 18 #[.val (.ref xo0_), .val (.int xi1_)] [(.ref b3), (.ref xo0_)])) rfl rfl (hb hby d2_18)
 have F5 : Fld Z h5 xo0_ cSK "hasher" "Lcom/example/tallysketch/tallysketch/MurmurHash3;" (.ref b3) := Fld.same W5 (((Fld.other W2 F_hasher_xo0_ (Or.inr (slot_ne (Or.inr (Wd hw 46 rfl)) (Or.inr (Wd hw 16 rfl)) (by decide) (t := (.object cMM)) (t' := .int) (by decide) (by decide)))).ext E3).keep Kc4 (ninS ((nlt (E_xo0_.wr W2).lt (Nat.le_of_eq g3.symm))) nin0))
 have K5 : Keep h0 h5 [xo0_] := K4.wr W5 (Or.inl (List.mem_of_getElem? (i := 0) rfl))
 have Zs5 : n0 ≤ h5.size := Nat.le_trans Zs4 (Keep.of_wr W5).1
 have N5 := Fr.snoc X5 N4 g_xo0_
 obtain ⟨fs, hr, hrun, hended, hW, hsame⟩ := X5.leave (v := none) (fun _ => rfl) hlk
 refine ⟨_, _, (pre0 _ ?_), hrun, hended, _, _, rfl, ?_, ⟨_, rfl⟩, hW, hsame.mono (by decide) (by decide)⟩
 ·show Steps p.tables e below (s₁.setTop (mkF m 0 #[.val (.ref xo0_), .val (.int xi1_)] [])) _
  refine XS.aloadN X0.here hx rfl (hb hby d2_0) rfl rfl ?_
  refine st1 _ ?_
  refine XS.aloadN X1.here hx rfl (hb hby d2_4) rfl rfl ?_
  refine XS.iloadN X1.here hx rfl (hb hby d2_5) rfl ?_
  refine st2 _ ?_
  refine XS.aloadN X2.here hx rfl (hb hby d2_9) rfl rfl ?_
  refine st3 _ ?_
  refine XS.dup X3.here hx rfl (hb hby d2_13) rfl rfl ?_
  refine XS.iloadN X3.here hx rfl (hb hby d2_14) rfl ?_
  refine st4.trans ?_
  refine st5 _ ?_
  exact X5.returnOut hx Bd.returns (hb hby d2_21) hr
 ·show QA3 Z xo0_ xi1_ h0 n0 _ T5.heap _
  rw [e5]
  exact ⟨b3, fb2_4, k_fb2_4, rfl, N5, K5, g_b3, sz_b3, g_fb2_4, sz_fb2_4, ((nlt A3.lt zq_fb2_4)), ((((E_xo0_.wr W2).ext E3).keep Kc4).wr W5), (Fld.other W5 ((F2.ext E3).keep Kc4 (ninS ((nlt (E_xo0_.wr W2).lt (Nat.le_of_eq g3.symm))) nin0)) (Or.inr (slot_ne (Or.inr (Wd hw 16 rfl)) (Or.inr (Wd hw 46 rfl)) (by decide) (t := .int) (t' := (.object cMM)) (by decide) (by decide)))), F5, (Fld.other W5 (((Fld.other W2 F_kept_xo0_ (Or.inr (slot_ne (Or.inr (Wd hw 78 rfl)) (Or.inr (Wd hw 16 rfl)) (by decide) (t := (.object cLH)) (t' := .int) (by decide) (by decide)))).ext E3).keep Kc4 (ninS ((nlt (E_xo0_.wr W2).lt (Nat.le_of_eq g3.symm))) nin0)) (Or.inr (slot_ne (Or.inr (Wd hw 78 rfl)) (Or.inr (Wd hw 46 rfl)) (by decide) (t := (.object cLH)) (t' := (.object cMM)) (by decide) (by decide)))), (Fld.other W5 (((Fld.other W2 F_items_xo0_ (Or.inr (slot_ne (Or.inr (Wd hw 82 rfl)) (Or.inr (Wd hw 16 rfl)) (by decide) (t := (.array (.array .byte))) (t' := .int) (by decide) (by decide)))).ext E3).keep Kc4 (ninS ((nlt (E_xo0_.wr W2).lt (Nat.le_of_eq g3.symm))) nin0)) (Or.inr (slot_ne (Or.inr (Wd hw 82 rfl)) (Or.inr (Wd hw 46 rfl)) (by decide) (t := (.array (.array .byte))) (t' := (.object cMM)) (by decide) (by decide)))), (Fld.other W5 (((Fld.other W2 F_counts_xo0_ (Or.inr (slot_ne (Or.inr (Wd hw 84 rfl)) (Or.inr (Wd hw 16 rfl)) (by decide) (t := (.array .long)) (t' := .int) (by decide) (by decide)))).ext E3).keep Kc4 (ninS ((nlt (E_xo0_.wr W2).lt (Nat.le_of_eq g3.symm))) nin0)) (Or.inr (slot_ne (Or.inr (Wd hw 84 rfl)) (Or.inr (Wd hw 46 rfl)) (by decide) (t := (.array .long)) (t' := (.object cMM)) (by decide) (by decide)))), (Fld.other W5 (((Fld.other W2 F_records_xo0_ (Or.inr (slot_ne (Or.inl (Wd hw 138 rfl)) (Or.inr (Wd hw 16 rfl)) (by decide) (t := .long) (t' := .int) (by decide) (by decide)))).ext E3).keep Kc4 (ninS ((nlt (E_xo0_.wr W2).lt (Nat.le_of_eq g3.symm))) nin0)) (Or.inr (slot_ne (Or.inl (Wd hw 138 rfl)) (Or.inr (Wd hw 46 rfl)) (by decide) (t := .long) (t' := (.object cMM)) (by decide) (by decide)))), (q4_0.wr W5), (Fld.other W5 q4_1 (Or.inl (Ne.symm ((nlt (E_xo0_.wr W2).lt (Nat.le_of_eq g3.symm)))))), (Fld.other W5 q4_2 (Or.inl (Ne.symm ((nlt (E_xo0_.wr W2).lt (Nat.le_of_eq g3.symm)))))), (Fld.other W5 q4_3 (Or.inl (Ne.symm ((nlt (E_xo0_.wr W2).lt (Nat.le_of_eq g3.symm)))))), (Fld.other W5 q4_4 (Or.inl (Ne.symm ((nlt (E_xo0_.wr W2).lt (Nat.le_of_eq g3.symm)))))), (Fld.other W5 q4_5 (Or.inl (Ne.symm ((nlt (E_xo0_.wr W2).lt (Nat.le_of_eq g3.symm)))))), (Fld.other W5 q4_6 (Or.inl (Ne.symm ((nlt (E_xo0_.wr W2).lt (Nat.le_of_eq g3.symm)))))), (q4_7.other W5 (Ne.symm ((nlt ((E_xo0_.wr W2).ext E3).lt zq_fb2_4))))⟩
theorem d1_0 : decode prog_7_method_1_code 0 = .ok (.aload_n 0, 1) := by decide +kernel
theorem d1_1 : decode prog_7_method_1_code 1 = .ok (.iload_n 2, 1) := by decide +kernel
theorem d1_2 : decode prog_7_method_1_code 2 = .ok (.invokespecial 5, 3) := by decide +kernel
theorem d1_5 : decode prog_7_method_1_code 5 = .ok (.iload_n 1, 1) := by decide +kernel
theorem d1_6 : decode prog_7_method_1_code 6 = .ok (.iconst 1, 1) := by decide +kernel
theorem d1_7 : decode prog_7_method_1_code 7 = .ok (.if_icmp .lt 9, 3) := by decide +kernel
theorem d1_10 : decode prog_7_method_1_code 10 = .ok (.iload_n 1, 1) := by decide +kernel
theorem d1_11 : decode prog_7_method_1_code 11 = .ok (.ldc 13, 2) := by decide +kernel
theorem d1_13 : decode prog_7_method_1_code 13 = .ok (.if_icmp .le 17, 3) := by decide +kernel
theorem d1_30 : decode prog_7_method_1_code 30 = .ok (.aload_n 0, 1) := by decide +kernel
theorem d1_31 : decode prog_7_method_1_code 31 = .ok (.new 23, 3) := by decide +kernel
theorem d1_34 : decode prog_7_method_1_code 34 = .ok (.dup, 1) := by decide +kernel
theorem d1_35 : decode prog_7_method_1_code 35 = .ok (.iload_n 1, 1) := by decide +kernel
theorem d1_36 : decode prog_7_method_1_code 36 = .ok (.invokespecial 25, 3) := by decide +kernel
theorem d1_39 : decode prog_7_method_1_code 39 = .ok (.putfield 26, 3) := by decide +kernel
theorem d1_42 : decode prog_7_method_1_code 42 = .ok (.aload_n 0, 1) := by decide +kernel
theorem d1_43 : decode prog_7_method_1_code 43 = .ok (.iload_n 1, 1) := by decide +kernel
theorem d1_44 : decode prog_7_method_1_code 44 = .ok (.anewarray 30, 3) := by decide +kernel
theorem d1_47 : decode prog_7_method_1_code 47 = .ok (.putfield 32, 3) := by decide +kernel
theorem d1_50 : decode prog_7_method_1_code 50 = .ok (.aload_n 0, 1) := by decide +kernel
theorem d1_51 : decode prog_7_method_1_code 51 = .ok (.iload_n 1, 1) := by decide +kernel
theorem d1_52 : decode prog_7_method_1_code 52 = .ok (.newarray .long, 2) := by decide +kernel
theorem d1_54 : decode prog_7_method_1_code 54 = .ok (.putfield 36, 3) := by decide +kernel
theorem d1_57 : decode prog_7_method_1_code 57 = .ok (.return_, 1) := by decide +kernel
theorem efRI (m : MethodId) (x : Addr) (kl : Int32) (se : Int32) : entryFrame m #[(.ref x), (.int kl), (.int se)] 3 = mkF m 0 #[.val (.ref x), .val (.int kl), .val (.int se)] [] := by first | (simp [entryFrame, mkF, argsToLocals, Value.category]; done) | rfl
def QRI (Z : State) (x : Addr) (kl : Int32) (se : Int32) (h0 : Heap) (n0 : Nat) (v : Option Value) (h : Heap) (L : List Loc) : Prop := ∃ lh : Addr, ∃ hp : Addr, ∃ k_hp : ClassId, ∃ sl : Addr, ∃ k_sl : ClassId, ∃ ix : Addr, ∃ k_ix : ClassId, ∃ it : Addr, ∃ k_it : ClassId, ∃ ct : Addr, ∃ k_ct : ClassId, ∃ mk : Int32, ∃ nl : Int32, v = none ∧ Fr n0 L ∧ Keep h0 h [x] ∧ n0 ≤ lh ∧ h0.size ≤ lh ∧ n0 ≤ hp ∧ h0.size ≤ hp ∧ n0 ≤ sl ∧ h0.size ≤ sl ∧ n0 ≤ ix ∧ h0.size ≤ ix ∧ n0 ≤ it ∧ h0.size ≤ it ∧ n0 ≤ ct ∧ h0.size ≤ ct ∧ lh ≠ hp ∧ lh ≠ sl ∧ lh ≠ ix ∧ lh ≠ it ∧ lh ≠ ct ∧ hp ≠ sl ∧ hp ≠ ix ∧ hp ≠ it ∧ hp ≠ ct ∧ sl ≠ ix ∧ sl ≠ it ∧ sl ≠ ct ∧ ix ≠ it ∧ ix ≠ ct ∧ it ≠ ct ∧ Exa Z h x cRE ∧ Fld Z h x cRE "kept" "Lcom/example/tallysketch/tallysketch/LargestHashes;" (.ref lh) ∧ Fld Z h x cRE "items" "[[B" (.ref it) ∧ Fld Z h x cRE "counts" "[J" (.ref ct) ∧ Fld Z h x cRE "records" "J" (.long (0 : Int64)) ∧ Exa Z h lh cLH ∧ Fld Z h lh cLH "size" "I" (.int (0 : Int32)) ∧ Fld Z h lh cLH "heap" "[J" (.ref hp) ∧ Fld Z h lh cLH "slots" "[J" (.ref sl) ∧ Fld Z h lh cLH "indices" "[I" (.ref ix) ∧ Fld Z h lh cLH "mask" "I" (.int mk) ∧ Arv Z h hp k_hp .long kl [(.long (0 : Int64)), (.long (0 : Int64)), (.long (0 : Int64))] (.long (0 : Int64)) ∧ Arv Z h sl k_sl .long nl [(.long (0 : Int64)), (.long (0 : Int64)), (.long (0 : Int64)), (.long (0 : Int64)), (.long (0 : Int64)), (.long (0 : Int64)), (.long (0 : Int64)), (.long (0 : Int64))] (.long (0 : Int64)) ∧ Arv Z h ix k_ix .int nl [(.int (-1 : Int32)), (.int (-1 : Int32)), (.int (-1 : Int32)), (.int (-1 : Int32)), (.int (-1 : Int32)), (.int (-1 : Int32)), (.int (-1 : Int32)), (.int (-1 : Int32))] (.int (0 : Int32)) ∧ Arv Z h it k_it (.array .byte) kl [.null, .null, .null] .null ∧ Arv Z h ct k_ct .long kl [(.long (0 : Int64)), (.long (0 : Int64)), (.long (0 : Int64))] (.long (0 : Int64)) ∧ own_kmn kl mk nl ∧ OvrA Z k_it .byte "[B"
set_option maxRecDepth 65536 in
set_option maxHeartbeats 40000000 in
theorem rmRI (l : Launch) (Z : State) (a0 : Array Value) (hw : ∀ d ∈ tables_1, d.before a0 Z = true) (ws : List Jvm.Cond) (x : Addr) (kl : Int32) (se : Int32) (h0 : Heap) (n0 : Nat) (Z0 : n0 ≤ h0.size) (E_x : Exa Z h0 x cRE) (F_seed_x : Fld Z h0 x cSK "seed" "I" (.int (0 : Int32))) (F_hasher_x : Fld Z h0 x cSK "hasher" "Lcom/example/tallysketch/tallysketch/MurmurHash3;" .null) (F_kept_x : Fld Z h0 x cRE "kept" "Lcom/example/tallysketch/tallysketch/LargestHashes;" .null) (F_items_x : Fld Z h0 x cRE "items" "[[B" .null) (F_counts_x : Fld Z h0 x cRE "counts" "[J" .null) (F_records_x : Fld Z h0 x cRE "records" "J" (.long (0 : Int64))) (g_x : n0 ≤ x) (hk : own_k3 kl) :
  MetFree l (⟨cRE, "<init>", "(II)V"⟩ : MethodName) (head1 (Jvm.Cond.code (⟨cRE, "<init>", "(II)V"⟩ : MethodName) prog_7_method_1_code 3 none :: ws) ({ frames := 6, cells := 8, slots := 60, locals := 150 } : Room)) (fun av_ U => av_ = #[(.ref x), (.int kl), (.int se)] ∧ Z.Warmed39 U.vm ∧ U.heap = h0) (fun _ _ _ _ _ => True) (fun _ U o U' => ∃ v L, o = .returned v ∧ QRI Z x kl se h0 n0 v U'.heap L ∧ FrameEnd U o U' L ({ frames := 6, cells := 8, slots := 60, locals := 150 } : Room).cells ({ frames := 6, cells := 8, slots := 60, locals := 150 } : Room).slots) := by
 refine MetFree.of_bodySF (plainFor_of_name own_pn3) hisR ?_
 intro p e s m args below meth c s₁ Bd hml0 hP hK
 obtain ⟨rfl, hZ, hh⟩ := hP
 have hx := Bd.exec
 have hby := Bd.bytes
 have hml : c.maxLocals = 3 := hml0
 have hown : s.vm.findClass cRE = some m.cls := findClass_of_methodNamed Bd.named
 have hnm := (name_of_methodNamed Bd.named Bd.method).1
 have X0 : Stand p l e ({ frames := 6, cells := 8, slots := 60, locals := 150 } : Room) s m #[(.ref x), (.int kl), (.int se)] below meth c s₁ [] 0 0 := Stand.of_body Bd
 have e0 : s₁.heap = h0 := by rw [← hh, Bd.state]; rfl
 have N0 := Fr.nil n0
 have hlk : meth.locks = false := Bd.notSynchronized
 have pre0 : ∀ t, Steps p.tables e below (s₁.setTop (mkF m 0 #[.val (.ref x), .val (.int kl), .val (.int se)] [])) t → Steps p.tables e below (s₁.setTop (entryFrame m #[(.ref x), (.int kl), (.int se)] 3)) t := fun t k => castTop (efRI m x kl se) k
 obtain ⟨_, _, ⟨T1, L1, k1, n1⟩, -, X1, ⟨Lc1, hQ1, l1, y1, z1⟩, st1⟩ := X0.specialBack hx (y := (⟨cSK, "<init>", "(I)V"⟩ : MethodName)) rfl hown (mvT hZ (Wd hw 7 rfl)) (mvT hZ (Wd hw 8 rfl)) (mvT hZ (Wd hw 11 rfl)) (by decide) (backOf (W := 0) (rmA3 l Z a0 hw [] x se h0 n0 Z0 E_x F_seed_x F_hasher_x F_kept_x F_items_x F_counts_x F_records_x g_x) hZ (Wd hw 11 rfl) (Wd hw 10 rfl) (by decide) (by decide)) (g := (mkF m 2 #[.val (.ref x), .val (.int kl), .val (.int se)] [(.int se), (.ref x)])) rfl (by rw [hml]; rfl) (Steps.refl _) (a := x) (argsL := [(.int se)]) (rest := []) (lenOf own_pd13 rfl) rfl (by show 2 * 0 + _ ≤ _; exact Nat.le_of_eq rfl) (hb hby d1_2) (fun _ _ => ⟨rfl, e0, (by decide : 0 + 2 ≤ _), (by decide : 0 + 22 ≤ _)⟩)
 dsimp only [Pt.U, Pt.locs, Pt.cells, Pt.slots] at X1 l1 y1 z1 st1 hQ1
 subst l1 y1 z1
 obtain ⟨fb3_1, ffb2_4_1, k_ffb2_4_1, rfl, Nq1, Kc1, g_fb3_1, zq_fb3_1, g_ffb2_4_1, zq_ffb2_4_1, ne_fb3_1_ffb2_4_1, q1_0, q1_1, q1_2, q1_3, q1_4, q1_5, q1_6, q1_7, q1_8, q1_9, q1_10, q1_11, q1_12, q1_13, q1_14⟩ := hQ1
 have sz_fb3_1 : h0.size ≤ fb3_1 := Nat.le_trans (Keep.refl h0 [x]).1 zq_fb3_1
 have sz_ffb2_4_1 : h0.size ≤ ffb2_4_1 := Nat.le_trans (Keep.refl h0 [x]).1 zq_ffb2_4_1
 have K1 : Keep h0 T1.heap [x] := Keep.trans (Keep.refl h0 [x]) Kc1 (allS (Or.inl (List.mem_of_getElem? (i := 0) rfl)) all0)
 have Zs1 : n0 ≤ T1.heap.size := Nat.le_trans Z0 Kc1.1
 have N1 := Fr.app N0 Nq1
 obtain ⟨T2, h2, X2, e2, E2, A2, D2, -, st2⟩ := newO X1 hx hZ hown (Wd hw 48 rfl) (Wd hw 49 rfl) (Wd hw 50 rfl) rfl (g := (mkF m 31 #[.val (.ref x), .val (.int kl), .val (.int se)] [(.ref x)])) rfl (hb hby d1_31) (by decide) (by decide)
 obtain ⟨b2, g2⟩ : ∃ z, z = T1.heap.size := ⟨_, rfl⟩
 rw [← g2] at A2 D2 st2
 have g_b2 : n0 ≤ b2 := Nat.le_trans Zs1 (Nat.le_of_eq g2.symm)
 have sz_b2 : h0.size ≤ b2 := Nat.le_trans K1.1 (Nat.le_of_eq g2.symm)
 have K2 : Keep h0 h2 [x] := K1.ext E2
 have Zs2 : n0 ≤ h2.size := Nat.le_trans Zs1 E2.1
 have F2_heap : Fld Z h2 b2 cLH "heap" "[J" .null := D2 (Or.inr (Wd hw 57 rfl)) (ty := (.array .long)) (by decide)
 have F2_slots : Fld Z h2 b2 cLH "slots" "[J" .null := D2 (Or.inr (Wd hw 67 rfl)) (ty := (.array .long)) (by decide)
 have F2_indices : Fld Z h2 b2 cLH "indices" "[I" .null := D2 (Or.inr (Wd hw 70 rfl)) (ty := (.array .int)) (by decide)
 have F2_mask : Fld Z h2 b2 cLH "mask" "I" (.int (0 : Int32)) := D2 (Or.inr (Wd hw 76 rfl)) (ty := .int) (by decide)
 have F2_size : Fld Z h2 b2 cLH "size" "I" (.int (0 : Int32)) := D2 (Or.inl (Wd hw 100 rfl)) (ty := .int) (by decide)
 obtain ⟨_, _, ⟨T3, L3, k3, n3⟩, -, X3, ⟨Lc3, hQ3, l3, y3, z3⟩, st3⟩ := X2.specialBack hx (y := (⟨cLH, "<init>", "(I)V"⟩ : MethodName)) rfl hown (mvT hZ (Wd hw 51 rfl)) (mvT hZ (Wd hw 52 rfl)) (mvT hZ (Wd hw 53 rfl)) (by decide) (backOf (W := 2) (rmLI l Z a0 hw [] b2 kl h2 n0 Zs2 A2 F2_heap F2_size F2_slots F2_indices F2_mask g_b2 hk) hZ (Wd hw 53 rfl) (Wd hw 50 rfl) (by decide) (by decide)) (g := (mkF m 36 #[.val (.ref x), .val (.int kl), .val (.int se)] [(.int kl), (.ref b2), (.ref b2), (.ref x)])) rfl (by rw [hml]; rfl) (Steps.refl _) (a := b2) (argsL := [(.int kl)]) (rest := [(.ref b2), (.ref x)]) (lenOf own_pd13 rfl) rfl (by show 2 * 0 + _ ≤ _; exact Nat.le_of_eq rfl) (hb hby d1_36) (fun _ _ => ⟨rfl, e2, (by decide : 3 + 3 ≤ _), (by decide : 27 + 19 ≤ _)⟩)
 dsimp only [Pt.U, Pt.locs, Pt.cells, Pt.slots] at X3 l3 y3 z3 st3 hQ3
 subst l3 y3 z3
 obtain ⟨hp_3, k_hp_3, sl_3, k_sl_3, ix_3, k_ix_3, mk_3, nl_3, rfl, Nq3, Kc3, g_hp_3, zq_hp_3, g_sl_3, zq_sl_3, g_ix_3, zq_ix_3, ne_hp_3_sl_3, ne_hp_3_ix_3, ne_sl_3_ix_3, q3_0, q3_1, q3_2, q3_3, q3_4, q3_5, q3_6, q3_7, q3_8, q3_9⟩ := hQ3
 have sz_hp_3 : h0.size ≤ hp_3 := Nat.le_trans K2.1 zq_hp_3
 have sz_sl_3 : h0.size ≤ sl_3 := Nat.le_trans K2.1 zq_sl_3
 have sz_ix_3 : h0.size ≤ ix_3 := Nat.le_trans K2.1 zq_ix_3
 have K3 : Keep h0 T3.heap [x] := Keep.trans K2 Kc3 (allS (Or.inr sz_b2) all0)
 have Zs3 : n0 ≤ T3.heap.size := Nat.le_trans Zs2 Kc3.1
 have K := q3_9
 have N3 := Fr.app N1 Nq3
 obtain ⟨T4, h4, X4, e4, W4, st4⟩ := putF X3 hx hZ hown (host := "") (Or.inl (Wd hw 77 rfl)) Via.refl rfl ((q1_3.ext E2).keep Kc3 (ninS ((nlt q1_0.lt (Nat.le_of_eq g2.symm))) nin0)) ((q1_0.ext E2).keep Kc3) (Or.inr ⟨(Wd hw 78 rfl), rfl, hnm⟩) (Wd hw 2 rfl) (ty := (.object cLH)) (by decide) rfl rfl (g := (mkF m 39 #[.val (.ref x), .val (.int kl), .val (.int se)] [(.ref b2), (.ref x)])) rfl rfl (hb hby d1_39)
 have F4 : Fld Z h4 x cRE "kept" "Lcom/example/tallysketch/tallysketch/LargestHashes;" (.ref b2) := Fld.same W4 ((q1_3.ext E2).keep Kc3 (ninS ((nlt q1_0.lt (Nat.le_of_eq g2.symm))) nin0))
 have K4 : Keep h0 h4 [x] := K3.wr W4 (Or.inl (List.mem_of_getElem? (i := 0) rfl))
 have Zs4 : n0 ≤ h4.size := Nat.le_trans Zs3 (Keep.of_wr W4).1
 have N4 := Fr.snoc X4 N3 g_x
 obtain ⟨T5, h5, k5, X5, e5, E5, A5, EX5, OV5, st5⟩ := newRA X4 hx hZ (ty := .byte) hown (by decide) (Wd hw 79 rfl) (Wd hw 80 rfl) e4 (g := (mkF m 44 #[.val (.ref x), .val (.int kl), .val (.int se)] [(.int kl), (.ref x)])) rfl (hb hby d1_44) rfl (own_kl3 hk).1 (cap := 3) (own_kl3 hk).2 (by decide) (by decide) (by decide) (ad := "[[B") (by decide)
 obtain ⟨b5, g5⟩ : ∃ z, z = h4.size := ⟨_, rfl⟩
 rw [← g5] at A5 st5
 have g_b5 : n0 ≤ b5 := Nat.le_trans Zs4 (Nat.le_of_eq g5.symm)
 have sz_b5 : h0.size ≤ b5 := Nat.le_trans K4.1 (Nat.le_of_eq g5.symm)
 have K5 : Keep h0 h5 [x] := K4.ext E5
 have Zs5 : n0 ≤ h5.size := Nat.le_trans Zs4 E5.1
 have V5 : Arv Z h5 b5 k5 (.array .byte) kl [.null, .null, .null] .null := (Arv.new A5 (own_kl3 hk).1).pad (pad_rep [] .null 3)
 obtain ⟨T6, h6, X6, e6, W6, st6⟩ := putF X5 hx hZ hown (host := "") (Or.inl (Wd hw 81 rfl)) Via.refl e5 ((Fld.other W4 ((q1_4.ext E2).keep Kc3 (ninS ((nlt q1_0.lt (Nat.le_of_eq g2.symm))) nin0)) (Or.inr (slot_ne (Or.inr (Wd hw 82 rfl)) (Or.inr (Wd hw 78 rfl)) (by decide) (t := (.array (.array .byte))) (t' := (.object cLH)) (by decide) (by decide)))).ext E5) ((((q1_0.ext E2).keep Kc3).wr W4).ext E5) (Or.inr ⟨(Wd hw 82 rfl), rfl, hnm⟩) (Wd hw 2 rfl) (ty := (.array (.array .byte))) (by decide) rfl rfl (g := (mkF m 47 #[.val (.ref x), .val (.int kl), .val (.int se)] [(.ref b5), (.ref x)])) rfl rfl (hb hby d1_47)
 have F6 : Fld Z h6 x cRE "items" "[[B" (.ref b5) := Fld.same W6 ((Fld.other W4 ((q1_4.ext E2).keep Kc3 (ninS ((nlt q1_0.lt (Nat.le_of_eq g2.symm))) nin0)) (Or.inr (slot_ne (Or.inr (Wd hw 82 rfl)) (Or.inr (Wd hw 78 rfl)) (by decide) (t := (.array (.array .byte))) (t' := (.object cLH)) (by decide) (by decide)))).ext E5)
 have K6 : Keep h0 h6 [x] := K5.wr W6 (Or.inl (List.mem_of_getElem? (i := 0) rfl))
 have Zs6 : n0 ≤ h6.size := Nat.le_trans Zs5 (Keep.of_wr W6).1
 have N6 := Fr.snoc X6 N4 g_x
 obtain ⟨T7, h7, k7, X7, e7, E7, A7, st7⟩ := newP X6 hx hZ (Wd hw 55 rfl) e6 (g := (mkF m 52 #[.val (.ref x), .val (.int kl), .val (.int se)] [(.int kl), (.ref x)])) rfl (hb hby d1_52) rfl (own_kl3 hk).1 (cap := 3) (own_kl3 hk).2 (by decide) (by decide) (by decide)
 obtain ⟨b7, g7⟩ : ∃ z, z = h6.size := ⟨_, rfl⟩
 rw [← g7] at A7 st7
 have g_b7 : n0 ≤ b7 := Nat.le_trans Zs6 (Nat.le_of_eq g7.symm)
 have sz_b7 : h0.size ≤ b7 := Nat.le_trans K6.1 (Nat.le_of_eq g7.symm)
 have K7 : Keep h0 h7 [x] := K6.ext E7
 have Zs7 : n0 ≤ h7.size := Nat.le_trans Zs6 E7.1
 have V7 : Arv Z h7 b7 k7 .long kl [(.long (0 : Int64)), (.long (0 : Int64)), (.long (0 : Int64))] (.long (0 : Int64)) := (Arv.new A7 (own_kl3 hk).1).pad (pad_rep [] (.long (0 : Int64)) 3)
 obtain ⟨T8, h8, X8, e8, W8, st8⟩ := putF X7 hx hZ hown (host := "") (Or.inl (Wd hw 83 rfl)) Via.refl e7 ((Fld.other W6 ((Fld.other W4 ((q1_5.ext E2).keep Kc3 (ninS ((nlt q1_0.lt (Nat.le_of_eq g2.symm))) nin0)) (Or.inr (slot_ne (Or.inr (Wd hw 84 rfl)) (Or.inr (Wd hw 78 rfl)) (by decide) (t := (.array .long)) (t' := (.object cLH)) (by decide) (by decide)))).ext E5) (Or.inr (slot_ne (Or.inr (Wd hw 84 rfl)) (Or.inr (Wd hw 82 rfl)) (by decide) (t := (.array .long)) (t' := (.array (.array .byte))) (by decide) (by decide)))).ext E7) ((((((q1_0.ext E2).keep Kc3).wr W4).ext E5).wr W6).ext E7) (Or.inr ⟨(Wd hw 84 rfl), rfl, hnm⟩) (Wd hw 2 rfl) (ty := (.array .long)) (by decide) rfl rfl (g := (mkF m 54 #[.val (.ref x), .val (.int kl), .val (.int se)] [(.ref b7), (.ref x)])) rfl rfl (hb hby d1_54)
 have F8 : Fld Z h8 x cRE "counts" "[J" (.ref b7) := Fld.same W8 ((Fld.other W6 ((Fld.other W4 ((q1_5.ext E2).keep Kc3 (ninS ((nlt q1_0.lt (Nat.le_of_eq g2.symm))) nin0)) (Or.inr (slot_ne (Or.inr (Wd hw 84 rfl)) (Or.inr (Wd hw 78 rfl)) (by decide) (t := (.array .long)) (t' := (.object cLH)) (by decide) (by decide)))).ext E5) (Or.inr (slot_ne (Or.inr (Wd hw 84 rfl)) (Or.inr (Wd hw 82 rfl)) (by decide) (t := (.array .long)) (t' := (.array (.array .byte))) (by decide) (by decide)))).ext E7)
 have K8 : Keep h0 h8 [x] := K7.wr W8 (Or.inl (List.mem_of_getElem? (i := 0) rfl))
 have Zs8 : n0 ≤ h8.size := Nat.le_trans Zs7 (Keep.of_wr W8).1
 have N8 := Fr.snoc X8 N6 g_x
 obtain ⟨fs, hr, hrun, hended, hW, hsame⟩ := X8.leave (v := none) (fun _ => rfl) hlk
 refine ⟨_, _, (pre0 _ ?_), hrun, hended, _, _, rfl, ?_, ⟨_, rfl⟩, hW, hsame.mono (by decide) (by decide)⟩
 ·show Steps p.tables e below (s₁.setTop (mkF m 0 #[.val (.ref x), .val (.int kl), .val (.int se)] [])) _
  refine XS.aloadN X0.here hx rfl (hb hby d1_0) rfl rfl ?_
  refine XS.iloadN X0.here hx rfl (hb hby d1_1) rfl ?_
  refine st1.trans ?_
  refine XS.iloadN X1.here hx rfl (hb hby d1_5) rfl ?_
  refine XS.iconst X1.here hx rfl (hb hby d1_6) ?_
  refine XS.icmpNo X1.here hx rfl (hb hby d1_7) rfl (flt (own_k1le hk)).1 ?_
  refine XS.iloadN X1.here hx rfl (hb hby d1_10) rfl ?_
  refine X1.ldcInt hx hown (mvT hZ (Wd hw 47 rfl)) (g := (mkF m 11 #[.val (.ref x), .val (.int kl), .val (.int se)] [(.int kl)])) rfl (hb hby d1_11) _ ?_
  refine XS.icmpYes X1.here hx rfl (pc0 := 13) (pc' := 30) rfl (hb hby d1_13) rfl (flt (own_kle hk)).2.2.2 (by decide) (by decide) ?_
  refine XS.aloadN X1.here hx rfl (hb hby d1_30) rfl rfl ?_
  refine st2 _ ?_
  refine XS.dup X2.here hx rfl (hb hby d1_34) rfl rfl ?_
  refine XS.iloadN X2.here hx rfl (hb hby d1_35) rfl ?_
  refine st3.trans ?_
  refine st4 _ ?_
  refine XS.aloadN X4.here hx rfl (hb hby d1_42) rfl rfl ?_
  refine XS.iloadN X4.here hx rfl (hb hby d1_43) rfl ?_
  refine st5 _ ?_
  refine st6 _ ?_
  refine XS.aloadN X6.here hx rfl (hb hby d1_50) rfl rfl ?_
  refine XS.iloadN X6.here hx rfl (hb hby d1_51) rfl ?_
  refine st7 _ ?_
  refine st8 _ ?_
  exact X8.returnOut hx Bd.returns (hb hby d1_57) hr
 ·show QRI Z x kl se h0 n0 _ T8.heap _
  rw [e8]
  exact ⟨b2, hp_3, k_hp_3, sl_3, k_sl_3, ix_3, k_ix_3, b5, k5, b7, k7, mk_3, nl_3, rfl, N8, K8, g_b2, sz_b2, g_hp_3, sz_hp_3, g_sl_3, sz_sl_3, g_ix_3, sz_ix_3, g_b5, sz_b5, g_b7, sz_b7, ((nlt A2.lt zq_hp_3)), ((nlt A2.lt zq_sl_3)), ((nlt A2.lt zq_ix_3)), ((nlt (q3_0.wr W4).lt (Nat.le_of_eq g5.symm))), ((nlt (((q3_0.wr W4).ext E5).wr W6).lt (Nat.le_of_eq g7.symm))), ne_hp_3_sl_3, ne_hp_3_ix_3, ((nlt (q3_6.other W4 (Ne.symm ((nlt (q1_0.ext E2).lt zq_hp_3)))).lt (Nat.le_of_eq g5.symm))), ((nlt (((q3_6.other W4 (Ne.symm ((nlt (q1_0.ext E2).lt zq_hp_3)))).ext E5).other W6 (Ne.symm ((nlt (q1_0.ext E2).lt zq_hp_3)))).lt (Nat.le_of_eq g7.symm))), ne_sl_3_ix_3, ((nlt (q3_7.other W4 (Ne.symm ((nlt (q1_0.ext E2).lt zq_sl_3)))).lt (Nat.le_of_eq g5.symm))), ((nlt (((q3_7.other W4 (Ne.symm ((nlt (q1_0.ext E2).lt zq_sl_3)))).ext E5).other W6 (Ne.symm ((nlt (q1_0.ext E2).lt zq_sl_3)))).lt (Nat.le_of_eq g7.symm))), ((nlt (q3_8.other W4 (Ne.symm ((nlt (q1_0.ext E2).lt zq_ix_3)))).lt (Nat.le_of_eq g5.symm))), ((nlt (((q3_8.other W4 (Ne.symm ((nlt (q1_0.ext E2).lt zq_ix_3)))).ext E5).other W6 (Ne.symm ((nlt (q1_0.ext E2).lt zq_ix_3)))).lt (Nat.le_of_eq g7.symm))), ((nlt (V5.other W6 (Ne.symm ((nlt (((q1_0.ext E2).keep Kc3).wr W4).lt (Nat.le_of_eq g5.symm))))).lt (Nat.le_of_eq g7.symm))), (((((((q1_0.ext E2).keep Kc3).wr W4).ext E5).wr W6).ext E7).wr W8), (Fld.other W8 ((Fld.other W6 (F4.ext E5) (Or.inr (slot_ne (Or.inr (Wd hw 78 rfl)) (Or.inr (Wd hw 82 rfl)) (by decide) (t := (.object cLH)) (t' := (.array (.array .byte))) (by decide) (by decide)))).ext E7) (Or.inr (slot_ne (Or.inr (Wd hw 78 rfl)) (Or.inr (Wd hw 84 rfl)) (by decide) (t := (.object cLH)) (t' := (.array .long)) (by decide) (by decide)))), (Fld.other W8 (F6.ext E7) (Or.inr (slot_ne (Or.inr (Wd hw 82 rfl)) (Or.inr (Wd hw 84 rfl)) (by decide) (t := (.array (.array .byte))) (t' := (.array .long)) (by decide) (by decide)))), F8, (Fld.other W8 ((Fld.other W6 ((Fld.other W4 ((q1_6.ext E2).keep Kc3 (ninS ((nlt q1_0.lt (Nat.le_of_eq g2.symm))) nin0)) (Or.inr (slot_ne (Or.inl (Wd hw 138 rfl)) (Or.inr (Wd hw 78 rfl)) (by decide) (t := .long) (t' := (.object cLH)) (by decide) (by decide)))).ext E5) (Or.inr (slot_ne (Or.inl (Wd hw 138 rfl)) (Or.inr (Wd hw 82 rfl)) (by decide) (t := .long) (t' := (.array (.array .byte))) (by decide) (by decide)))).ext E7) (Or.inr (slot_ne (Or.inl (Wd hw 138 rfl)) (Or.inr (Wd hw 84 rfl)) (by decide) (t := .long) (t' := (.array .long)) (by decide) (by decide)))), (((((q3_0.wr W4).ext E5).wr W6).ext E7).wr W8), (Fld.other W8 ((Fld.other W6 ((Fld.other W4 q3_1 (Or.inl (Ne.symm ((nlt q1_0.lt (Nat.le_of_eq g2.symm)))))).ext E5) (Or.inl (Ne.symm ((nlt q1_0.lt (Nat.le_of_eq g2.symm)))))).ext E7) (Or.inl (Ne.symm ((nlt q1_0.lt (Nat.le_of_eq g2.symm)))))), (Fld.other W8 ((Fld.other W6 ((Fld.other W4 q3_2 (Or.inl (Ne.symm ((nlt q1_0.lt (Nat.le_of_eq g2.symm)))))).ext E5) (Or.inl (Ne.symm ((nlt q1_0.lt (Nat.le_of_eq g2.symm)))))).ext E7) (Or.inl (Ne.symm ((nlt q1_0.lt (Nat.le_of_eq g2.symm)))))), (Fld.other W8 ((Fld.other W6 ((Fld.other W4 q3_3 (Or.inl (Ne.symm ((nlt q1_0.lt (Nat.le_of_eq g2.symm)))))).ext E5) (Or.inl (Ne.symm ((nlt q1_0.lt (Nat.le_of_eq g2.symm)))))).ext E7) (Or.inl (Ne.symm ((nlt q1_0.lt (Nat.le_of_eq g2.symm)))))), (Fld.other W8 ((Fld.other W6 ((Fld.other W4 q3_4 (Or.inl (Ne.symm ((nlt q1_0.lt (Nat.le_of_eq g2.symm)))))).ext E5) (Or.inl (Ne.symm ((nlt q1_0.lt (Nat.le_of_eq g2.symm)))))).ext E7) (Or.inl (Ne.symm ((nlt q1_0.lt (Nat.le_of_eq g2.symm)))))), (Fld.other W8 ((Fld.other W6 ((Fld.other W4 q3_5 (Or.inl (Ne.symm ((nlt q1_0.lt (Nat.le_of_eq g2.symm)))))).ext E5) (Or.inl (Ne.symm ((nlt q1_0.lt (Nat.le_of_eq g2.symm)))))).ext E7) (Or.inl (Ne.symm ((nlt q1_0.lt (Nat.le_of_eq g2.symm)))))), (((((q3_6.other W4 (Ne.symm ((nlt (q1_0.ext E2).lt zq_hp_3)))).ext E5).other W6 (Ne.symm ((nlt (q1_0.ext E2).lt zq_hp_3)))).ext E7).other W8 (Ne.symm ((nlt (q1_0.ext E2).lt zq_hp_3)))), (((((q3_7.other W4 (Ne.symm ((nlt (q1_0.ext E2).lt zq_sl_3)))).ext E5).other W6 (Ne.symm ((nlt (q1_0.ext E2).lt zq_sl_3)))).ext E7).other W8 (Ne.symm ((nlt (q1_0.ext E2).lt zq_sl_3)))), (((((q3_8.other W4 (Ne.symm ((nlt (q1_0.ext E2).lt zq_ix_3)))).ext E5).other W6 (Ne.symm ((nlt (q1_0.ext E2).lt zq_ix_3)))).ext E7).other W8 (Ne.symm ((nlt (q1_0.ext E2).lt zq_ix_3)))), (((V5.other W6 (Ne.symm ((nlt (((q1_0.ext E2).keep Kc3).wr W4).lt (Nat.le_of_eq g5.symm))))).ext E7).other W8 (Ne.symm ((nlt (((q1_0.ext E2).keep Kc3).wr W4).lt (Nat.le_of_eq g5.symm))))), (V7.other W8 (Ne.symm ((nlt (((((q1_0.ext E2).keep Kc3).wr W4).ext E5).wr W6).lt (Nat.le_of_eq g7.symm))))), K, OV5⟩
theorem own_pn7 : plainName cLW = true := by first | (simp [plainName, overriddenIn]; done) | decide +kernel
theorem d28_0 : decode method_2_code 0 = .ok (.lload_n 0, 1) := by decide +kernel
theorem d28_1 : decode method_2_code 1 = .ok (.ldc2_w 9, 3) := by decide +kernel
theorem d28_4 : decode method_2_code 4 = .ok (.lxor, 1) := by decide +kernel
theorem d28_5 : decode method_2_code 5 = .ok (.lload_n 2, 1) := by decide +kernel
theorem d28_6 : decode method_2_code 6 = .ok (.ldc2_w 9, 3) := by decide +kernel
theorem d28_9 : decode method_2_code 9 = .ok (.lxor, 1) := by decide +kernel
theorem d28_10 : decode method_2_code 10 = .ok (.lcmp, 1) := by decide +kernel
theorem d28_11 : decode method_2_code 11 = .ok (.ifCond .le 7, 3) := by decide +kernel
theorem d28_14 : decode method_2_code 14 = .ok (.iconst 1, 1) := by decide +kernel
theorem d28_15 : decode method_2_code 15 = .ok (.goto 4, 3) := by decide +kernel
theorem d28_18 : decode method_2_code 18 = .ok (.iconst 0, 1) := by decide +kernel
theorem d28_19 : decode method_2_code 19 = .ok (.ireturn, 1) := by decide +kernel
theorem efGT (m : MethodId) (pa : Int64) (pb : Int64) : entryFrame m #[(.long pa), (.long pb)] 4 = mkF m 0 #[.val (.long pa), .second, .val (.long pb), .second] [] := by first | (simp [entryFrame, mkF, argsToLocals, Value.category]; done) | rfl
def QGT (Z : State) (pa : Int64) (pb : Int64) (h0 : Heap) (n0 : Nat) (v : Option Value) (h : Heap) (L : List Loc) : Prop := v = some (.int (own_gb pa pb)) ∧ Fr n0 L ∧ h = h0
set_option maxRecDepth 65536 in
set_option maxHeartbeats 40000000 in
theorem rmGT (l : Launch) (Z : State) (a0 : Array Value) (hw : ∀ d ∈ tables_1, d.before a0 Z = true) (ws : List Jvm.Cond) (pa : Int64) (pb : Int64) (h0 : Heap) (n0 : Nat) (Z0 : n0 ≤ h0.size) :
  MetFree l (⟨cLW, "gtU", "(JJ)Z"⟩ : MethodName) (head1 (Jvm.Cond.code (⟨cLW, "gtU", "(JJ)Z"⟩ : MethodName) method_2_code 4 (some .boolean) :: ws) ({ frames := 0, cells := 0, slots := 0, locals := 0 } : Room)) (fun av_ U => av_ = #[(.long pa), (.long pb)] ∧ Z.Warmed39 U.vm ∧ U.heap = h0) (fun _ _ _ _ _ => True) (fun _ U o U' => ∃ v L, o = .returned v ∧ QGT Z pa pb h0 n0 v U'.heap L ∧ FrameEnd U o U' L ({ frames := 0, cells := 0, slots := 0, locals := 0 } : Room).cells ({ frames := 0, cells := 0, slots := 0, locals := 0 } : Room).slots) := by
 refine MetFree.of_bodySF (plainFor_of_name own_pn7) hisR ?_
 intro p e s m args below meth c s₁ Bd hml0 hP hK
 obtain ⟨rfl, hZ, hh⟩ := hP
 have hx := Bd.exec
 have hby := Bd.bytes
 have hml : c.maxLocals = 4 := hml0
 have hown : s.vm.findClass cLW = some m.cls := findClass_of_methodNamed Bd.named
 have hnm := (name_of_methodNamed Bd.named Bd.method).1
 have X0 : Stand p l e ({ frames := 0, cells := 0, slots := 0, locals := 0 } : Room) s m #[(.long pa), (.long pb)] below meth c s₁ [] 0 0 := Stand.of_body Bd
 have e0 : s₁.heap = h0 := by rw [← hh, Bd.state]; rfl
 have N0 := Fr.nil n0
 have hlk : meth.locks = false := Bd.notSynchronized
 have pre0 : ∀ t, Steps p.tables e below (s₁.setTop (mkF m 0 #[.val (.long pa), .second, .val (.long pb), .second] [])) t → Steps p.tables e below (s₁.setTop (entryFrame m #[(.long pa), (.long pb)] 4)) t := fun t k => castTop (efGT m pa pb) k
 have r1 : ∀ t, Steps p.tables e below (s₁.setTop (mkF m 11 #[.val (.long pa), .second, .val (.long pb), .second] [(.int (lcmpW (pa ^^^ (-9223372036854775808 : Int64)) (pb ^^^ (-9223372036854775808 : Int64))))])) t → Steps p.tables e below (s₁.setTop (mkF m 0 #[.val (.long pa), .second, .val (.long pb), .second] [])) t := fun t kt => by
  refine XS.lloadN X0.here hx rfl (hb hby d28_0) rfl ?_
  refine X0.ldc2Long hx hown (mvT hZ (Wd hw 170 rfl)) (g := (mkF m 1 #[.val (.long pa), .second, .val (.long pb), .second] [(.long pa)])) rfl (hb hby d28_1) _ ?_
  refine XS.lxor X0.here hx rfl (hb hby d28_4) rfl ?_
  refine XS.lloadN X0.here hx rfl (hb hby d28_5) rfl ?_
  refine X0.ldc2Long hx hown (mvT hZ (Wd hw 170 rfl)) (g := (mkF m 6 #[.val (.long pa), .second, .val (.long pb), .second] [(.long pb), (.long (pa ^^^ (-9223372036854775808 : Int64)))])) rfl (hb hby d28_6) _ ?_
  refine XS.lxor X0.here hx rfl (hb hby d28_9) rfl ?_
  refine XS.lcmp X0.here hx rfl (hb hby d28_10) rfl ?_
  exact kt
 by_cases hc2 : (pb ^^^ (-9223372036854775808 : Int64)) < (pa ^^^ (-9223372036854775808 : Int64))
 ·obtain ⟨fs, hr, hrun, hended, hW, hsame⟩ := X0.leave (v := some (.int (nar .boolean (1 : Int32)))) (fun h => by rw [Bd.returns] at h; cases h) hlk
  refine ⟨_, _, (pre0 _ (r1 _ ?_)), hrun, hended, _, _, rfl, ?_, ⟨_, rfl⟩, hW, hsame.mono (by decide) (by decide)⟩
  ·show Steps p.tables e below (s₁.setTop (mkF m 11 #[.val (.long pa), .second, .val (.long pb), .second] [(.int (lcmpW (pa ^^^ (-9223372036854775808 : Int64)) (pb ^^^ (-9223372036854775808 : Int64))))])) _
   refine XS.ifNo X0.here hx rfl (hb hby d28_11) rfl ((if0 _ _).trans (tlt ((lw_gt _ _).mpr hc2)).2.2.2) ?_
   refine XS.iconst X0.here hx rfl (hb hby d28_14) ?_
   refine XS.goto X0.here hx rfl (pc0 := 15) (pc' := 19) rfl (hb hby d28_15) (by decide) (by decide) ?_
   exact retN X0 hx (t := .boolean) Bd.returns (by simp) (hb hby d28_19) hr
  ·show QGT Z pa pb h0 n0 _ s₁.heap _
   rw [e0]
   exact ⟨(congrArg (fun w => some (Value.int w)) (by show (1 : Int32) = own_gb pa pb; exact (if_pos (Int64.lt_iff_toInt_lt.mp hc2)).symm)), N0, rfl⟩
 ·obtain ⟨fs, hr, hrun, hended, hW, hsame⟩ := X0.leave (v := some (.int (nar .boolean (0 : Int32)))) (fun h => by rw [Bd.returns] at h; cases h) hlk
  refine ⟨_, _, (pre0 _ (r1 _ ?_)), hrun, hended, _, _, rfl, ?_, ⟨_, rfl⟩, hW, hsame.mono (by decide) (by decide)⟩
  ·show Steps p.tables e below (s₁.setTop (mkF m 11 #[.val (.long pa), .second, .val (.long pb), .second] [(.int (lcmpW (pa ^^^ (-9223372036854775808 : Int64)) (pb ^^^ (-9223372036854775808 : Int64))))])) _
   refine XS.ifYes X0.here hx rfl (pc0 := 11) (pc' := 18) rfl (hb hby d28_11) rfl ((if0 _ _).trans (flt (fun q => hc2 ((lw_gt _ _).mp q))).2.2.2) (by decide) (by decide) ?_
   refine XS.iconst X0.here hx rfl (hb hby d28_18) ?_
   exact retN X0 hx (t := .boolean) Bd.returns (by simp) (hb hby d28_19) hr
  ·show QGT Z pa pb h0 n0 _ s₁.heap _
   rw [e0]
   exact ⟨(congrArg (fun w => some (Value.int w)) (by show (0 : Int32) = own_gb pa pb; exact (if_neg (fun q => hc2 (Int64.lt_iff_toInt_lt.mpr q))).symm)), N0, rfl⟩
theorem d29_0 : decode method_3_code 0 = .ok (.iload_n 0, 1) := by decide +kernel
theorem d29_1 : decode method_3_code 1 = .ok (.ifCond .eq 7, 3) := by decide +kernel
theorem d29_4 : decode method_3_code 4 = .ok (.iconst 1, 1) := by decide +kernel
theorem d29_5 : decode method_3_code 5 = .ok (.goto 4, 3) := by decide +kernel
theorem d29_8 : decode method_3_code 8 = .ok (.iconst 0, 1) := by decide +kernel
theorem d29_9 : decode method_3_code 9 = .ok (.ireturn, 1) := by decide +kernel
theorem efON (m : MethodId) (pa : Int32) : entryFrame m #[(.int pa)] 1 = mkF m 0 #[.val (.int pa)] [] := by first | (simp [entryFrame, mkF, argsToLocals, Value.category]; done) | rfl
def QON (Z : State) (pa : Int32) (h0 : Heap) (n0 : Nat) (v : Option Value) (h : Heap) (L : List Loc) : Prop := v = some (.int (own_one pa)) ∧ Fr n0 L ∧ h = h0
set_option maxRecDepth 65536 in
set_option maxHeartbeats 40000000 in
theorem rmON (l : Launch) (Z : State) (a0 : Array Value) (hw : ∀ d ∈ tables_1, d.before a0 Z = true) (ws : List Jvm.Cond) (pa : Int32) (h0 : Heap) (n0 : Nat) (Z0 : n0 ≤ h0.size) :
  MetFree l (⟨cLW, "one", "(Z)I"⟩ : MethodName) (head1 (Jvm.Cond.code (⟨cLW, "one", "(Z)I"⟩ : MethodName) method_3_code 1 (some .int) :: ws) ({ frames := 0, cells := 0, slots := 0, locals := 0 } : Room)) (fun av_ U => av_ = #[(.int pa)] ∧ Z.Warmed39 U.vm ∧ U.heap = h0) (fun _ _ _ _ _ => True) (fun _ U o U' => ∃ v L, o = .returned v ∧ QON Z pa h0 n0 v U'.heap L ∧ FrameEnd U o U' L ({ frames := 0, cells := 0, slots := 0, locals := 0 } : Room).cells ({ frames := 0, cells := 0, slots := 0, locals := 0 } : Room).slots) := by
 refine MetFree.of_bodySF (plainFor_of_name own_pn7) hisR ?_
 intro p e s m args below meth c s₁ Bd hml0 hP hK
 obtain ⟨rfl, hZ, hh⟩ := hP
 have hx := Bd.exec
 have hby := Bd.bytes
 have hml : c.maxLocals = 1 := hml0
 have hown : s.vm.findClass cLW = some m.cls := findClass_of_methodNamed Bd.named
 have hnm := (name_of_methodNamed Bd.named Bd.method).1
 have X0 : Stand p l e ({ frames := 0, cells := 0, slots := 0, locals := 0 } : Room) s m #[(.int pa)] below meth c s₁ [] 0 0 := Stand.of_body Bd
 have e0 : s₁.heap = h0 := by rw [← hh, Bd.state]; rfl
 have N0 := Fr.nil n0
 have hlk : meth.locks = false := Bd.notSynchronized
 have pre0 : ∀ t, Steps p.tables e below (s₁.setTop (mkF m 0 #[.val (.int pa)] [])) t → Steps p.tables e below (s₁.setTop (entryFrame m #[(.int pa)] 1)) t := fun t k => castTop (efON m pa) k
 have r1 : ∀ t, Steps p.tables e below (s₁.setTop (mkF m 1 #[.val (.int pa)] [(.int pa)])) t → Steps p.tables e below (s₁.setTop (mkF m 0 #[.val (.int pa)] [])) t := fun t kt => by
  refine XS.iloadN X0.here hx rfl (hb hby d29_0) rfl ?_
  exact kt
 by_cases hc2 : pa = (0 : Int32)
 ·obtain ⟨fs, hr, hrun, hended, hW, hsame⟩ := X0.leave (v := some (.int (0 : Int32))) (fun h => by rw [Bd.returns] at h; cases h) hlk
  refine ⟨_, _, (pre0 _ (r1 _ ?_)), hrun, hended, _, _, rfl, ?_, ⟨_, rfl⟩, hW, hsame.mono (by decide) (by decide)⟩
  ·show Steps p.tables e below (s₁.setTop (mkF m 1 #[.val (.int pa)] [(.int pa)])) _
   refine XS.ifYes X0.here hx rfl (pc0 := 1) (pc' := 8) rfl (hb hby d29_1) rfl ((if0 _ _).trans (teq hc2).1) (by decide) (by decide) ?_
   refine XS.iconst X0.here hx rfl (hb hby d29_8) ?_
   exact retI X0 hx Bd.returns (hb hby d29_9) hr
  ·show QON Z pa h0 n0 _ s₁.heap _
   rw [e0]
   exact ⟨(congrArg (fun w => some (Value.int w)) (by show (0 : Int32) = own_one pa; exact (if_pos hc2).symm)), N0, rfl⟩
 ·obtain ⟨fs, hr, hrun, hended, hW, hsame⟩ := X0.leave (v := some (.int (1 : Int32))) (fun h => by rw [Bd.returns] at h; cases h) hlk
  refine ⟨_, _, (pre0 _ (r1 _ ?_)), hrun, hended, _, _, rfl, ?_, ⟨_, rfl⟩, hW, hsame.mono (by decide) (by decide)⟩
  ·show Steps p.tables e below (s₁.setTop (mkF m 1 #[.val (.int pa)] [(.int pa)])) _
   refine XS.ifNo X0.here hx rfl (hb hby d29_1) rfl ((if0 _ _).trans (feq hc2).1) ?_
   refine XS.iconst X0.here hx rfl (hb hby d29_4) ?_
   refine XS.goto X0.here hx rfl (pc0 := 5) (pc' := 9) rfl (hb hby d29_5) (by decide) (by decide) ?_
   exact retI X0 hx Bd.returns (hb hby d29_9) hr
  ·show QON Z pa h0 n0 _ s₁.heap _
   rw [e0]
   exact ⟨(congrArg (fun w => some (Value.int w)) (by show (1 : Int32) = own_one pa; exact (if_neg hc2).symm)), N0, rfl⟩
abbrev own_lo (qa : Int64) (qb : Int64) (qc : Int64) (qd : Int32) (qe : Int32) (qf : Int32) (qg : Int32) (qh : Int32) (qi : Int64) (qj : Int64) (qk : Int32) (ql : Int32) (qm : Int32) (qn : Int32) (qo : Int32) (qp : Int32) (qq : Addr) (qr : Addr) (za zb zc zd ze zf zg zh zi zj : Slot) : Array Slot := #[.val (.long qa), .second, .val (.long qb), .second, .val (.long qc), .second, .val (.int qd), .val (.int qe), .val (.int qf), .val (.int qg), .val (.int qh), .val (.long qi), .second, .val (.long qj), .second, .val (.int qk), .val (.int ql), .val (.int qm), .val (.int qn), .val (.int qo), .val (.int qp), .val (.ref qq), .val (.ref qr), za, zb, zc, zd, ze, zf, zg, zh, zi, zj]
abbrev own_lu (qa : Int64) (qb : Int64) (qc : Int64) (qd : Int32) (qe : Int32) (qf : Int32) (qg : Int32) (qh : Int32) (qi : Int64) (qj : Int64) (qk : Int32) (ql : Int32) (qm : Int32) (qn : Int32) (qo : Int32) (qp : Int32) (qq : Addr) (qr : Addr) : Array Slot := own_lo qa qb qc qd qe qf qg qh qi qj qk ql qm qn qo qp qq qr .unset .unset .unset .unset .unset .unset .unset .unset .unset .unset
theorem own_pd14 : parseMethodDescriptor "(J[BII)V" = some ⟨[.long, (.array .byte), .int, .int], none⟩ := by decide +kernel
theorem own_pd15 : parseMethodDescriptor "()J" = some ⟨[], some .long⟩ := by decide +kernel
theorem own_pd16 : parseMethodDescriptor "(JJ)Z" = some ⟨[.long, .long], some .boolean⟩ := by decide +kernel
theorem own_pd17 : parseMethodDescriptor "(Z)I" = some ⟨[.boolean], some .int⟩ := by decide +kernel
theorem efL (m : MethodId) (ja : Int64) (jb : Int64) (jc : Int64) (le : Int32) (mo : Int32) (se : Int32) : entryFrame m #[(.long ja), (.long jb), (.long jc), (.int le), (.int mo), (.int se)] maxLocals = mkF m 0 #[.val (.long ja), .second, .val (.long jb), .second, .val (.long jc), .second, .val (.int le), .val (.int mo), .val (.int se), .unset, .unset, .unset, .unset, .unset, .unset, .unset, .unset, .unset, .unset, .unset, .unset, .unset, .unset, .unset, .unset, .unset, .unset, .unset, .unset, .unset, .unset, .unset, .unset] [] := by first | (simp [entryFrame, mkF, argsToLocals, Value.category, maxLocals]; done) | rfl
def QL (Z : State) (ja : Int64) (jb : Int64) (jc : Int64) (le : Int32) (mo : Int32) (se : Int32) (h0 : Heap) (n0 : Nat) (v : Option Value) (h : Heap) (L : List Loc) : Prop := v = some (.int 1) ∧ Fr n0 L
set_option maxRecDepth 65536 in
set_option maxHeartbeats 40000000 in
theorem rmL (l : Launch) (Z : State) (a0 : Array Value) (hw : ∀ d ∈ tables_1, d.before a0 Z = true) (ws : List Jvm.Cond) (ja : Int64) (jb : Int64) (jc : Int64) (le : Int32) (mo : Int32) (se : Int32) (h0 : Heap) (n0 : Nat) (Z0 : n0 ≤ h0.size) :
  MetFree l x (head1 (Jvm.Cond.code x code maxLocals ret :: ws) room_1) (fun av_ U => av_ = #[(.long ja), (.long jb), (.long jc), (.int le), (.int mo), (.int se)] ∧ Z.Warmed39 U.vm ∧ U.heap = h0) (fun _ _ _ _ _ => True) (fun _ U o U' => ∃ v L, o = .returned v ∧ QL Z ja jb jc le mo se h0 n0 v U'.heap L ∧ FrameEnd U o U' L room_1.cells room_1.slots) := by
 refine MetFree.of_bodySF (plainFor_of_name own_pn7) hisR ?_
 intro p e s m args below meth c s₁ Bd hml0 hP hK
 obtain ⟨rfl, hZ, hh⟩ := hP
 have hx := Bd.exec
 have hby := Bd.bytes
 have hml : c.maxLocals = 33 := hml0
 have hown : s.vm.findClass cLW = some m.cls := findClass_of_methodNamed Bd.named
 have hnm := (name_of_methodNamed Bd.named Bd.method).1
 have X0 : Stand p l e room_1 s m #[(.long ja), (.long jb), (.long jc), (.int le), (.int mo), (.int se)] below meth c s₁ [] 0 0 := Stand.of_body Bd
 have e0 : s₁.heap = h0 := by rw [← hh, Bd.state]; rfl
 have N0 := Fr.nil n0
 have hlk : meth.locks = false := Bd.notSynchronized
 have pre0 : ∀ t, Steps p.tables e below (s₁.setTop (mkF m 0 #[.val (.long ja), .second, .val (.long jb), .second, .val (.long jc), .second, .val (.int le), .val (.int mo), .val (.int se), .unset, .unset, .unset, .unset, .unset, .unset, .unset, .unset, .unset, .unset, .unset, .unset, .unset, .unset, .unset, .unset, .unset, .unset, .unset, .unset, .unset, .unset, .unset, .unset] [])) t → Steps p.tables e below (s₁.setTop (entryFrame m #[(.long ja), (.long jb), (.long jc), (.int le), (.int mo), (.int se)] maxLocals)) t := fun t k => castTop (efL m ja jb jc le mo se) k
 have r1 : ∀ t, Steps p.tables e below (s₁.setTop (mkF m 6 #[.val (.long ja), .second, .val (.long jb), .second, .val (.long jc), .second, .val (.int le), .val (.int mo), .val (.int se), .val (.int (mo &&& (3 : Int32))), .unset, .unset, .unset, .unset, .unset, .unset, .unset, .unset, .unset, .unset, .unset, .unset, .unset, .unset, .unset, .unset, .unset, .unset, .unset, .unset, .unset, .unset, .unset] [])) t → Steps p.tables e below (s₁.setTop (mkF m 0 #[.val (.long ja), .second, .val (.long jb), .second, .val (.long jc), .second, .val (.int le), .val (.int mo), .val (.int se), .unset, .unset, .unset, .unset, .unset, .unset, .unset, .unset, .unset, .unset, .unset, .unset, .unset, .unset, .unset, .unset, .unset, .unset, .unset, .unset, .unset, .unset, .unset, .unset] [])) t := fun t kt => by
  refine XS.iload X0.here hx rfl (hb hby at_0) rfl ?_
  refine XS.iconst X0.here hx rfl (hb hby at_2) ?_
  refine XS.iand X0.here hx rfl (hb hby at_3) rfl ?_
  refine XS.istore X0.here hx rfl (hb hby at_4) rfl (l' := #[.val (.long ja), .second, .val (.long jb), .second, .val (.long jc), .second, .val (.int le), .val (.int mo), .val (.int se), .val (.int (mo &&& (3 : Int32))), .unset, .unset, .unset, .unset, .unset, .unset, .unset, .unset, .unset, .unset, .unset, .unset, .unset, .unset, .unset, .unset, .unset, .unset, .unset, .unset, .unset, .unset, .unset]) rfl ?_
  exact kt
 obtain ⟨nn, hnn⟩ : ∃ zz : Int32, zz = (mo &&& (3 : Int32)) := ⟨_, rfl⟩
 have r2 : ∀ t, Steps p.tables e below (s₁.setTop (mkF m 6 #[.val (.long ja), .second, .val (.long jb), .second, .val (.long jc), .second, .val (.int le), .val (.int mo), .val (.int se), .val (.int nn), .unset, .unset, .unset, .unset, .unset, .unset, .unset, .unset, .unset, .unset, .unset, .unset, .unset, .unset, .unset, .unset, .unset, .unset, .unset, .unset, .unset, .unset, .unset] [])) t → Steps p.tables e below (s₁.setTop (mkF m 6 #[.val (.long ja), .second, .val (.long jb), .second, .val (.long jc), .second, .val (.int le), .val (.int mo), .val (.int se), .val (.int (mo &&& (3 : Int32))), .unset, .unset, .unset, .unset, .unset, .unset, .unset, .unset, .unset, .unset, .unset, .unset, .unset, .unset, .unset, .unset, .unset, .unset, .unset, .unset, .unset, .unset, .unset] [])) t := fun t kt => by
  subst hnn
  exact kt
 have r3 : ∀ t, Steps p.tables e below (s₁.setTop (mkF m 18 #[.val (.long ja), .second, .val (.long jb), .second, .val (.long jc), .second, .val (.int le), .val (.int mo), .val (.int se), .val (.int nn), .val (.int ((1 : Int32) + ((((mo.toUInt32 >>> ((2 : Int32) &&& 31).toUInt32).toInt32) &&& (3 : Int32)) % (3 : Int32)))), .unset, .unset, .unset, .unset, .unset, .unset, .unset, .unset, .unset, .unset, .unset, .unset, .unset, .unset, .unset, .unset, .unset, .unset, .unset, .unset, .unset, .unset] [])) t → Steps p.tables e below (s₁.setTop (mkF m 6 #[.val (.long ja), .second, .val (.long jb), .second, .val (.long jc), .second, .val (.int le), .val (.int mo), .val (.int se), .val (.int nn), .unset, .unset, .unset, .unset, .unset, .unset, .unset, .unset, .unset, .unset, .unset, .unset, .unset, .unset, .unset, .unset, .unset, .unset, .unset, .unset, .unset, .unset, .unset] [])) t := fun t kt => by
  refine XS.iconst X0.here hx rfl (hb hby at_6) ?_
  refine XS.iload X0.here hx rfl (hb hby at_7) rfl ?_
  refine XS.iconst X0.here hx rfl (hb hby at_9) ?_
  refine XS.iushr X0.here hx rfl (hb hby at_10) rfl ?_
  refine XS.iconst X0.here hx rfl (hb hby at_11) ?_
  refine XS.iand X0.here hx rfl (hb hby at_12) rfl ?_
  refine XS.iconst X0.here hx rfl (hb hby at_13) ?_
  refine iremM X0 hx rfl (hb hby at_14) rfl (by decide) ?_
  refine XS.iadd X0.here hx rfl (hb hby at_15) rfl ?_
  refine XS.istore X0.here hx rfl (hb hby at_16) rfl (l' := #[.val (.long ja), .second, .val (.long jb), .second, .val (.long jc), .second, .val (.int le), .val (.int mo), .val (.int se), .val (.int nn), .val (.int ((1 : Int32) + ((((mo.toUInt32 >>> ((2 : Int32) &&& 31).toUInt32).toInt32) &&& (3 : Int32)) % (3 : Int32)))), .unset, .unset, .unset, .unset, .unset, .unset, .unset, .unset, .unset, .unset, .unset, .unset, .unset, .unset, .unset, .unset, .unset, .unset, .unset, .unset, .unset, .unset]) rfl ?_
  exact kt
 obtain ⟨kl, hkl⟩ : ∃ zz : Int32, zz = ((1 : Int32) + ((((mo.toUInt32 >>> ((2 : Int32) &&& 31).toUInt32).toInt32) &&& (3 : Int32)) % (3 : Int32))) := ⟨_, rfl⟩
 have r4 : ∀ t, Steps p.tables e below (s₁.setTop (mkF m 18 #[.val (.long ja), .second, .val (.long jb), .second, .val (.long jc), .second, .val (.int le), .val (.int mo), .val (.int se), .val (.int nn), .val (.int kl), .unset, .unset, .unset, .unset, .unset, .unset, .unset, .unset, .unset, .unset, .unset, .unset, .unset, .unset, .unset, .unset, .unset, .unset, .unset, .unset, .unset, .unset] [])) t → Steps p.tables e below (s₁.setTop (mkF m 18 #[.val (.long ja), .second, .val (.long jb), .second, .val (.long jc), .second, .val (.int le), .val (.int mo), .val (.int se), .val (.int nn), .val (.int ((1 : Int32) + ((((mo.toUInt32 >>> ((2 : Int32) &&& 31).toUInt32).toInt32) &&& (3 : Int32)) % (3 : Int32)))), .unset, .unset, .unset, .unset, .unset, .unset, .unset, .unset, .unset, .unset, .unset, .unset, .unset, .unset, .unset, .unset, .unset, .unset, .unset, .unset, .unset, .unset] [])) t := fun t kt => by
  subst hkl
  exact kt
 have hk : own_k3 kl := by rw [hkl]; exact own_kk _
 have r5 : ∀ t, Steps p.tables e below (s₁.setTop (mkF m 24 #[.val (.long ja), .second, .val (.long jb), .second, .val (.long jc), .second, .val (.int le), .val (.int mo), .val (.int se), .val (.int nn), .val (.int kl), .unset, .unset, .unset, .unset, .unset, .unset, .unset, .unset, .unset, .unset, .unset, .unset, .unset, .unset, .unset, .unset, .unset, .unset, .unset, .unset, .unset, .unset] [(.int (((mo.toUInt32 >>> ((4 : Int32) &&& 31).toUInt32).toInt32) &&& (1 : Int32)))])) t → Steps p.tables e below (s₁.setTop (mkF m 18 #[.val (.long ja), .second, .val (.long jb), .second, .val (.long jc), .second, .val (.int le), .val (.int mo), .val (.int se), .val (.int nn), .val (.int kl), .unset, .unset, .unset, .unset, .unset, .unset, .unset, .unset, .unset, .unset, .unset, .unset, .unset, .unset, .unset, .unset, .unset, .unset, .unset, .unset, .unset, .unset] [])) t := fun t kt => by
  refine XS.iload X0.here hx rfl (hb hby at_18) rfl ?_
  refine XS.iconst X0.here hx rfl (hb hby at_20) ?_
  refine XS.iushr X0.here hx rfl (hb hby at_21) rfl ?_
  refine XS.iconst X0.here hx rfl (hb hby at_22) ?_
  refine XS.iand X0.here hx rfl (hb hby at_23) rfl ?_
  exact kt
 obtain ⟨v8, hv8⟩ : ∃ zz : Int64, zz = (if (((mo.toUInt32 >>> ((4 : Int32) &&& 31).toUInt32).toInt32) &&& (1 : Int32)) = (0 : Int32) then jb else ja) := ⟨_, rfl⟩
 have r6 : ∀ t, Steps p.tables e below (s₁.setTop (mkF m 32 #[.val (.long ja), .second, .val (.long jb), .second, .val (.long jc), .second, .val (.int le), .val (.int mo), .val (.int se), .val (.int nn), .val (.int kl), .unset, .unset, .unset, .unset, .unset, .unset, .unset, .unset, .unset, .unset, .unset, .unset, .unset, .unset, .unset, .unset, .unset, .unset, .unset, .unset, .unset, .unset] [(.long v8)])) t → Steps p.tables e below (s₁.setTop (mkF m 24 #[.val (.long ja), .second, .val (.long jb), .second, .val (.long jc), .second, .val (.int le), .val (.int mo), .val (.int se), .val (.int nn), .val (.int kl), .unset, .unset, .unset, .unset, .unset, .unset, .unset, .unset, .unset, .unset, .unset, .unset, .unset, .unset, .unset, .unset, .unset, .unset, .unset, .unset, .unset, .unset] [(.int (((mo.toUInt32 >>> ((4 : Int32) &&& 31).toUInt32).toInt32) &&& (1 : Int32)))])) t := fun t kt => by
  rw [hv8] at kt
  by_cases hd7 : (((mo.toUInt32 >>> ((4 : Int32) &&& 31).toUInt32).toInt32) &&& (1 : Int32)) = (0 : Int32)
  ·simp only [if_pos hd7] at kt
   refine XS.ifYes X0.here hx rfl (pc0 := 24) (pc' := 31) rfl (hb hby at_24) rfl ((if0 _ _).trans (teq hd7).1) (by decide) (by decide) ?_
   refine XS.lloadN X0.here hx rfl (hb hby at_31) rfl ?_
   exact kt
  ·simp only [if_neg hd7] at kt
   refine XS.ifNo X0.here hx rfl (hb hby at_24) rfl ((if0 _ _).trans (feq hd7).1) ?_
   refine XS.lloadN X0.here hx rfl (hb hby at_27) rfl ?_
   refine XS.goto X0.here hx rfl (pc0 := 28) (pc' := 32) rfl (hb hby at_28) (by decide) (by decide) ?_
   exact kt
 have r9 : ∀ t, Steps p.tables e below (s₁.setTop (mkF m 40 #[.val (.long ja), .second, .val (.long jb), .second, .val (.long jc), .second, .val (.int le), .val (.int mo), .val (.int se), .val (.int nn), .val (.int kl), .val (.long v8), .second, .unset, .unset, .unset, .unset, .unset, .unset, .unset, .unset, .unset, .unset, .unset, .unset, .unset, .unset, .unset, .unset, .unset, .unset, .unset, .unset] [(.int (((mo.toUInt32 >>> ((5 : Int32) &&& 31).toUInt32).toInt32) &&& (1 : Int32)))])) t → Steps p.tables e below (s₁.setTop (mkF m 32 #[.val (.long ja), .second, .val (.long jb), .second, .val (.long jc), .second, .val (.int le), .val (.int mo), .val (.int se), .val (.int nn), .val (.int kl), .unset, .unset, .unset, .unset, .unset, .unset, .unset, .unset, .unset, .unset, .unset, .unset, .unset, .unset, .unset, .unset, .unset, .unset, .unset, .unset, .unset, .unset] [(.long v8)])) t := fun t kt => by
  refine XS.lstore X0.here hx rfl (hb hby at_32) rfl (l' := #[.val (.long ja), .second, .val (.long jb), .second, .val (.long jc), .second, .val (.int le), .val (.int mo), .val (.int se), .val (.int nn), .val (.int kl), .val (.long v8), .second, .unset, .unset, .unset, .unset, .unset, .unset, .unset, .unset, .unset, .unset, .unset, .unset, .unset, .unset, .unset, .unset, .unset, .unset, .unset, .unset]) rfl ?_
  refine XS.iload X0.here hx rfl (hb hby at_34) rfl ?_
  refine XS.iconst X0.here hx rfl (hb hby at_36) ?_
  refine XS.iushr X0.here hx rfl (hb hby at_37) rfl ?_
  refine XS.iconst X0.here hx rfl (hb hby at_38) ?_
  refine XS.iand X0.here hx rfl (hb hby at_39) rfl ?_
  exact kt
 obtain ⟨v12, hv12⟩ : ∃ zz : Int64, zz = (if (((mo.toUInt32 >>> ((5 : Int32) &&& 31).toUInt32).toInt32) &&& (1 : Int32)) = (0 : Int32) then jc else ja) := ⟨_, rfl⟩
 have r10 : ∀ t, Steps p.tables e below (s₁.setTop (mkF m 49 #[.val (.long ja), .second, .val (.long jb), .second, .val (.long jc), .second, .val (.int le), .val (.int mo), .val (.int se), .val (.int nn), .val (.int kl), .val (.long v8), .second, .unset, .unset, .unset, .unset, .unset, .unset, .unset, .unset, .unset, .unset, .unset, .unset, .unset, .unset, .unset, .unset, .unset, .unset, .unset, .unset] [(.long v12)])) t → Steps p.tables e below (s₁.setTop (mkF m 40 #[.val (.long ja), .second, .val (.long jb), .second, .val (.long jc), .second, .val (.int le), .val (.int mo), .val (.int se), .val (.int nn), .val (.int kl), .val (.long v8), .second, .unset, .unset, .unset, .unset, .unset, .unset, .unset, .unset, .unset, .unset, .unset, .unset, .unset, .unset, .unset, .unset, .unset, .unset, .unset, .unset] [(.int (((mo.toUInt32 >>> ((5 : Int32) &&& 31).toUInt32).toInt32) &&& (1 : Int32)))])) t := fun t kt => by
  rw [hv12] at kt
  by_cases hd11 : (((mo.toUInt32 >>> ((5 : Int32) &&& 31).toUInt32).toInt32) &&& (1 : Int32)) = (0 : Int32)
  ·simp only [if_pos hd11] at kt
   refine XS.ifYes X0.here hx rfl (pc0 := 40) (pc' := 47) rfl (hb hby at_40) rfl ((if0 _ _).trans (teq hd11).1) (by decide) (by decide) ?_
   refine XS.lload X0.here hx rfl (hb hby at_47) rfl ?_
   exact kt
  ·simp only [if_neg hd11] at kt
   refine XS.ifNo X0.here hx rfl (hb hby at_40) rfl ((if0 _ _).trans (feq hd11).1) ?_
   refine XS.lloadN X0.here hx rfl (hb hby at_43) rfl ?_
   refine XS.goto X0.here hx rfl (pc0 := 44) (pc' := 49) rfl (hb hby at_44) (by decide) (by decide) ?_
   exact kt
 have r13 : ∀ t, Steps p.tables e below (s₁.setTop (mkF m 58 #[.val (.long ja), .second, .val (.long jb), .second, .val (.long jc), .second, .val (.int le), .val (.int mo), .val (.int se), .val (.int nn), .val (.int kl), .val (.long v8), .second, .val (.long v12), .second, .unset, .unset, .unset, .unset, .unset, .unset, .unset, .unset, .unset, .unset, .unset, .unset, .unset, .unset, .unset, .unset, .unset, .unset] [(.int (((mo.toUInt32 >>> ((6 : Int32) &&& 31).toUInt32).toInt32) &&& (1 : Int32)))])) t → Steps p.tables e below (s₁.setTop (mkF m 49 #[.val (.long ja), .second, .val (.long jb), .second, .val (.long jc), .second, .val (.int le), .val (.int mo), .val (.int se), .val (.int nn), .val (.int kl), .val (.long v8), .second, .unset, .unset, .unset, .unset, .unset, .unset, .unset, .unset, .unset, .unset, .unset, .unset, .unset, .unset, .unset, .unset, .unset, .unset, .unset, .unset] [(.long v12)])) t := fun t kt => by
  refine XS.lstore X0.here hx rfl (hb hby at_49) rfl (l' := #[.val (.long ja), .second, .val (.long jb), .second, .val (.long jc), .second, .val (.int le), .val (.int mo), .val (.int se), .val (.int nn), .val (.int kl), .val (.long v8), .second, .val (.long v12), .second, .unset, .unset, .unset, .unset, .unset, .unset, .unset, .unset, .unset, .unset, .unset, .unset, .unset, .unset, .unset, .unset, .unset, .unset]) rfl ?_
  refine XS.iload X0.here hx rfl (hb hby at_51) rfl ?_
  refine XS.bipush X0.here hx rfl (hb hby at_53) ?_
  refine XS.iushr X0.here hx rfl (hb hby at_55) rfl ?_
  refine XS.iconst X0.here hx rfl (hb hby at_56) ?_
  refine XS.iand X0.here hx rfl (hb hby at_57) rfl ?_
  exact kt
 obtain ⟨v16, hv16⟩ : ∃ zz : Int64, zz = (if (((mo.toUInt32 >>> ((6 : Int32) &&& 31).toUInt32).toInt32) &&& (1 : Int32)) = (0 : Int32) then v12 else v8) := ⟨_, rfl⟩
 have r14 : ∀ t, Steps p.tables e below (s₁.setTop (mkF m 65 #[.val (.long ja), .second, .val (.long jb), .second, .val (.long jc), .second, .val (.int le), .val (.int mo), .val (.int se), .val (.int nn), .val (.int kl), .val (.long v8), .second, .val (.long v16), .second, .unset, .unset, .unset, .unset, .unset, .unset, .unset, .unset, .unset, .unset, .unset, .unset, .unset, .unset, .unset, .unset, .unset, .unset] [])) t → Steps p.tables e below (s₁.setTop (mkF m 58 #[.val (.long ja), .second, .val (.long jb), .second, .val (.long jc), .second, .val (.int le), .val (.int mo), .val (.int se), .val (.int nn), .val (.int kl), .val (.long v8), .second, .val (.long v12), .second, .unset, .unset, .unset, .unset, .unset, .unset, .unset, .unset, .unset, .unset, .unset, .unset, .unset, .unset, .unset, .unset, .unset, .unset] [(.int (((mo.toUInt32 >>> ((6 : Int32) &&& 31).toUInt32).toInt32) &&& (1 : Int32)))])) t := fun t kt => by
  rw [hv16] at kt
  by_cases hd15 : (((mo.toUInt32 >>> ((6 : Int32) &&& 31).toUInt32).toInt32) &&& (1 : Int32)) = (0 : Int32)
  ·simp only [if_pos hd15] at kt
   refine XS.ifYes X0.here hx rfl (pc0 := 58) (pc' := 65) rfl (hb hby at_58) rfl ((if0 _ _).trans (teq hd15).1) (by decide) (by decide) ?_
   exact kt
  ·simp only [if_neg hd15] at kt
   refine XS.ifNo X0.here hx rfl (hb hby at_58) rfl ((if0 _ _).trans (feq hd15).1) ?_
   refine XS.lload X0.here hx rfl (hb hby at_61) rfl ?_
   refine XS.lstore X0.here hx rfl (hb hby at_63) rfl (l' := #[.val (.long ja), .second, .val (.long jb), .second, .val (.long jc), .second, .val (.int le), .val (.int mo), .val (.int se), .val (.int nn), .val (.int kl), .val (.long v8), .second, .val (.long v8), .second, .unset, .unset, .unset, .unset, .unset, .unset, .unset, .unset, .unset, .unset, .unset, .unset, .unset, .unset, .unset, .unset, .unset, .unset]) rfl ?_
   exact kt
 have r17 : ∀ t, Steps p.tables e below (s₁.setTop (mkF m 72 #[.val (.long ja), .second, .val (.long jb), .second, .val (.long jc), .second, .val (.int le), .val (.int mo), .val (.int se), .val (.int nn), .val (.int kl), .val (.long v8), .second, .val (.long v16), .second, .val (.int (le &&& (7 : Int32))), .unset, .unset, .unset, .unset, .unset, .unset, .unset, .unset, .unset, .unset, .unset, .unset, .unset, .unset, .unset, .unset, .unset] [])) t → Steps p.tables e below (s₁.setTop (mkF m 65 #[.val (.long ja), .second, .val (.long jb), .second, .val (.long jc), .second, .val (.int le), .val (.int mo), .val (.int se), .val (.int nn), .val (.int kl), .val (.long v8), .second, .val (.long v16), .second, .unset, .unset, .unset, .unset, .unset, .unset, .unset, .unset, .unset, .unset, .unset, .unset, .unset, .unset, .unset, .unset, .unset, .unset] [])) t := fun t kt => by
  refine XS.iload X0.here hx rfl (hb hby at_65) rfl ?_
  refine XS.bipush X0.here hx rfl (hb hby at_67) ?_
  refine XS.iand X0.here hx rfl (hb hby at_69) rfl ?_
  refine XS.istore X0.here hx rfl (hb hby at_70) rfl (l' := #[.val (.long ja), .second, .val (.long jb), .second, .val (.long jc), .second, .val (.int le), .val (.int mo), .val (.int se), .val (.int nn), .val (.int kl), .val (.long v8), .second, .val (.long v16), .second, .val (.int (le &&& (7 : Int32))), .unset, .unset, .unset, .unset, .unset, .unset, .unset, .unset, .unset, .unset, .unset, .unset, .unset, .unset, .unset, .unset, .unset]) rfl ?_
  exact kt
 obtain ⟨lna, hlna⟩ : ∃ zz : Int32, zz = (le &&& (7 : Int32)) := ⟨_, rfl⟩
 have r18 : ∀ t, Steps p.tables e below (s₁.setTop (mkF m 72 #[.val (.long ja), .second, .val (.long jb), .second, .val (.long jc), .second, .val (.int le), .val (.int mo), .val (.int se), .val (.int nn), .val (.int kl), .val (.long v8), .second, .val (.long v16), .second, .val (.int lna), .unset, .unset, .unset, .unset, .unset, .unset, .unset, .unset, .unset, .unset, .unset, .unset, .unset, .unset, .unset, .unset, .unset] [])) t → Steps p.tables e below (s₁.setTop (mkF m 72 #[.val (.long ja), .second, .val (.long jb), .second, .val (.long jc), .second, .val (.int le), .val (.int mo), .val (.int se), .val (.int nn), .val (.int kl), .val (.long v8), .second, .val (.long v16), .second, .val (.int (le &&& (7 : Int32))), .unset, .unset, .unset, .unset, .unset, .unset, .unset, .unset, .unset, .unset, .unset, .unset, .unset, .unset, .unset, .unset, .unset] [])) t := fun t kt => by
  subst hlna
  exact kt
 have r19 : ∀ t, Steps p.tables e below (s₁.setTop (mkF m 81 #[.val (.long ja), .second, .val (.long jb), .second, .val (.long jc), .second, .val (.int le), .val (.int mo), .val (.int se), .val (.int nn), .val (.int kl), .val (.long v8), .second, .val (.long v16), .second, .val (.int lna), .val (.int (((le.toUInt32 >>> ((3 : Int32) &&& 31).toUInt32).toInt32) &&& (7 : Int32))), .unset, .unset, .unset, .unset, .unset, .unset, .unset, .unset, .unset, .unset, .unset, .unset, .unset, .unset, .unset, .unset] [])) t → Steps p.tables e below (s₁.setTop (mkF m 72 #[.val (.long ja), .second, .val (.long jb), .second, .val (.long jc), .second, .val (.int le), .val (.int mo), .val (.int se), .val (.int nn), .val (.int kl), .val (.long v8), .second, .val (.long v16), .second, .val (.int lna), .unset, .unset, .unset, .unset, .unset, .unset, .unset, .unset, .unset, .unset, .unset, .unset, .unset, .unset, .unset, .unset, .unset] [])) t := fun t kt => by
  refine XS.iload X0.here hx rfl (hb hby at_72) rfl ?_
  refine XS.iconst X0.here hx rfl (hb hby at_74) ?_
  refine XS.iushr X0.here hx rfl (hb hby at_75) rfl ?_
  refine XS.bipush X0.here hx rfl (hb hby at_76) ?_
  refine XS.iand X0.here hx rfl (hb hby at_78) rfl ?_
  refine XS.istore X0.here hx rfl (hb hby at_79) rfl (l' := #[.val (.long ja), .second, .val (.long jb), .second, .val (.long jc), .second, .val (.int le), .val (.int mo), .val (.int se), .val (.int nn), .val (.int kl), .val (.long v8), .second, .val (.long v16), .second, .val (.int lna), .val (.int (((le.toUInt32 >>> ((3 : Int32) &&& 31).toUInt32).toInt32) &&& (7 : Int32))), .unset, .unset, .unset, .unset, .unset, .unset, .unset, .unset, .unset, .unset, .unset, .unset, .unset, .unset, .unset, .unset]) rfl ?_
  exact kt
 obtain ⟨lnb, hlnb⟩ : ∃ zz : Int32, zz = (((le.toUInt32 >>> ((3 : Int32) &&& 31).toUInt32).toInt32) &&& (7 : Int32)) := ⟨_, rfl⟩
 have r20 : ∀ t, Steps p.tables e below (s₁.setTop (mkF m 81 #[.val (.long ja), .second, .val (.long jb), .second, .val (.long jc), .second, .val (.int le), .val (.int mo), .val (.int se), .val (.int nn), .val (.int kl), .val (.long v8), .second, .val (.long v16), .second, .val (.int lna), .val (.int lnb), .unset, .unset, .unset, .unset, .unset, .unset, .unset, .unset, .unset, .unset, .unset, .unset, .unset, .unset, .unset, .unset] [])) t → Steps p.tables e below (s₁.setTop (mkF m 81 #[.val (.long ja), .second, .val (.long jb), .second, .val (.long jc), .second, .val (.int le), .val (.int mo), .val (.int se), .val (.int nn), .val (.int kl), .val (.long v8), .second, .val (.long v16), .second, .val (.int lna), .val (.int (((le.toUInt32 >>> ((3 : Int32) &&& 31).toUInt32).toInt32) &&& (7 : Int32))), .unset, .unset, .unset, .unset, .unset, .unset, .unset, .unset, .unset, .unset, .unset, .unset, .unset, .unset, .unset, .unset] [])) t := fun t kt => by
  subst hlnb
  exact kt
 have r21 : ∀ t, Steps p.tables e below (s₁.setTop (mkF m 91 #[.val (.long ja), .second, .val (.long jb), .second, .val (.long jc), .second, .val (.int le), .val (.int mo), .val (.int se), .val (.int nn), .val (.int kl), .val (.long v8), .second, .val (.long v16), .second, .val (.int lna), .val (.int lnb), .val (.int (((le.toUInt32 >>> ((6 : Int32) &&& 31).toUInt32).toInt32) &&& (7 : Int32))), .unset, .unset, .unset, .unset, .unset, .unset, .unset, .unset, .unset, .unset, .unset, .unset, .unset, .unset, .unset] [])) t → Steps p.tables e below (s₁.setTop (mkF m 81 #[.val (.long ja), .second, .val (.long jb), .second, .val (.long jc), .second, .val (.int le), .val (.int mo), .val (.int se), .val (.int nn), .val (.int kl), .val (.long v8), .second, .val (.long v16), .second, .val (.int lna), .val (.int lnb), .unset, .unset, .unset, .unset, .unset, .unset, .unset, .unset, .unset, .unset, .unset, .unset, .unset, .unset, .unset, .unset] [])) t := fun t kt => by
  refine XS.iload X0.here hx rfl (hb hby at_81) rfl ?_
  refine XS.bipush X0.here hx rfl (hb hby at_83) ?_
  refine XS.iushr X0.here hx rfl (hb hby at_85) rfl ?_
  refine XS.bipush X0.here hx rfl (hb hby at_86) ?_
  refine XS.iand X0.here hx rfl (hb hby at_88) rfl ?_
  refine XS.istore X0.here hx rfl (hb hby at_89) rfl (l' := #[.val (.long ja), .second, .val (.long jb), .second, .val (.long jc), .second, .val (.int le), .val (.int mo), .val (.int se), .val (.int nn), .val (.int kl), .val (.long v8), .second, .val (.long v16), .second, .val (.int lna), .val (.int lnb), .val (.int (((le.toUInt32 >>> ((6 : Int32) &&& 31).toUInt32).toInt32) &&& (7 : Int32))), .unset, .unset, .unset, .unset, .unset, .unset, .unset, .unset, .unset, .unset, .unset, .unset, .unset, .unset, .unset]) rfl ?_
  exact kt
 obtain ⟨lnc, hlnc⟩ : ∃ zz : Int32, zz = (((le.toUInt32 >>> ((6 : Int32) &&& 31).toUInt32).toInt32) &&& (7 : Int32)) := ⟨_, rfl⟩
 have r22 : ∀ t, Steps p.tables e below (s₁.setTop (mkF m 91 #[.val (.long ja), .second, .val (.long jb), .second, .val (.long jc), .second, .val (.int le), .val (.int mo), .val (.int se), .val (.int nn), .val (.int kl), .val (.long v8), .second, .val (.long v16), .second, .val (.int lna), .val (.int lnb), .val (.int lnc), .unset, .unset, .unset, .unset, .unset, .unset, .unset, .unset, .unset, .unset, .unset, .unset, .unset, .unset, .unset] [])) t → Steps p.tables e below (s₁.setTop (mkF m 91 #[.val (.long ja), .second, .val (.long jb), .second, .val (.long jc), .second, .val (.int le), .val (.int mo), .val (.int se), .val (.int nn), .val (.int kl), .val (.long v8), .second, .val (.long v16), .second, .val (.int lna), .val (.int lnb), .val (.int (((le.toUInt32 >>> ((6 : Int32) &&& 31).toUInt32).toInt32) &&& (7 : Int32))), .unset, .unset, .unset, .unset, .unset, .unset, .unset, .unset, .unset, .unset, .unset, .unset, .unset, .unset, .unset] [])) t := fun t kt => by
  subst hlnc
  exact kt
 have r23 : ∀ t, Steps p.tables e below (s₁.setTop (mkF m 100 #[.val (.long ja), .second, .val (.long jb), .second, .val (.long jc), .second, .val (.int le), .val (.int mo), .val (.int se), .val (.int nn), .val (.int kl), .val (.long v8), .second, .val (.long v16), .second, .val (.int lna), .val (.int lnb), .val (.int lnc), .val (.int (((le.toUInt32 >>> ((9 : Int32) &&& 31).toUInt32).toInt32) &&& (3 : Int32))), .unset, .unset, .unset, .unset, .unset, .unset, .unset, .unset, .unset, .unset, .unset, .unset, .unset, .unset] [])) t → Steps p.tables e below (s₁.setTop (mkF m 91 #[.val (.long ja), .second, .val (.long jb), .second, .val (.long jc), .second, .val (.int le), .val (.int mo), .val (.int se), .val (.int nn), .val (.int kl), .val (.long v8), .second, .val (.long v16), .second, .val (.int lna), .val (.int lnb), .val (.int lnc), .unset, .unset, .unset, .unset, .unset, .unset, .unset, .unset, .unset, .unset, .unset, .unset, .unset, .unset, .unset] [])) t := fun t kt => by
  refine XS.iload X0.here hx rfl (hb hby at_91) rfl ?_
  refine XS.bipush X0.here hx rfl (hb hby at_93) ?_
  refine XS.iushr X0.here hx rfl (hb hby at_95) rfl ?_
  refine XS.iconst X0.here hx rfl (hb hby at_96) ?_
  refine XS.iand X0.here hx rfl (hb hby at_97) rfl ?_
  refine XS.istore X0.here hx rfl (hb hby at_98) rfl (l' := #[.val (.long ja), .second, .val (.long jb), .second, .val (.long jc), .second, .val (.int le), .val (.int mo), .val (.int se), .val (.int nn), .val (.int kl), .val (.long v8), .second, .val (.long v16), .second, .val (.int lna), .val (.int lnb), .val (.int lnc), .val (.int (((le.toUInt32 >>> ((9 : Int32) &&& 31).toUInt32).toInt32) &&& (3 : Int32))), .unset, .unset, .unset, .unset, .unset, .unset, .unset, .unset, .unset, .unset, .unset, .unset, .unset, .unset]) rfl ?_
  exact kt
 obtain ⟨ofa, hofa⟩ : ∃ zz : Int32, zz = (((le.toUInt32 >>> ((9 : Int32) &&& 31).toUInt32).toInt32) &&& (3 : Int32)) := ⟨_, rfl⟩
 have r24 : ∀ t, Steps p.tables e below (s₁.setTop (mkF m 100 #[.val (.long ja), .second, .val (.long jb), .second, .val (.long jc), .second, .val (.int le), .val (.int mo), .val (.int se), .val (.int nn), .val (.int kl), .val (.long v8), .second, .val (.long v16), .second, .val (.int lna), .val (.int lnb), .val (.int lnc), .val (.int ofa), .unset, .unset, .unset, .unset, .unset, .unset, .unset, .unset, .unset, .unset, .unset, .unset, .unset, .unset] [])) t → Steps p.tables e below (s₁.setTop (mkF m 100 #[.val (.long ja), .second, .val (.long jb), .second, .val (.long jc), .second, .val (.int le), .val (.int mo), .val (.int se), .val (.int nn), .val (.int kl), .val (.long v8), .second, .val (.long v16), .second, .val (.int lna), .val (.int lnb), .val (.int lnc), .val (.int (((le.toUInt32 >>> ((9 : Int32) &&& 31).toUInt32).toInt32) &&& (3 : Int32))), .unset, .unset, .unset, .unset, .unset, .unset, .unset, .unset, .unset, .unset, .unset, .unset, .unset, .unset] [])) t := fun t kt => by
  subst hofa
  exact kt
 have r25 : ∀ t, Steps p.tables e below (s₁.setTop (mkF m 109 #[.val (.long ja), .second, .val (.long jb), .second, .val (.long jc), .second, .val (.int le), .val (.int mo), .val (.int se), .val (.int nn), .val (.int kl), .val (.long v8), .second, .val (.long v16), .second, .val (.int lna), .val (.int lnb), .val (.int lnc), .val (.int ofa), .val (.int (((le.toUInt32 >>> ((11 : Int32) &&& 31).toUInt32).toInt32) &&& (3 : Int32))), .unset, .unset, .unset, .unset, .unset, .unset, .unset, .unset, .unset, .unset, .unset, .unset, .unset] [])) t → Steps p.tables e below (s₁.setTop (mkF m 100 #[.val (.long ja), .second, .val (.long jb), .second, .val (.long jc), .second, .val (.int le), .val (.int mo), .val (.int se), .val (.int nn), .val (.int kl), .val (.long v8), .second, .val (.long v16), .second, .val (.int lna), .val (.int lnb), .val (.int lnc), .val (.int ofa), .unset, .unset, .unset, .unset, .unset, .unset, .unset, .unset, .unset, .unset, .unset, .unset, .unset, .unset] [])) t := fun t kt => by
  refine XS.iload X0.here hx rfl (hb hby at_100) rfl ?_
  refine XS.bipush X0.here hx rfl (hb hby at_102) ?_
  refine XS.iushr X0.here hx rfl (hb hby at_104) rfl ?_
  refine XS.iconst X0.here hx rfl (hb hby at_105) ?_
  refine XS.iand X0.here hx rfl (hb hby at_106) rfl ?_
  refine XS.istore X0.here hx rfl (hb hby at_107) rfl (l' := #[.val (.long ja), .second, .val (.long jb), .second, .val (.long jc), .second, .val (.int le), .val (.int mo), .val (.int se), .val (.int nn), .val (.int kl), .val (.long v8), .second, .val (.long v16), .second, .val (.int lna), .val (.int lnb), .val (.int lnc), .val (.int ofa), .val (.int (((le.toUInt32 >>> ((11 : Int32) &&& 31).toUInt32).toInt32) &&& (3 : Int32))), .unset, .unset, .unset, .unset, .unset, .unset, .unset, .unset, .unset, .unset, .unset, .unset, .unset]) rfl ?_
  exact kt
 obtain ⟨ofb, hofb⟩ : ∃ zz : Int32, zz = (((le.toUInt32 >>> ((11 : Int32) &&& 31).toUInt32).toInt32) &&& (3 : Int32)) := ⟨_, rfl⟩
 have r26 : ∀ t, Steps p.tables e below (s₁.setTop (mkF m 109 #[.val (.long ja), .second, .val (.long jb), .second, .val (.long jc), .second, .val (.int le), .val (.int mo), .val (.int se), .val (.int nn), .val (.int kl), .val (.long v8), .second, .val (.long v16), .second, .val (.int lna), .val (.int lnb), .val (.int lnc), .val (.int ofa), .val (.int ofb), .unset, .unset, .unset, .unset, .unset, .unset, .unset, .unset, .unset, .unset, .unset, .unset, .unset] [])) t → Steps p.tables e below (s₁.setTop (mkF m 109 #[.val (.long ja), .second, .val (.long jb), .second, .val (.long jc), .second, .val (.int le), .val (.int mo), .val (.int se), .val (.int nn), .val (.int kl), .val (.long v8), .second, .val (.long v16), .second, .val (.int lna), .val (.int lnb), .val (.int lnc), .val (.int ofa), .val (.int (((le.toUInt32 >>> ((11 : Int32) &&& 31).toUInt32).toInt32) &&& (3 : Int32))), .unset, .unset, .unset, .unset, .unset, .unset, .unset, .unset, .unset, .unset, .unset, .unset, .unset] [])) t := fun t kt => by
  subst hofb
  exact kt
 have r27 : ∀ t, Steps p.tables e below (s₁.setTop (mkF m 118 #[.val (.long ja), .second, .val (.long jb), .second, .val (.long jc), .second, .val (.int le), .val (.int mo), .val (.int se), .val (.int nn), .val (.int kl), .val (.long v8), .second, .val (.long v16), .second, .val (.int lna), .val (.int lnb), .val (.int lnc), .val (.int ofa), .val (.int ofb), .val (.int (((le.toUInt32 >>> ((13 : Int32) &&& 31).toUInt32).toInt32) &&& (3 : Int32))), .unset, .unset, .unset, .unset, .unset, .unset, .unset, .unset, .unset, .unset, .unset, .unset] [])) t → Steps p.tables e below (s₁.setTop (mkF m 109 #[.val (.long ja), .second, .val (.long jb), .second, .val (.long jc), .second, .val (.int le), .val (.int mo), .val (.int se), .val (.int nn), .val (.int kl), .val (.long v8), .second, .val (.long v16), .second, .val (.int lna), .val (.int lnb), .val (.int lnc), .val (.int ofa), .val (.int ofb), .unset, .unset, .unset, .unset, .unset, .unset, .unset, .unset, .unset, .unset, .unset, .unset, .unset] [])) t := fun t kt => by
  refine XS.iload X0.here hx rfl (hb hby at_109) rfl ?_
  refine XS.bipush X0.here hx rfl (hb hby at_111) ?_
  refine XS.iushr X0.here hx rfl (hb hby at_113) rfl ?_
  refine XS.iconst X0.here hx rfl (hb hby at_114) ?_
  refine XS.iand X0.here hx rfl (hb hby at_115) rfl ?_
  refine XS.istore X0.here hx rfl (hb hby at_116) rfl (l' := #[.val (.long ja), .second, .val (.long jb), .second, .val (.long jc), .second, .val (.int le), .val (.int mo), .val (.int se), .val (.int nn), .val (.int kl), .val (.long v8), .second, .val (.long v16), .second, .val (.int lna), .val (.int lnb), .val (.int lnc), .val (.int ofa), .val (.int ofb), .val (.int (((le.toUInt32 >>> ((13 : Int32) &&& 31).toUInt32).toInt32) &&& (3 : Int32))), .unset, .unset, .unset, .unset, .unset, .unset, .unset, .unset, .unset, .unset, .unset, .unset]) rfl ?_
  exact kt
 obtain ⟨ofc, hofc⟩ : ∃ zz : Int32, zz = (((le.toUInt32 >>> ((13 : Int32) &&& 31).toUInt32).toInt32) &&& (3 : Int32)) := ⟨_, rfl⟩
 have r28 : ∀ t, Steps p.tables e below (s₁.setTop (mkF m 118 #[.val (.long ja), .second, .val (.long jb), .second, .val (.long jc), .second, .val (.int le), .val (.int mo), .val (.int se), .val (.int nn), .val (.int kl), .val (.long v8), .second, .val (.long v16), .second, .val (.int lna), .val (.int lnb), .val (.int lnc), .val (.int ofa), .val (.int ofb), .val (.int ofc), .unset, .unset, .unset, .unset, .unset, .unset, .unset, .unset, .unset, .unset, .unset, .unset] [])) t → Steps p.tables e below (s₁.setTop (mkF m 118 #[.val (.long ja), .second, .val (.long jb), .second, .val (.long jc), .second, .val (.int le), .val (.int mo), .val (.int se), .val (.int nn), .val (.int kl), .val (.long v8), .second, .val (.long v16), .second, .val (.int lna), .val (.int lnb), .val (.int lnc), .val (.int ofa), .val (.int ofb), .val (.int (((le.toUInt32 >>> ((13 : Int32) &&& 31).toUInt32).toInt32) &&& (3 : Int32))), .unset, .unset, .unset, .unset, .unset, .unset, .unset, .unset, .unset, .unset, .unset, .unset] [])) t := fun t kt => by
  subst hofc
  exact kt
 have blna : 0 ≤ lna.toInt ∧ lna.toInt ≤ 7 := by rw [hlna]; exact own_b7 _
 have blnb : 0 ≤ lnb.toInt ∧ lnb.toInt ≤ 7 := by rw [hlnb]; exact own_b7 _
 have blnc : 0 ≤ lnc.toInt ∧ lnc.toInt ≤ 7 := by rw [hlnc]; exact own_b7 _
 have bofa : 0 ≤ ofa.toInt ∧ ofa.toInt ≤ 3 := by rw [hofa]; exact own_b3 _
 have bofb : 0 ≤ ofb.toInt ∧ ofb.toInt ≤ 3 := by rw [hofb]; exact own_b3 _
 have bofc : 0 ≤ ofc.toInt ∧ ofc.toInt ≤ 3 := by rw [hofc]; exact own_b3 _
 obtain ⟨T29, h29, k29, X29, e29, E29, A29, st29⟩ := newP X0 hx hZ (Wd hw 0 rfl) e0 (g := (mkF m 120 #[.val (.long ja), .second, .val (.long jb), .second, .val (.long jc), .second, .val (.int le), .val (.int mo), .val (.int se), .val (.int nn), .val (.int kl), .val (.long v8), .second, .val (.long v16), .second, .val (.int lna), .val (.int lnb), .val (.int lnc), .val (.int ofa), .val (.int ofb), .val (.int ofc), .unset, .unset, .unset, .unset, .unset, .unset, .unset, .unset, .unset, .unset, .unset, .unset] [(.int (10 : Int32))])) rfl (hb hby at_120) rfl (by decide) (cap := 10) (by decide) (by decide) (by decide) (by decide)
 obtain ⟨b29, g29⟩ : ∃ z, z = h0.size := ⟨_, rfl⟩
 rw [← g29] at A29 st29
 have g_b29 : n0 ≤ b29 := Nat.le_trans Z0 (Nat.le_of_eq g29.symm)
 have sz_b29 : h0.size ≤ b29 := Nat.le_trans (Keep.refl h0 []).1 (Nat.le_of_eq g29.symm)
 have K29 : Keep h0 h29 [] := (Keep.refl h0 []).ext E29
 have Zs29 : n0 ≤ h29.size := Nat.le_trans Z0 E29.1
 have V29 : Arv Z h29 b29 k29 .byte (10 : Int32) [(.int (0 : Int32)), (.int (0 : Int32)), (.int (0 : Int32)), (.int (0 : Int32)), (.int (0 : Int32)), (.int (0 : Int32)), (.int (0 : Int32)), (.int (0 : Int32)), (.int (0 : Int32)), (.int (0 : Int32))] (.int (0 : Int32)) := (Arv.new A29 (by decide)).pad (pad_rep [] (.int (0 : Int32)) 10)
 obtain ⟨T30, h30, X30, e30, E30, A30, D30, -, st30⟩ := newO X29 hx hZ hown (Wd hw 1 rfl) (Wd hw 2 rfl) (Wd hw 3 rfl) e29 (g := (mkF m 124 #[.val (.long ja), .second, .val (.long jb), .second, .val (.long jc), .second, .val (.int le), .val (.int mo), .val (.int se), .val (.int nn), .val (.int kl), .val (.long v8), .second, .val (.long v16), .second, .val (.int lna), .val (.int lnb), .val (.int lnc), .val (.int ofa), .val (.int ofb), .val (.int ofc), .val (.ref b29), .unset, .unset, .unset, .unset, .unset, .unset, .unset, .unset, .unset, .unset, .unset] [])) rfl (hb hby at_124) (by decide) (by decide)
 obtain ⟨b30, g30⟩ : ∃ z, z = h29.size := ⟨_, rfl⟩
 rw [← g30] at A30 D30 st30
 have g_b30 : n0 ≤ b30 := Nat.le_trans Zs29 (Nat.le_of_eq g30.symm)
 have sz_b30 : h0.size ≤ b30 := Nat.le_trans K29.1 (Nat.le_of_eq g30.symm)
 have K30 : Keep h0 h30 [] := K29.ext E30
 have Zs30 : n0 ≤ h30.size := Nat.le_trans Zs29 E30.1
 have F30_seed : Fld Z h30 b30 cSK "seed" "I" (.int (0 : Int32)) := D30 (Or.inr (Wd hw 16 rfl)) (ty := .int) (by decide)
 have F30_hasher : Fld Z h30 b30 cSK "hasher" "Lcom/example/tallysketch/tallysketch/MurmurHash3;" .null := D30 (Or.inr (Wd hw 46 rfl)) (ty := (.object cMM)) (by decide)
 have F30_kept : Fld Z h30 b30 cRE "kept" "Lcom/example/tallysketch/tallysketch/LargestHashes;" .null := D30 (Or.inr (Wd hw 78 rfl)) (ty := (.object cLH)) (by decide)
 have F30_items : Fld Z h30 b30 cRE "items" "[[B" .null := D30 (Or.inr (Wd hw 82 rfl)) (ty := (.array (.array .byte))) (by decide)
 have F30_counts : Fld Z h30 b30 cRE "counts" "[J" .null := D30 (Or.inr (Wd hw 84 rfl)) (ty := (.array .long)) (by decide)
 have F30_records : Fld Z h30 b30 cRE "records" "J" (.long (0 : Int64)) := D30 (Or.inl (Wd hw 138 rfl)) (ty := .long) (by decide)
 obtain ⟨_, _, ⟨T31, L31, k31, n31⟩, -, X31, ⟨Lc31, hQ31, l31, y31, z31⟩, st31⟩ := X30.specialBack hx (y := (⟨cRE, "<init>", "(II)V"⟩ : MethodName)) rfl hown (mvT hZ (Wd hw 4 rfl)) (mvT hZ (Wd hw 5 rfl)) (mvT hZ (Wd hw 6 rfl)) (by decide) (backOf (W := 1) (rmRI l Z a0 hw [] b30 kl se h30 n0 Zs30 A30 F30_seed F30_hasher F30_kept F30_items F30_counts F30_records g_b30 hk) hZ (Wd hw 6 rfl) (Wd hw 3 rfl) (by decide) (by decide)) (g := (mkF m 132 #[.val (.long ja), .second, .val (.long jb), .second, .val (.long jc), .second, .val (.int le), .val (.int mo), .val (.int se), .val (.int nn), .val (.int kl), .val (.long v8), .second, .val (.long v16), .second, .val (.int lna), .val (.int lnb), .val (.int lnc), .val (.int ofa), .val (.int ofb), .val (.int ofc), .val (.ref b29), .unset, .unset, .unset, .unset, .unset, .unset, .unset, .unset, .unset, .unset, .unset] [(.int se), (.int kl), (.ref b30), (.ref b30)])) rfl (by rw [hml]; rfl) (Steps.refl _) (a := b30) (argsL := [(.int kl), (.int se)]) (rest := [(.ref b30)]) (lenOf own_pd4 rfl) rfl (by show 2 * 0 + _ ≤ _; exact Nat.le_of_eq rfl) (hb hby at_132) (fun _ _ => ⟨rfl, e30, (by decide : 2 + 8 ≤ _), (by decide : 16 + 60 ≤ _)⟩)
 dsimp only [Pt.U, Pt.locs, Pt.cells, Pt.slots] at X31 l31 y31 z31 st31 hQ31
 subst l31 y31 z31
 obtain ⟨lh_31, hp_31, k_hp_31, sl_31, k_sl_31, ix_31, k_ix_31, it_31, k_it_31, ct_31, k_ct_31, mk_31, nl_31, rfl, Nq31, Kc31, g_lh_31, zq_lh_31, g_hp_31, zq_hp_31, g_sl_31, zq_sl_31, g_ix_31, zq_ix_31, g_it_31, zq_it_31, g_ct_31, zq_ct_31, ne_lh_31_hp_31, ne_lh_31_sl_31, ne_lh_31_ix_31, ne_lh_31_it_31, ne_lh_31_ct_31, ne_hp_31_sl_31, ne_hp_31_ix_31, ne_hp_31_it_31, ne_hp_31_ct_31, ne_sl_31_ix_31, ne_sl_31_it_31, ne_sl_31_ct_31, ne_ix_31_it_31, ne_ix_31_ct_31, ne_it_31_ct_31, q31_0, q31_1, q31_2, q31_3, q31_4, q31_5, q31_6, q31_7, q31_8, q31_9, q31_10, q31_11, q31_12, q31_13, q31_14, q31_15, q31_16, q31_17⟩ := hQ31
 have sz_lh_31 : h0.size ≤ lh_31 := Nat.le_trans K30.1 zq_lh_31
 have sz_hp_31 : h0.size ≤ hp_31 := Nat.le_trans K30.1 zq_hp_31
 have sz_sl_31 : h0.size ≤ sl_31 := Nat.le_trans K30.1 zq_sl_31
 have sz_ix_31 : h0.size ≤ ix_31 := Nat.le_trans K30.1 zq_ix_31
 have sz_it_31 : h0.size ≤ it_31 := Nat.le_trans K30.1 zq_it_31
 have sz_ct_31 : h0.size ≤ ct_31 := Nat.le_trans K30.1 zq_ct_31
 have K31 : Keep h0 T31.heap [] := Keep.trans K30 Kc31 (allS (Or.inr sz_b30) all0)
 have Zs31 : n0 ≤ T31.heap.size := Nat.le_trans Zs30 Kc31.1
 have K := q31_16
 have N31 := Fr.app N0 Nq31
 have r32 : ∀ t, Steps p.tables e below (T31.setTop (mkF m 137 #[.val (.long ja), .second, .val (.long jb), .second, .val (.long jc), .second, .val (.int le), .val (.int mo), .val (.int se), .val (.int nn), .val (.int kl), .val (.long v8), .second, .val (.long v16), .second, .val (.int lna), .val (.int lnb), .val (.int lnc), .val (.int ofa), .val (.int ofb), .val (.int ofc), .val (.ref b29), .val (.ref b30), .unset, .unset, .unset, .unset, .unset, .unset, .unset, .unset, .unset, .unset] [])) t → Steps p.tables e below (s₁.setTop (mkF m 118 #[.val (.long ja), .second, .val (.long jb), .second, .val (.long jc), .second, .val (.int le), .val (.int mo), .val (.int se), .val (.int nn), .val (.int kl), .val (.long v8), .second, .val (.long v16), .second, .val (.int lna), .val (.int lnb), .val (.int lnc), .val (.int ofa), .val (.int ofb), .val (.int ofc), .unset, .unset, .unset, .unset, .unset, .unset, .unset, .unset, .unset, .unset, .unset, .unset] [])) t := fun t kt => by
  refine XS.bipush X0.here hx rfl (hb hby at_118) ?_
  refine st29 _ ?_
  refine XS.astore X29.here hx rfl (hb hby at_122) rfl rfl (l' := #[.val (.long ja), .second, .val (.long jb), .second, .val (.long jc), .second, .val (.int le), .val (.int mo), .val (.int se), .val (.int nn), .val (.int kl), .val (.long v8), .second, .val (.long v16), .second, .val (.int lna), .val (.int lnb), .val (.int lnc), .val (.int ofa), .val (.int ofb), .val (.int ofc), .val (.ref b29), .unset, .unset, .unset, .unset, .unset, .unset, .unset, .unset, .unset, .unset, .unset]) rfl ?_
  refine st30 _ ?_
  refine XS.dup X30.here hx rfl (hb hby at_127) rfl rfl ?_
  refine XS.iload X30.here hx rfl (hb hby at_128) rfl ?_
  refine XS.iload X30.here hx rfl (hb hby at_130) rfl ?_
  refine st31.trans ?_
  refine XS.astore X31.here hx rfl (hb hby at_135) rfl rfl (l' := #[.val (.long ja), .second, .val (.long jb), .second, .val (.long jc), .second, .val (.int le), .val (.int mo), .val (.int se), .val (.int nn), .val (.int kl), .val (.long v8), .second, .val (.long v16), .second, .val (.int lna), .val (.int lnb), .val (.int lnc), .val (.int ofa), .val (.int ofb), .val (.int ofc), .val (.ref b29), .val (.ref b30), .unset, .unset, .unset, .unset, .unset, .unset, .unset, .unset, .unset, .unset]) rfl ?_
  exact kt
 have r33 : ∀ t, Steps p.tables e below (T31.setTop (mkF m 139 (own_lu ja jb jc le mo se nn kl v8 v16 lna lnb lnc ofa ofb ofc b29 b30) [(.int nn)])) t → Steps p.tables e below (T31.setTop (mkF m 137 (own_lu ja jb jc le mo se nn kl v8 v16 lna lnb lnc ofa ofb ofc b29 b30) [])) t := fun t kt => by
  refine XS.iload X31.here hx rfl (hb hby at_137) rfl ?_
  exact kt
 obtain ⟨T34, h34, L34, av, X34, e34, Kc34, p34_0, N34, r34⟩ : ∃ (T' : State) (h' : Heap) (L' : List Loc) (av : Int64), Stand p l e room_1 s m #[(.long ja), (.long jb), (.long jc), (.int le), (.int mo), (.int se)] below meth c T' L' 13 97 ∧ T'.heap = h' ∧ Keep T31.heap h' [ct_31, it_31, ix_31, sl_31, hp_31, lh_31, b30] ∧ av = own_exp nn kl ja v8 v16 lna lnb lnc ∧ Fr n0 L' ∧ ∀ t, Steps p.tables e below (T'.setTop (mkF m 199 (own_lo ja jb jc le mo se nn kl v8 v16 lna lnb lnc ofa ofb ofc b29 b30 (.val (.long av)) .second .unset .unset .unset .unset .unset .unset .unset .unset) [])) t → Steps p.tables e below (T31.setTop (mkF m 139 (own_lu ja jb jc le mo se nn kl v8 v16 lna lnb lnc ofa ofb ofc b29 b30) [(.int nn)])) t := by
  by_cases hc35 : (0 : Int32) < nn
  ·obtain ⟨r0, hr0, -, hw0, tt0⟩ := own_f0 K ja
   obtain ⟨cq36, kq36, q36a, q36b, q36c⟩ := isOf hZ rfl q31_0
   obtain ⟨_, _, ⟨T36, L36, k36, n36⟩, -, X36, ⟨Lc36, hQ36, l36, y36, z36⟩, st36⟩ := X31.virtualBack hx (y := (⟨cRE, "offerItem", "(J[BII)V"⟩ : MethodName)) (z := (⟨cRE, "offerItem", "(J[BII)V"⟩ : MethodName)) hown (mvT hZ (Wd hw 85 rfl)) (mvT hZ (Wd hw 86 rfl)) (notFace_of_selects (args := #[]) (mvT hZ (Wd hw 88 rfl))) (mvT hZ (Wd hw 88 rfl)) (mvT hZ (Wd hw 87 rfl)) (by decide) (backOf (W := 0) (rmONa l Z a0 hw [] b30 ja b29 ofa lna lh_31 it_31 ct_31 (0 : Int64) hp_31 sl_31 ix_31 mk_31 (0 : Int64) (0 : Int64) (0 : Int64) kl k_hp_31 nl_31 k_sl_31 ([(0 : Int64), (0 : Int64), (0 : Int64), (0 : Int64), (0 : Int64), (0 : Int64), (0 : Int64), (0 : Int64)]) k_ix_31 ([(-1 : Int32), (-1 : Int32), (-1 : Int32), (-1 : Int32), (-1 : Int32), (-1 : Int32), (-1 : Int32), (-1 : Int32)]) (0 : Int64) (0 : Int64) (0 : Int64) k_ct_31 k_it_31 r0 k29 T31.heap n0 Zs31 q31_0 q31_1 q31_2 q31_3 q31_4 q31_5 q31_7 q31_6 q31_8 q31_9 q31_10 q31_11 q31_12 q31_13 q31_15 q31_14 K ne_hp_31_sl_31 ne_hp_31_ct_31 ne_sl_31_ct_31 q31_17 hr0 ⟨rfl, rfl⟩ (own_kpos K) hw0 ((V29.ext E30).keep Kc31 (ninS ((nlt V29.lt (Nat.le_of_eq g30.symm))) nin0)) bofa blna g_b30 g_lh_31 g_hp_31 g_sl_31 g_ix_31 g_it_31 g_ct_31) hZ (Wd hw 89 rfl) (Wd hw 3 rfl) (by decide) (by decide)) q36a q36c (g := (mkF m 151 (own_lu ja jb jc le mo se nn kl v8 v16 lna lnb lnc ofa ofb ofc b29 b30) [(.int lna), (.int ofa), (.ref b29), (.long ja), (.ref b30)])) rfl (by rw [hml]; rfl) (Steps.refl _) (argsL := [(.long ja), (.ref b29), (.int ofa), (.int lna)]) (rest := []) (lenOf own_pd14 rfl) rfl (by show 2 * 0 + _ ≤ _; exact Nat.le_of_eq rfl) (hb hby at_151) (fun _ _ => ⟨rfl, rfl, (by decide : 10 + 1 ≤ _), (by decide : 76 + 7 ≤ _)⟩)
   dsimp only [Pt.U, Pt.locs, Pt.cells, Pt.slots] at X36 l36 y36 z36 st36 hQ36
   subst l36 y36 z36
   obtain ⟨rt_36, k_rt_36, lw_36, da_36, db_36, dc_36, rfl, Nq36, Kc36, g_rt_36, zq_rt_36, q36_0, q36_1, q36_2, q36_3, q36_4, q36_5, q36_6, q36_7, q36_8, q36_9, q36_10, q36_11, q36_12, q36_13, q36_14, q36_15, q36_16⟩ := hQ36
   have sz_rt_36 : T31.heap.size ≤ rt_36 := Nat.le_trans (Keep.refl T31.heap [ct_31, it_31, ix_31, sl_31, hp_31, lh_31, b30]).1 zq_rt_36
   have K36 : Keep T31.heap T36.heap [ct_31, it_31, ix_31, sl_31, hp_31, lh_31, b30] := Keep.trans (Keep.refl T31.heap [ct_31, it_31, ix_31, sl_31, hp_31, lh_31, b30]) Kc36 (allS (Or.inl (List.mem_of_getElem? (i := 6) rfl)) (allS (Or.inl (List.mem_of_getElem? (i := 5) rfl)) (allS (Or.inl (List.mem_of_getElem? (i := 4) rfl)) (allS (Or.inl (List.mem_of_getElem? (i := 3) rfl)) (allS (Or.inl (List.mem_of_getElem? (i := 2) rfl)) (allS (Or.inl (List.mem_of_getElem? (i := 1) rfl)) (allS (Or.inl (List.mem_of_getElem? (i := 0) rfl)) all0)))))))
   have Zs36 : n0 ≤ T36.heap.size := Nat.le_trans Zs31 Kc36.1
   have N36 := Fr.app N31 Nq36
   have r37 : ∀ t, Steps p.tables e below (T36.setTop (mkF m 157 (own_lu ja jb jc le mo se nn kl v8 v16 lna lnb lnc ofa ofb ofc b29 b30) [(.int (1 : Int32)), (.int nn)])) t → Steps p.tables e below (T31.setTop (mkF m 139 (own_lu ja jb jc le mo se nn kl v8 v16 lna lnb lnc ofa ofb ofc b29 b30) [(.int nn)])) t := fun t kt => by
    refine XS.ifNo X31.here hx rfl (hb hby at_139) rfl ((if0 _ _).trans (tlt hc35).2.2.2) ?_
    refine XS.aload X31.here hx rfl (hb hby at_142) rfl rfl ?_
    refine XS.lloadN X31.here hx rfl (hb hby at_144) rfl ?_
    refine XS.aload X31.here hx rfl (hb hby at_145) rfl rfl ?_
    refine XS.iload X31.here hx rfl (hb hby at_147) rfl ?_
    refine XS.iload X31.here hx rfl (hb hby at_149) rfl ?_
    refine st36.trans ?_
    refine XS.iload X36.here hx rfl (hb hby at_154) rfl ?_
    refine XS.iconst X36.here hx rfl (hb hby at_156) ?_
    exact kt
   by_cases hc38 : (1 : Int32) < nn
   ·have r39 : ∀ t, Steps p.tables e below (T36.setTop (mkF m 170 (own_lu ja jb jc le mo se nn kl v8 v16 lna lnb lnc ofa ofb ofc b29 b30) [(.int lnb), (.int ofb), (.ref b29), (.long v8), (.ref b30)])) t → Steps p.tables e below (T36.setTop (mkF m 157 (own_lu ja jb jc le mo se nn kl v8 v16 lna lnb lnc ofa ofb ofc b29 b30) [(.int (1 : Int32)), (.int nn)])) t := fun t kt => by
     refine XS.icmpNo X36.here hx rfl (hb hby at_157) rfl (tlt hc38).2.2.2 ?_
     refine XS.aload X36.here hx rfl (hb hby at_160) rfl rfl ?_
     refine XS.lload X36.here hx rfl (hb hby at_162) rfl ?_
     refine XS.aload X36.here hx rfl (hb hby at_164) rfl rfl ?_
     refine XS.iload X36.here hx rfl (hb hby at_166) rfl ?_
     refine XS.iload X36.here hx rfl (hb hby at_168) rfl ?_
     exact kt
    obtain ⟨r1, hr1, -, hf1, hw1⟩ := own_f1 K tt0 v8
    by_cases h10 : v8 = ja
    ·obtain ⟨cq40, kq40, q40a, q40b, q40c⟩ := isOf hZ rfl q36_0
     obtain ⟨_, _, ⟨T40, L40, k40, n40⟩, -, X40, ⟨Lc40, hQ40, l40, y40, z40⟩, st40⟩ := X36.virtualBack hx (y := (⟨cRE, "offerItem", "(J[BII)V"⟩ : MethodName)) (z := (⟨cRE, "offerItem", "(J[BII)V"⟩ : MethodName)) hown (mvT hZ (Wd hw 85 rfl)) (mvT hZ (Wd hw 86 rfl)) (notFace_of_selects (args := #[]) (mvT hZ (Wd hw 88 rfl))) (mvT hZ (Wd hw 88 rfl)) (mvT hZ (Wd hw 87 rfl)) (by decide) (backOf (W := 0) (rmOF l Z a0 hw [] b30 v8 b29 ofb lnb lh_31 ct_31 hp_31 (1 : Int32) sl_31 ix_31 mk_31 ja (0 : Int64) (0 : Int64) kl k_hp_31 nl_31 k_sl_31 (([(0 : Int64), (0 : Int64), (0 : Int64), (0 : Int64), (0 : Int64), (0 : Int64), (0 : Int64), (0 : Int64)]).set r0.toNatClampNeg ja) k_ix_31 (([(-1 : Int32), (-1 : Int32), (-1 : Int32), (-1 : Int32), (-1 : Int32), (-1 : Int32), (-1 : Int32), (-1 : Int32)]).set r0.toNatClampNeg (0 : Int32)) da_36 db_36 dc_36 k_ct_31 r1 T36.heap n0 Zs36 q36_0 q36_1 q36_3 q36_5 q36_6 q36_7 q36_8 q36_9 q36_10 q36_11 q36_12 q36_13 q36_15 K hr1 ne_hp_31_ct_31 ne_sl_31_ct_31 (fun q => by have q2 := q.2; rw [h10] at q2; exact absurd q2 (Int.lt_irrefl _)) (Or.inl ⟨(hf1 h10).2, own_kpos K⟩) g_ct_31) hZ (Wd hw 89 rfl) (Wd hw 3 rfl) (by decide) (by decide)) q40a q40c (g := (mkF m 170 (own_lu ja jb jc le mo se nn kl v8 v16 lna lnb lnc ofa ofb ofc b29 b30) [(.int lnb), (.int ofb), (.ref b29), (.long v8), (.ref b30)])) rfl (by rw [hml]; rfl) (Steps.refl _) (argsL := [(.long v8), (.ref b29), (.int ofb), (.int lnb)]) (rest := []) (lenOf own_pd14 rfl) rfl (by show 2 * 0 + _ ≤ _; exact Nat.le_of_eq rfl) (hb hby at_170) (fun _ _ => ⟨rfl, rfl, (by decide : 11 + 1 ≤ _), (by decide : 83 + 7 ≤ _)⟩)
     dsimp only [Pt.U, Pt.locs, Pt.cells, Pt.slots] at X40 l40 y40 z40 st40 hQ40
     subst l40 y40 z40
     obtain ⟨da_40, db_40, dc_40, rfl, Nq40, Kc40, q40_0⟩ := hQ40
     have K40 : Keep T31.heap T40.heap [ct_31, it_31, ix_31, sl_31, hp_31, lh_31, b30] := Keep.trans K36 Kc40 (allS (Or.inl (List.mem_of_getElem? (i := 0) rfl)) all0)
     have Zs40 : n0 ≤ T40.heap.size := Nat.le_trans Zs36 Kc40.1
     have N40 := Fr.app N36 Nq40
     have r41 : ∀ t, Steps p.tables e below (T40.setTop (mkF m 176 (own_lu ja jb jc le mo se nn kl v8 v16 lna lnb lnc ofa ofb ofc b29 b30) [(.int (2 : Int32)), (.int nn)])) t → Steps p.tables e below (T36.setTop (mkF m 170 (own_lu ja jb jc le mo se nn kl v8 v16 lna lnb lnc ofa ofb ofc b29 b30) [(.int lnb), (.int ofb), (.ref b29), (.long v8), (.ref b30)])) t := fun t kt => by
      refine st40.trans ?_
      refine XS.iload X40.here hx rfl (hb hby at_173) rfl ?_
      refine XS.iconst X40.here hx rfl (hb hby at_175) ?_
      exact kt
     by_cases hc42 : (2 : Int32) < nn
     ·have r43 : ∀ t, Steps p.tables e below (T40.setTop (mkF m 189 (own_lu ja jb jc le mo se nn kl v8 v16 lna lnb lnc ofa ofb ofc b29 b30) [(.int lnc), (.int ofc), (.ref b29), (.long v16), (.ref b30)])) t → Steps p.tables e below (T40.setTop (mkF m 176 (own_lu ja jb jc le mo se nn kl v8 v16 lna lnb lnc ofa ofb ofc b29 b30) [(.int (2 : Int32)), (.int nn)])) t := fun t kt => by
       refine XS.icmpNo X40.here hx rfl (hb hby at_176) rfl (tlt hc42).2.2.2 ?_
       refine XS.aload X40.here hx rfl (hb hby at_179) rfl rfl ?_
       refine XS.lload X40.here hx rfl (hb hby at_181) rfl ?_
       refine XS.aload X40.here hx rfl (hb hby at_183) rfl rfl ?_
       refine XS.iload X40.here hx rfl (hb hby at_185) rfl ?_
       refine XS.iload X40.here hx rfl (hb hby at_187) rfl ?_
       exact kt
      obtain ⟨r2, hr2, -, hf2, hw2⟩ := own_f1 K tt0 v16
      by_cases h20 : v16 = ja
      ·obtain ⟨cq44, kq44, q44a, q44b, q44c⟩ := isOf hZ rfl (q36_0.keep Kc40)
       obtain ⟨_, _, ⟨T44, L44, k44, n44⟩, -, X44, ⟨Lc44, hQ44, l44, y44, z44⟩, st44⟩ := X40.virtualBack hx (y := (⟨cRE, "offerItem", "(J[BII)V"⟩ : MethodName)) (z := (⟨cRE, "offerItem", "(J[BII)V"⟩ : MethodName)) hown (mvT hZ (Wd hw 85 rfl)) (mvT hZ (Wd hw 86 rfl)) (notFace_of_selects (args := #[]) (mvT hZ (Wd hw 88 rfl))) (mvT hZ (Wd hw 88 rfl)) (mvT hZ (Wd hw 87 rfl)) (by decide) (backOf (W := 0) (rmOF l Z a0 hw [] b30 v16 b29 ofc lnc lh_31 ct_31 hp_31 (1 : Int32) sl_31 ix_31 mk_31 ja (0 : Int64) (0 : Int64) kl k_hp_31 nl_31 k_sl_31 (([(0 : Int64), (0 : Int64), (0 : Int64), (0 : Int64), (0 : Int64), (0 : Int64), (0 : Int64), (0 : Int64)]).set r0.toNatClampNeg ja) k_ix_31 (([(-1 : Int32), (-1 : Int32), (-1 : Int32), (-1 : Int32), (-1 : Int32), (-1 : Int32), (-1 : Int32), (-1 : Int32)]).set r0.toNatClampNeg (0 : Int32)) da_40 db_40 dc_40 k_ct_31 r2 T40.heap n0 Zs40 (q36_0.keep Kc40) (q36_1.keep Kc40 (ninS ((nlt A30.lt zq_ct_31)) nin0)) (q36_3.keep Kc40 (ninS ((nlt A30.lt zq_ct_31)) nin0)) (q36_5.keep Kc40) (q36_6.keep Kc40 (ninS ne_lh_31_ct_31 nin0)) (q36_7.keep Kc40 (ninS ne_lh_31_ct_31 nin0)) (q36_8.keep Kc40 (ninS ne_lh_31_ct_31 nin0)) (q36_9.keep Kc40 (ninS ne_lh_31_ct_31 nin0)) (q36_10.keep Kc40 (ninS ne_lh_31_ct_31 nin0)) (q36_11.keep Kc40 (ninS ne_hp_31_ct_31 nin0)) (q36_12.keep Kc40 (ninS ne_sl_31_ct_31 nin0)) (q36_13.keep Kc40 (ninS ne_ix_31_ct_31 nin0)) q40_0 K hr2 ne_hp_31_ct_31 ne_sl_31_ct_31 (fun q => by have q2 := q.2; rw [h20] at q2; exact absurd q2 (Int.lt_irrefl _)) (Or.inl ⟨(hf2 h20).2, own_kpos K⟩) g_ct_31) hZ (Wd hw 89 rfl) (Wd hw 3 rfl) (by decide) (by decide)) q44a q44c (g := (mkF m 189 (own_lu ja jb jc le mo se nn kl v8 v16 lna lnb lnc ofa ofb ofc b29 b30) [(.int lnc), (.int ofc), (.ref b29), (.long v16), (.ref b30)])) rfl (by rw [hml]; rfl) (Steps.refl _) (argsL := [(.long v16), (.ref b29), (.int ofc), (.int lnc)]) (rest := []) (lenOf own_pd14 rfl) rfl (by show 2 * 0 + _ ≤ _; exact Nat.le_of_eq rfl) (hb hby at_189) (fun _ _ => ⟨rfl, rfl, (by decide : 12 + 1 ≤ _), (by decide : 90 + 7 ≤ _)⟩)
       dsimp only [Pt.U, Pt.locs, Pt.cells, Pt.slots] at X44 l44 y44 z44 st44 hQ44
       subst l44 y44 z44
       obtain ⟨da_44, db_44, dc_44, rfl, Nq44, Kc44, q44_0⟩ := hQ44
       have K44 : Keep T31.heap T44.heap [ct_31, it_31, ix_31, sl_31, hp_31, lh_31, b30] := Keep.trans K40 Kc44 (allS (Or.inl (List.mem_of_getElem? (i := 0) rfl)) all0)
       have Zs44 : n0 ≤ T44.heap.size := Nat.le_trans Zs40 Kc44.1
       have N44 := Fr.app N40 Nq44
       obtain ⟨cq45, kq45, q45a, q45b, q45c⟩ := isOf hZ rfl ((q36_0.keep Kc40).keep Kc44)
       obtain ⟨_, _, ⟨T45, L45, k45, n45⟩, -, X45, ⟨Lc45, hQ45, l45, y45, z45⟩, st45⟩ := X44.virtualBack hx (y := (⟨cRE, "contentLength", "()J"⟩ : MethodName)) (z := (⟨cRE, "contentLength", "()J"⟩ : MethodName)) hown (mvT hZ (Wd hw 155 rfl)) (mvT hZ (Wd hw 156 rfl)) (notFace_of_selects (args := #[]) (mvT hZ (Wd hw 158 rfl))) (mvT hZ (Wd hw 158 rfl)) (mvT hZ (Wd hw 157 rfl)) (by decide) (backOf (W := 0) (rmCLb l Z a0 hw [] b30 lh_31 it_31 kl rt_36 k_it_31 lna lw_36 k_rt_36 T44.heap n0 Zs44 ((q36_0.keep Kc40).keep Kc44) ((q36_1.keep Kc40 (ninS ((nlt A30.lt zq_ct_31)) nin0)).keep Kc44 (ninS ((nlt A30.lt zq_ct_31)) nin0)) ((q36_2.keep Kc40 (ninS ((nlt A30.lt zq_ct_31)) nin0)).keep Kc44 (ninS ((nlt A30.lt zq_ct_31)) nin0)) ((q36_5.keep Kc40).keep Kc44) ((q36_7.keep Kc40 (ninS ne_lh_31_ct_31 nin0)).keep Kc44 (ninS ne_lh_31_ct_31 nin0)) ((q36_14.keep Kc40 (ninS ne_it_31_ct_31 nin0)).keep Kc44 (ninS ne_it_31_ct_31 nin0)) ((q36_16.keep Kc40 (ninS (Ne.symm ((nlt q31_15.lt zq_rt_36))) nin0)).keep Kc44 (ninS (Ne.symm ((nlt q31_15.lt zq_rt_36))) nin0)) (own_kpos K)) hZ (Wd hw 159 rfl) (Wd hw 3 rfl) (by decide) (by decide)) q45a q45c (g := (mkF m 194 (own_lu ja jb jc le mo se nn kl v8 v16 lna lnb lnc ofa ofb ofc b29 b30) [(.ref b30)])) rfl (by rw [hml]; rfl) (Steps.refl _) (argsL := []) (rest := []) (lenOf own_pd15 rfl) rfl (by show 2 * 0 + _ ≤ _; exact Nat.le_of_eq rfl) (hb hby at_194) (fun _ _ => ⟨rfl, rfl, (by decide : 13 + 0 ≤ _), (by decide : 97 + 0 ≤ _)⟩)
       dsimp only [Pt.U, Pt.locs, Pt.cells, Pt.slots] at X45 l45 y45 z45 st45 hQ45
       subst l45 y45 z45
       obtain ⟨rfl, Nq45, e45⟩ := hQ45
       have N45 := Fr.app N44 Nq45
       have r46 : ∀ t, Steps p.tables e below (T45.setTop (mkF m 199 (own_lo ja jb jc le mo se nn kl v8 v16 lna lnb lnc ofa ofb ofc b29 b30 (.val (.long ((12 : Int64) + ((12 : Int64) + (lna.toInt64))))) .second .unset .unset .unset .unset .unset .unset .unset .unset) [])) t → Steps p.tables e below (T40.setTop (mkF m 189 (own_lu ja jb jc le mo se nn kl v8 v16 lna lnb lnc ofa ofb ofc b29 b30) [(.int lnc), (.int ofc), (.ref b29), (.long v16), (.ref b30)])) t := fun t kt => by
        refine st44.trans ?_
        refine XS.aload X44.here hx rfl (hb hby at_192) rfl rfl ?_
        refine st45.trans ?_
        refine XS.lstore X45.here hx rfl (hb hby at_197) rfl (l' := (own_lo ja jb jc le mo se nn kl v8 v16 lna lnb lnc ofa ofb ofc b29 b30 (.val (.long ((12 : Int64) + ((12 : Int64) + (lna.toInt64))))) .second .unset .unset .unset .unset .unset .unset .unset .unset)) rfl ?_
        exact kt
       exact ⟨_, _, _, ((12 : Int64) + ((12 : Int64) + (lna.toInt64))), X45, e45, K44, (own_x3aa hk hc42 h10 h20), N45, fun t kt => (r37 _ (r39 _ (r41 _ (r43 _ (r46 _ kt)))))⟩
      ·by_cases hk1 : kl = 1
       ·obtain ⟨cq47, kq47, q47a, q47b, q47c⟩ := isOf hZ rfl (q36_0.keep Kc40)
        obtain ⟨_, _, ⟨T47, L47, k47, n47⟩, -, X47, ⟨Lc47, hQ47, l47, y47, z47⟩, st47⟩ := X40.virtualBack hx (y := (⟨cRE, "offerItem", "(J[BII)V"⟩ : MethodName)) (z := (⟨cRE, "offerItem", "(J[BII)V"⟩ : MethodName)) hown (mvT hZ (Wd hw 85 rfl)) (mvT hZ (Wd hw 86 rfl)) (notFace_of_selects (args := #[]) (mvT hZ (Wd hw 88 rfl))) (mvT hZ (Wd hw 88 rfl)) (mvT hZ (Wd hw 87 rfl)) (by decide) (backOf (W := 0) (rmOUb l Z a0 hw [] b30 v16 b29 ofc lnc lh_31 it_31 ct_31 ((0 : Int64) + (1 : Int64)) hp_31 sl_31 ix_31 mk_31 ja (0 : Int64) (0 : Int64) kl k_hp_31 nl_31 k_sl_31 (([(0 : Int64), (0 : Int64), (0 : Int64), (0 : Int64), (0 : Int64), (0 : Int64), (0 : Int64), (0 : Int64)]).set r0.toNatClampNeg ja) k_ix_31 (([(-1 : Int32), (-1 : Int32), (-1 : Int32), (-1 : Int32), (-1 : Int32), (-1 : Int32), (-1 : Int32), (-1 : Int32)]).set r0.toNatClampNeg (0 : Int32)) da_40 db_40 dc_40 k_ct_31 rt_36 k_it_31 lna lw_36 k_rt_36 k29 T40.heap n0 Zs40 (q36_0.keep Kc40) (q36_1.keep Kc40 (ninS ((nlt A30.lt zq_ct_31)) nin0)) (q36_2.keep Kc40 (ninS ((nlt A30.lt zq_ct_31)) nin0)) (q36_3.keep Kc40 (ninS ((nlt A30.lt zq_ct_31)) nin0)) (q36_4.keep Kc40 (ninS ((nlt A30.lt zq_ct_31)) nin0)) (q36_5.keep Kc40) (q36_6.keep Kc40 (ninS ne_lh_31_ct_31 nin0)) (q36_7.keep Kc40 (ninS ne_lh_31_ct_31 nin0)) (q36_8.keep Kc40 (ninS ne_lh_31_ct_31 nin0)) (q36_9.keep Kc40 (ninS ne_lh_31_ct_31 nin0)) (q36_10.keep Kc40 (ninS ne_lh_31_ct_31 nin0)) (q36_11.keep Kc40 (ninS ne_hp_31_ct_31 nin0)) (q36_12.keep Kc40 (ninS ne_sl_31_ct_31 nin0)) (q36_13.keep Kc40 (ninS ne_ix_31_ct_31 nin0)) q40_0 (q36_14.keep Kc40 (ninS ne_it_31_ct_31 nin0)) K ne_hp_31_sl_31 ne_hp_31_ct_31 ne_sl_31_ct_31 q31_17 (q36_16.keep Kc40 (ninS (Ne.symm ((nlt q31_15.lt zq_rt_36))) nin0)) ((((V29.ext E30).keep Kc31 (ninS ((nlt V29.lt (Nat.le_of_eq g30.symm))) nin0)).keep Kc36 (ninS ((nlt V29.lt (Nat.le_of_eq g30.symm))) (ninS ((nlt (V29.ext E30).lt zq_lh_31)) (ninS ((nlt (V29.ext E30).lt zq_hp_31)) (ninS ((nlt (V29.ext E30).lt zq_sl_31)) (ninS ((nlt (V29.ext E30).lt zq_ix_31)) (ninS ((nlt (V29.ext E30).lt zq_it_31)) (ninS ((nlt (V29.ext E30).lt zq_ct_31)) nin0)))))))).keep Kc40 (ninS ((nlt (V29.ext E30).lt zq_ct_31)) nin0)) bofc blnc hk1.symm tt0 g_b30 g_hp_31 g_sl_31 g_ix_31 g_it_31 g_ct_31) hZ (Wd hw 89 rfl) (Wd hw 3 rfl) (by decide) (by decide)) q47a q47c (g := (mkF m 189 (own_lu ja jb jc le mo se nn kl v8 v16 lna lnb lnc ofa ofb ofc b29 b30) [(.int lnc), (.int ofc), (.ref b29), (.long v16), (.ref b30)])) rfl (by rw [hml]; rfl) (Steps.refl _) (argsL := [(.long v16), (.ref b29), (.int ofc), (.int lnc)]) (rest := []) (lenOf own_pd14 rfl) rfl (by show 2 * 0 + _ ≤ _; exact Nat.le_of_eq rfl) (hb hby at_189) (fun _ _ => ⟨rfl, rfl, (by decide : 12 + 1 ≤ _), (by decide : 90 + 7 ≤ _)⟩)
        dsimp only [Pt.U, Pt.locs, Pt.cells, Pt.slots] at X47 l47 y47 z47 st47 hQ47
        subst l47 y47 z47
        obtain ⟨xz_47, iz_47, k_iz_47, nz_47, wz_47, svd_47, ivd_47, re_47, da_47, db_47, dc_47, rfl, Nq47, Kc47, q47_0, q47_1, q47_2, q47_3, q47_4, q47_5, q47_6, q47_7, q47_8, q47_9, q47_10, q47_11, q47_12⟩ := hQ47
        have K47 : Keep T31.heap T47.heap [ct_31, it_31, ix_31, sl_31, hp_31, lh_31, b30] := Keep.trans K40 Kc47 (allS (Or.inl (List.mem_of_getElem? (i := 6) rfl)) (allS (Or.inl (List.mem_of_getElem? (i := 4) rfl)) (allS (Or.inl (List.mem_of_getElem? (i := 3) rfl)) (allS (Or.inl (List.mem_of_getElem? (i := 2) rfl)) (allS (Or.inl (List.mem_of_getElem? (i := 1) rfl)) (allS (Or.inl (List.mem_of_getElem? (i := 0) rfl)) all0))))))
        have Zs47 : n0 ≤ T47.heap.size := Nat.le_trans Zs40 Kc47.1
        have N47 := Fr.app N40 Nq47
        obtain ⟨cq48, kq48, q48a, q48b, q48c⟩ := isOf hZ rfl q47_0
        obtain ⟨_, _, ⟨T48, L48, k48, n48⟩, -, X48, ⟨Lc48, hQ48, l48, y48, z48⟩, st48⟩ := X47.virtualBack hx (y := (⟨cRE, "contentLength", "()J"⟩ : MethodName)) (z := (⟨cRE, "contentLength", "()J"⟩ : MethodName)) hown (mvT hZ (Wd hw 155 rfl)) (mvT hZ (Wd hw 156 rfl)) (notFace_of_selects (args := #[]) (mvT hZ (Wd hw 158 rfl))) (mvT hZ (Wd hw 158 rfl)) (mvT hZ (Wd hw 157 rfl)) (by decide) (backOf (W := 0) (rmCLb l Z a0 hw [] b30 lh_31 it_31 kl iz_47 k_it_31 nz_47 wz_47 k_iz_47 T47.heap n0 Zs47 q47_0 q47_1 q47_2 ((q36_5.keep Kc40).keep Kc47) ((q36_7.keep Kc40 (ninS ne_lh_31_ct_31 nin0)).keep Kc47 (ninS (Ne.symm ((nlt A30.lt zq_lh_31))) (ninS ne_lh_31_hp_31 (ninS ne_lh_31_sl_31 (ninS ne_lh_31_ix_31 (ninS ne_lh_31_it_31 (ninS ne_lh_31_ct_31 nin0))))))) q47_8 q47_10 (own_kpos K)) hZ (Wd hw 159 rfl) (Wd hw 3 rfl) (by decide) (by decide)) q48a q48c (g := (mkF m 194 (own_lu ja jb jc le mo se nn kl v8 v16 lna lnb lnc ofa ofb ofc b29 b30) [(.ref b30)])) rfl (by rw [hml]; rfl) (Steps.refl _) (argsL := []) (rest := []) (lenOf own_pd15 rfl) rfl (by show 2 * 0 + _ ≤ _; exact Nat.le_of_eq rfl) (hb hby at_194) (fun _ _ => ⟨rfl, rfl, (by decide : 13 + 0 ≤ _), (by decide : 97 + 0 ≤ _)⟩)
        dsimp only [Pt.U, Pt.locs, Pt.cells, Pt.slots] at X48 l48 y48 z48 st48 hQ48
        subst l48 y48 z48
        obtain ⟨rfl, Nq48, e48⟩ := hQ48
        have N48 := Fr.app N47 Nq48
        have r49 : ∀ t, Steps p.tables e below (T48.setTop (mkF m 199 (own_lo ja jb jc le mo se nn kl v8 v16 lna lnb lnc ofa ofb ofc b29 b30 (.val (.long ((12 : Int64) + ((12 : Int64) + (nz_47.toInt64))))) .second .unset .unset .unset .unset .unset .unset .unset .unset) [])) t → Steps p.tables e below (T40.setTop (mkF m 189 (own_lu ja jb jc le mo se nn kl v8 v16 lna lnb lnc ofa ofb ofc b29 b30) [(.int lnc), (.int ofc), (.ref b29), (.long v16), (.ref b30)])) t := fun t kt => by
         refine st47.trans ?_
         refine XS.aload X47.here hx rfl (hb hby at_192) rfl rfl ?_
         refine st48.trans ?_
         refine XS.lstore X48.here hx rfl (hb hby at_197) rfl (l' := (own_lo ja jb jc le mo se nn kl v8 v16 lna lnb lnc ofa ofb ofc b29 b30 (.val (.long ((12 : Int64) + ((12 : Int64) + (nz_47.toInt64))))) .second .unset .unset .unset .unset .unset .unset .unset .unset)) rfl ?_
         exact kt
        exact ⟨_, _, _, ((12 : Int64) + ((12 : Int64) + (nz_47.toInt64))), X48, e48, K47, (own_x3ab hk1 hc42 h10 h20 q47_12), N48, fun t kt => (r37 _ (r39 _ (r41 _ (r43 _ (r49 _ kt)))))⟩
       ·have tw2 := (hw2 h20).2
        obtain ⟨cq50, kq50, q50a, q50b, q50c⟩ := isOf hZ rfl (q36_0.keep Kc40)
        obtain ⟨_, _, ⟨T50, L50, k50, n50⟩, -, X50, ⟨Lc50, hQ50, l50, y50, z50⟩, st50⟩ := X40.virtualBack hx (y := (⟨cRE, "offerItem", "(J[BII)V"⟩ : MethodName)) (z := (⟨cRE, "offerItem", "(J[BII)V"⟩ : MethodName)) hown (mvT hZ (Wd hw 85 rfl)) (mvT hZ (Wd hw 86 rfl)) (notFace_of_selects (args := #[]) (mvT hZ (Wd hw 88 rfl))) (mvT hZ (Wd hw 88 rfl)) (mvT hZ (Wd hw 87 rfl)) (by decide) (backOf (W := 0) (rmONb l Z a0 hw [] b30 v16 b29 ofc lnc lh_31 it_31 ct_31 ((0 : Int64) + (1 : Int64)) hp_31 sl_31 ix_31 mk_31 ja (0 : Int64) (0 : Int64) kl k_hp_31 nl_31 k_sl_31 (([(0 : Int64), (0 : Int64), (0 : Int64), (0 : Int64), (0 : Int64), (0 : Int64), (0 : Int64), (0 : Int64)]).set r0.toNatClampNeg ja) k_ix_31 (([(-1 : Int32), (-1 : Int32), (-1 : Int32), (-1 : Int32), (-1 : Int32), (-1 : Int32), (-1 : Int32), (-1 : Int32)]).set r0.toNatClampNeg (0 : Int32)) da_40 db_40 dc_40 k_ct_31 rt_36 k_it_31 r2 k29 T40.heap n0 Zs40 (q36_0.keep Kc40) (q36_1.keep Kc40 (ninS ((nlt A30.lt zq_ct_31)) nin0)) (q36_2.keep Kc40 (ninS ((nlt A30.lt zq_ct_31)) nin0)) (q36_3.keep Kc40 (ninS ((nlt A30.lt zq_ct_31)) nin0)) (q36_4.keep Kc40 (ninS ((nlt A30.lt zq_ct_31)) nin0)) (q36_5.keep Kc40) (q36_6.keep Kc40 (ninS ne_lh_31_ct_31 nin0)) (q36_7.keep Kc40 (ninS ne_lh_31_ct_31 nin0)) (q36_8.keep Kc40 (ninS ne_lh_31_ct_31 nin0)) (q36_9.keep Kc40 (ninS ne_lh_31_ct_31 nin0)) (q36_10.keep Kc40 (ninS ne_lh_31_ct_31 nin0)) (q36_11.keep Kc40 (ninS ne_hp_31_ct_31 nin0)) (q36_12.keep Kc40 (ninS ne_sl_31_ct_31 nin0)) (q36_13.keep Kc40 (ninS ne_ix_31_ct_31 nin0)) q40_0 (q36_14.keep Kc40 (ninS ne_it_31_ct_31 nin0)) K ne_hp_31_sl_31 ne_hp_31_ct_31 ne_sl_31_ct_31 q31_17 hr2 ⟨tt0.1, tt0.2.1⟩ (own_k1 K hk1) (hw2 h20).1 ((((V29.ext E30).keep Kc31 (ninS ((nlt V29.lt (Nat.le_of_eq g30.symm))) nin0)).keep Kc36 (ninS ((nlt V29.lt (Nat.le_of_eq g30.symm))) (ninS ((nlt (V29.ext E30).lt zq_lh_31)) (ninS ((nlt (V29.ext E30).lt zq_hp_31)) (ninS ((nlt (V29.ext E30).lt zq_sl_31)) (ninS ((nlt (V29.ext E30).lt zq_ix_31)) (ninS ((nlt (V29.ext E30).lt zq_it_31)) (ninS ((nlt (V29.ext E30).lt zq_ct_31)) nin0)))))))).keep Kc40 (ninS ((nlt (V29.ext E30).lt zq_ct_31)) nin0)) bofc blnc g_b30 g_lh_31 g_hp_31 g_sl_31 g_ix_31 g_it_31 g_ct_31) hZ (Wd hw 89 rfl) (Wd hw 3 rfl) (by decide) (by decide)) q50a q50c (g := (mkF m 189 (own_lu ja jb jc le mo se nn kl v8 v16 lna lnb lnc ofa ofb ofc b29 b30) [(.int lnc), (.int ofc), (.ref b29), (.long v16), (.ref b30)])) rfl (by rw [hml]; rfl) (Steps.refl _) (argsL := [(.long v16), (.ref b29), (.int ofc), (.int lnc)]) (rest := []) (lenOf own_pd14 rfl) rfl (by show 2 * 0 + _ ≤ _; exact Nat.le_of_eq rfl) (hb hby at_189) (fun _ _ => ⟨rfl, rfl, (by decide : 12 + 1 ≤ _), (by decide : 90 + 7 ≤ _)⟩)
        dsimp only [Pt.U, Pt.locs, Pt.cells, Pt.slots] at X50 l50 y50 z50 st50 hQ50
        subst l50 y50 z50
        obtain ⟨rt_50, k_rt_50, lw_50, da_50, db_50, dc_50, rfl, Nq50, Kc50, g_rt_50, zq_rt_50, q50_0, q50_1, q50_2, q50_3, q50_4, q50_5, q50_6, q50_7, q50_8, q50_9, q50_10, q50_11, q50_12, q50_13, q50_14, q50_15, q50_16⟩ := hQ50
        have sz_rt_50 : T31.heap.size ≤ rt_50 := Nat.le_trans K40.1 zq_rt_50
        have K50 : Keep T31.heap T50.heap [ct_31, it_31, ix_31, sl_31, hp_31, lh_31, b30] := Keep.trans K40 Kc50 (allS (Or.inl (List.mem_of_getElem? (i := 6) rfl)) (allS (Or.inl (List.mem_of_getElem? (i := 5) rfl)) (allS (Or.inl (List.mem_of_getElem? (i := 4) rfl)) (allS (Or.inl (List.mem_of_getElem? (i := 3) rfl)) (allS (Or.inl (List.mem_of_getElem? (i := 2) rfl)) (allS (Or.inl (List.mem_of_getElem? (i := 1) rfl)) (allS (Or.inl (List.mem_of_getElem? (i := 0) rfl)) all0)))))))
        have Zs50 : n0 ≤ T50.heap.size := Nat.le_trans Zs40 Kc50.1
        have N50 := Fr.app N40 Nq50
        obtain ⟨cq51, kq51, q51a, q51b, q51c⟩ := isOf hZ rfl q50_0
        obtain ⟨_, _, ⟨T51, L51, k51, n51⟩, -, X51, ⟨Lc51, hQ51, l51, y51, z51⟩, st51⟩ := X50.virtualBack hx (y := (⟨cRE, "contentLength", "()J"⟩ : MethodName)) (z := (⟨cRE, "contentLength", "()J"⟩ : MethodName)) hown (mvT hZ (Wd hw 155 rfl)) (mvT hZ (Wd hw 156 rfl)) (notFace_of_selects (args := #[]) (mvT hZ (Wd hw 158 rfl))) (mvT hZ (Wd hw 158 rfl)) (mvT hZ (Wd hw 157 rfl)) (by decide) (backOf (W := 0) (rmCLc l Z a0 hw [] b30 lh_31 it_31 kl rt_36 rt_50 k_it_31 lna lw_36 k_rt_36 lnc lw_50 k_rt_50 T50.heap n0 Zs50 q50_0 q50_1 q50_2 q50_5 q50_7 q50_14 ((q36_16.keep Kc40 (ninS (Ne.symm ((nlt q31_15.lt zq_rt_36))) nin0)).keep Kc50 (ninS (Ne.symm ((nlt q31_0.lt zq_rt_36))) (ninS (Ne.symm ((nlt q31_5.lt zq_rt_36))) (ninS (Ne.symm ((nlt q31_11.lt zq_rt_36))) (ninS (Ne.symm ((nlt q31_12.lt zq_rt_36))) (ninS (Ne.symm ((nlt q31_13.lt zq_rt_36))) (ninS (Ne.symm ((nlt q31_14.lt zq_rt_36))) (ninS (Ne.symm ((nlt q31_15.lt zq_rt_36))) nin0)))))))) q50_16 (own_k1 K hk1)) hZ (Wd hw 159 rfl) (Wd hw 3 rfl) (by decide) (by decide)) q51a q51c (g := (mkF m 194 (own_lu ja jb jc le mo se nn kl v8 v16 lna lnb lnc ofa ofb ofc b29 b30) [(.ref b30)])) rfl (by rw [hml]; rfl) (Steps.refl _) (argsL := []) (rest := []) (lenOf own_pd15 rfl) rfl (by show 2 * 0 + _ ≤ _; exact Nat.le_of_eq rfl) (hb hby at_194) (fun _ _ => ⟨rfl, rfl, (by decide : 13 + 0 ≤ _), (by decide : 97 + 0 ≤ _)⟩)
        dsimp only [Pt.U, Pt.locs, Pt.cells, Pt.slots] at X51 l51 y51 z51 st51 hQ51
        subst l51 y51 z51
        obtain ⟨rfl, Nq51, e51⟩ := hQ51
        have N51 := Fr.app N50 Nq51
        have r52 : ∀ t, Steps p.tables e below (T51.setTop (mkF m 199 (own_lo ja jb jc le mo se nn kl v8 v16 lna lnb lnc ofa ofb ofc b29 b30 (.val (.long (((12 : Int64) + ((12 : Int64) + (lna.toInt64))) + ((12 : Int64) + (lnc.toInt64))))) .second .unset .unset .unset .unset .unset .unset .unset .unset) [])) t → Steps p.tables e below (T40.setTop (mkF m 189 (own_lu ja jb jc le mo se nn kl v8 v16 lna lnb lnc ofa ofb ofc b29 b30) [(.int lnc), (.int ofc), (.ref b29), (.long v16), (.ref b30)])) t := fun t kt => by
         refine st50.trans ?_
         refine XS.aload X50.here hx rfl (hb hby at_192) rfl rfl ?_
         refine st51.trans ?_
         refine XS.lstore X51.here hx rfl (hb hby at_197) rfl (l' := (own_lo ja jb jc le mo se nn kl v8 v16 lna lnb lnc ofa ofb ofc b29 b30 (.val (.long (((12 : Int64) + ((12 : Int64) + (lna.toInt64))) + ((12 : Int64) + (lnc.toInt64))))) .second .unset .unset .unset .unset .unset .unset .unset .unset)) rfl ?_
         exact kt
        exact ⟨_, _, _, (((12 : Int64) + ((12 : Int64) + (lna.toInt64))) + ((12 : Int64) + (lnc.toInt64))), X51, e51, K50, (own_x3ac hk hk1 hc42 h10 h20), N51, fun t kt => (r37 _ (r39 _ (r41 _ (r43 _ (r52 _ kt)))))⟩
     ·obtain ⟨cq53, kq53, q53a, q53b, q53c⟩ := isOf hZ rfl (q36_0.keep Kc40)
      obtain ⟨_, _, ⟨T53, L53, k53, n53⟩, -, X53, ⟨Lc53, hQ53, l53, y53, z53⟩, st53⟩ := X40.virtualBack hx (y := (⟨cRE, "contentLength", "()J"⟩ : MethodName)) (z := (⟨cRE, "contentLength", "()J"⟩ : MethodName)) hown (mvT hZ (Wd hw 155 rfl)) (mvT hZ (Wd hw 156 rfl)) (notFace_of_selects (args := #[]) (mvT hZ (Wd hw 158 rfl))) (mvT hZ (Wd hw 158 rfl)) (mvT hZ (Wd hw 157 rfl)) (by decide) (backOf (W := 0) (rmCLb l Z a0 hw [] b30 lh_31 it_31 kl rt_36 k_it_31 lna lw_36 k_rt_36 T40.heap n0 Zs40 (q36_0.keep Kc40) (q36_1.keep Kc40 (ninS ((nlt A30.lt zq_ct_31)) nin0)) (q36_2.keep Kc40 (ninS ((nlt A30.lt zq_ct_31)) nin0)) (q36_5.keep Kc40) (q36_7.keep Kc40 (ninS ne_lh_31_ct_31 nin0)) (q36_14.keep Kc40 (ninS ne_it_31_ct_31 nin0)) (q36_16.keep Kc40 (ninS (Ne.symm ((nlt q31_15.lt zq_rt_36))) nin0)) (own_kpos K)) hZ (Wd hw 159 rfl) (Wd hw 3 rfl) (by decide) (by decide)) q53a q53c (g := (mkF m 194 (own_lu ja jb jc le mo se nn kl v8 v16 lna lnb lnc ofa ofb ofc b29 b30) [(.ref b30)])) rfl (by rw [hml]; rfl) (Steps.refl _) (argsL := []) (rest := []) (lenOf own_pd15 rfl) rfl (by show 2 * 0 + _ ≤ _; exact Nat.le_of_eq rfl) (hb hby at_194) (fun _ _ => ⟨rfl, rfl, (by decide : 12 + 0 ≤ _), (by decide : 90 + 0 ≤ _)⟩)
      dsimp only [Pt.U, Pt.locs, Pt.cells, Pt.slots] at X53 l53 y53 z53 st53 hQ53
      subst l53 y53 z53
      obtain ⟨rfl, Nq53, e53⟩ := hQ53
      have N53 := Fr.app N40 Nq53
      have r54 : ∀ t, Steps p.tables e below (T53.setTop (mkF m 199 (own_lo ja jb jc le mo se nn kl v8 v16 lna lnb lnc ofa ofb ofc b29 b30 (.val (.long ((12 : Int64) + ((12 : Int64) + (lna.toInt64))))) .second .unset .unset .unset .unset .unset .unset .unset .unset) [])) t → Steps p.tables e below (T40.setTop (mkF m 176 (own_lu ja jb jc le mo se nn kl v8 v16 lna lnb lnc ofa ofb ofc b29 b30) [(.int (2 : Int32)), (.int nn)])) t := fun t kt => by
       refine XS.icmpYes X40.here hx rfl (pc0 := 176) (pc' := 192) rfl (hb hby at_176) rfl (flt hc42).2.2.2 (by decide) (by decide) ?_
       refine XS.aload X40.here hx rfl (hb hby at_192) rfl rfl ?_
       refine st53.trans ?_
       refine XS.lstore X53.here hx rfl (hb hby at_197) rfl (l' := (own_lo ja jb jc le mo se nn kl v8 v16 lna lnb lnc ofa ofb ofc b29 b30 (.val (.long ((12 : Int64) + ((12 : Int64) + (lna.toInt64))))) .second .unset .unset .unset .unset .unset .unset .unset .unset)) rfl ?_
       exact kt
      exact ⟨_, _, _, ((12 : Int64) + ((12 : Int64) + (lna.toInt64))), (X53.more (by decide) (by decide)), e53, K40, (own_x2a hk hc38 hc42 h10), N53, fun t kt => (r37 _ (r39 _ (r41 _ (r54 _ kt))))⟩
    ·by_cases hk1 : kl = 1
     ·obtain ⟨cq55, kq55, q55a, q55b, q55c⟩ := isOf hZ rfl q36_0
      obtain ⟨_, _, ⟨T55, L55, k55, n55⟩, -, X55, ⟨Lc55, hQ55, l55, y55, z55⟩, st55⟩ := X36.virtualBack hx (y := (⟨cRE, "offerItem", "(J[BII)V"⟩ : MethodName)) (z := (⟨cRE, "offerItem", "(J[BII)V"⟩ : MethodName)) hown (mvT hZ (Wd hw 85 rfl)) (mvT hZ (Wd hw 86 rfl)) (notFace_of_selects (args := #[]) (mvT hZ (Wd hw 88 rfl))) (mvT hZ (Wd hw 88 rfl)) (mvT hZ (Wd hw 87 rfl)) (by decide) (backOf (W := 0) (rmOUb l Z a0 hw [] b30 v8 b29 ofb lnb lh_31 it_31 ct_31 ((0 : Int64) + (1 : Int64)) hp_31 sl_31 ix_31 mk_31 ja (0 : Int64) (0 : Int64) kl k_hp_31 nl_31 k_sl_31 (([(0 : Int64), (0 : Int64), (0 : Int64), (0 : Int64), (0 : Int64), (0 : Int64), (0 : Int64), (0 : Int64)]).set r0.toNatClampNeg ja) k_ix_31 (([(-1 : Int32), (-1 : Int32), (-1 : Int32), (-1 : Int32), (-1 : Int32), (-1 : Int32), (-1 : Int32), (-1 : Int32)]).set r0.toNatClampNeg (0 : Int32)) da_36 db_36 dc_36 k_ct_31 rt_36 k_it_31 lna lw_36 k_rt_36 k29 T36.heap n0 Zs36 q36_0 q36_1 q36_2 q36_3 q36_4 q36_5 q36_6 q36_7 q36_8 q36_9 q36_10 q36_11 q36_12 q36_13 q36_15 q36_14 K ne_hp_31_sl_31 ne_hp_31_ct_31 ne_sl_31_ct_31 q31_17 q36_16 (((V29.ext E30).keep Kc31 (ninS ((nlt V29.lt (Nat.le_of_eq g30.symm))) nin0)).keep Kc36 (ninS ((nlt V29.lt (Nat.le_of_eq g30.symm))) (ninS ((nlt (V29.ext E30).lt zq_lh_31)) (ninS ((nlt (V29.ext E30).lt zq_hp_31)) (ninS ((nlt (V29.ext E30).lt zq_sl_31)) (ninS ((nlt (V29.ext E30).lt zq_ix_31)) (ninS ((nlt (V29.ext E30).lt zq_it_31)) (ninS ((nlt (V29.ext E30).lt zq_ct_31)) nin0)))))))) bofb blnb hk1.symm tt0 g_b30 g_hp_31 g_sl_31 g_ix_31 g_it_31 g_ct_31) hZ (Wd hw 89 rfl) (Wd hw 3 rfl) (by decide) (by decide)) q55a q55c (g := (mkF m 170 (own_lu ja jb jc le mo se nn kl v8 v16 lna lnb lnc ofa ofb ofc b29 b30) [(.int lnb), (.int ofb), (.ref b29), (.long v8), (.ref b30)])) rfl (by rw [hml]; rfl) (Steps.refl _) (argsL := [(.long v8), (.ref b29), (.int ofb), (.int lnb)]) (rest := []) (lenOf own_pd14 rfl) rfl (by show 2 * 0 + _ ≤ _; exact Nat.le_of_eq rfl) (hb hby at_170) (fun _ _ => ⟨rfl, rfl, (by decide : 11 + 1 ≤ _), (by decide : 83 + 7 ≤ _)⟩)
      dsimp only [Pt.U, Pt.locs, Pt.cells, Pt.slots] at X55 l55 y55 z55 st55 hQ55
      subst l55 y55 z55
      obtain ⟨xz_55, iz_55, k_iz_55, nz_55, wz_55, svd_55, ivd_55, re_55, da_55, db_55, dc_55, rfl, Nq55, Kc55, q55_0, q55_1, q55_2, q55_3, q55_4, q55_5, q55_6, q55_7, q55_8, q55_9, q55_10, q55_11, q55_12⟩ := hQ55
      have K55 : Keep T31.heap T55.heap [ct_31, it_31, ix_31, sl_31, hp_31, lh_31, b30] := Keep.trans K36 Kc55 (allS (Or.inl (List.mem_of_getElem? (i := 6) rfl)) (allS (Or.inl (List.mem_of_getElem? (i := 4) rfl)) (allS (Or.inl (List.mem_of_getElem? (i := 3) rfl)) (allS (Or.inl (List.mem_of_getElem? (i := 2) rfl)) (allS (Or.inl (List.mem_of_getElem? (i := 1) rfl)) (allS (Or.inl (List.mem_of_getElem? (i := 0) rfl)) all0))))))
      have Zs55 : n0 ≤ T55.heap.size := Nat.le_trans Zs36 Kc55.1
      have N55 := Fr.app N36 Nq55
      have r56 : ∀ t, Steps p.tables e below (T55.setTop (mkF m 176 (own_lu ja jb jc le mo se nn kl v8 v16 lna lnb lnc ofa ofb ofc b29 b30) [(.int (2 : Int32)), (.int nn)])) t → Steps p.tables e below (T36.setTop (mkF m 170 (own_lu ja jb jc le mo se nn kl v8 v16 lna lnb lnc ofa ofb ofc b29 b30) [(.int lnb), (.int ofb), (.ref b29), (.long v8), (.ref b30)])) t := fun t kt => by
       refine st55.trans ?_
       refine XS.iload X55.here hx rfl (hb hby at_173) rfl ?_
       refine XS.iconst X55.here hx rfl (hb hby at_175) ?_
       exact kt
      by_cases hc57 : (2 : Int32) < nn
      ·have r58 : ∀ t, Steps p.tables e below (T55.setTop (mkF m 189 (own_lu ja jb jc le mo se nn kl v8 v16 lna lnb lnc ofa ofb ofc b29 b30) [(.int lnc), (.int ofc), (.ref b29), (.long v16), (.ref b30)])) t → Steps p.tables e below (T55.setTop (mkF m 176 (own_lu ja jb jc le mo se nn kl v8 v16 lna lnb lnc ofa ofb ofc b29 b30) [(.int (2 : Int32)), (.int nn)])) t := fun t kt => by
        refine XS.icmpNo X55.here hx rfl (hb hby at_176) rfl (tlt hc57).2.2.2 ?_
        refine XS.aload X55.here hx rfl (hb hby at_179) rfl rfl ?_
        refine XS.lload X55.here hx rfl (hb hby at_181) rfl ?_
        refine XS.aload X55.here hx rfl (hb hby at_183) rfl rfl ?_
        refine XS.iload X55.here hx rfl (hb hby at_185) rfl ?_
        refine XS.iload X55.here hx rfl (hb hby at_187) rfl ?_
        exact kt
       obtain ⟨cq59, kq59, q59a, q59b, q59c⟩ := isOf hZ rfl q55_0
       obtain ⟨_, _, ⟨T59, L59, k59, n59⟩, -, X59, ⟨Lc59, hQ59, l59, y59, z59⟩, st59⟩ := X55.virtualBack hx (y := (⟨cRE, "offerItem", "(J[BII)V"⟩ : MethodName)) (z := (⟨cRE, "offerItem", "(J[BII)V"⟩ : MethodName)) hown (mvT hZ (Wd hw 85 rfl)) (mvT hZ (Wd hw 86 rfl)) (notFace_of_selects (args := #[]) (mvT hZ (Wd hw 88 rfl))) (mvT hZ (Wd hw 88 rfl)) (mvT hZ (Wd hw 87 rfl)) (by decide) (backOf (W := 0) (rmOUb l Z a0 hw [] b30 v16 b29 ofc lnc lh_31 it_31 ct_31 re_55 hp_31 sl_31 ix_31 mk_31 xz_55 (0 : Int64) (0 : Int64) kl k_hp_31 nl_31 k_sl_31 svd_55 k_ix_31 ivd_55 da_55 db_55 dc_55 k_ct_31 iz_55 k_it_31 nz_55 wz_55 k_iz_55 k29 T55.heap n0 Zs55 q55_0 q55_1 q55_2 q55_3 q55_4 (q36_5.keep Kc55) (q36_6.keep Kc55 (ninS (Ne.symm ((nlt A30.lt zq_lh_31))) (ninS ne_lh_31_hp_31 (ninS ne_lh_31_sl_31 (ninS ne_lh_31_ix_31 (ninS ne_lh_31_it_31 (ninS ne_lh_31_ct_31 nin0))))))) (q36_7.keep Kc55 (ninS (Ne.symm ((nlt A30.lt zq_lh_31))) (ninS ne_lh_31_hp_31 (ninS ne_lh_31_sl_31 (ninS ne_lh_31_ix_31 (ninS ne_lh_31_it_31 (ninS ne_lh_31_ct_31 nin0))))))) (q36_8.keep Kc55 (ninS (Ne.symm ((nlt A30.lt zq_lh_31))) (ninS ne_lh_31_hp_31 (ninS ne_lh_31_sl_31 (ninS ne_lh_31_ix_31 (ninS ne_lh_31_it_31 (ninS ne_lh_31_ct_31 nin0))))))) (q36_9.keep Kc55 (ninS (Ne.symm ((nlt A30.lt zq_lh_31))) (ninS ne_lh_31_hp_31 (ninS ne_lh_31_sl_31 (ninS ne_lh_31_ix_31 (ninS ne_lh_31_it_31 (ninS ne_lh_31_ct_31 nin0))))))) (q36_10.keep Kc55 (ninS (Ne.symm ((nlt A30.lt zq_lh_31))) (ninS ne_lh_31_hp_31 (ninS ne_lh_31_sl_31 (ninS ne_lh_31_ix_31 (ninS ne_lh_31_it_31 (ninS ne_lh_31_ct_31 nin0))))))) q55_5 q55_6 q55_7 q55_9 q55_8 K ne_hp_31_sl_31 ne_hp_31_ct_31 ne_sl_31_ct_31 q31_17 q55_10 ((((V29.ext E30).keep Kc31 (ninS ((nlt V29.lt (Nat.le_of_eq g30.symm))) nin0)).keep Kc36 (ninS ((nlt V29.lt (Nat.le_of_eq g30.symm))) (ninS ((nlt (V29.ext E30).lt zq_lh_31)) (ninS ((nlt (V29.ext E30).lt zq_hp_31)) (ninS ((nlt (V29.ext E30).lt zq_sl_31)) (ninS ((nlt (V29.ext E30).lt zq_ix_31)) (ninS ((nlt (V29.ext E30).lt zq_it_31)) (ninS ((nlt (V29.ext E30).lt zq_ct_31)) nin0)))))))).keep Kc55 (ninS ((nlt V29.lt (Nat.le_of_eq g30.symm))) (ninS ((nlt (V29.ext E30).lt zq_hp_31)) (ninS ((nlt (V29.ext E30).lt zq_sl_31)) (ninS ((nlt (V29.ext E30).lt zq_ix_31)) (ninS ((nlt (V29.ext E30).lt zq_it_31)) (ninS ((nlt (V29.ext E30).lt zq_ct_31)) nin0))))))) bofc blnc hk1.symm q55_11 g_b30 g_hp_31 g_sl_31 g_ix_31 g_it_31 g_ct_31) hZ (Wd hw 89 rfl) (Wd hw 3 rfl) (by decide) (by decide)) q59a q59c (g := (mkF m 189 (own_lu ja jb jc le mo se nn kl v8 v16 lna lnb lnc ofa ofb ofc b29 b30) [(.int lnc), (.int ofc), (.ref b29), (.long v16), (.ref b30)])) rfl (by rw [hml]; rfl) (Steps.refl _) (argsL := [(.long v16), (.ref b29), (.int ofc), (.int lnc)]) (rest := []) (lenOf own_pd14 rfl) rfl (by show 2 * 0 + _ ≤ _; exact Nat.le_of_eq rfl) (hb hby at_189) (fun _ _ => ⟨rfl, rfl, (by decide : 12 + 1 ≤ _), (by decide : 90 + 7 ≤ _)⟩)
       dsimp only [Pt.U, Pt.locs, Pt.cells, Pt.slots] at X59 l59 y59 z59 st59 hQ59
       subst l59 y59 z59
       obtain ⟨xz_59, iz_59, k_iz_59, nz_59, wz_59, svd_59, ivd_59, re_59, da_59, db_59, dc_59, rfl, Nq59, Kc59, q59_0, q59_1, q59_2, q59_3, q59_4, q59_5, q59_6, q59_7, q59_8, q59_9, q59_10, q59_11, q59_12⟩ := hQ59
       have K59 : Keep T31.heap T59.heap [ct_31, it_31, ix_31, sl_31, hp_31, lh_31, b30] := Keep.trans K55 Kc59 (allS (Or.inl (List.mem_of_getElem? (i := 6) rfl)) (allS (Or.inl (List.mem_of_getElem? (i := 4) rfl)) (allS (Or.inl (List.mem_of_getElem? (i := 3) rfl)) (allS (Or.inl (List.mem_of_getElem? (i := 2) rfl)) (allS (Or.inl (List.mem_of_getElem? (i := 1) rfl)) (allS (Or.inl (List.mem_of_getElem? (i := 0) rfl)) all0))))))
       have Zs59 : n0 ≤ T59.heap.size := Nat.le_trans Zs55 Kc59.1
       have N59 := Fr.app N55 Nq59
       obtain ⟨cq60, kq60, q60a, q60b, q60c⟩ := isOf hZ rfl q59_0
       obtain ⟨_, _, ⟨T60, L60, k60, n60⟩, -, X60, ⟨Lc60, hQ60, l60, y60, z60⟩, st60⟩ := X59.virtualBack hx (y := (⟨cRE, "contentLength", "()J"⟩ : MethodName)) (z := (⟨cRE, "contentLength", "()J"⟩ : MethodName)) hown (mvT hZ (Wd hw 155 rfl)) (mvT hZ (Wd hw 156 rfl)) (notFace_of_selects (args := #[]) (mvT hZ (Wd hw 158 rfl))) (mvT hZ (Wd hw 158 rfl)) (mvT hZ (Wd hw 157 rfl)) (by decide) (backOf (W := 0) (rmCLb l Z a0 hw [] b30 lh_31 it_31 kl iz_59 k_it_31 nz_59 wz_59 k_iz_59 T59.heap n0 Zs59 q59_0 q59_1 q59_2 ((q36_5.keep Kc55).keep Kc59) ((q36_7.keep Kc55 (ninS (Ne.symm ((nlt A30.lt zq_lh_31))) (ninS ne_lh_31_hp_31 (ninS ne_lh_31_sl_31 (ninS ne_lh_31_ix_31 (ninS ne_lh_31_it_31 (ninS ne_lh_31_ct_31 nin0))))))).keep Kc59 (ninS (Ne.symm ((nlt A30.lt zq_lh_31))) (ninS ne_lh_31_hp_31 (ninS ne_lh_31_sl_31 (ninS ne_lh_31_ix_31 (ninS ne_lh_31_it_31 (ninS ne_lh_31_ct_31 nin0))))))) q59_8 q59_10 (own_kpos K)) hZ (Wd hw 159 rfl) (Wd hw 3 rfl) (by decide) (by decide)) q60a q60c (g := (mkF m 194 (own_lu ja jb jc le mo se nn kl v8 v16 lna lnb lnc ofa ofb ofc b29 b30) [(.ref b30)])) rfl (by rw [hml]; rfl) (Steps.refl _) (argsL := []) (rest := []) (lenOf own_pd15 rfl) rfl (by show 2 * 0 + _ ≤ _; exact Nat.le_of_eq rfl) (hb hby at_194) (fun _ _ => ⟨rfl, rfl, (by decide : 13 + 0 ≤ _), (by decide : 97 + 0 ≤ _)⟩)
       dsimp only [Pt.U, Pt.locs, Pt.cells, Pt.slots] at X60 l60 y60 z60 st60 hQ60
       subst l60 y60 z60
       obtain ⟨rfl, Nq60, e60⟩ := hQ60
       have N60 := Fr.app N59 Nq60
       have r61 : ∀ t, Steps p.tables e below (T60.setTop (mkF m 199 (own_lo ja jb jc le mo se nn kl v8 v16 lna lnb lnc ofa ofb ofc b29 b30 (.val (.long ((12 : Int64) + ((12 : Int64) + (nz_59.toInt64))))) .second .unset .unset .unset .unset .unset .unset .unset .unset) [])) t → Steps p.tables e below (T55.setTop (mkF m 189 (own_lu ja jb jc le mo se nn kl v8 v16 lna lnb lnc ofa ofb ofc b29 b30) [(.int lnc), (.int ofc), (.ref b29), (.long v16), (.ref b30)])) t := fun t kt => by
        refine st59.trans ?_
        refine XS.aload X59.here hx rfl (hb hby at_192) rfl rfl ?_
        refine st60.trans ?_
        refine XS.lstore X60.here hx rfl (hb hby at_197) rfl (l' := (own_lo ja jb jc le mo se nn kl v8 v16 lna lnb lnc ofa ofb ofc b29 b30 (.val (.long ((12 : Int64) + ((12 : Int64) + (nz_59.toInt64))))) .second .unset .unset .unset .unset .unset .unset .unset .unset)) rfl ?_
        exact kt
       exact ⟨_, _, _, ((12 : Int64) + ((12 : Int64) + (nz_59.toInt64))), X60, e60, K59, (own_x3bu hk1 hc57 h10 q55_12 q59_12), N60, fun t kt => (r37 _ (r39 _ (r56 _ (r58 _ (r61 _ kt)))))⟩
      ·obtain ⟨cq62, kq62, q62a, q62b, q62c⟩ := isOf hZ rfl q55_0
       obtain ⟨_, _, ⟨T62, L62, k62, n62⟩, -, X62, ⟨Lc62, hQ62, l62, y62, z62⟩, st62⟩ := X55.virtualBack hx (y := (⟨cRE, "contentLength", "()J"⟩ : MethodName)) (z := (⟨cRE, "contentLength", "()J"⟩ : MethodName)) hown (mvT hZ (Wd hw 155 rfl)) (mvT hZ (Wd hw 156 rfl)) (notFace_of_selects (args := #[]) (mvT hZ (Wd hw 158 rfl))) (mvT hZ (Wd hw 158 rfl)) (mvT hZ (Wd hw 157 rfl)) (by decide) (backOf (W := 0) (rmCLb l Z a0 hw [] b30 lh_31 it_31 kl iz_55 k_it_31 nz_55 wz_55 k_iz_55 T55.heap n0 Zs55 q55_0 q55_1 q55_2 (q36_5.keep Kc55) (q36_7.keep Kc55 (ninS (Ne.symm ((nlt A30.lt zq_lh_31))) (ninS ne_lh_31_hp_31 (ninS ne_lh_31_sl_31 (ninS ne_lh_31_ix_31 (ninS ne_lh_31_it_31 (ninS ne_lh_31_ct_31 nin0))))))) q55_8 q55_10 (own_kpos K)) hZ (Wd hw 159 rfl) (Wd hw 3 rfl) (by decide) (by decide)) q62a q62c (g := (mkF m 194 (own_lu ja jb jc le mo se nn kl v8 v16 lna lnb lnc ofa ofb ofc b29 b30) [(.ref b30)])) rfl (by rw [hml]; rfl) (Steps.refl _) (argsL := []) (rest := []) (lenOf own_pd15 rfl) rfl (by show 2 * 0 + _ ≤ _; exact Nat.le_of_eq rfl) (hb hby at_194) (fun _ _ => ⟨rfl, rfl, (by decide : 12 + 0 ≤ _), (by decide : 90 + 0 ≤ _)⟩)
       dsimp only [Pt.U, Pt.locs, Pt.cells, Pt.slots] at X62 l62 y62 z62 st62 hQ62
       subst l62 y62 z62
       obtain ⟨rfl, Nq62, e62⟩ := hQ62
       have N62 := Fr.app N55 Nq62
       have r63 : ∀ t, Steps p.tables e below (T62.setTop (mkF m 199 (own_lo ja jb jc le mo se nn kl v8 v16 lna lnb lnc ofa ofb ofc b29 b30 (.val (.long ((12 : Int64) + ((12 : Int64) + (nz_55.toInt64))))) .second .unset .unset .unset .unset .unset .unset .unset .unset) [])) t → Steps p.tables e below (T55.setTop (mkF m 176 (own_lu ja jb jc le mo se nn kl v8 v16 lna lnb lnc ofa ofb ofc b29 b30) [(.int (2 : Int32)), (.int nn)])) t := fun t kt => by
        refine XS.icmpYes X55.here hx rfl (pc0 := 176) (pc' := 192) rfl (hb hby at_176) rfl (flt hc57).2.2.2 (by decide) (by decide) ?_
        refine XS.aload X55.here hx rfl (hb hby at_192) rfl rfl ?_
        refine st62.trans ?_
        refine XS.lstore X62.here hx rfl (hb hby at_197) rfl (l' := (own_lo ja jb jc le mo se nn kl v8 v16 lna lnb lnc ofa ofb ofc b29 b30 (.val (.long ((12 : Int64) + ((12 : Int64) + (nz_55.toInt64))))) .second .unset .unset .unset .unset .unset .unset .unset .unset)) rfl ?_
        exact kt
       exact ⟨_, _, _, ((12 : Int64) + ((12 : Int64) + (nz_55.toInt64))), (X62.more (by decide) (by decide)), e62, K55, (own_x2b hk1 hc38 hc57 h10 q55_12), N62, fun t kt => (r37 _ (r39 _ (r56 _ (r63 _ kt))))⟩
     ·have tw1 := (hw1 h10).2
      obtain ⟨cq64, kq64, q64a, q64b, q64c⟩ := isOf hZ rfl q36_0
      obtain ⟨_, _, ⟨T64, L64, k64, n64⟩, -, X64, ⟨Lc64, hQ64, l64, y64, z64⟩, st64⟩ := X36.virtualBack hx (y := (⟨cRE, "offerItem", "(J[BII)V"⟩ : MethodName)) (z := (⟨cRE, "offerItem", "(J[BII)V"⟩ : MethodName)) hown (mvT hZ (Wd hw 85 rfl)) (mvT hZ (Wd hw 86 rfl)) (notFace_of_selects (args := #[]) (mvT hZ (Wd hw 88 rfl))) (mvT hZ (Wd hw 88 rfl)) (mvT hZ (Wd hw 87 rfl)) (by decide) (backOf (W := 0) (rmONb l Z a0 hw [] b30 v8 b29 ofb lnb lh_31 it_31 ct_31 ((0 : Int64) + (1 : Int64)) hp_31 sl_31 ix_31 mk_31 ja (0 : Int64) (0 : Int64) kl k_hp_31 nl_31 k_sl_31 (([(0 : Int64), (0 : Int64), (0 : Int64), (0 : Int64), (0 : Int64), (0 : Int64), (0 : Int64), (0 : Int64)]).set r0.toNatClampNeg ja) k_ix_31 (([(-1 : Int32), (-1 : Int32), (-1 : Int32), (-1 : Int32), (-1 : Int32), (-1 : Int32), (-1 : Int32), (-1 : Int32)]).set r0.toNatClampNeg (0 : Int32)) da_36 db_36 dc_36 k_ct_31 rt_36 k_it_31 r1 k29 T36.heap n0 Zs36 q36_0 q36_1 q36_2 q36_3 q36_4 q36_5 q36_6 q36_7 q36_8 q36_9 q36_10 q36_11 q36_12 q36_13 q36_15 q36_14 K ne_hp_31_sl_31 ne_hp_31_ct_31 ne_sl_31_ct_31 q31_17 hr1 ⟨tt0.1, tt0.2.1⟩ (own_k1 K hk1) (hw1 h10).1 (((V29.ext E30).keep Kc31 (ninS ((nlt V29.lt (Nat.le_of_eq g30.symm))) nin0)).keep Kc36 (ninS ((nlt V29.lt (Nat.le_of_eq g30.symm))) (ninS ((nlt (V29.ext E30).lt zq_lh_31)) (ninS ((nlt (V29.ext E30).lt zq_hp_31)) (ninS ((nlt (V29.ext E30).lt zq_sl_31)) (ninS ((nlt (V29.ext E30).lt zq_ix_31)) (ninS ((nlt (V29.ext E30).lt zq_it_31)) (ninS ((nlt (V29.ext E30).lt zq_ct_31)) nin0)))))))) bofb blnb g_b30 g_lh_31 g_hp_31 g_sl_31 g_ix_31 g_it_31 g_ct_31) hZ (Wd hw 89 rfl) (Wd hw 3 rfl) (by decide) (by decide)) q64a q64c (g := (mkF m 170 (own_lu ja jb jc le mo se nn kl v8 v16 lna lnb lnc ofa ofb ofc b29 b30) [(.int lnb), (.int ofb), (.ref b29), (.long v8), (.ref b30)])) rfl (by rw [hml]; rfl) (Steps.refl _) (argsL := [(.long v8), (.ref b29), (.int ofb), (.int lnb)]) (rest := []) (lenOf own_pd14 rfl) rfl (by show 2 * 0 + _ ≤ _; exact Nat.le_of_eq rfl) (hb hby at_170) (fun _ _ => ⟨rfl, rfl, (by decide : 11 + 1 ≤ _), (by decide : 83 + 7 ≤ _)⟩)
      dsimp only [Pt.U, Pt.locs, Pt.cells, Pt.slots] at X64 l64 y64 z64 st64 hQ64
      subst l64 y64 z64
      obtain ⟨rt_64, k_rt_64, lw_64, da_64, db_64, dc_64, rfl, Nq64, Kc64, g_rt_64, zq_rt_64, q64_0, q64_1, q64_2, q64_3, q64_4, q64_5, q64_6, q64_7, q64_8, q64_9, q64_10, q64_11, q64_12, q64_13, q64_14, q64_15, q64_16⟩ := hQ64
      have sz_rt_64 : T31.heap.size ≤ rt_64 := Nat.le_trans K36.1 zq_rt_64
      have K64 : Keep T31.heap T64.heap [ct_31, it_31, ix_31, sl_31, hp_31, lh_31, b30] := Keep.trans K36 Kc64 (allS (Or.inl (List.mem_of_getElem? (i := 6) rfl)) (allS (Or.inl (List.mem_of_getElem? (i := 5) rfl)) (allS (Or.inl (List.mem_of_getElem? (i := 4) rfl)) (allS (Or.inl (List.mem_of_getElem? (i := 3) rfl)) (allS (Or.inl (List.mem_of_getElem? (i := 2) rfl)) (allS (Or.inl (List.mem_of_getElem? (i := 1) rfl)) (allS (Or.inl (List.mem_of_getElem? (i := 0) rfl)) all0)))))))
      have Zs64 : n0 ≤ T64.heap.size := Nat.le_trans Zs36 Kc64.1
      have N64 := Fr.app N36 Nq64
      have r65 : ∀ t, Steps p.tables e below (T64.setTop (mkF m 176 (own_lu ja jb jc le mo se nn kl v8 v16 lna lnb lnc ofa ofb ofc b29 b30) [(.int (2 : Int32)), (.int nn)])) t → Steps p.tables e below (T36.setTop (mkF m 170 (own_lu ja jb jc le mo se nn kl v8 v16 lna lnb lnc ofa ofb ofc b29 b30) [(.int lnb), (.int ofb), (.ref b29), (.long v8), (.ref b30)])) t := fun t kt => by
       refine st64.trans ?_
       refine XS.iload X64.here hx rfl (hb hby at_173) rfl ?_
       refine XS.iconst X64.here hx rfl (hb hby at_175) ?_
       exact kt
      by_cases hc66 : (2 : Int32) < nn
      ·have r67 : ∀ t, Steps p.tables e below (T64.setTop (mkF m 189 (own_lu ja jb jc le mo se nn kl v8 v16 lna lnb lnc ofa ofb ofc b29 b30) [(.int lnc), (.int ofc), (.ref b29), (.long v16), (.ref b30)])) t → Steps p.tables e below (T64.setTop (mkF m 176 (own_lu ja jb jc le mo se nn kl v8 v16 lna lnb lnc ofa ofb ofc b29 b30) [(.int (2 : Int32)), (.int nn)])) t := fun t kt => by
        refine XS.icmpNo X64.here hx rfl (hb hby at_176) rfl (tlt hc66).2.2.2 ?_
        refine XS.aload X64.here hx rfl (hb hby at_179) rfl rfl ?_
        refine XS.lload X64.here hx rfl (hb hby at_181) rfl ?_
        refine XS.aload X64.here hx rfl (hb hby at_183) rfl rfl ?_
        refine XS.iload X64.here hx rfl (hb hby at_185) rfl ?_
        refine XS.iload X64.here hx rfl (hb hby at_187) rfl ?_
        exact kt
       obtain ⟨r2, hr2, -, hfa, hfb, hfc, -⟩ := own_f2 K hk1 h10 tw1 v16
       by_cases h20 : v16 = ja
       ·obtain ⟨cq68, kq68, q68a, q68b, q68c⟩ := isOf hZ rfl q64_0
        obtain ⟨_, _, ⟨T68, L68, k68, n68⟩, -, X68, ⟨Lc68, hQ68, l68, y68, z68⟩, st68⟩ := X64.virtualBack hx (y := (⟨cRE, "offerItem", "(J[BII)V"⟩ : MethodName)) (z := (⟨cRE, "offerItem", "(J[BII)V"⟩ : MethodName)) hown (mvT hZ (Wd hw 85 rfl)) (mvT hZ (Wd hw 86 rfl)) (notFace_of_selects (args := #[]) (mvT hZ (Wd hw 88 rfl))) (mvT hZ (Wd hw 88 rfl)) (mvT hZ (Wd hw 87 rfl)) (by decide) (backOf (W := 0) (rmOF l Z a0 hw [] b30 v16 b29 ofc lnc lh_31 ct_31 hp_31 (2 : Int32) sl_31 ix_31 mk_31 (own_mn v8 ja) (own_mx v8 ja) (0 : Int64) kl k_hp_31 nl_31 k_sl_31 ((([(0 : Int64), (0 : Int64), (0 : Int64), (0 : Int64), (0 : Int64), (0 : Int64), (0 : Int64), (0 : Int64)]).set r0.toNatClampNeg ja).set r1.toNatClampNeg v8) k_ix_31 ((([(-1 : Int32), (-1 : Int32), (-1 : Int32), (-1 : Int32), (-1 : Int32), (-1 : Int32), (-1 : Int32), (-1 : Int32)]).set r0.toNatClampNeg (0 : Int32)).set r1.toNatClampNeg (1 : Int32)) da_64 db_64 dc_64 k_ct_31 r2 T64.heap n0 Zs64 q64_0 q64_1 q64_3 q64_5 q64_6 q64_7 q64_8 q64_9 q64_10 q64_11 q64_12 q64_13 q64_15 K hr2 ne_hp_31_ct_31 ne_sl_31_ct_31 (fun q => by have q2 := q.2; rw [h20] at q2; exact own_mnl1 q2) (Or.inl ⟨hfa h20, own_kpos K⟩) g_ct_31) hZ (Wd hw 89 rfl) (Wd hw 3 rfl) (by decide) (by decide)) q68a q68c (g := (mkF m 189 (own_lu ja jb jc le mo se nn kl v8 v16 lna lnb lnc ofa ofb ofc b29 b30) [(.int lnc), (.int ofc), (.ref b29), (.long v16), (.ref b30)])) rfl (by rw [hml]; rfl) (Steps.refl _) (argsL := [(.long v16), (.ref b29), (.int ofc), (.int lnc)]) (rest := []) (lenOf own_pd14 rfl) rfl (by show 2 * 0 + _ ≤ _; exact Nat.le_of_eq rfl) (hb hby at_189) (fun _ _ => ⟨rfl, rfl, (by decide : 12 + 1 ≤ _), (by decide : 90 + 7 ≤ _)⟩)
        dsimp only [Pt.U, Pt.locs, Pt.cells, Pt.slots] at X68 l68 y68 z68 st68 hQ68
        subst l68 y68 z68
        obtain ⟨da_68, db_68, dc_68, rfl, Nq68, Kc68, q68_0⟩ := hQ68
        have K68 : Keep T31.heap T68.heap [ct_31, it_31, ix_31, sl_31, hp_31, lh_31, b30] := Keep.trans K64 Kc68 (allS (Or.inl (List.mem_of_getElem? (i := 0) rfl)) all0)
        have Zs68 : n0 ≤ T68.heap.size := Nat.le_trans Zs64 Kc68.1
        have N68 := Fr.app N64 Nq68
        obtain ⟨cq69, kq69, q69a, q69b, q69c⟩ := isOf hZ rfl (q64_0.keep Kc68)
        obtain ⟨_, _, ⟨T69, L69, k69, n69⟩, -, X69, ⟨Lc69, hQ69, l69, y69, z69⟩, st69⟩ := X68.virtualBack hx (y := (⟨cRE, "contentLength", "()J"⟩ : MethodName)) (z := (⟨cRE, "contentLength", "()J"⟩ : MethodName)) hown (mvT hZ (Wd hw 155 rfl)) (mvT hZ (Wd hw 156 rfl)) (notFace_of_selects (args := #[]) (mvT hZ (Wd hw 158 rfl))) (mvT hZ (Wd hw 158 rfl)) (mvT hZ (Wd hw 157 rfl)) (by decide) (backOf (W := 0) (rmCLc l Z a0 hw [] b30 lh_31 it_31 kl rt_36 rt_64 k_it_31 lna lw_36 k_rt_36 lnb lw_64 k_rt_64 T68.heap n0 Zs68 (q64_0.keep Kc68) (q64_1.keep Kc68 (ninS ((nlt A30.lt zq_ct_31)) nin0)) (q64_2.keep Kc68 (ninS ((nlt A30.lt zq_ct_31)) nin0)) (q64_5.keep Kc68) (q64_7.keep Kc68 (ninS ne_lh_31_ct_31 nin0)) (q64_14.keep Kc68 (ninS ne_it_31_ct_31 nin0)) ((q36_16.keep Kc64 (ninS (Ne.symm ((nlt q31_0.lt zq_rt_36))) (ninS (Ne.symm ((nlt q31_5.lt zq_rt_36))) (ninS (Ne.symm ((nlt q31_11.lt zq_rt_36))) (ninS (Ne.symm ((nlt q31_12.lt zq_rt_36))) (ninS (Ne.symm ((nlt q31_13.lt zq_rt_36))) (ninS (Ne.symm ((nlt q31_14.lt zq_rt_36))) (ninS (Ne.symm ((nlt q31_15.lt zq_rt_36))) nin0)))))))).keep Kc68 (ninS (Ne.symm ((nlt q31_15.lt zq_rt_36))) nin0)) (q64_16.keep Kc68 (ninS (Ne.symm ((nlt q36_15.lt zq_rt_64))) nin0)) (own_k1 K hk1)) hZ (Wd hw 159 rfl) (Wd hw 3 rfl) (by decide) (by decide)) q69a q69c (g := (mkF m 194 (own_lu ja jb jc le mo se nn kl v8 v16 lna lnb lnc ofa ofb ofc b29 b30) [(.ref b30)])) rfl (by rw [hml]; rfl) (Steps.refl _) (argsL := []) (rest := []) (lenOf own_pd15 rfl) rfl (by show 2 * 0 + _ ≤ _; exact Nat.le_of_eq rfl) (hb hby at_194) (fun _ _ => ⟨rfl, rfl, (by decide : 13 + 0 ≤ _), (by decide : 97 + 0 ≤ _)⟩)
        dsimp only [Pt.U, Pt.locs, Pt.cells, Pt.slots] at X69 l69 y69 z69 st69 hQ69
        subst l69 y69 z69
        obtain ⟨rfl, Nq69, e69⟩ := hQ69
        have N69 := Fr.app N68 Nq69
        have r70 : ∀ t, Steps p.tables e below (T69.setTop (mkF m 199 (own_lo ja jb jc le mo se nn kl v8 v16 lna lnb lnc ofa ofb ofc b29 b30 (.val (.long (((12 : Int64) + ((12 : Int64) + (lna.toInt64))) + ((12 : Int64) + (lnb.toInt64))))) .second .unset .unset .unset .unset .unset .unset .unset .unset) [])) t → Steps p.tables e below (T64.setTop (mkF m 189 (own_lu ja jb jc le mo se nn kl v8 v16 lna lnb lnc ofa ofb ofc b29 b30) [(.int lnc), (.int ofc), (.ref b29), (.long v16), (.ref b30)])) t := fun t kt => by
         refine st68.trans ?_
         refine XS.aload X68.here hx rfl (hb hby at_192) rfl rfl ?_
         refine st69.trans ?_
         refine XS.lstore X69.here hx rfl (hb hby at_197) rfl (l' := (own_lo ja jb jc le mo se nn kl v8 v16 lna lnb lnc ofa ofb ofc b29 b30 (.val (.long (((12 : Int64) + ((12 : Int64) + (lna.toInt64))) + ((12 : Int64) + (lnb.toInt64))))) .second .unset .unset .unset .unset .unset .unset .unset .unset)) rfl ?_
         exact kt
        exact ⟨_, _, _, (((12 : Int64) + ((12 : Int64) + (lna.toInt64))) + ((12 : Int64) + (lnb.toInt64))), X69, e69, K68, (own_x3cf hk hk1 hc66 h10 (Or.inl h20)), N69, fun t kt => (r37 _ (r39 _ (r65 _ (r67 _ (r70 _ kt)))))⟩
       ·by_cases h21 : v16 = v8
        ·obtain ⟨cq71, kq71, q71a, q71b, q71c⟩ := isOf hZ rfl q64_0
         obtain ⟨_, _, ⟨T71, L71, k71, n71⟩, -, X71, ⟨Lc71, hQ71, l71, y71, z71⟩, st71⟩ := X64.virtualBack hx (y := (⟨cRE, "offerItem", "(J[BII)V"⟩ : MethodName)) (z := (⟨cRE, "offerItem", "(J[BII)V"⟩ : MethodName)) hown (mvT hZ (Wd hw 85 rfl)) (mvT hZ (Wd hw 86 rfl)) (notFace_of_selects (args := #[]) (mvT hZ (Wd hw 88 rfl))) (mvT hZ (Wd hw 88 rfl)) (mvT hZ (Wd hw 87 rfl)) (by decide) (backOf (W := 0) (rmOF l Z a0 hw [] b30 v16 b29 ofc lnc lh_31 ct_31 hp_31 (2 : Int32) sl_31 ix_31 mk_31 (own_mn v8 ja) (own_mx v8 ja) (0 : Int64) kl k_hp_31 nl_31 k_sl_31 ((([(0 : Int64), (0 : Int64), (0 : Int64), (0 : Int64), (0 : Int64), (0 : Int64), (0 : Int64), (0 : Int64)]).set r0.toNatClampNeg ja).set r1.toNatClampNeg v8) k_ix_31 ((([(-1 : Int32), (-1 : Int32), (-1 : Int32), (-1 : Int32), (-1 : Int32), (-1 : Int32), (-1 : Int32), (-1 : Int32)]).set r0.toNatClampNeg (0 : Int32)).set r1.toNatClampNeg (1 : Int32)) da_64 db_64 dc_64 k_ct_31 r2 T64.heap n0 Zs64 q64_0 q64_1 q64_3 q64_5 q64_6 q64_7 q64_8 q64_9 q64_10 q64_11 q64_12 q64_13 q64_15 K hr2 ne_hp_31_ct_31 ne_sl_31_ct_31 (fun q => by have q2 := q.2; rw [h21] at q2; exact own_mnl2 q2) (Or.inr ⟨hfb h21, own_k1 K hk1⟩) g_ct_31) hZ (Wd hw 89 rfl) (Wd hw 3 rfl) (by decide) (by decide)) q71a q71c (g := (mkF m 189 (own_lu ja jb jc le mo se nn kl v8 v16 lna lnb lnc ofa ofb ofc b29 b30) [(.int lnc), (.int ofc), (.ref b29), (.long v16), (.ref b30)])) rfl (by rw [hml]; rfl) (Steps.refl _) (argsL := [(.long v16), (.ref b29), (.int ofc), (.int lnc)]) (rest := []) (lenOf own_pd14 rfl) rfl (by show 2 * 0 + _ ≤ _; exact Nat.le_of_eq rfl) (hb hby at_189) (fun _ _ => ⟨rfl, rfl, (by decide : 12 + 1 ≤ _), (by decide : 90 + 7 ≤ _)⟩)
         dsimp only [Pt.U, Pt.locs, Pt.cells, Pt.slots] at X71 l71 y71 z71 st71 hQ71
         subst l71 y71 z71
         obtain ⟨da_71, db_71, dc_71, rfl, Nq71, Kc71, q71_0⟩ := hQ71
         have K71 : Keep T31.heap T71.heap [ct_31, it_31, ix_31, sl_31, hp_31, lh_31, b30] := Keep.trans K64 Kc71 (allS (Or.inl (List.mem_of_getElem? (i := 0) rfl)) all0)
         have Zs71 : n0 ≤ T71.heap.size := Nat.le_trans Zs64 Kc71.1
         have N71 := Fr.app N64 Nq71
         obtain ⟨cq72, kq72, q72a, q72b, q72c⟩ := isOf hZ rfl (q64_0.keep Kc71)
         obtain ⟨_, _, ⟨T72, L72, k72, n72⟩, -, X72, ⟨Lc72, hQ72, l72, y72, z72⟩, st72⟩ := X71.virtualBack hx (y := (⟨cRE, "contentLength", "()J"⟩ : MethodName)) (z := (⟨cRE, "contentLength", "()J"⟩ : MethodName)) hown (mvT hZ (Wd hw 155 rfl)) (mvT hZ (Wd hw 156 rfl)) (notFace_of_selects (args := #[]) (mvT hZ (Wd hw 158 rfl))) (mvT hZ (Wd hw 158 rfl)) (mvT hZ (Wd hw 157 rfl)) (by decide) (backOf (W := 0) (rmCLc l Z a0 hw [] b30 lh_31 it_31 kl rt_36 rt_64 k_it_31 lna lw_36 k_rt_36 lnb lw_64 k_rt_64 T71.heap n0 Zs71 (q64_0.keep Kc71) (q64_1.keep Kc71 (ninS ((nlt A30.lt zq_ct_31)) nin0)) (q64_2.keep Kc71 (ninS ((nlt A30.lt zq_ct_31)) nin0)) (q64_5.keep Kc71) (q64_7.keep Kc71 (ninS ne_lh_31_ct_31 nin0)) (q64_14.keep Kc71 (ninS ne_it_31_ct_31 nin0)) ((q36_16.keep Kc64 (ninS (Ne.symm ((nlt q31_0.lt zq_rt_36))) (ninS (Ne.symm ((nlt q31_5.lt zq_rt_36))) (ninS (Ne.symm ((nlt q31_11.lt zq_rt_36))) (ninS (Ne.symm ((nlt q31_12.lt zq_rt_36))) (ninS (Ne.symm ((nlt q31_13.lt zq_rt_36))) (ninS (Ne.symm ((nlt q31_14.lt zq_rt_36))) (ninS (Ne.symm ((nlt q31_15.lt zq_rt_36))) nin0)))))))).keep Kc71 (ninS (Ne.symm ((nlt q31_15.lt zq_rt_36))) nin0)) (q64_16.keep Kc71 (ninS (Ne.symm ((nlt q36_15.lt zq_rt_64))) nin0)) (own_k1 K hk1)) hZ (Wd hw 159 rfl) (Wd hw 3 rfl) (by decide) (by decide)) q72a q72c (g := (mkF m 194 (own_lu ja jb jc le mo se nn kl v8 v16 lna lnb lnc ofa ofb ofc b29 b30) [(.ref b30)])) rfl (by rw [hml]; rfl) (Steps.refl _) (argsL := []) (rest := []) (lenOf own_pd15 rfl) rfl (by show 2 * 0 + _ ≤ _; exact Nat.le_of_eq rfl) (hb hby at_194) (fun _ _ => ⟨rfl, rfl, (by decide : 13 + 0 ≤ _), (by decide : 97 + 0 ≤ _)⟩)
         dsimp only [Pt.U, Pt.locs, Pt.cells, Pt.slots] at X72 l72 y72 z72 st72 hQ72
         subst l72 y72 z72
         obtain ⟨rfl, Nq72, e72⟩ := hQ72
         have N72 := Fr.app N71 Nq72
         have r73 : ∀ t, Steps p.tables e below (T72.setTop (mkF m 199 (own_lo ja jb jc le mo se nn kl v8 v16 lna lnb lnc ofa ofb ofc b29 b30 (.val (.long (((12 : Int64) + ((12 : Int64) + (lna.toInt64))) + ((12 : Int64) + (lnb.toInt64))))) .second .unset .unset .unset .unset .unset .unset .unset .unset) [])) t → Steps p.tables e below (T64.setTop (mkF m 189 (own_lu ja jb jc le mo se nn kl v8 v16 lna lnb lnc ofa ofb ofc b29 b30) [(.int lnc), (.int ofc), (.ref b29), (.long v16), (.ref b30)])) t := fun t kt => by
          refine st71.trans ?_
          refine XS.aload X71.here hx rfl (hb hby at_192) rfl rfl ?_
          refine st72.trans ?_
          refine XS.lstore X72.here hx rfl (hb hby at_197) rfl (l' := (own_lo ja jb jc le mo se nn kl v8 v16 lna lnb lnc ofa ofb ofc b29 b30 (.val (.long (((12 : Int64) + ((12 : Int64) + (lna.toInt64))) + ((12 : Int64) + (lnb.toInt64))))) .second .unset .unset .unset .unset .unset .unset .unset .unset)) rfl ?_
          exact kt
         exact ⟨_, _, _, (((12 : Int64) + ((12 : Int64) + (lna.toInt64))) + ((12 : Int64) + (lnb.toInt64))), X72, e72, K71, (own_x3cf hk hk1 hc66 h10 (Or.inr h21)), N72, fun t kt => (r37 _ (r39 _ (r65 _ (r67 _ (r73 _ kt)))))⟩
        ·by_cases hk2 : kl = 2
         ·obtain ⟨cq74, kq74, q74a, q74b, q74c⟩ := isOf hZ rfl q64_0
          obtain ⟨_, _, ⟨T74, L74, k74, n74⟩, -, X74, ⟨Lc74, hQ74, l74, y74, z74⟩, st74⟩ := X64.virtualBack hx (y := (⟨cRE, "offerItem", "(J[BII)V"⟩ : MethodName)) (z := (⟨cRE, "offerItem", "(J[BII)V"⟩ : MethodName)) hown (mvT hZ (Wd hw 85 rfl)) (mvT hZ (Wd hw 86 rfl)) (notFace_of_selects (args := #[]) (mvT hZ (Wd hw 88 rfl))) (mvT hZ (Wd hw 88 rfl)) (mvT hZ (Wd hw 87 rfl)) (by decide) (backOf (W := 0) (rmOUc l Z a0 hw [] b30 v16 b29 ofc lnc lh_31 it_31 ct_31 (((0 : Int64) + (1 : Int64)) + (1 : Int64)) hp_31 sl_31 ix_31 mk_31 (own_mn v8 ja) (own_mx v8 ja) (0 : Int64) kl k_hp_31 nl_31 k_sl_31 ((([(0 : Int64), (0 : Int64), (0 : Int64), (0 : Int64), (0 : Int64), (0 : Int64), (0 : Int64), (0 : Int64)]).set r0.toNatClampNeg ja).set r1.toNatClampNeg v8) k_ix_31 ((([(-1 : Int32), (-1 : Int32), (-1 : Int32), (-1 : Int32), (-1 : Int32), (-1 : Int32), (-1 : Int32), (-1 : Int32)]).set r0.toNatClampNeg (0 : Int32)).set r1.toNatClampNeg (1 : Int32)) da_64 db_64 dc_64 k_ct_31 rt_36 rt_64 k_it_31 lna lw_36 k_rt_36 lnb lw_64 k_rt_64 k29 ja v8 T64.heap n0 Zs64 q64_0 q64_1 q64_2 q64_3 q64_4 q64_5 q64_6 q64_7 q64_8 q64_9 q64_10 q64_11 q64_12 q64_13 q64_15 q64_14 K ne_hp_31_sl_31 ne_hp_31_ct_31 ne_sl_31_ct_31 q31_17 (q36_16.keep Kc64 (ninS (Ne.symm ((nlt q31_0.lt zq_rt_36))) (ninS (Ne.symm ((nlt q31_5.lt zq_rt_36))) (ninS (Ne.symm ((nlt q31_11.lt zq_rt_36))) (ninS (Ne.symm ((nlt q31_12.lt zq_rt_36))) (ninS (Ne.symm ((nlt q31_13.lt zq_rt_36))) (ninS (Ne.symm ((nlt q31_14.lt zq_rt_36))) (ninS (Ne.symm ((nlt q31_15.lt zq_rt_36))) nin0)))))))) q64_16 ((((V29.ext E30).keep Kc31 (ninS ((nlt V29.lt (Nat.le_of_eq g30.symm))) nin0)).keep Kc36 (ninS ((nlt V29.lt (Nat.le_of_eq g30.symm))) (ninS ((nlt (V29.ext E30).lt zq_lh_31)) (ninS ((nlt (V29.ext E30).lt zq_hp_31)) (ninS ((nlt (V29.ext E30).lt zq_sl_31)) (ninS ((nlt (V29.ext E30).lt zq_ix_31)) (ninS ((nlt (V29.ext E30).lt zq_it_31)) (ninS ((nlt (V29.ext E30).lt zq_ct_31)) nin0)))))))).keep Kc64 (ninS ((nlt V29.lt (Nat.le_of_eq g30.symm))) (ninS ((nlt (V29.ext E30).lt zq_lh_31)) (ninS ((nlt (V29.ext E30).lt zq_hp_31)) (ninS ((nlt (V29.ext E30).lt zq_sl_31)) (ninS ((nlt (V29.ext E30).lt zq_ix_31)) (ninS ((nlt (V29.ext E30).lt zq_it_31)) (ninS ((nlt (V29.ext E30).lt zq_ct_31)) nin0)))))))) bofc blnc hk2.symm h10 tw1 (own_mnc _ _) h20 h21 g_b30 g_hp_31 g_sl_31 g_ix_31 g_it_31 g_ct_31) hZ (Wd hw 89 rfl) (Wd hw 3 rfl) (by decide) (by decide)) q74a q74c (g := (mkF m 189 (own_lu ja jb jc le mo se nn kl v8 v16 lna lnb lnc ofa ofb ofc b29 b30) [(.int lnc), (.int ofc), (.ref b29), (.long v16), (.ref b30)])) rfl (by rw [hml]; rfl) (Steps.refl _) (argsL := [(.long v16), (.ref b29), (.int ofc), (.int lnc)]) (rest := []) (lenOf own_pd14 rfl) rfl (by show 2 * 0 + _ ≤ _; exact Nat.le_of_eq rfl) (hb hby at_189) (fun _ _ => ⟨rfl, rfl, (by decide : 12 + 1 ≤ _), (by decide : 90 + 7 ≤ _)⟩)
          dsimp only [Pt.U, Pt.locs, Pt.cells, Pt.slots] at X74 l74 y74 z74 st74 hQ74
          subst l74 y74 z74
          obtain ⟨iz_74, k_iz_74, nz_74, wz_74, jz_74, k_jz_74, oz_74, vz_74, rfl, Nq74, Kc74, q74_0, q74_1, q74_2, q74_3, q74_4, q74_5, q74_6, q74_7⟩ := hQ74
          have K74 : Keep T31.heap T74.heap [ct_31, it_31, ix_31, sl_31, hp_31, lh_31, b30] := Keep.trans K64 Kc74 (allS (Or.inl (List.mem_of_getElem? (i := 6) rfl)) (allS (Or.inl (List.mem_of_getElem? (i := 4) rfl)) (allS (Or.inl (List.mem_of_getElem? (i := 3) rfl)) (allS (Or.inl (List.mem_of_getElem? (i := 2) rfl)) (allS (Or.inl (List.mem_of_getElem? (i := 1) rfl)) (allS (Or.inl (List.mem_of_getElem? (i := 0) rfl)) all0))))))
          have Zs74 : n0 ≤ T74.heap.size := Nat.le_trans Zs64 Kc74.1
          have N74 := Fr.app N64 Nq74
          obtain ⟨cq75, kq75, q75a, q75b, q75c⟩ := isOf hZ rfl q74_0
          obtain ⟨_, _, ⟨T75, L75, k75, n75⟩, -, X75, ⟨Lc75, hQ75, l75, y75, z75⟩, st75⟩ := X74.virtualBack hx (y := (⟨cRE, "contentLength", "()J"⟩ : MethodName)) (z := (⟨cRE, "contentLength", "()J"⟩ : MethodName)) hown (mvT hZ (Wd hw 155 rfl)) (mvT hZ (Wd hw 156 rfl)) (notFace_of_selects (args := #[]) (mvT hZ (Wd hw 158 rfl))) (mvT hZ (Wd hw 158 rfl)) (mvT hZ (Wd hw 157 rfl)) (by decide) (backOf (W := 0) (rmCLc l Z a0 hw [] b30 lh_31 it_31 kl iz_74 jz_74 k_it_31 nz_74 wz_74 k_iz_74 oz_74 vz_74 k_jz_74 T74.heap n0 Zs74 q74_0 q74_1 q74_2 (q64_5.keep Kc74) (q64_7.keep Kc74 (ninS (Ne.symm ((nlt A30.lt zq_lh_31))) (ninS ne_lh_31_hp_31 (ninS ne_lh_31_sl_31 (ninS ne_lh_31_ix_31 (ninS ne_lh_31_it_31 (ninS ne_lh_31_ct_31 nin0))))))) q74_4 q74_5 q74_6 (own_k1 K hk1)) hZ (Wd hw 159 rfl) (Wd hw 3 rfl) (by decide) (by decide)) q75a q75c (g := (mkF m 194 (own_lu ja jb jc le mo se nn kl v8 v16 lna lnb lnc ofa ofb ofc b29 b30) [(.ref b30)])) rfl (by rw [hml]; rfl) (Steps.refl _) (argsL := []) (rest := []) (lenOf own_pd15 rfl) rfl (by show 2 * 0 + _ ≤ _; exact Nat.le_of_eq rfl) (hb hby at_194) (fun _ _ => ⟨rfl, rfl, (by decide : 13 + 0 ≤ _), (by decide : 97 + 0 ≤ _)⟩)
          dsimp only [Pt.U, Pt.locs, Pt.cells, Pt.slots] at X75 l75 y75 z75 st75 hQ75
          subst l75 y75 z75
          obtain ⟨rfl, Nq75, e75⟩ := hQ75
          have N75 := Fr.app N74 Nq75
          have r76 : ∀ t, Steps p.tables e below (T75.setTop (mkF m 199 (own_lo ja jb jc le mo se nn kl v8 v16 lna lnb lnc ofa ofb ofc b29 b30 (.val (.long (((12 : Int64) + ((12 : Int64) + (nz_74.toInt64))) + ((12 : Int64) + (oz_74.toInt64))))) .second .unset .unset .unset .unset .unset .unset .unset .unset) [])) t → Steps p.tables e below (T64.setTop (mkF m 189 (own_lu ja jb jc le mo se nn kl v8 v16 lna lnb lnc ofa ofb ofc b29 b30) [(.int lnc), (.int ofc), (.ref b29), (.long v16), (.ref b30)])) t := fun t kt => by
           refine st74.trans ?_
           refine XS.aload X74.here hx rfl (hb hby at_192) rfl rfl ?_
           refine st75.trans ?_
           refine XS.lstore X75.here hx rfl (hb hby at_197) rfl (l' := (own_lo ja jb jc le mo se nn kl v8 v16 lna lnb lnc ofa ofb ofc b29 b30 (.val (.long (((12 : Int64) + ((12 : Int64) + (nz_74.toInt64))) + ((12 : Int64) + (oz_74.toInt64))))) .second .unset .unset .unset .unset .unset .unset .unset .unset)) rfl ?_
           exact kt
          exact ⟨_, _, _, (((12 : Int64) + ((12 : Int64) + (nz_74.toInt64))) + ((12 : Int64) + (oz_74.toInt64))), X75, e75, K74, (own_x3cu hk2 hc66 h10 h20 h21 rfl q74_7), N75, fun t kt => (r37 _ (r39 _ (r65 _ (r67 _ (r76 _ kt)))))⟩
         ·have h2k : (2 : Int32) < kl := by rw [own_is3 K hk1 hk2]; decide
          obtain ⟨cq77, kq77, q77a, q77b, q77c⟩ := isOf hZ rfl q64_0
          obtain ⟨_, _, ⟨T77, L77, k77, n77⟩, -, X77, ⟨Lc77, hQ77, l77, y77, z77⟩, st77⟩ := X64.virtualBack hx (y := (⟨cRE, "offerItem", "(J[BII)V"⟩ : MethodName)) (z := (⟨cRE, "offerItem", "(J[BII)V"⟩ : MethodName)) hown (mvT hZ (Wd hw 85 rfl)) (mvT hZ (Wd hw 86 rfl)) (notFace_of_selects (args := #[]) (mvT hZ (Wd hw 88 rfl))) (mvT hZ (Wd hw 88 rfl)) (mvT hZ (Wd hw 87 rfl)) (by decide) (backOf (W := 0) (rmONc l Z a0 hw [] b30 v16 b29 ofc lnc lh_31 it_31 ct_31 (((0 : Int64) + (1 : Int64)) + (1 : Int64)) hp_31 sl_31 ix_31 mk_31 (own_mn v8 ja) (own_mx v8 ja) (0 : Int64) kl k_hp_31 nl_31 k_sl_31 ((([(0 : Int64), (0 : Int64), (0 : Int64), (0 : Int64), (0 : Int64), (0 : Int64), (0 : Int64), (0 : Int64)]).set r0.toNatClampNeg ja).set r1.toNatClampNeg v8) k_ix_31 ((([(-1 : Int32), (-1 : Int32), (-1 : Int32), (-1 : Int32), (-1 : Int32), (-1 : Int32), (-1 : Int32), (-1 : Int32)]).set r0.toNatClampNeg (0 : Int32)).set r1.toNatClampNeg (1 : Int32)) da_64 db_64 dc_64 k_ct_31 rt_36 rt_64 k_it_31 r2 k29 T64.heap n0 Zs64 q64_0 q64_1 q64_2 q64_3 q64_4 q64_5 q64_6 q64_7 q64_8 q64_9 q64_10 q64_11 q64_12 q64_13 q64_15 q64_14 K ne_hp_31_sl_31 ne_hp_31_ct_31 ne_sl_31_ct_31 q31_17 hr2 ⟨tw1.1, tw1.2.1⟩ h2k (hfc h20 h21) ((((V29.ext E30).keep Kc31 (ninS ((nlt V29.lt (Nat.le_of_eq g30.symm))) nin0)).keep Kc36 (ninS ((nlt V29.lt (Nat.le_of_eq g30.symm))) (ninS ((nlt (V29.ext E30).lt zq_lh_31)) (ninS ((nlt (V29.ext E30).lt zq_hp_31)) (ninS ((nlt (V29.ext E30).lt zq_sl_31)) (ninS ((nlt (V29.ext E30).lt zq_ix_31)) (ninS ((nlt (V29.ext E30).lt zq_it_31)) (ninS ((nlt (V29.ext E30).lt zq_ct_31)) nin0)))))))).keep Kc64 (ninS ((nlt V29.lt (Nat.le_of_eq g30.symm))) (ninS ((nlt (V29.ext E30).lt zq_lh_31)) (ninS ((nlt (V29.ext E30).lt zq_hp_31)) (ninS ((nlt (V29.ext E30).lt zq_sl_31)) (ninS ((nlt (V29.ext E30).lt zq_ix_31)) (ninS ((nlt (V29.ext E30).lt zq_it_31)) (ninS ((nlt (V29.ext E30).lt zq_ct_31)) nin0)))))))) bofc blnc g_b30 g_lh_31 g_hp_31 g_sl_31 g_ix_31 g_it_31 g_ct_31) hZ (Wd hw 89 rfl) (Wd hw 3 rfl) (by decide) (by decide)) q77a q77c (g := (mkF m 189 (own_lu ja jb jc le mo se nn kl v8 v16 lna lnb lnc ofa ofb ofc b29 b30) [(.int lnc), (.int ofc), (.ref b29), (.long v16), (.ref b30)])) rfl (by rw [hml]; rfl) (Steps.refl _) (argsL := [(.long v16), (.ref b29), (.int ofc), (.int lnc)]) (rest := []) (lenOf own_pd14 rfl) rfl (by show 2 * 0 + _ ≤ _; exact Nat.le_of_eq rfl) (hb hby at_189) (fun _ _ => ⟨rfl, rfl, (by decide : 12 + 1 ≤ _), (by decide : 90 + 7 ≤ _)⟩)
          dsimp only [Pt.U, Pt.locs, Pt.cells, Pt.slots] at X77 l77 y77 z77 st77 hQ77
          subst l77 y77 z77
          obtain ⟨rt_77, k_rt_77, lw_77, da_77, db_77, dc_77, rfl, Nq77, Kc77, g_rt_77, zq_rt_77, q77_0, q77_1, q77_2, q77_3, q77_4, q77_5, q77_6, q77_7, q77_8, q77_9, q77_10, q77_11, q77_12, q77_13, q77_14, q77_15, q77_16⟩ := hQ77
          have sz_rt_77 : T31.heap.size ≤ rt_77 := Nat.le_trans K64.1 zq_rt_77
          have K77 : Keep T31.heap T77.heap [ct_31, it_31, ix_31, sl_31, hp_31, lh_31, b30] := Keep.trans K64 Kc77 (allS (Or.inl (List.mem_of_getElem? (i := 6) rfl)) (allS (Or.inl (List.mem_of_getElem? (i := 5) rfl)) (allS (Or.inl (List.mem_of_getElem? (i := 4) rfl)) (allS (Or.inl (List.mem_of_getElem? (i := 3) rfl)) (allS (Or.inl (List.mem_of_getElem? (i := 2) rfl)) (allS (Or.inl (List.mem_of_getElem? (i := 1) rfl)) (allS (Or.inl (List.mem_of_getElem? (i := 0) rfl)) all0)))))))
          have Zs77 : n0 ≤ T77.heap.size := Nat.le_trans Zs64 Kc77.1
          have N77 := Fr.app N64 Nq77
          obtain ⟨cq78, kq78, q78a, q78b, q78c⟩ := isOf hZ rfl q77_0
          obtain ⟨_, _, ⟨T78, L78, k78, n78⟩, -, X78, ⟨Lc78, hQ78, l78, y78, z78⟩, st78⟩ := X77.virtualBack hx (y := (⟨cRE, "contentLength", "()J"⟩ : MethodName)) (z := (⟨cRE, "contentLength", "()J"⟩ : MethodName)) hown (mvT hZ (Wd hw 155 rfl)) (mvT hZ (Wd hw 156 rfl)) (notFace_of_selects (args := #[]) (mvT hZ (Wd hw 158 rfl))) (mvT hZ (Wd hw 158 rfl)) (mvT hZ (Wd hw 157 rfl)) (by decide) (backOf (W := 0) (rmCLd l Z a0 hw [] b30 lh_31 it_31 kl rt_36 rt_64 rt_77 k_it_31 lna lw_36 k_rt_36 lnb lw_64 k_rt_64 lnc lw_77 k_rt_77 T77.heap n0 Zs77 q77_0 q77_1 q77_2 q77_5 q77_7 q77_14 ((q36_16.keep Kc64 (ninS (Ne.symm ((nlt q31_0.lt zq_rt_36))) (ninS (Ne.symm ((nlt q31_5.lt zq_rt_36))) (ninS (Ne.symm ((nlt q31_11.lt zq_rt_36))) (ninS (Ne.symm ((nlt q31_12.lt zq_rt_36))) (ninS (Ne.symm ((nlt q31_13.lt zq_rt_36))) (ninS (Ne.symm ((nlt q31_14.lt zq_rt_36))) (ninS (Ne.symm ((nlt q31_15.lt zq_rt_36))) nin0)))))))).keep Kc77 (ninS (Ne.symm ((nlt q31_0.lt zq_rt_36))) (ninS (Ne.symm ((nlt q31_5.lt zq_rt_36))) (ninS (Ne.symm ((nlt q31_11.lt zq_rt_36))) (ninS (Ne.symm ((nlt q31_12.lt zq_rt_36))) (ninS (Ne.symm ((nlt q31_13.lt zq_rt_36))) (ninS (Ne.symm ((nlt q31_14.lt zq_rt_36))) (ninS (Ne.symm ((nlt q31_15.lt zq_rt_36))) nin0)))))))) (q64_16.keep Kc77 (ninS (Ne.symm ((nlt q36_0.lt zq_rt_64))) (ninS (Ne.symm ((nlt q36_5.lt zq_rt_64))) (ninS (Ne.symm ((nlt q36_11.lt zq_rt_64))) (ninS (Ne.symm ((nlt q36_12.lt zq_rt_64))) (ninS (Ne.symm ((nlt q36_13.lt zq_rt_64))) (ninS (Ne.symm ((nlt q36_14.lt zq_rt_64))) (ninS (Ne.symm ((nlt q36_15.lt zq_rt_64))) nin0)))))))) q77_16 h2k) hZ (Wd hw 159 rfl) (Wd hw 3 rfl) (by decide) (by decide)) q78a q78c (g := (mkF m 194 (own_lu ja jb jc le mo se nn kl v8 v16 lna lnb lnc ofa ofb ofc b29 b30) [(.ref b30)])) rfl (by rw [hml]; rfl) (Steps.refl _) (argsL := []) (rest := []) (lenOf own_pd15 rfl) rfl (by show 2 * 0 + _ ≤ _; exact Nat.le_of_eq rfl) (hb hby at_194) (fun _ _ => ⟨rfl, rfl, (by decide : 13 + 0 ≤ _), (by decide : 97 + 0 ≤ _)⟩)
          dsimp only [Pt.U, Pt.locs, Pt.cells, Pt.slots] at X78 l78 y78 z78 st78 hQ78
          subst l78 y78 z78
          obtain ⟨rfl, Nq78, e78⟩ := hQ78
          have N78 := Fr.app N77 Nq78
          have r79 : ∀ t, Steps p.tables e below (T78.setTop (mkF m 199 (own_lo ja jb jc le mo se nn kl v8 v16 lna lnb lnc ofa ofb ofc b29 b30 (.val (.long ((((12 : Int64) + ((12 : Int64) + (lna.toInt64))) + ((12 : Int64) + (lnb.toInt64))) + ((12 : Int64) + (lnc.toInt64))))) .second .unset .unset .unset .unset .unset .unset .unset .unset) [])) t → Steps p.tables e below (T64.setTop (mkF m 189 (own_lu ja jb jc le mo se nn kl v8 v16 lna lnb lnc ofa ofb ofc b29 b30) [(.int lnc), (.int ofc), (.ref b29), (.long v16), (.ref b30)])) t := fun t kt => by
           refine st77.trans ?_
           refine XS.aload X77.here hx rfl (hb hby at_192) rfl rfl ?_
           refine st78.trans ?_
           refine XS.lstore X78.here hx rfl (hb hby at_197) rfl (l' := (own_lo ja jb jc le mo se nn kl v8 v16 lna lnb lnc ofa ofb ofc b29 b30 (.val (.long ((((12 : Int64) + ((12 : Int64) + (lna.toInt64))) + ((12 : Int64) + (lnb.toInt64))) + ((12 : Int64) + (lnc.toInt64))))) .second .unset .unset .unset .unset .unset .unset .unset .unset)) rfl ?_
           exact kt
          exact ⟨_, _, _, ((((12 : Int64) + ((12 : Int64) + (lna.toInt64))) + ((12 : Int64) + (lnb.toInt64))) + ((12 : Int64) + (lnc.toInt64))), X78, e78, K77, (own_x3cn (own_is3 K hk1 hk2) hc66 h10 h20 h21), N78, fun t kt => (r37 _ (r39 _ (r65 _ (r67 _ (r79 _ kt)))))⟩
      ·obtain ⟨cq80, kq80, q80a, q80b, q80c⟩ := isOf hZ rfl q64_0
       obtain ⟨_, _, ⟨T80, L80, k80, n80⟩, -, X80, ⟨Lc80, hQ80, l80, y80, z80⟩, st80⟩ := X64.virtualBack hx (y := (⟨cRE, "contentLength", "()J"⟩ : MethodName)) (z := (⟨cRE, "contentLength", "()J"⟩ : MethodName)) hown (mvT hZ (Wd hw 155 rfl)) (mvT hZ (Wd hw 156 rfl)) (notFace_of_selects (args := #[]) (mvT hZ (Wd hw 158 rfl))) (mvT hZ (Wd hw 158 rfl)) (mvT hZ (Wd hw 157 rfl)) (by decide) (backOf (W := 0) (rmCLc l Z a0 hw [] b30 lh_31 it_31 kl rt_36 rt_64 k_it_31 lna lw_36 k_rt_36 lnb lw_64 k_rt_64 T64.heap n0 Zs64 q64_0 q64_1 q64_2 q64_5 q64_7 q64_14 (q36_16.keep Kc64 (ninS (Ne.symm ((nlt q31_0.lt zq_rt_36))) (ninS (Ne.symm ((nlt q31_5.lt zq_rt_36))) (ninS (Ne.symm ((nlt q31_11.lt zq_rt_36))) (ninS (Ne.symm ((nlt q31_12.lt zq_rt_36))) (ninS (Ne.symm ((nlt q31_13.lt zq_rt_36))) (ninS (Ne.symm ((nlt q31_14.lt zq_rt_36))) (ninS (Ne.symm ((nlt q31_15.lt zq_rt_36))) nin0)))))))) q64_16 (own_k1 K hk1)) hZ (Wd hw 159 rfl) (Wd hw 3 rfl) (by decide) (by decide)) q80a q80c (g := (mkF m 194 (own_lu ja jb jc le mo se nn kl v8 v16 lna lnb lnc ofa ofb ofc b29 b30) [(.ref b30)])) rfl (by rw [hml]; rfl) (Steps.refl _) (argsL := []) (rest := []) (lenOf own_pd15 rfl) rfl (by show 2 * 0 + _ ≤ _; exact Nat.le_of_eq rfl) (hb hby at_194) (fun _ _ => ⟨rfl, rfl, (by decide : 12 + 0 ≤ _), (by decide : 90 + 0 ≤ _)⟩)
       dsimp only [Pt.U, Pt.locs, Pt.cells, Pt.slots] at X80 l80 y80 z80 st80 hQ80
       subst l80 y80 z80
       obtain ⟨rfl, Nq80, e80⟩ := hQ80
       have N80 := Fr.app N64 Nq80
       have r81 : ∀ t, Steps p.tables e below (T80.setTop (mkF m 199 (own_lo ja jb jc le mo se nn kl v8 v16 lna lnb lnc ofa ofb ofc b29 b30 (.val (.long (((12 : Int64) + ((12 : Int64) + (lna.toInt64))) + ((12 : Int64) + (lnb.toInt64))))) .second .unset .unset .unset .unset .unset .unset .unset .unset) [])) t → Steps p.tables e below (T64.setTop (mkF m 176 (own_lu ja jb jc le mo se nn kl v8 v16 lna lnb lnc ofa ofb ofc b29 b30) [(.int (2 : Int32)), (.int nn)])) t := fun t kt => by
        refine XS.icmpYes X64.here hx rfl (pc0 := 176) (pc' := 192) rfl (hb hby at_176) rfl (flt hc66).2.2.2 (by decide) (by decide) ?_
        refine XS.aload X64.here hx rfl (hb hby at_192) rfl rfl ?_
        refine st80.trans ?_
        refine XS.lstore X80.here hx rfl (hb hby at_197) rfl (l' := (own_lo ja jb jc le mo se nn kl v8 v16 lna lnb lnc ofa ofb ofc b29 b30 (.val (.long (((12 : Int64) + ((12 : Int64) + (lna.toInt64))) + ((12 : Int64) + (lnb.toInt64))))) .second .unset .unset .unset .unset .unset .unset .unset .unset)) rfl ?_
        exact kt
       exact ⟨_, _, _, (((12 : Int64) + ((12 : Int64) + (lna.toInt64))) + ((12 : Int64) + (lnb.toInt64))), (X80.more (by decide) (by decide)), e80, K64, (own_x2c hk hk1 hc38 hc66 h10), N80, fun t kt => (r37 _ (r39 _ (r65 _ (r81 _ kt))))⟩
   ·obtain ⟨cq82, kq82, q82a, q82b, q82c⟩ := isOf hZ rfl q36_0
    obtain ⟨_, _, ⟨T82, L82, k82, n82⟩, -, X82, ⟨Lc82, hQ82, l82, y82, z82⟩, st82⟩ := X36.virtualBack hx (y := (⟨cRE, "contentLength", "()J"⟩ : MethodName)) (z := (⟨cRE, "contentLength", "()J"⟩ : MethodName)) hown (mvT hZ (Wd hw 155 rfl)) (mvT hZ (Wd hw 156 rfl)) (notFace_of_selects (args := #[]) (mvT hZ (Wd hw 158 rfl))) (mvT hZ (Wd hw 158 rfl)) (mvT hZ (Wd hw 157 rfl)) (by decide) (backOf (W := 0) (rmCLb l Z a0 hw [] b30 lh_31 it_31 kl rt_36 k_it_31 lna lw_36 k_rt_36 T36.heap n0 Zs36 q36_0 q36_1 q36_2 q36_5 q36_7 q36_14 q36_16 (own_kpos K)) hZ (Wd hw 159 rfl) (Wd hw 3 rfl) (by decide) (by decide)) q82a q82c (g := (mkF m 194 (own_lu ja jb jc le mo se nn kl v8 v16 lna lnb lnc ofa ofb ofc b29 b30) [(.ref b30)])) rfl (by rw [hml]; rfl) (Steps.refl _) (argsL := []) (rest := []) (lenOf own_pd15 rfl) rfl (by show 2 * 0 + _ ≤ _; exact Nat.le_of_eq rfl) (hb hby at_194) (fun _ _ => ⟨rfl, rfl, (by decide : 11 + 0 ≤ _), (by decide : 83 + 0 ≤ _)⟩)
    dsimp only [Pt.U, Pt.locs, Pt.cells, Pt.slots] at X82 l82 y82 z82 st82 hQ82
    subst l82 y82 z82
    obtain ⟨rfl, Nq82, e82⟩ := hQ82
    have N82 := Fr.app N36 Nq82
    have r83 : ∀ t, Steps p.tables e below (T82.setTop (mkF m 199 (own_lo ja jb jc le mo se nn kl v8 v16 lna lnb lnc ofa ofb ofc b29 b30 (.val (.long ((12 : Int64) + ((12 : Int64) + (lna.toInt64))))) .second .unset .unset .unset .unset .unset .unset .unset .unset) [])) t → Steps p.tables e below (T36.setTop (mkF m 157 (own_lu ja jb jc le mo se nn kl v8 v16 lna lnb lnc ofa ofb ofc b29 b30) [(.int (1 : Int32)), (.int nn)])) t := fun t kt => by
     refine XS.icmpYes X36.here hx rfl (pc0 := 157) (pc' := 173) rfl (hb hby at_157) rfl (flt hc38).2.2.2 (by decide) (by decide) ?_
     refine XS.iload X36.here hx rfl (hb hby at_173) rfl ?_
     refine XS.iconst X36.here hx rfl (hb hby at_175) ?_
     refine XS.icmpYes X36.here hx rfl (pc0 := 176) (pc' := 192) rfl (hb hby at_176) rfl (flt (own_lt0 hc38 (by decide))).2.2.2 (by decide) (by decide) ?_
     refine XS.aload X36.here hx rfl (hb hby at_192) rfl rfl ?_
     refine st82.trans ?_
     refine XS.lstore X82.here hx rfl (hb hby at_197) rfl (l' := (own_lo ja jb jc le mo se nn kl v8 v16 lna lnb lnc ofa ofb ofc b29 b30 (.val (.long ((12 : Int64) + ((12 : Int64) + (lna.toInt64))))) .second .unset .unset .unset .unset .unset .unset .unset .unset)) rfl ?_
     exact kt
    exact ⟨_, _, _, ((12 : Int64) + ((12 : Int64) + (lna.toInt64))), (X82.more (by decide) (by decide)), e82, K36, (own_x1 hk hc35 hc38), N82, fun t kt => (r37 _ (r83 _ kt))⟩
  ·obtain ⟨cq84, kq84, q84a, q84b, q84c⟩ := isOf hZ rfl q31_0
   obtain ⟨_, _, ⟨T84, L84, k84, n84⟩, -, X84, ⟨Lc84, hQ84, l84, y84, z84⟩, st84⟩ := X31.virtualBack hx (y := (⟨cRE, "contentLength", "()J"⟩ : MethodName)) (z := (⟨cRE, "contentLength", "()J"⟩ : MethodName)) hown (mvT hZ (Wd hw 155 rfl)) (mvT hZ (Wd hw 156 rfl)) (notFace_of_selects (args := #[]) (mvT hZ (Wd hw 158 rfl))) (mvT hZ (Wd hw 158 rfl)) (mvT hZ (Wd hw 157 rfl)) (by decide) (backOf (W := 0) (rmCLa l Z a0 hw [] b30 lh_31 it_31 T31.heap n0 Zs31 q31_0 q31_1 q31_2 q31_5 q31_6) hZ (Wd hw 159 rfl) (Wd hw 3 rfl) (by decide) (by decide)) q84a q84c (g := (mkF m 194 (own_lu ja jb jc le mo se nn kl v8 v16 lna lnb lnc ofa ofb ofc b29 b30) [(.ref b30)])) rfl (by rw [hml]; rfl) (Steps.refl _) (argsL := []) (rest := []) (lenOf own_pd15 rfl) rfl (by show 2 * 0 + _ ≤ _; exact Nat.le_of_eq rfl) (hb hby at_194) (fun _ _ => ⟨rfl, rfl, (by decide : 10 + 0 ≤ _), (by decide : 76 + 0 ≤ _)⟩)
   dsimp only [Pt.U, Pt.locs, Pt.cells, Pt.slots] at X84 l84 y84 z84 st84 hQ84
   subst l84 y84 z84
   obtain ⟨rfl, Nq84, e84⟩ := hQ84
   have N84 := Fr.app N31 Nq84
   have r85 : ∀ t, Steps p.tables e below (T84.setTop (mkF m 199 (own_lo ja jb jc le mo se nn kl v8 v16 lna lnb lnc ofa ofb ofc b29 b30 (.val (.long (12 : Int64))) .second .unset .unset .unset .unset .unset .unset .unset .unset) [])) t → Steps p.tables e below (T31.setTop (mkF m 139 (own_lu ja jb jc le mo se nn kl v8 v16 lna lnb lnc ofa ofb ofc b29 b30) [(.int nn)])) t := fun t kt => by
    refine XS.ifYes X31.here hx rfl (pc0 := 139) (pc' := 154) rfl (hb hby at_139) rfl ((if0 _ _).trans (flt hc35).2.2.2) (by decide) (by decide) ?_
    refine XS.iload X31.here hx rfl (hb hby at_154) rfl ?_
    refine XS.iconst X31.here hx rfl (hb hby at_156) ?_
    refine XS.icmpYes X31.here hx rfl (pc0 := 157) (pc' := 173) rfl (hb hby at_157) rfl (flt (own_lt0 hc35 (by decide))).2.2.2 (by decide) (by decide) ?_
    refine XS.iload X31.here hx rfl (hb hby at_173) rfl ?_
    refine XS.iconst X31.here hx rfl (hb hby at_175) ?_
    refine XS.icmpYes X31.here hx rfl (pc0 := 176) (pc' := 192) rfl (hb hby at_176) rfl (flt (own_lt0 hc35 (by decide))).2.2.2 (by decide) (by decide) ?_
    refine XS.aload X31.here hx rfl (hb hby at_192) rfl rfl ?_
    refine st84.trans ?_
    refine XS.lstore X84.here hx rfl (hb hby at_197) rfl (l' := (own_lo ja jb jc le mo se nn kl v8 v16 lna lnb lnc ofa ofb ofc b29 b30 (.val (.long (12 : Int64))) .second .unset .unset .unset .unset .unset .unset .unset .unset)) rfl ?_
    exact kt
   exact ⟨_, _, _, (12 : Int64), (X84.more (by decide) (by decide)), e84, (Keep.refl T31.heap [ct_31, it_31, ix_31, sl_31, hp_31, lh_31, b30]), (own_x0 hc35), N84, fun t kt => (r85 _ kt)⟩
 have K34 : Keep h0 h34 [] := Keep.trans K31 Kc34 (allS (Or.inr sz_ct_31) (allS (Or.inr sz_it_31) (allS (Or.inr sz_ix_31) (allS (Or.inr sz_sl_31) (allS (Or.inr sz_hp_31) (allS (Or.inr sz_lh_31) (allS (Or.inr sz_b30) all0)))))))
 have Zs34 : n0 ≤ h34.size := Nat.le_trans Zs31 Kc34.1
 have r86 : ∀ t, Steps p.tables e below (T34.setTop (mkF m 201 (own_lo ja jb jc le mo se nn kl v8 v16 lna lnb lnc ofa ofb ofc b29 b30 (.val (.long av)) .second .unset .unset .unset .unset .unset .unset .unset .unset) [(.int nn)])) t → Steps p.tables e below (T34.setTop (mkF m 199 (own_lo ja jb jc le mo se nn kl v8 v16 lna lnb lnc ofa ofb ofc b29 b30 (.val (.long av)) .second .unset .unset .unset .unset .unset .unset .unset .unset) [])) t := fun t kt => by
  refine XS.iload X34.here hx rfl (hb hby at_199) rfl ?_
  exact kt
 obtain ⟨v89, hv89⟩ : ∃ zz : Int32, zz = (if (0 : Int32) < nn then (1 : Int32) else (0 : Int32)) := ⟨_, rfl⟩
 have r87 : ∀ t, Steps p.tables e below (T34.setTop (mkF m 209 (own_lo ja jb jc le mo se nn kl v8 v16 lna lnb lnc ofa ofb ofc b29 b30 (.val (.long av)) .second .unset .unset .unset .unset .unset .unset .unset .unset) [(.int v89)])) t → Steps p.tables e below (T34.setTop (mkF m 201 (own_lo ja jb jc le mo se nn kl v8 v16 lna lnb lnc ofa ofb ofc b29 b30 (.val (.long av)) .second .unset .unset .unset .unset .unset .unset .unset .unset) [(.int nn)])) t := fun t kt => by
  rw [hv89] at kt
  by_cases hd88 : (0 : Int32) < nn
  ·simp only [if_pos hd88] at kt
   refine XS.ifNo X34.here hx rfl (hb hby at_201) rfl ((if0 _ _).trans (tlt hd88).2.2.2) ?_
   refine XS.iconst X34.here hx rfl (hb hby at_204) ?_
   refine XS.goto X34.here hx rfl (pc0 := 205) (pc' := 209) rfl (hb hby at_205) (by decide) (by decide) ?_
   exact kt
  ·simp only [if_neg hd88] at kt
   refine XS.ifYes X34.here hx rfl (pc0 := 201) (pc' := 208) rfl (hb hby at_201) rfl ((if0 _ _).trans (flt hd88).2.2.2) (by decide) (by decide) ?_
   refine XS.iconst X34.here hx rfl (hb hby at_208) ?_
   exact kt
 have r90 : ∀ t, Steps p.tables e below (T34.setTop (mkF m 214 (own_lo ja jb jc le mo se nn kl v8 v16 lna lnb lnc ofa ofb ofc b29 b30 (.val (.long av)) .second (.val (.int v89)) .unset .unset .unset .unset .unset .unset .unset) [(.int (1 : Int32)), (.int nn)])) t → Steps p.tables e below (T34.setTop (mkF m 209 (own_lo ja jb jc le mo se nn kl v8 v16 lna lnb lnc ofa ofb ofc b29 b30 (.val (.long av)) .second .unset .unset .unset .unset .unset .unset .unset .unset) [(.int v89)])) t := fun t kt => by
  refine XS.istore X34.here hx rfl (hb hby at_209) rfl (l' := (own_lo ja jb jc le mo se nn kl v8 v16 lna lnb lnc ofa ofb ofc b29 b30 (.val (.long av)) .second (.val (.int v89)) .unset .unset .unset .unset .unset .unset .unset)) rfl ?_
  refine XS.iload X34.here hx rfl (hb hby at_211) rfl ?_
  refine XS.iconst X34.here hx rfl (hb hby at_213) ?_
  exact kt
 obtain ⟨v94, hv94⟩ : ∃ zz : Int32, zz = (if (1 : Int32) < nn then (if v8 = ja then (0 : Int32) else (1 : Int32)) else (0 : Int32)) := ⟨_, rfl⟩
 have r91 : ∀ t, Steps p.tables e below (T34.setTop (mkF m 229 (own_lo ja jb jc le mo se nn kl v8 v16 lna lnb lnc ofa ofb ofc b29 b30 (.val (.long av)) .second (.val (.int v89)) .unset .unset .unset .unset .unset .unset .unset) [(.int v94)])) t → Steps p.tables e below (T34.setTop (mkF m 214 (own_lo ja jb jc le mo se nn kl v8 v16 lna lnb lnc ofa ofb ofc b29 b30 (.val (.long av)) .second (.val (.int v89)) .unset .unset .unset .unset .unset .unset .unset) [(.int (1 : Int32)), (.int nn)])) t := fun t kt => by
  rw [hv94] at kt
  by_cases hd92 : (1 : Int32) < nn
  ·simp only [if_pos hd92] at kt
   by_cases hd93 : v8 = ja
   ·simp only [if_pos hd93] at kt
    refine XS.icmpNo X34.here hx rfl (hb hby at_214) rfl (tlt hd92).2.2.2 ?_
    refine XS.lload X34.here hx rfl (hb hby at_217) rfl ?_
    refine XS.lloadN X34.here hx rfl (hb hby at_219) rfl ?_
    refine XS.lcmp X34.here hx rfl (hb hby at_220) rfl ?_
    refine XS.ifYes X34.here hx rfl (pc0 := 221) (pc' := 228) rfl (hb hby at_221) rfl ((if0 _ _).trans (teq ((lw_eq _ _).mpr hd93)).1) (by decide) (by decide) ?_
    refine XS.iconst X34.here hx rfl (hb hby at_228) ?_
    exact kt
   ·simp only [if_neg hd93] at kt
    refine XS.icmpNo X34.here hx rfl (hb hby at_214) rfl (tlt hd92).2.2.2 ?_
    refine XS.lload X34.here hx rfl (hb hby at_217) rfl ?_
    refine XS.lloadN X34.here hx rfl (hb hby at_219) rfl ?_
    refine XS.lcmp X34.here hx rfl (hb hby at_220) rfl ?_
    refine XS.ifNo X34.here hx rfl (hb hby at_221) rfl ((if0 _ _).trans (feq (fun q => hd93 ((lw_eq _ _).mp q))).1) ?_
    refine XS.iconst X34.here hx rfl (hb hby at_224) ?_
    refine XS.goto X34.here hx rfl (pc0 := 225) (pc' := 229) rfl (hb hby at_225) (by decide) (by decide) ?_
    exact kt
  ·simp only [if_neg hd92] at kt
   refine XS.icmpYes X34.here hx rfl (pc0 := 214) (pc' := 228) rfl (hb hby at_214) rfl (flt hd92).2.2.2 (by decide) (by decide) ?_
   refine XS.iconst X34.here hx rfl (hb hby at_228) ?_
   exact kt
 have r95 : ∀ t, Steps p.tables e below (T34.setTop (mkF m 234 (own_lo ja jb jc le mo se nn kl v8 v16 lna lnb lnc ofa ofb ofc b29 b30 (.val (.long av)) .second (.val (.int v89)) (.val (.int v94)) .unset .unset .unset .unset .unset .unset) [(.int (2 : Int32)), (.int nn)])) t → Steps p.tables e below (T34.setTop (mkF m 229 (own_lo ja jb jc le mo se nn kl v8 v16 lna lnb lnc ofa ofb ofc b29 b30 (.val (.long av)) .second (.val (.int v89)) .unset .unset .unset .unset .unset .unset .unset) [(.int v94)])) t := fun t kt => by
  refine XS.istore X34.here hx rfl (hb hby at_229) rfl (l' := (own_lo ja jb jc le mo se nn kl v8 v16 lna lnb lnc ofa ofb ofc b29 b30 (.val (.long av)) .second (.val (.int v89)) (.val (.int v94)) .unset .unset .unset .unset .unset .unset)) rfl ?_
  refine XS.iload X34.here hx rfl (hb hby at_231) rfl ?_
  refine XS.iconst X34.here hx rfl (hb hby at_233) ?_
  exact kt
 obtain ⟨v100, hv100⟩ : ∃ zz : Int32, zz = (if (2 : Int32) < nn then (if v16 = ja then (0 : Int32) else (if v16 = v8 then (0 : Int32) else (1 : Int32))) else (0 : Int32)) := ⟨_, rfl⟩
 have r96 : ∀ t, Steps p.tables e below (T34.setTop (mkF m 257 (own_lo ja jb jc le mo se nn kl v8 v16 lna lnb lnc ofa ofb ofc b29 b30 (.val (.long av)) .second (.val (.int v89)) (.val (.int v94)) .unset .unset .unset .unset .unset .unset) [(.int v100)])) t → Steps p.tables e below (T34.setTop (mkF m 234 (own_lo ja jb jc le mo se nn kl v8 v16 lna lnb lnc ofa ofb ofc b29 b30 (.val (.long av)) .second (.val (.int v89)) (.val (.int v94)) .unset .unset .unset .unset .unset .unset) [(.int (2 : Int32)), (.int nn)])) t := fun t kt => by
  rw [hv100] at kt
  by_cases hd97 : (2 : Int32) < nn
  ·simp only [if_pos hd97] at kt
   by_cases hd98 : v16 = ja
   ·simp only [if_pos hd98] at kt
    refine XS.icmpNo X34.here hx rfl (hb hby at_234) rfl (tlt hd97).2.2.2 ?_
    refine XS.lload X34.here hx rfl (hb hby at_237) rfl ?_
    refine XS.lloadN X34.here hx rfl (hb hby at_239) rfl ?_
    refine XS.lcmp X34.here hx rfl (hb hby at_240) rfl ?_
    refine XS.ifYes X34.here hx rfl (pc0 := 241) (pc' := 256) rfl (hb hby at_241) rfl ((if0 _ _).trans (teq ((lw_eq _ _).mpr hd98)).1) (by decide) (by decide) ?_
    refine XS.iconst X34.here hx rfl (hb hby at_256) ?_
    exact kt
   ·simp only [if_neg hd98] at kt
    by_cases hd99 : v16 = v8
    ·simp only [if_pos hd99] at kt
     refine XS.icmpNo X34.here hx rfl (hb hby at_234) rfl (tlt hd97).2.2.2 ?_
     refine XS.lload X34.here hx rfl (hb hby at_237) rfl ?_
     refine XS.lloadN X34.here hx rfl (hb hby at_239) rfl ?_
     refine XS.lcmp X34.here hx rfl (hb hby at_240) rfl ?_
     refine XS.ifNo X34.here hx rfl (hb hby at_241) rfl ((if0 _ _).trans (feq (fun q => hd98 ((lw_eq _ _).mp q))).1) ?_
     refine XS.lload X34.here hx rfl (hb hby at_244) rfl ?_
     refine XS.lload X34.here hx rfl (hb hby at_246) rfl ?_
     refine XS.lcmp X34.here hx rfl (hb hby at_248) rfl ?_
     refine XS.ifYes X34.here hx rfl (pc0 := 249) (pc' := 256) rfl (hb hby at_249) rfl ((if0 _ _).trans (teq ((lw_eq _ _).mpr hd99)).1) (by decide) (by decide) ?_
     refine XS.iconst X34.here hx rfl (hb hby at_256) ?_
     exact kt
    ·simp only [if_neg hd99] at kt
     refine XS.icmpNo X34.here hx rfl (hb hby at_234) rfl (tlt hd97).2.2.2 ?_
     refine XS.lload X34.here hx rfl (hb hby at_237) rfl ?_
     refine XS.lloadN X34.here hx rfl (hb hby at_239) rfl ?_
     refine XS.lcmp X34.here hx rfl (hb hby at_240) rfl ?_
     refine XS.ifNo X34.here hx rfl (hb hby at_241) rfl ((if0 _ _).trans (feq (fun q => hd98 ((lw_eq _ _).mp q))).1) ?_
     refine XS.lload X34.here hx rfl (hb hby at_244) rfl ?_
     refine XS.lload X34.here hx rfl (hb hby at_246) rfl ?_
     refine XS.lcmp X34.here hx rfl (hb hby at_248) rfl ?_
     refine XS.ifNo X34.here hx rfl (hb hby at_249) rfl ((if0 _ _).trans (feq (fun q => hd99 ((lw_eq _ _).mp q))).1) ?_
     refine XS.iconst X34.here hx rfl (hb hby at_252) ?_
     refine XS.goto X34.here hx rfl (pc0 := 253) (pc' := 257) rfl (hb hby at_253) (by decide) (by decide) ?_
     exact kt
  ·simp only [if_neg hd97] at kt
   refine XS.icmpYes X34.here hx rfl (pc0 := 234) (pc' := 256) rfl (hb hby at_234) rfl (flt hd97).2.2.2 (by decide) (by decide) ?_
   refine XS.iconst X34.here hx rfl (hb hby at_256) ?_
   exact kt
 have r101 : ∀ t, Steps p.tables e below (T34.setTop (mkF m 261 (own_lo ja jb jc le mo se nn kl v8 v16 lna lnb lnc ofa ofb ofc b29 b30 (.val (.long av)) .second (.val (.int v89)) (.val (.int v94)) (.val (.int v100)) .unset .unset .unset .unset .unset) [(.int v94)])) t → Steps p.tables e below (T34.setTop (mkF m 257 (own_lo ja jb jc le mo se nn kl v8 v16 lna lnb lnc ofa ofb ofc b29 b30 (.val (.long av)) .second (.val (.int v89)) (.val (.int v94)) .unset .unset .unset .unset .unset .unset) [(.int v100)])) t := fun t kt => by
  refine XS.istore X34.here hx rfl (hb hby at_257) rfl (l' := (own_lo ja jb jc le mo se nn kl v8 v16 lna lnb lnc ofa ofb ofc b29 b30 (.val (.long av)) .second (.val (.int v89)) (.val (.int v94)) (.val (.int v100)) .unset .unset .unset .unset .unset)) rfl ?_
  refine XS.iload X34.here hx rfl (hb hby at_259) rfl ?_
  exact kt
 obtain ⟨T102, h102, L102, ga, X102, e102, Kc102, p102_0, N102, r102⟩ : ∃ (T' : State) (h' : Heap) (L' : List Loc) (ga : Int32), Stand p l e room_1 s m #[(.long ja), (.long jb), (.long jc), (.int le), (.int mo), (.int se)] below meth c T' L' 13 97 ∧ T'.heap = h' ∧ Keep h34 h' [] ∧ ga = own_g v94 v8 ja ∧ Fr n0 L' ∧ ∀ t, Steps p.tables e below (T'.setTop (mkF m 278 (own_lo ja jb jc le mo se nn kl v8 v16 lna lnb lnc ofa ofb ofc b29 b30 (.val (.long av)) .second (.val (.int v89)) (.val (.int v94)) (.val (.int v100)) .unset .unset .unset .unset .unset) [(.int ga)])) t → Steps p.tables e below (T34.setTop (mkF m 261 (own_lo ja jb jc le mo se nn kl v8 v16 lna lnb lnc ofa ofb ofc b29 b30 (.val (.long av)) .second (.val (.int v89)) (.val (.int v94)) (.val (.int v100)) .unset .unset .unset .unset .unset) [(.int v94)])) t := by
  by_cases hc103 : v94 = (0 : Int32)
  ·have r104 : ∀ t, Steps p.tables e below (T34.setTop (mkF m 278 (own_lo ja jb jc le mo se nn kl v8 v16 lna lnb lnc ofa ofb ofc b29 b30 (.val (.long av)) .second (.val (.int v89)) (.val (.int v94)) (.val (.int v100)) .unset .unset .unset .unset .unset) [(.int (0 : Int32))])) t → Steps p.tables e below (T34.setTop (mkF m 261 (own_lo ja jb jc le mo se nn kl v8 v16 lna lnb lnc ofa ofb ofc b29 b30 (.val (.long av)) .second (.val (.int v89)) (.val (.int v94)) (.val (.int v100)) .unset .unset .unset .unset .unset) [(.int v94)])) t := fun t kt => by
    refine XS.ifYes X34.here hx rfl (pc0 := 261) (pc' := 277) rfl (hb hby at_261) rfl ((if0 _ _).trans (teq hc103).1) (by decide) (by decide) ?_
    refine XS.iconst X34.here hx rfl (hb hby at_277) ?_
    exact kt
   exact ⟨_, _, _, (0 : Int32), X34, e34, (Keep.refl h34 []), (if_pos hc103).symm, N34, fun t kt => (r104 _ kt)⟩
  ·obtain ⟨_, _, ⟨T105, L105, k105, n105⟩, -, X105, ⟨Lc105, hQ105, l105, y105, z105⟩, st105⟩ := Jvm.LawKit.callS X34 hx (y := (⟨cLW, "gtU", "(JJ)Z"⟩ : MethodName)) hown (mvT hZ (Wd hw 166 rfl)) (mvT hZ (Wd hw 167 rfl)) (mvT hZ (Wd hw 168 rfl)) (mvT hZ (Wd hw 169 rfl)) (by decide) (backOf (W := 0) (rmGT l Z a0 hw [] v8 ja h34 n0 Zs34 ) hZ (Wd hw 169 rfl) (Wd hw 168 rfl) (by decide) (by decide)) (g := (mkF m 267 (own_lo ja jb jc le mo se nn kl v8 v16 lna lnb lnc ofa ofb ofc b29 b30 (.val (.long av)) .second (.val (.int v89)) (.val (.int v94)) (.val (.int v100)) .unset .unset .unset .unset .unset) [(.long ja), (.long v8)])) rfl (by rw [hml]; rfl) (argsL := [(.long v8), (.long ja)]) (rest := []) (lenOf own_pd16 rfl) rfl (by show 2 * 0 + _ ≤ _; exact Nat.le_of_eq rfl) (hb hby at_267) (fun _ _ => ⟨rfl, e34, (by decide : 13 + 0 ≤ _), (by decide : 97 + 0 ≤ _)⟩)
   dsimp only [Pt.U, Pt.locs, Pt.cells, Pt.slots] at X105 l105 y105 z105 st105 hQ105
   subst l105 y105 z105
   obtain ⟨rfl, Nq105, e105⟩ := hQ105
   have N105 := Fr.app N34 Nq105
   have r106 : ∀ t, Steps p.tables e below (T105.setTop (mkF m 270 (own_lo ja jb jc le mo se nn kl v8 v16 lna lnb lnc ofa ofb ofc b29 b30 (.val (.long av)) .second (.val (.int v89)) (.val (.int v94)) (.val (.int v100)) .unset .unset .unset .unset .unset) [(.int (own_gb v8 ja))])) t → Steps p.tables e below (T34.setTop (mkF m 261 (own_lo ja jb jc le mo se nn kl v8 v16 lna lnb lnc ofa ofb ofc b29 b30 (.val (.long av)) .second (.val (.int v89)) (.val (.int v94)) (.val (.int v100)) .unset .unset .unset .unset .unset) [(.int v94)])) t := fun t kt => by
    refine XS.ifNo X34.here hx rfl (hb hby at_261) rfl ((if0 _ _).trans (feq hc103).1) ?_
    refine XS.lload X34.here hx rfl (hb hby at_264) rfl ?_
    refine XS.lloadN X34.here hx rfl (hb hby at_266) rfl ?_
    refine st105 _ ?_
    exact kt
   by_cases hc107 : (own_gb v8 ja) = (0 : Int32)
   ·have r108 : ∀ t, Steps p.tables e below (T105.setTop (mkF m 278 (own_lo ja jb jc le mo se nn kl v8 v16 lna lnb lnc ofa ofb ofc b29 b30 (.val (.long av)) .second (.val (.int v89)) (.val (.int v94)) (.val (.int v100)) .unset .unset .unset .unset .unset) [(.int (0 : Int32))])) t → Steps p.tables e below (T105.setTop (mkF m 270 (own_lo ja jb jc le mo se nn kl v8 v16 lna lnb lnc ofa ofb ofc b29 b30 (.val (.long av)) .second (.val (.int v89)) (.val (.int v94)) (.val (.int v100)) .unset .unset .unset .unset .unset) [(.int (own_gb v8 ja))])) t := fun t kt => by
     refine XS.ifYes X105.here hx rfl (pc0 := 270) (pc' := 277) rfl (hb hby at_270) rfl ((if0 _ _).trans (teq hc107).1) (by decide) (by decide) ?_
     refine XS.iconst X105.here hx rfl (hb hby at_277) ?_
     exact kt
    exact ⟨_, _, _, (0 : Int32), X105, e105, (Keep.refl h34 []), ((if_neg hc103).trans hc107).symm, N105, fun t kt => (r106 _ (r108 _ kt))⟩
   ·have r109 : ∀ t, Steps p.tables e below (T105.setTop (mkF m 278 (own_lo ja jb jc le mo se nn kl v8 v16 lna lnb lnc ofa ofb ofc b29 b30 (.val (.long av)) .second (.val (.int v89)) (.val (.int v94)) (.val (.int v100)) .unset .unset .unset .unset .unset) [(.int (1 : Int32))])) t → Steps p.tables e below (T105.setTop (mkF m 270 (own_lo ja jb jc le mo se nn kl v8 v16 lna lnb lnc ofa ofb ofc b29 b30 (.val (.long av)) .second (.val (.int v89)) (.val (.int v94)) (.val (.int v100)) .unset .unset .unset .unset .unset) [(.int (own_gb v8 ja))])) t := fun t kt => by
     refine XS.ifNo X105.here hx rfl (hb hby at_270) rfl ((if0 _ _).trans (feq hc107).1) ?_
     refine XS.iconst X105.here hx rfl (hb hby at_273) ?_
     refine XS.goto X105.here hx rfl (pc0 := 274) (pc' := 278) rfl (hb hby at_274) (by decide) (by decide) ?_
     exact kt
    exact ⟨_, _, _, (1 : Int32), X105, e105, (Keep.refl h34 []), ((if_neg hc103).trans (own_gb1 hc107)).symm, N105, fun t kt => (r106 _ (r109 _ kt))⟩
 have K102 : Keep h0 h102 [] := Keep.trans K34 Kc102 all0
 have Zs102 : n0 ≤ h102.size := Nat.le_trans Zs34 Kc102.1
 obtain ⟨_, _, ⟨T110, L110, k110, n110⟩, -, X110, ⟨Lc110, hQ110, l110, y110, z110⟩, st110⟩ := Jvm.LawKit.callS X102 hx (y := (⟨cLW, "one", "(Z)I"⟩ : MethodName)) hown (mvT hZ (Wd hw 171 rfl)) (mvT hZ (Wd hw 172 rfl)) (mvT hZ (Wd hw 168 rfl)) (mvT hZ (Wd hw 173 rfl)) (by decide) (backOf (W := 0) (rmON l Z a0 hw [] ga h102 n0 Zs102 ) hZ (Wd hw 173 rfl) (Wd hw 168 rfl) (by decide) (by decide)) (g := (mkF m 278 (own_lo ja jb jc le mo se nn kl v8 v16 lna lnb lnc ofa ofb ofc b29 b30 (.val (.long av)) .second (.val (.int v89)) (.val (.int v94)) (.val (.int v100)) .unset .unset .unset .unset .unset) [(.int ga)])) rfl (by rw [hml]; rfl) (argsL := [(.int ga)]) (rest := []) (lenOf own_pd17 rfl) rfl (by show 2 * 0 + _ ≤ _; exact Nat.le_of_eq rfl) (hb hby at_278) (fun _ _ => ⟨rfl, e102, (by decide : 13 + 0 ≤ _), (by decide : 97 + 0 ≤ _)⟩)
 dsimp only [Pt.U, Pt.locs, Pt.cells, Pt.slots] at X110 l110 y110 z110 st110 hQ110
 subst l110 y110 z110
 obtain ⟨rfl, Nq110, e110⟩ := hQ110
 have N110 := Fr.app N102 Nq110
 have r111 : ∀ t, Steps p.tables e below (T110.setTop (mkF m 283 (own_lo ja jb jc le mo se nn kl v8 v16 lna lnb lnc ofa ofb ofc b29 b30 (.val (.long av)) .second (.val (.int v89)) (.val (.int v94)) (.val (.int v100)) .unset .unset .unset .unset .unset) [(.int v100), (.int (own_one ga))])) t → Steps p.tables e below (T102.setTop (mkF m 278 (own_lo ja jb jc le mo se nn kl v8 v16 lna lnb lnc ofa ofb ofc b29 b30 (.val (.long av)) .second (.val (.int v89)) (.val (.int v94)) (.val (.int v100)) .unset .unset .unset .unset .unset) [(.int ga)])) t := fun t kt => by
  refine st110 _ ?_
  refine XS.iload X110.here hx rfl (hb hby at_281) rfl ?_
  exact kt
 obtain ⟨T112, h112, L112, gb, X112, e112, Kc112, p112_0, N112, r112⟩ : ∃ (T' : State) (h' : Heap) (L' : List Loc) (gb : Int32), Stand p l e room_1 s m #[(.long ja), (.long jb), (.long jc), (.int le), (.int mo), (.int se)] below meth c T' L' 13 97 ∧ T'.heap = h' ∧ Keep h102 h' [] ∧ gb = own_g v100 v16 ja ∧ Fr n0 L' ∧ ∀ t, Steps p.tables e below (T'.setTop (mkF m 300 (own_lo ja jb jc le mo se nn kl v8 v16 lna lnb lnc ofa ofb ofc b29 b30 (.val (.long av)) .second (.val (.int v89)) (.val (.int v94)) (.val (.int v100)) .unset .unset .unset .unset .unset) [(.int gb), (.int (own_one ga))])) t → Steps p.tables e below (T110.setTop (mkF m 283 (own_lo ja jb jc le mo se nn kl v8 v16 lna lnb lnc ofa ofb ofc b29 b30 (.val (.long av)) .second (.val (.int v89)) (.val (.int v94)) (.val (.int v100)) .unset .unset .unset .unset .unset) [(.int v100), (.int (own_one ga))])) t := by
  by_cases hc113 : v100 = (0 : Int32)
  ·have r114 : ∀ t, Steps p.tables e below (T110.setTop (mkF m 300 (own_lo ja jb jc le mo se nn kl v8 v16 lna lnb lnc ofa ofb ofc b29 b30 (.val (.long av)) .second (.val (.int v89)) (.val (.int v94)) (.val (.int v100)) .unset .unset .unset .unset .unset) [(.int (0 : Int32)), (.int (own_one ga))])) t → Steps p.tables e below (T110.setTop (mkF m 283 (own_lo ja jb jc le mo se nn kl v8 v16 lna lnb lnc ofa ofb ofc b29 b30 (.val (.long av)) .second (.val (.int v89)) (.val (.int v94)) (.val (.int v100)) .unset .unset .unset .unset .unset) [(.int v100), (.int (own_one ga))])) t := fun t kt => by
    refine XS.ifYes X110.here hx rfl (pc0 := 283) (pc' := 299) rfl (hb hby at_283) rfl ((if0 _ _).trans (teq hc113).1) (by decide) (by decide) ?_
    refine XS.iconst X110.here hx rfl (hb hby at_299) ?_
    exact kt
   exact ⟨_, _, _, (0 : Int32), X110, e110, (Keep.refl h102 []), (if_pos hc113).symm, N110, fun t kt => (r114 _ kt)⟩
  ·obtain ⟨_, _, ⟨T115, L115, k115, n115⟩, -, X115, ⟨Lc115, hQ115, l115, y115, z115⟩, st115⟩ := Jvm.LawKit.callS X110 hx (y := (⟨cLW, "gtU", "(JJ)Z"⟩ : MethodName)) hown (mvT hZ (Wd hw 166 rfl)) (mvT hZ (Wd hw 167 rfl)) (mvT hZ (Wd hw 168 rfl)) (mvT hZ (Wd hw 169 rfl)) (by decide) (backOf (W := 1) (rmGT l Z a0 hw [] v16 ja h102 n0 Zs102 ) hZ (Wd hw 169 rfl) (Wd hw 168 rfl) (by decide) (by decide)) (g := (mkF m 289 (own_lo ja jb jc le mo se nn kl v8 v16 lna lnb lnc ofa ofb ofc b29 b30 (.val (.long av)) .second (.val (.int v89)) (.val (.int v94)) (.val (.int v100)) .unset .unset .unset .unset .unset) [(.long ja), (.long v16), (.int (own_one ga))])) rfl (by rw [hml]; rfl) (argsL := [(.long v16), (.long ja)]) (rest := [(.int (own_one ga))]) (lenOf own_pd16 rfl) rfl (by show 2 * 0 + _ ≤ _; exact Nat.le_of_eq rfl) (hb hby at_289) (fun _ _ => ⟨rfl, e110, (by decide : 13 + 0 ≤ _), (by decide : 97 + 0 ≤ _)⟩)
   dsimp only [Pt.U, Pt.locs, Pt.cells, Pt.slots] at X115 l115 y115 z115 st115 hQ115
   subst l115 y115 z115
   obtain ⟨rfl, Nq115, e115⟩ := hQ115
   have N115 := Fr.app N110 Nq115
   have r116 : ∀ t, Steps p.tables e below (T115.setTop (mkF m 292 (own_lo ja jb jc le mo se nn kl v8 v16 lna lnb lnc ofa ofb ofc b29 b30 (.val (.long av)) .second (.val (.int v89)) (.val (.int v94)) (.val (.int v100)) .unset .unset .unset .unset .unset) [(.int (own_gb v16 ja)), (.int (own_one ga))])) t → Steps p.tables e below (T110.setTop (mkF m 283 (own_lo ja jb jc le mo se nn kl v8 v16 lna lnb lnc ofa ofb ofc b29 b30 (.val (.long av)) .second (.val (.int v89)) (.val (.int v94)) (.val (.int v100)) .unset .unset .unset .unset .unset) [(.int v100), (.int (own_one ga))])) t := fun t kt => by
    refine XS.ifNo X110.here hx rfl (hb hby at_283) rfl ((if0 _ _).trans (feq hc113).1) ?_
    refine XS.lload X110.here hx rfl (hb hby at_286) rfl ?_
    refine XS.lloadN X110.here hx rfl (hb hby at_288) rfl ?_
    refine st115 _ ?_
    exact kt
   by_cases hc117 : (own_gb v16 ja) = (0 : Int32)
   ·have r118 : ∀ t, Steps p.tables e below (T115.setTop (mkF m 300 (own_lo ja jb jc le mo se nn kl v8 v16 lna lnb lnc ofa ofb ofc b29 b30 (.val (.long av)) .second (.val (.int v89)) (.val (.int v94)) (.val (.int v100)) .unset .unset .unset .unset .unset) [(.int (0 : Int32)), (.int (own_one ga))])) t → Steps p.tables e below (T115.setTop (mkF m 292 (own_lo ja jb jc le mo se nn kl v8 v16 lna lnb lnc ofa ofb ofc b29 b30 (.val (.long av)) .second (.val (.int v89)) (.val (.int v94)) (.val (.int v100)) .unset .unset .unset .unset .unset) [(.int (own_gb v16 ja)), (.int (own_one ga))])) t := fun t kt => by
     refine XS.ifYes X115.here hx rfl (pc0 := 292) (pc' := 299) rfl (hb hby at_292) rfl ((if0 _ _).trans (teq hc117).1) (by decide) (by decide) ?_
     refine XS.iconst X115.here hx rfl (hb hby at_299) ?_
     exact kt
    exact ⟨_, _, _, (0 : Int32), X115, e115, (Keep.refl h102 []), ((if_neg hc113).trans hc117).symm, N115, fun t kt => (r116 _ (r118 _ kt))⟩
   ·have r119 : ∀ t, Steps p.tables e below (T115.setTop (mkF m 300 (own_lo ja jb jc le mo se nn kl v8 v16 lna lnb lnc ofa ofb ofc b29 b30 (.val (.long av)) .second (.val (.int v89)) (.val (.int v94)) (.val (.int v100)) .unset .unset .unset .unset .unset) [(.int (1 : Int32)), (.int (own_one ga))])) t → Steps p.tables e below (T115.setTop (mkF m 292 (own_lo ja jb jc le mo se nn kl v8 v16 lna lnb lnc ofa ofb ofc b29 b30 (.val (.long av)) .second (.val (.int v89)) (.val (.int v94)) (.val (.int v100)) .unset .unset .unset .unset .unset) [(.int (own_gb v16 ja)), (.int (own_one ga))])) t := fun t kt => by
     refine XS.ifNo X115.here hx rfl (hb hby at_292) rfl ((if0 _ _).trans (feq hc117).1) ?_
     refine XS.iconst X115.here hx rfl (hb hby at_295) ?_
     refine XS.goto X115.here hx rfl (pc0 := 296) (pc' := 300) rfl (hb hby at_296) (by decide) (by decide) ?_
     exact kt
    exact ⟨_, _, _, (1 : Int32), X115, e115, (Keep.refl h102 []), ((if_neg hc113).trans (own_gb1 hc117)).symm, N115, fun t kt => (r116 _ (r119 _ kt))⟩
 have K112 : Keep h0 h112 [] := Keep.trans K102 Kc112 all0
 have Zs112 : n0 ≤ h112.size := Nat.le_trans Zs102 Kc112.1
 obtain ⟨_, _, ⟨T120, L120, k120, n120⟩, -, X120, ⟨Lc120, hQ120, l120, y120, z120⟩, st120⟩ := Jvm.LawKit.callS X112 hx (y := (⟨cLW, "one", "(Z)I"⟩ : MethodName)) hown (mvT hZ (Wd hw 171 rfl)) (mvT hZ (Wd hw 172 rfl)) (mvT hZ (Wd hw 168 rfl)) (mvT hZ (Wd hw 173 rfl)) (by decide) (backOf (W := 1) (rmON l Z a0 hw [] gb h112 n0 Zs112 ) hZ (Wd hw 173 rfl) (Wd hw 168 rfl) (by decide) (by decide)) (g := (mkF m 300 (own_lo ja jb jc le mo se nn kl v8 v16 lna lnb lnc ofa ofb ofc b29 b30 (.val (.long av)) .second (.val (.int v89)) (.val (.int v94)) (.val (.int v100)) .unset .unset .unset .unset .unset) [(.int gb), (.int (own_one ga))])) rfl (by rw [hml]; rfl) (argsL := [(.int gb)]) (rest := [(.int (own_one ga))]) (lenOf own_pd17 rfl) rfl (by show 2 * 0 + _ ≤ _; exact Nat.le_of_eq rfl) (hb hby at_300) (fun _ _ => ⟨rfl, e112, (by decide : 13 + 0 ≤ _), (by decide : 97 + 0 ≤ _)⟩)
 dsimp only [Pt.U, Pt.locs, Pt.cells, Pt.slots] at X120 l120 y120 z120 st120 hQ120
 subst l120 y120 z120
 obtain ⟨rfl, Nq120, e120⟩ := hQ120
 have N120 := Fr.app N112 Nq120
 have r121 : ∀ t, Steps p.tables e below (T120.setTop (mkF m 308 (own_lo ja jb jc le mo se nn kl v8 v16 lna lnb lnc ofa ofb ofc b29 b30 (.val (.long av)) .second (.val (.int v89)) (.val (.int v94)) (.val (.int v100)) (.val (.int ((own_one ga) + (own_one gb)))) .unset .unset .unset .unset) [(.int v89)])) t → Steps p.tables e below (T112.setTop (mkF m 300 (own_lo ja jb jc le mo se nn kl v8 v16 lna lnb lnc ofa ofb ofc b29 b30 (.val (.long av)) .second (.val (.int v89)) (.val (.int v94)) (.val (.int v100)) .unset .unset .unset .unset .unset) [(.int gb), (.int (own_one ga))])) t := fun t kt => by
  refine st120 _ ?_
  refine XS.iadd X120.here hx rfl (hb hby at_303) rfl ?_
  refine XS.istore X120.here hx rfl (hb hby at_304) rfl (l' := (own_lo ja jb jc le mo se nn kl v8 v16 lna lnb lnc ofa ofb ofc b29 b30 (.val (.long av)) .second (.val (.int v89)) (.val (.int v94)) (.val (.int v100)) (.val (.int ((own_one ga) + (own_one gb)))) .unset .unset .unset .unset)) rfl ?_
  refine XS.iload X120.here hx rfl (hb hby at_306) rfl ?_
  exact kt
 obtain ⟨T122, h122, L122, gc, X122, e122, Kc122, p122_0, N122, r122⟩ : ∃ (T' : State) (h' : Heap) (L' : List Loc) (gc : Int32), Stand p l e room_1 s m #[(.long ja), (.long jb), (.long jc), (.int le), (.int mo), (.int se)] below meth c T' L' 13 97 ∧ T'.heap = h' ∧ Keep h112 h' [] ∧ gc = own_g v89 ja v8 ∧ Fr n0 L' ∧ ∀ t, Steps p.tables e below (T'.setTop (mkF m 325 (own_lo ja jb jc le mo se nn kl v8 v16 lna lnb lnc ofa ofb ofc b29 b30 (.val (.long av)) .second (.val (.int v89)) (.val (.int v94)) (.val (.int v100)) (.val (.int ((own_one ga) + (own_one gb)))) .unset .unset .unset .unset) [(.int gc)])) t → Steps p.tables e below (T120.setTop (mkF m 308 (own_lo ja jb jc le mo se nn kl v8 v16 lna lnb lnc ofa ofb ofc b29 b30 (.val (.long av)) .second (.val (.int v89)) (.val (.int v94)) (.val (.int v100)) (.val (.int ((own_one ga) + (own_one gb)))) .unset .unset .unset .unset) [(.int v89)])) t := by
  by_cases hc123 : v89 = (0 : Int32)
  ·have r124 : ∀ t, Steps p.tables e below (T120.setTop (mkF m 325 (own_lo ja jb jc le mo se nn kl v8 v16 lna lnb lnc ofa ofb ofc b29 b30 (.val (.long av)) .second (.val (.int v89)) (.val (.int v94)) (.val (.int v100)) (.val (.int ((own_one ga) + (own_one gb)))) .unset .unset .unset .unset) [(.int (0 : Int32))])) t → Steps p.tables e below (T120.setTop (mkF m 308 (own_lo ja jb jc le mo se nn kl v8 v16 lna lnb lnc ofa ofb ofc b29 b30 (.val (.long av)) .second (.val (.int v89)) (.val (.int v94)) (.val (.int v100)) (.val (.int ((own_one ga) + (own_one gb)))) .unset .unset .unset .unset) [(.int v89)])) t := fun t kt => by
    refine XS.ifYes X120.here hx rfl (pc0 := 308) (pc' := 324) rfl (hb hby at_308) rfl ((if0 _ _).trans (teq hc123).1) (by decide) (by decide) ?_
    refine XS.iconst X120.here hx rfl (hb hby at_324) ?_
    exact kt
   exact ⟨_, _, _, (0 : Int32), X120, e120, (Keep.refl h112 []), (if_pos hc123).symm, N120, fun t kt => (r124 _ kt)⟩
  ·obtain ⟨_, _, ⟨T125, L125, k125, n125⟩, -, X125, ⟨Lc125, hQ125, l125, y125, z125⟩, st125⟩ := Jvm.LawKit.callS X120 hx (y := (⟨cLW, "gtU", "(JJ)Z"⟩ : MethodName)) hown (mvT hZ (Wd hw 166 rfl)) (mvT hZ (Wd hw 167 rfl)) (mvT hZ (Wd hw 168 rfl)) (mvT hZ (Wd hw 169 rfl)) (by decide) (backOf (W := 0) (rmGT l Z a0 hw [] ja v8 h112 n0 Zs112 ) hZ (Wd hw 169 rfl) (Wd hw 168 rfl) (by decide) (by decide)) (g := (mkF m 314 (own_lo ja jb jc le mo se nn kl v8 v16 lna lnb lnc ofa ofb ofc b29 b30 (.val (.long av)) .second (.val (.int v89)) (.val (.int v94)) (.val (.int v100)) (.val (.int ((own_one ga) + (own_one gb)))) .unset .unset .unset .unset) [(.long v8), (.long ja)])) rfl (by rw [hml]; rfl) (argsL := [(.long ja), (.long v8)]) (rest := []) (lenOf own_pd16 rfl) rfl (by show 2 * 0 + _ ≤ _; exact Nat.le_of_eq rfl) (hb hby at_314) (fun _ _ => ⟨rfl, e120, (by decide : 13 + 0 ≤ _), (by decide : 97 + 0 ≤ _)⟩)
   dsimp only [Pt.U, Pt.locs, Pt.cells, Pt.slots] at X125 l125 y125 z125 st125 hQ125
   subst l125 y125 z125
   obtain ⟨rfl, Nq125, e125⟩ := hQ125
   have N125 := Fr.app N120 Nq125
   have r126 : ∀ t, Steps p.tables e below (T125.setTop (mkF m 317 (own_lo ja jb jc le mo se nn kl v8 v16 lna lnb lnc ofa ofb ofc b29 b30 (.val (.long av)) .second (.val (.int v89)) (.val (.int v94)) (.val (.int v100)) (.val (.int ((own_one ga) + (own_one gb)))) .unset .unset .unset .unset) [(.int (own_gb ja v8))])) t → Steps p.tables e below (T120.setTop (mkF m 308 (own_lo ja jb jc le mo se nn kl v8 v16 lna lnb lnc ofa ofb ofc b29 b30 (.val (.long av)) .second (.val (.int v89)) (.val (.int v94)) (.val (.int v100)) (.val (.int ((own_one ga) + (own_one gb)))) .unset .unset .unset .unset) [(.int v89)])) t := fun t kt => by
    refine XS.ifNo X120.here hx rfl (hb hby at_308) rfl ((if0 _ _).trans (feq hc123).1) ?_
    refine XS.lloadN X120.here hx rfl (hb hby at_311) rfl ?_
    refine XS.lload X120.here hx rfl (hb hby at_312) rfl ?_
    refine st125 _ ?_
    exact kt
   by_cases hc127 : (own_gb ja v8) = (0 : Int32)
   ·have r128 : ∀ t, Steps p.tables e below (T125.setTop (mkF m 325 (own_lo ja jb jc le mo se nn kl v8 v16 lna lnb lnc ofa ofb ofc b29 b30 (.val (.long av)) .second (.val (.int v89)) (.val (.int v94)) (.val (.int v100)) (.val (.int ((own_one ga) + (own_one gb)))) .unset .unset .unset .unset) [(.int (0 : Int32))])) t → Steps p.tables e below (T125.setTop (mkF m 317 (own_lo ja jb jc le mo se nn kl v8 v16 lna lnb lnc ofa ofb ofc b29 b30 (.val (.long av)) .second (.val (.int v89)) (.val (.int v94)) (.val (.int v100)) (.val (.int ((own_one ga) + (own_one gb)))) .unset .unset .unset .unset) [(.int (own_gb ja v8))])) t := fun t kt => by
     refine XS.ifYes X125.here hx rfl (pc0 := 317) (pc' := 324) rfl (hb hby at_317) rfl ((if0 _ _).trans (teq hc127).1) (by decide) (by decide) ?_
     refine XS.iconst X125.here hx rfl (hb hby at_324) ?_
     exact kt
    exact ⟨_, _, _, (0 : Int32), X125, e125, (Keep.refl h112 []), ((if_neg hc123).trans hc127).symm, N125, fun t kt => (r126 _ (r128 _ kt))⟩
   ·have r129 : ∀ t, Steps p.tables e below (T125.setTop (mkF m 325 (own_lo ja jb jc le mo se nn kl v8 v16 lna lnb lnc ofa ofb ofc b29 b30 (.val (.long av)) .second (.val (.int v89)) (.val (.int v94)) (.val (.int v100)) (.val (.int ((own_one ga) + (own_one gb)))) .unset .unset .unset .unset) [(.int (1 : Int32))])) t → Steps p.tables e below (T125.setTop (mkF m 317 (own_lo ja jb jc le mo se nn kl v8 v16 lna lnb lnc ofa ofb ofc b29 b30 (.val (.long av)) .second (.val (.int v89)) (.val (.int v94)) (.val (.int v100)) (.val (.int ((own_one ga) + (own_one gb)))) .unset .unset .unset .unset) [(.int (own_gb ja v8))])) t := fun t kt => by
     refine XS.ifNo X125.here hx rfl (hb hby at_317) rfl ((if0 _ _).trans (feq hc127).1) ?_
     refine XS.iconst X125.here hx rfl (hb hby at_320) ?_
     refine XS.goto X125.here hx rfl (pc0 := 321) (pc' := 325) rfl (hb hby at_321) (by decide) (by decide) ?_
     exact kt
    exact ⟨_, _, _, (1 : Int32), X125, e125, (Keep.refl h112 []), ((if_neg hc123).trans (own_gb1 hc127)).symm, N125, fun t kt => (r126 _ (r129 _ kt))⟩
 have K122 : Keep h0 h122 [] := Keep.trans K112 Kc122 all0
 have Zs122 : n0 ≤ h122.size := Nat.le_trans Zs112 Kc122.1
 obtain ⟨_, _, ⟨T130, L130, k130, n130⟩, -, X130, ⟨Lc130, hQ130, l130, y130, z130⟩, st130⟩ := Jvm.LawKit.callS X122 hx (y := (⟨cLW, "one", "(Z)I"⟩ : MethodName)) hown (mvT hZ (Wd hw 171 rfl)) (mvT hZ (Wd hw 172 rfl)) (mvT hZ (Wd hw 168 rfl)) (mvT hZ (Wd hw 173 rfl)) (by decide) (backOf (W := 0) (rmON l Z a0 hw [] gc h122 n0 Zs122 ) hZ (Wd hw 173 rfl) (Wd hw 168 rfl) (by decide) (by decide)) (g := (mkF m 325 (own_lo ja jb jc le mo se nn kl v8 v16 lna lnb lnc ofa ofb ofc b29 b30 (.val (.long av)) .second (.val (.int v89)) (.val (.int v94)) (.val (.int v100)) (.val (.int ((own_one ga) + (own_one gb)))) .unset .unset .unset .unset) [(.int gc)])) rfl (by rw [hml]; rfl) (argsL := [(.int gc)]) (rest := []) (lenOf own_pd17 rfl) rfl (by show 2 * 0 + _ ≤ _; exact Nat.le_of_eq rfl) (hb hby at_325) (fun _ _ => ⟨rfl, e122, (by decide : 13 + 0 ≤ _), (by decide : 97 + 0 ≤ _)⟩)
 dsimp only [Pt.U, Pt.locs, Pt.cells, Pt.slots] at X130 l130 y130 z130 st130 hQ130
 subst l130 y130 z130
 obtain ⟨rfl, Nq130, e130⟩ := hQ130
 have N130 := Fr.app N122 Nq130
 have r131 : ∀ t, Steps p.tables e below (T130.setTop (mkF m 330 (own_lo ja jb jc le mo se nn kl v8 v16 lna lnb lnc ofa ofb ofc b29 b30 (.val (.long av)) .second (.val (.int v89)) (.val (.int v94)) (.val (.int v100)) (.val (.int ((own_one ga) + (own_one gb)))) .unset .unset .unset .unset) [(.int v100), (.int (own_one gc))])) t → Steps p.tables e below (T122.setTop (mkF m 325 (own_lo ja jb jc le mo se nn kl v8 v16 lna lnb lnc ofa ofb ofc b29 b30 (.val (.long av)) .second (.val (.int v89)) (.val (.int v94)) (.val (.int v100)) (.val (.int ((own_one ga) + (own_one gb)))) .unset .unset .unset .unset) [(.int gc)])) t := fun t kt => by
  refine st130 _ ?_
  refine XS.iload X130.here hx rfl (hb hby at_328) rfl ?_
  exact kt
 obtain ⟨T132, h132, L132, gd, X132, e132, Kc132, p132_0, N132, r132⟩ : ∃ (T' : State) (h' : Heap) (L' : List Loc) (gd : Int32), Stand p l e room_1 s m #[(.long ja), (.long jb), (.long jc), (.int le), (.int mo), (.int se)] below meth c T' L' 13 97 ∧ T'.heap = h' ∧ Keep h122 h' [] ∧ gd = own_g v100 v16 v8 ∧ Fr n0 L' ∧ ∀ t, Steps p.tables e below (T'.setTop (mkF m 348 (own_lo ja jb jc le mo se nn kl v8 v16 lna lnb lnc ofa ofb ofc b29 b30 (.val (.long av)) .second (.val (.int v89)) (.val (.int v94)) (.val (.int v100)) (.val (.int ((own_one ga) + (own_one gb)))) .unset .unset .unset .unset) [(.int gd), (.int (own_one gc))])) t → Steps p.tables e below (T130.setTop (mkF m 330 (own_lo ja jb jc le mo se nn kl v8 v16 lna lnb lnc ofa ofb ofc b29 b30 (.val (.long av)) .second (.val (.int v89)) (.val (.int v94)) (.val (.int v100)) (.val (.int ((own_one ga) + (own_one gb)))) .unset .unset .unset .unset) [(.int v100), (.int (own_one gc))])) t := by
  by_cases hc133 : v100 = (0 : Int32)
  ·have r134 : ∀ t, Steps p.tables e below (T130.setTop (mkF m 348 (own_lo ja jb jc le mo se nn kl v8 v16 lna lnb lnc ofa ofb ofc b29 b30 (.val (.long av)) .second (.val (.int v89)) (.val (.int v94)) (.val (.int v100)) (.val (.int ((own_one ga) + (own_one gb)))) .unset .unset .unset .unset) [(.int (0 : Int32)), (.int (own_one gc))])) t → Steps p.tables e below (T130.setTop (mkF m 330 (own_lo ja jb jc le mo se nn kl v8 v16 lna lnb lnc ofa ofb ofc b29 b30 (.val (.long av)) .second (.val (.int v89)) (.val (.int v94)) (.val (.int v100)) (.val (.int ((own_one ga) + (own_one gb)))) .unset .unset .unset .unset) [(.int v100), (.int (own_one gc))])) t := fun t kt => by
    refine XS.ifYes X130.here hx rfl (pc0 := 330) (pc' := 347) rfl (hb hby at_330) rfl ((if0 _ _).trans (teq hc133).1) (by decide) (by decide) ?_
    refine XS.iconst X130.here hx rfl (hb hby at_347) ?_
    exact kt
   exact ⟨_, _, _, (0 : Int32), X130, e130, (Keep.refl h122 []), (if_pos hc133).symm, N130, fun t kt => (r134 _ kt)⟩
  ·obtain ⟨_, _, ⟨T135, L135, k135, n135⟩, -, X135, ⟨Lc135, hQ135, l135, y135, z135⟩, st135⟩ := Jvm.LawKit.callS X130 hx (y := (⟨cLW, "gtU", "(JJ)Z"⟩ : MethodName)) hown (mvT hZ (Wd hw 166 rfl)) (mvT hZ (Wd hw 167 rfl)) (mvT hZ (Wd hw 168 rfl)) (mvT hZ (Wd hw 169 rfl)) (by decide) (backOf (W := 1) (rmGT l Z a0 hw [] v16 v8 h122 n0 Zs122 ) hZ (Wd hw 169 rfl) (Wd hw 168 rfl) (by decide) (by decide)) (g := (mkF m 337 (own_lo ja jb jc le mo se nn kl v8 v16 lna lnb lnc ofa ofb ofc b29 b30 (.val (.long av)) .second (.val (.int v89)) (.val (.int v94)) (.val (.int v100)) (.val (.int ((own_one ga) + (own_one gb)))) .unset .unset .unset .unset) [(.long v8), (.long v16), (.int (own_one gc))])) rfl (by rw [hml]; rfl) (argsL := [(.long v16), (.long v8)]) (rest := [(.int (own_one gc))]) (lenOf own_pd16 rfl) rfl (by show 2 * 0 + _ ≤ _; exact Nat.le_of_eq rfl) (hb hby at_337) (fun _ _ => ⟨rfl, e130, (by decide : 13 + 0 ≤ _), (by decide : 97 + 0 ≤ _)⟩)
   dsimp only [Pt.U, Pt.locs, Pt.cells, Pt.slots] at X135 l135 y135 z135 st135 hQ135
   subst l135 y135 z135
   obtain ⟨rfl, Nq135, e135⟩ := hQ135
   have N135 := Fr.app N130 Nq135
   have r136 : ∀ t, Steps p.tables e below (T135.setTop (mkF m 340 (own_lo ja jb jc le mo se nn kl v8 v16 lna lnb lnc ofa ofb ofc b29 b30 (.val (.long av)) .second (.val (.int v89)) (.val (.int v94)) (.val (.int v100)) (.val (.int ((own_one ga) + (own_one gb)))) .unset .unset .unset .unset) [(.int (own_gb v16 v8)), (.int (own_one gc))])) t → Steps p.tables e below (T130.setTop (mkF m 330 (own_lo ja jb jc le mo se nn kl v8 v16 lna lnb lnc ofa ofb ofc b29 b30 (.val (.long av)) .second (.val (.int v89)) (.val (.int v94)) (.val (.int v100)) (.val (.int ((own_one ga) + (own_one gb)))) .unset .unset .unset .unset) [(.int v100), (.int (own_one gc))])) t := fun t kt => by
    refine XS.ifNo X130.here hx rfl (hb hby at_330) rfl ((if0 _ _).trans (feq hc133).1) ?_
    refine XS.lload X130.here hx rfl (hb hby at_333) rfl ?_
    refine XS.lload X130.here hx rfl (hb hby at_335) rfl ?_
    refine st135 _ ?_
    exact kt
   by_cases hc137 : (own_gb v16 v8) = (0 : Int32)
   ·have r138 : ∀ t, Steps p.tables e below (T135.setTop (mkF m 348 (own_lo ja jb jc le mo se nn kl v8 v16 lna lnb lnc ofa ofb ofc b29 b30 (.val (.long av)) .second (.val (.int v89)) (.val (.int v94)) (.val (.int v100)) (.val (.int ((own_one ga) + (own_one gb)))) .unset .unset .unset .unset) [(.int (0 : Int32)), (.int (own_one gc))])) t → Steps p.tables e below (T135.setTop (mkF m 340 (own_lo ja jb jc le mo se nn kl v8 v16 lna lnb lnc ofa ofb ofc b29 b30 (.val (.long av)) .second (.val (.int v89)) (.val (.int v94)) (.val (.int v100)) (.val (.int ((own_one ga) + (own_one gb)))) .unset .unset .unset .unset) [(.int (own_gb v16 v8)), (.int (own_one gc))])) t := fun t kt => by
     refine XS.ifYes X135.here hx rfl (pc0 := 340) (pc' := 347) rfl (hb hby at_340) rfl ((if0 _ _).trans (teq hc137).1) (by decide) (by decide) ?_
     refine XS.iconst X135.here hx rfl (hb hby at_347) ?_
     exact kt
    exact ⟨_, _, _, (0 : Int32), X135, e135, (Keep.refl h122 []), ((if_neg hc133).trans hc137).symm, N135, fun t kt => (r136 _ (r138 _ kt))⟩
   ·have r139 : ∀ t, Steps p.tables e below (T135.setTop (mkF m 348 (own_lo ja jb jc le mo se nn kl v8 v16 lna lnb lnc ofa ofb ofc b29 b30 (.val (.long av)) .second (.val (.int v89)) (.val (.int v94)) (.val (.int v100)) (.val (.int ((own_one ga) + (own_one gb)))) .unset .unset .unset .unset) [(.int (1 : Int32)), (.int (own_one gc))])) t → Steps p.tables e below (T135.setTop (mkF m 340 (own_lo ja jb jc le mo se nn kl v8 v16 lna lnb lnc ofa ofb ofc b29 b30 (.val (.long av)) .second (.val (.int v89)) (.val (.int v94)) (.val (.int v100)) (.val (.int ((own_one ga) + (own_one gb)))) .unset .unset .unset .unset) [(.int (own_gb v16 v8)), (.int (own_one gc))])) t := fun t kt => by
     refine XS.ifNo X135.here hx rfl (hb hby at_340) rfl ((if0 _ _).trans (feq hc137).1) ?_
     refine XS.iconst X135.here hx rfl (hb hby at_343) ?_
     refine XS.goto X135.here hx rfl (pc0 := 344) (pc' := 348) rfl (hb hby at_344) (by decide) (by decide) ?_
     exact kt
    exact ⟨_, _, _, (1 : Int32), X135, e135, (Keep.refl h122 []), ((if_neg hc133).trans (own_gb1 hc137)).symm, N135, fun t kt => (r136 _ (r139 _ kt))⟩
 have K132 : Keep h0 h132 [] := Keep.trans K122 Kc132 all0
 have Zs132 : n0 ≤ h132.size := Nat.le_trans Zs122 Kc132.1
 obtain ⟨_, _, ⟨T140, L140, k140, n140⟩, -, X140, ⟨Lc140, hQ140, l140, y140, z140⟩, st140⟩ := Jvm.LawKit.callS X132 hx (y := (⟨cLW, "one", "(Z)I"⟩ : MethodName)) hown (mvT hZ (Wd hw 171 rfl)) (mvT hZ (Wd hw 172 rfl)) (mvT hZ (Wd hw 168 rfl)) (mvT hZ (Wd hw 173 rfl)) (by decide) (backOf (W := 1) (rmON l Z a0 hw [] gd h132 n0 Zs132 ) hZ (Wd hw 173 rfl) (Wd hw 168 rfl) (by decide) (by decide)) (g := (mkF m 348 (own_lo ja jb jc le mo se nn kl v8 v16 lna lnb lnc ofa ofb ofc b29 b30 (.val (.long av)) .second (.val (.int v89)) (.val (.int v94)) (.val (.int v100)) (.val (.int ((own_one ga) + (own_one gb)))) .unset .unset .unset .unset) [(.int gd), (.int (own_one gc))])) rfl (by rw [hml]; rfl) (argsL := [(.int gd)]) (rest := [(.int (own_one gc))]) (lenOf own_pd17 rfl) rfl (by show 2 * 0 + _ ≤ _; exact Nat.le_of_eq rfl) (hb hby at_348) (fun _ _ => ⟨rfl, e132, (by decide : 13 + 0 ≤ _), (by decide : 97 + 0 ≤ _)⟩)
 dsimp only [Pt.U, Pt.locs, Pt.cells, Pt.slots] at X140 l140 y140 z140 st140 hQ140
 subst l140 y140 z140
 obtain ⟨rfl, Nq140, e140⟩ := hQ140
 have N140 := Fr.app N132 Nq140
 have r141 : ∀ t, Steps p.tables e below (T140.setTop (mkF m 356 (own_lo ja jb jc le mo se nn kl v8 v16 lna lnb lnc ofa ofb ofc b29 b30 (.val (.long av)) .second (.val (.int v89)) (.val (.int v94)) (.val (.int v100)) (.val (.int ((own_one ga) + (own_one gb)))) (.val (.int ((own_one gc) + (own_one gd)))) .unset .unset .unset) [(.int v89)])) t → Steps p.tables e below (T132.setTop (mkF m 348 (own_lo ja jb jc le mo se nn kl v8 v16 lna lnb lnc ofa ofb ofc b29 b30 (.val (.long av)) .second (.val (.int v89)) (.val (.int v94)) (.val (.int v100)) (.val (.int ((own_one ga) + (own_one gb)))) .unset .unset .unset .unset) [(.int gd), (.int (own_one gc))])) t := fun t kt => by
  refine st140 _ ?_
  refine XS.iadd X140.here hx rfl (hb hby at_351) rfl ?_
  refine XS.istore X140.here hx rfl (hb hby at_352) rfl (l' := (own_lo ja jb jc le mo se nn kl v8 v16 lna lnb lnc ofa ofb ofc b29 b30 (.val (.long av)) .second (.val (.int v89)) (.val (.int v94)) (.val (.int v100)) (.val (.int ((own_one ga) + (own_one gb)))) (.val (.int ((own_one gc) + (own_one gd)))) .unset .unset .unset)) rfl ?_
  refine XS.iload X140.here hx rfl (hb hby at_354) rfl ?_
  exact kt
 obtain ⟨T142, h142, L142, ge, X142, e142, Kc142, p142_0, N142, r142⟩ : ∃ (T' : State) (h' : Heap) (L' : List Loc) (ge : Int32), Stand p l e room_1 s m #[(.long ja), (.long jb), (.long jc), (.int le), (.int mo), (.int se)] below meth c T' L' 13 97 ∧ T'.heap = h' ∧ Keep h132 h' [] ∧ ge = own_g v89 ja v16 ∧ Fr n0 L' ∧ ∀ t, Steps p.tables e below (T'.setTop (mkF m 373 (own_lo ja jb jc le mo se nn kl v8 v16 lna lnb lnc ofa ofb ofc b29 b30 (.val (.long av)) .second (.val (.int v89)) (.val (.int v94)) (.val (.int v100)) (.val (.int ((own_one ga) + (own_one gb)))) (.val (.int ((own_one gc) + (own_one gd)))) .unset .unset .unset) [(.int ge)])) t → Steps p.tables e below (T140.setTop (mkF m 356 (own_lo ja jb jc le mo se nn kl v8 v16 lna lnb lnc ofa ofb ofc b29 b30 (.val (.long av)) .second (.val (.int v89)) (.val (.int v94)) (.val (.int v100)) (.val (.int ((own_one ga) + (own_one gb)))) (.val (.int ((own_one gc) + (own_one gd)))) .unset .unset .unset) [(.int v89)])) t := by
  by_cases hc143 : v89 = (0 : Int32)
  ·have r144 : ∀ t, Steps p.tables e below (T140.setTop (mkF m 373 (own_lo ja jb jc le mo se nn kl v8 v16 lna lnb lnc ofa ofb ofc b29 b30 (.val (.long av)) .second (.val (.int v89)) (.val (.int v94)) (.val (.int v100)) (.val (.int ((own_one ga) + (own_one gb)))) (.val (.int ((own_one gc) + (own_one gd)))) .unset .unset .unset) [(.int (0 : Int32))])) t → Steps p.tables e below (T140.setTop (mkF m 356 (own_lo ja jb jc le mo se nn kl v8 v16 lna lnb lnc ofa ofb ofc b29 b30 (.val (.long av)) .second (.val (.int v89)) (.val (.int v94)) (.val (.int v100)) (.val (.int ((own_one ga) + (own_one gb)))) (.val (.int ((own_one gc) + (own_one gd)))) .unset .unset .unset) [(.int v89)])) t := fun t kt => by
    refine XS.ifYes X140.here hx rfl (pc0 := 356) (pc' := 372) rfl (hb hby at_356) rfl ((if0 _ _).trans (teq hc143).1) (by decide) (by decide) ?_
    refine XS.iconst X140.here hx rfl (hb hby at_372) ?_
    exact kt
   exact ⟨_, _, _, (0 : Int32), X140, e140, (Keep.refl h132 []), (if_pos hc143).symm, N140, fun t kt => (r144 _ kt)⟩
  ·obtain ⟨_, _, ⟨T145, L145, k145, n145⟩, -, X145, ⟨Lc145, hQ145, l145, y145, z145⟩, st145⟩ := Jvm.LawKit.callS X140 hx (y := (⟨cLW, "gtU", "(JJ)Z"⟩ : MethodName)) hown (mvT hZ (Wd hw 166 rfl)) (mvT hZ (Wd hw 167 rfl)) (mvT hZ (Wd hw 168 rfl)) (mvT hZ (Wd hw 169 rfl)) (by decide) (backOf (W := 0) (rmGT l Z a0 hw [] ja v16 h132 n0 Zs132 ) hZ (Wd hw 169 rfl) (Wd hw 168 rfl) (by decide) (by decide)) (g := (mkF m 362 (own_lo ja jb jc le mo se nn kl v8 v16 lna lnb lnc ofa ofb ofc b29 b30 (.val (.long av)) .second (.val (.int v89)) (.val (.int v94)) (.val (.int v100)) (.val (.int ((own_one ga) + (own_one gb)))) (.val (.int ((own_one gc) + (own_one gd)))) .unset .unset .unset) [(.long v16), (.long ja)])) rfl (by rw [hml]; rfl) (argsL := [(.long ja), (.long v16)]) (rest := []) (lenOf own_pd16 rfl) rfl (by show 2 * 0 + _ ≤ _; exact Nat.le_of_eq rfl) (hb hby at_362) (fun _ _ => ⟨rfl, e140, (by decide : 13 + 0 ≤ _), (by decide : 97 + 0 ≤ _)⟩)
   dsimp only [Pt.U, Pt.locs, Pt.cells, Pt.slots] at X145 l145 y145 z145 st145 hQ145
   subst l145 y145 z145
   obtain ⟨rfl, Nq145, e145⟩ := hQ145
   have N145 := Fr.app N140 Nq145
   have r146 : ∀ t, Steps p.tables e below (T145.setTop (mkF m 365 (own_lo ja jb jc le mo se nn kl v8 v16 lna lnb lnc ofa ofb ofc b29 b30 (.val (.long av)) .second (.val (.int v89)) (.val (.int v94)) (.val (.int v100)) (.val (.int ((own_one ga) + (own_one gb)))) (.val (.int ((own_one gc) + (own_one gd)))) .unset .unset .unset) [(.int (own_gb ja v16))])) t → Steps p.tables e below (T140.setTop (mkF m 356 (own_lo ja jb jc le mo se nn kl v8 v16 lna lnb lnc ofa ofb ofc b29 b30 (.val (.long av)) .second (.val (.int v89)) (.val (.int v94)) (.val (.int v100)) (.val (.int ((own_one ga) + (own_one gb)))) (.val (.int ((own_one gc) + (own_one gd)))) .unset .unset .unset) [(.int v89)])) t := fun t kt => by
    refine XS.ifNo X140.here hx rfl (hb hby at_356) rfl ((if0 _ _).trans (feq hc143).1) ?_
    refine XS.lloadN X140.here hx rfl (hb hby at_359) rfl ?_
    refine XS.lload X140.here hx rfl (hb hby at_360) rfl ?_
    refine st145 _ ?_
    exact kt
   by_cases hc147 : (own_gb ja v16) = (0 : Int32)
   ·have r148 : ∀ t, Steps p.tables e below (T145.setTop (mkF m 373 (own_lo ja jb jc le mo se nn kl v8 v16 lna lnb lnc ofa ofb ofc b29 b30 (.val (.long av)) .second (.val (.int v89)) (.val (.int v94)) (.val (.int v100)) (.val (.int ((own_one ga) + (own_one gb)))) (.val (.int ((own_one gc) + (own_one gd)))) .unset .unset .unset) [(.int (0 : Int32))])) t → Steps p.tables e below (T145.setTop (mkF m 365 (own_lo ja jb jc le mo se nn kl v8 v16 lna lnb lnc ofa ofb ofc b29 b30 (.val (.long av)) .second (.val (.int v89)) (.val (.int v94)) (.val (.int v100)) (.val (.int ((own_one ga) + (own_one gb)))) (.val (.int ((own_one gc) + (own_one gd)))) .unset .unset .unset) [(.int (own_gb ja v16))])) t := fun t kt => by
     refine XS.ifYes X145.here hx rfl (pc0 := 365) (pc' := 372) rfl (hb hby at_365) rfl ((if0 _ _).trans (teq hc147).1) (by decide) (by decide) ?_
     refine XS.iconst X145.here hx rfl (hb hby at_372) ?_
     exact kt
    exact ⟨_, _, _, (0 : Int32), X145, e145, (Keep.refl h132 []), ((if_neg hc143).trans hc147).symm, N145, fun t kt => (r146 _ (r148 _ kt))⟩
   ·have r149 : ∀ t, Steps p.tables e below (T145.setTop (mkF m 373 (own_lo ja jb jc le mo se nn kl v8 v16 lna lnb lnc ofa ofb ofc b29 b30 (.val (.long av)) .second (.val (.int v89)) (.val (.int v94)) (.val (.int v100)) (.val (.int ((own_one ga) + (own_one gb)))) (.val (.int ((own_one gc) + (own_one gd)))) .unset .unset .unset) [(.int (1 : Int32))])) t → Steps p.tables e below (T145.setTop (mkF m 365 (own_lo ja jb jc le mo se nn kl v8 v16 lna lnb lnc ofa ofb ofc b29 b30 (.val (.long av)) .second (.val (.int v89)) (.val (.int v94)) (.val (.int v100)) (.val (.int ((own_one ga) + (own_one gb)))) (.val (.int ((own_one gc) + (own_one gd)))) .unset .unset .unset) [(.int (own_gb ja v16))])) t := fun t kt => by
     refine XS.ifNo X145.here hx rfl (hb hby at_365) rfl ((if0 _ _).trans (feq hc147).1) ?_
     refine XS.iconst X145.here hx rfl (hb hby at_368) ?_
     refine XS.goto X145.here hx rfl (pc0 := 369) (pc' := 373) rfl (hb hby at_369) (by decide) (by decide) ?_
     exact kt
    exact ⟨_, _, _, (1 : Int32), X145, e145, (Keep.refl h132 []), ((if_neg hc143).trans (own_gb1 hc147)).symm, N145, fun t kt => (r146 _ (r149 _ kt))⟩
 have K142 : Keep h0 h142 [] := Keep.trans K132 Kc142 all0
 have Zs142 : n0 ≤ h142.size := Nat.le_trans Zs132 Kc142.1
 obtain ⟨_, _, ⟨T150, L150, k150, n150⟩, -, X150, ⟨Lc150, hQ150, l150, y150, z150⟩, st150⟩ := Jvm.LawKit.callS X142 hx (y := (⟨cLW, "one", "(Z)I"⟩ : MethodName)) hown (mvT hZ (Wd hw 171 rfl)) (mvT hZ (Wd hw 172 rfl)) (mvT hZ (Wd hw 168 rfl)) (mvT hZ (Wd hw 173 rfl)) (by decide) (backOf (W := 0) (rmON l Z a0 hw [] ge h142 n0 Zs142 ) hZ (Wd hw 173 rfl) (Wd hw 168 rfl) (by decide) (by decide)) (g := (mkF m 373 (own_lo ja jb jc le mo se nn kl v8 v16 lna lnb lnc ofa ofb ofc b29 b30 (.val (.long av)) .second (.val (.int v89)) (.val (.int v94)) (.val (.int v100)) (.val (.int ((own_one ga) + (own_one gb)))) (.val (.int ((own_one gc) + (own_one gd)))) .unset .unset .unset) [(.int ge)])) rfl (by rw [hml]; rfl) (argsL := [(.int ge)]) (rest := []) (lenOf own_pd17 rfl) rfl (by show 2 * 0 + _ ≤ _; exact Nat.le_of_eq rfl) (hb hby at_373) (fun _ _ => ⟨rfl, e142, (by decide : 13 + 0 ≤ _), (by decide : 97 + 0 ≤ _)⟩)
 dsimp only [Pt.U, Pt.locs, Pt.cells, Pt.slots] at X150 l150 y150 z150 st150 hQ150
 subst l150 y150 z150
 obtain ⟨rfl, Nq150, e150⟩ := hQ150
 have N150 := Fr.app N142 Nq150
 have r151 : ∀ t, Steps p.tables e below (T150.setTop (mkF m 378 (own_lo ja jb jc le mo se nn kl v8 v16 lna lnb lnc ofa ofb ofc b29 b30 (.val (.long av)) .second (.val (.int v89)) (.val (.int v94)) (.val (.int v100)) (.val (.int ((own_one ga) + (own_one gb)))) (.val (.int ((own_one gc) + (own_one gd)))) .unset .unset .unset) [(.int v94), (.int (own_one ge))])) t → Steps p.tables e below (T142.setTop (mkF m 373 (own_lo ja jb jc le mo se nn kl v8 v16 lna lnb lnc ofa ofb ofc b29 b30 (.val (.long av)) .second (.val (.int v89)) (.val (.int v94)) (.val (.int v100)) (.val (.int ((own_one ga) + (own_one gb)))) (.val (.int ((own_one gc) + (own_one gd)))) .unset .unset .unset) [(.int ge)])) t := fun t kt => by
  refine st150 _ ?_
  refine XS.iload X150.here hx rfl (hb hby at_376) rfl ?_
  exact kt
 obtain ⟨T152, h152, L152, gf, X152, e152, Kc152, p152_0, N152, r152⟩ : ∃ (T' : State) (h' : Heap) (L' : List Loc) (gf : Int32), Stand p l e room_1 s m #[(.long ja), (.long jb), (.long jc), (.int le), (.int mo), (.int se)] below meth c T' L' 13 97 ∧ T'.heap = h' ∧ Keep h142 h' [] ∧ gf = own_g v94 v8 v16 ∧ Fr n0 L' ∧ ∀ t, Steps p.tables e below (T'.setTop (mkF m 396 (own_lo ja jb jc le mo se nn kl v8 v16 lna lnb lnc ofa ofb ofc b29 b30 (.val (.long av)) .second (.val (.int v89)) (.val (.int v94)) (.val (.int v100)) (.val (.int ((own_one ga) + (own_one gb)))) (.val (.int ((own_one gc) + (own_one gd)))) .unset .unset .unset) [(.int gf), (.int (own_one ge))])) t → Steps p.tables e below (T150.setTop (mkF m 378 (own_lo ja jb jc le mo se nn kl v8 v16 lna lnb lnc ofa ofb ofc b29 b30 (.val (.long av)) .second (.val (.int v89)) (.val (.int v94)) (.val (.int v100)) (.val (.int ((own_one ga) + (own_one gb)))) (.val (.int ((own_one gc) + (own_one gd)))) .unset .unset .unset) [(.int v94), (.int (own_one ge))])) t := by
  by_cases hc153 : v94 = (0 : Int32)
  ·have r154 : ∀ t, Steps p.tables e below (T150.setTop (mkF m 396 (own_lo ja jb jc le mo se nn kl v8 v16 lna lnb lnc ofa ofb ofc b29 b30 (.val (.long av)) .second (.val (.int v89)) (.val (.int v94)) (.val (.int v100)) (.val (.int ((own_one ga) + (own_one gb)))) (.val (.int ((own_one gc) + (own_one gd)))) .unset .unset .unset) [(.int (0 : Int32)), (.int (own_one ge))])) t → Steps p.tables e below (T150.setTop (mkF m 378 (own_lo ja jb jc le mo se nn kl v8 v16 lna lnb lnc ofa ofb ofc b29 b30 (.val (.long av)) .second (.val (.int v89)) (.val (.int v94)) (.val (.int v100)) (.val (.int ((own_one ga) + (own_one gb)))) (.val (.int ((own_one gc) + (own_one gd)))) .unset .unset .unset) [(.int v94), (.int (own_one ge))])) t := fun t kt => by
    refine XS.ifYes X150.here hx rfl (pc0 := 378) (pc' := 395) rfl (hb hby at_378) rfl ((if0 _ _).trans (teq hc153).1) (by decide) (by decide) ?_
    refine XS.iconst X150.here hx rfl (hb hby at_395) ?_
    exact kt
   exact ⟨_, _, _, (0 : Int32), X150, e150, (Keep.refl h142 []), (if_pos hc153).symm, N150, fun t kt => (r154 _ kt)⟩
  ·obtain ⟨_, _, ⟨T155, L155, k155, n155⟩, -, X155, ⟨Lc155, hQ155, l155, y155, z155⟩, st155⟩ := Jvm.LawKit.callS X150 hx (y := (⟨cLW, "gtU", "(JJ)Z"⟩ : MethodName)) hown (mvT hZ (Wd hw 166 rfl)) (mvT hZ (Wd hw 167 rfl)) (mvT hZ (Wd hw 168 rfl)) (mvT hZ (Wd hw 169 rfl)) (by decide) (backOf (W := 1) (rmGT l Z a0 hw [] v8 v16 h142 n0 Zs142 ) hZ (Wd hw 169 rfl) (Wd hw 168 rfl) (by decide) (by decide)) (g := (mkF m 385 (own_lo ja jb jc le mo se nn kl v8 v16 lna lnb lnc ofa ofb ofc b29 b30 (.val (.long av)) .second (.val (.int v89)) (.val (.int v94)) (.val (.int v100)) (.val (.int ((own_one ga) + (own_one gb)))) (.val (.int ((own_one gc) + (own_one gd)))) .unset .unset .unset) [(.long v16), (.long v8), (.int (own_one ge))])) rfl (by rw [hml]; rfl) (argsL := [(.long v8), (.long v16)]) (rest := [(.int (own_one ge))]) (lenOf own_pd16 rfl) rfl (by show 2 * 0 + _ ≤ _; exact Nat.le_of_eq rfl) (hb hby at_385) (fun _ _ => ⟨rfl, e150, (by decide : 13 + 0 ≤ _), (by decide : 97 + 0 ≤ _)⟩)
   dsimp only [Pt.U, Pt.locs, Pt.cells, Pt.slots] at X155 l155 y155 z155 st155 hQ155
   subst l155 y155 z155
   obtain ⟨rfl, Nq155, e155⟩ := hQ155
   have N155 := Fr.app N150 Nq155
   have r156 : ∀ t, Steps p.tables e below (T155.setTop (mkF m 388 (own_lo ja jb jc le mo se nn kl v8 v16 lna lnb lnc ofa ofb ofc b29 b30 (.val (.long av)) .second (.val (.int v89)) (.val (.int v94)) (.val (.int v100)) (.val (.int ((own_one ga) + (own_one gb)))) (.val (.int ((own_one gc) + (own_one gd)))) .unset .unset .unset) [(.int (own_gb v8 v16)), (.int (own_one ge))])) t → Steps p.tables e below (T150.setTop (mkF m 378 (own_lo ja jb jc le mo se nn kl v8 v16 lna lnb lnc ofa ofb ofc b29 b30 (.val (.long av)) .second (.val (.int v89)) (.val (.int v94)) (.val (.int v100)) (.val (.int ((own_one ga) + (own_one gb)))) (.val (.int ((own_one gc) + (own_one gd)))) .unset .unset .unset) [(.int v94), (.int (own_one ge))])) t := fun t kt => by
    refine XS.ifNo X150.here hx rfl (hb hby at_378) rfl ((if0 _ _).trans (feq hc153).1) ?_
    refine XS.lload X150.here hx rfl (hb hby at_381) rfl ?_
    refine XS.lload X150.here hx rfl (hb hby at_383) rfl ?_
    refine st155 _ ?_
    exact kt
   by_cases hc157 : (own_gb v8 v16) = (0 : Int32)
   ·have r158 : ∀ t, Steps p.tables e below (T155.setTop (mkF m 396 (own_lo ja jb jc le mo se nn kl v8 v16 lna lnb lnc ofa ofb ofc b29 b30 (.val (.long av)) .second (.val (.int v89)) (.val (.int v94)) (.val (.int v100)) (.val (.int ((own_one ga) + (own_one gb)))) (.val (.int ((own_one gc) + (own_one gd)))) .unset .unset .unset) [(.int (0 : Int32)), (.int (own_one ge))])) t → Steps p.tables e below (T155.setTop (mkF m 388 (own_lo ja jb jc le mo se nn kl v8 v16 lna lnb lnc ofa ofb ofc b29 b30 (.val (.long av)) .second (.val (.int v89)) (.val (.int v94)) (.val (.int v100)) (.val (.int ((own_one ga) + (own_one gb)))) (.val (.int ((own_one gc) + (own_one gd)))) .unset .unset .unset) [(.int (own_gb v8 v16)), (.int (own_one ge))])) t := fun t kt => by
     refine XS.ifYes X155.here hx rfl (pc0 := 388) (pc' := 395) rfl (hb hby at_388) rfl ((if0 _ _).trans (teq hc157).1) (by decide) (by decide) ?_
     refine XS.iconst X155.here hx rfl (hb hby at_395) ?_
     exact kt
    exact ⟨_, _, _, (0 : Int32), X155, e155, (Keep.refl h142 []), ((if_neg hc153).trans hc157).symm, N155, fun t kt => (r156 _ (r158 _ kt))⟩
   ·have r159 : ∀ t, Steps p.tables e below (T155.setTop (mkF m 396 (own_lo ja jb jc le mo se nn kl v8 v16 lna lnb lnc ofa ofb ofc b29 b30 (.val (.long av)) .second (.val (.int v89)) (.val (.int v94)) (.val (.int v100)) (.val (.int ((own_one ga) + (own_one gb)))) (.val (.int ((own_one gc) + (own_one gd)))) .unset .unset .unset) [(.int (1 : Int32)), (.int (own_one ge))])) t → Steps p.tables e below (T155.setTop (mkF m 388 (own_lo ja jb jc le mo se nn kl v8 v16 lna lnb lnc ofa ofb ofc b29 b30 (.val (.long av)) .second (.val (.int v89)) (.val (.int v94)) (.val (.int v100)) (.val (.int ((own_one ga) + (own_one gb)))) (.val (.int ((own_one gc) + (own_one gd)))) .unset .unset .unset) [(.int (own_gb v8 v16)), (.int (own_one ge))])) t := fun t kt => by
     refine XS.ifNo X155.here hx rfl (hb hby at_388) rfl ((if0 _ _).trans (feq hc157).1) ?_
     refine XS.iconst X155.here hx rfl (hb hby at_391) ?_
     refine XS.goto X155.here hx rfl (pc0 := 392) (pc' := 396) rfl (hb hby at_392) (by decide) (by decide) ?_
     exact kt
    exact ⟨_, _, _, (1 : Int32), X155, e155, (Keep.refl h142 []), ((if_neg hc153).trans (own_gb1 hc157)).symm, N155, fun t kt => (r156 _ (r159 _ kt))⟩
 have K152 : Keep h0 h152 [] := Keep.trans K142 Kc152 all0
 have Zs152 : n0 ≤ h152.size := Nat.le_trans Zs142 Kc152.1
 obtain ⟨_, _, ⟨T160, L160, k160, n160⟩, -, X160, ⟨Lc160, hQ160, l160, y160, z160⟩, st160⟩ := Jvm.LawKit.callS X152 hx (y := (⟨cLW, "one", "(Z)I"⟩ : MethodName)) hown (mvT hZ (Wd hw 171 rfl)) (mvT hZ (Wd hw 172 rfl)) (mvT hZ (Wd hw 168 rfl)) (mvT hZ (Wd hw 173 rfl)) (by decide) (backOf (W := 1) (rmON l Z a0 hw [] gf h152 n0 Zs152 ) hZ (Wd hw 173 rfl) (Wd hw 168 rfl) (by decide) (by decide)) (g := (mkF m 396 (own_lo ja jb jc le mo se nn kl v8 v16 lna lnb lnc ofa ofb ofc b29 b30 (.val (.long av)) .second (.val (.int v89)) (.val (.int v94)) (.val (.int v100)) (.val (.int ((own_one ga) + (own_one gb)))) (.val (.int ((own_one gc) + (own_one gd)))) .unset .unset .unset) [(.int gf), (.int (own_one ge))])) rfl (by rw [hml]; rfl) (argsL := [(.int gf)]) (rest := [(.int (own_one ge))]) (lenOf own_pd17 rfl) rfl (by show 2 * 0 + _ ≤ _; exact Nat.le_of_eq rfl) (hb hby at_396) (fun _ _ => ⟨rfl, e152, (by decide : 13 + 0 ≤ _), (by decide : 97 + 0 ≤ _)⟩)
 dsimp only [Pt.U, Pt.locs, Pt.cells, Pt.slots] at X160 l160 y160 z160 st160 hQ160
 subst l160 y160 z160
 obtain ⟨rfl, Nq160, e160⟩ := hQ160
 have N160 := Fr.app N152 Nq160
 have r161 : ∀ t, Steps p.tables e below (T160.setTop (mkF m 409 (own_lo ja jb jc le mo se nn kl v8 v16 lna lnb lnc ofa ofb ofc b29 b30 (.val (.long av)) .second (.val (.int v89)) (.val (.int v94)) (.val (.int v100)) (.val (.int ((own_one ga) + (own_one gb)))) (.val (.int ((own_one gc) + (own_one gd)))) (.val (.int ((own_one ge) + (own_one gf)))) (.val (.long (12 : Int64))) .second) [(.int v89)])) t → Steps p.tables e below (T152.setTop (mkF m 396 (own_lo ja jb jc le mo se nn kl v8 v16 lna lnb lnc ofa ofb ofc b29 b30 (.val (.long av)) .second (.val (.int v89)) (.val (.int v94)) (.val (.int v100)) (.val (.int ((own_one ga) + (own_one gb)))) (.val (.int ((own_one gc) + (own_one gd)))) .unset .unset .unset) [(.int gf), (.int (own_one ge))])) t := fun t kt => by
  refine st160 _ ?_
  refine XS.iadd X160.here hx rfl (hb hby at_399) rfl ?_
  refine XS.istore X160.here hx rfl (hb hby at_400) rfl (l' := (own_lo ja jb jc le mo se nn kl v8 v16 lna lnb lnc ofa ofb ofc b29 b30 (.val (.long av)) .second (.val (.int v89)) (.val (.int v94)) (.val (.int v100)) (.val (.int ((own_one ga) + (own_one gb)))) (.val (.int ((own_one gc) + (own_one gd)))) (.val (.int ((own_one ge) + (own_one gf)))) .unset .unset)) rfl ?_
  refine X160.ldc2Long hx hown (mvT hZ (Wd hw 174 rfl)) (g := (mkF m 402 (own_lo ja jb jc le mo se nn kl v8 v16 lna lnb lnc ofa ofb ofc b29 b30 (.val (.long av)) .second (.val (.int v89)) (.val (.int v94)) (.val (.int v100)) (.val (.int ((own_one ga) + (own_one gb)))) (.val (.int ((own_one gc) + (own_one gd)))) (.val (.int ((own_one ge) + (own_one gf)))) .unset .unset) [])) rfl (hb hby at_402) _ ?_
  refine XS.lstore X160.here hx rfl (hb hby at_405) rfl (l' := (own_lo ja jb jc le mo se nn kl v8 v16 lna lnb lnc ofa ofb ofc b29 b30 (.val (.long av)) .second (.val (.int v89)) (.val (.int v94)) (.val (.int v100)) (.val (.int ((own_one ga) + (own_one gb)))) (.val (.int ((own_one gc) + (own_one gd)))) (.val (.int ((own_one ge) + (own_one gf)))) (.val (.long (12 : Int64))) .second)) rfl ?_
  refine XS.iload X160.here hx rfl (hb hby at_407) rfl ?_
  exact kt
 obtain ⟨v165, hv165⟩ : ∃ zz : Int64, zz = (if v89 = (0 : Int32) then (12 : Int64) else (if ((own_one ga) + (own_one gb)) < kl then ((12 : Int64) + ((12 : Int64) + (lna.toInt64))) else (12 : Int64))) := ⟨_, rfl⟩
 have r162 : ∀ t, Steps p.tables e below (T160.setTop (mkF m 431 (own_lo ja jb jc le mo se nn kl v8 v16 lna lnb lnc ofa ofb ofc b29 b30 (.val (.long av)) .second (.val (.int v89)) (.val (.int v94)) (.val (.int v100)) (.val (.int ((own_one ga) + (own_one gb)))) (.val (.int ((own_one gc) + (own_one gd)))) (.val (.int ((own_one ge) + (own_one gf)))) (.val (.long v165)) .second) [])) t → Steps p.tables e below (T160.setTop (mkF m 409 (own_lo ja jb jc le mo se nn kl v8 v16 lna lnb lnc ofa ofb ofc b29 b30 (.val (.long av)) .second (.val (.int v89)) (.val (.int v94)) (.val (.int v100)) (.val (.int ((own_one ga) + (own_one gb)))) (.val (.int ((own_one gc) + (own_one gd)))) (.val (.int ((own_one ge) + (own_one gf)))) (.val (.long (12 : Int64))) .second) [(.int v89)])) t := fun t kt => by
  rw [hv165] at kt
  by_cases hd163 : v89 = (0 : Int32)
  ·simp only [if_pos hd163] at kt
   refine XS.ifYes X160.here hx rfl (pc0 := 409) (pc' := 431) rfl (hb hby at_409) rfl ((if0 _ _).trans (teq hd163).1) (by decide) (by decide) ?_
   exact kt
  ·simp only [if_neg hd163] at kt
   by_cases hd164 : ((own_one ga) + (own_one gb)) < kl
   ·simp only [if_pos hd164] at kt
    refine XS.ifNo X160.here hx rfl (hb hby at_409) rfl ((if0 _ _).trans (feq hd163).1) ?_
    refine XS.iload X160.here hx rfl (hb hby at_412) rfl ?_
    refine XS.iload X160.here hx rfl (hb hby at_414) rfl ?_
    refine XS.icmpNo X160.here hx rfl (hb hby at_416) rfl (tlt hd164).2.1 ?_
    refine XS.lload X160.here hx rfl (hb hby at_419) rfl ?_
    refine X160.ldc2Long hx hown (mvT hZ (Wd hw 174 rfl)) (g := (mkF m 421 (own_lo ja jb jc le mo se nn kl v8 v16 lna lnb lnc ofa ofb ofc b29 b30 (.val (.long av)) .second (.val (.int v89)) (.val (.int v94)) (.val (.int v100)) (.val (.int ((own_one ga) + (own_one gb)))) (.val (.int ((own_one gc) + (own_one gd)))) (.val (.int ((own_one ge) + (own_one gf)))) (.val (.long (12 : Int64))) .second) [(.long (12 : Int64))])) rfl (hb hby at_421) _ ?_
    refine XS.iload X160.here hx rfl (hb hby at_424) rfl ?_
    refine XS.i2l X160.here hx rfl (hb hby at_426) rfl ?_
    refine XS.ladd X160.here hx rfl (hb hby at_427) rfl ?_
    refine XS.ladd X160.here hx rfl (hb hby at_428) rfl ?_
    refine XS.lstore X160.here hx rfl (hb hby at_429) rfl (l' := (own_lo ja jb jc le mo se nn kl v8 v16 lna lnb lnc ofa ofb ofc b29 b30 (.val (.long av)) .second (.val (.int v89)) (.val (.int v94)) (.val (.int v100)) (.val (.int ((own_one ga) + (own_one gb)))) (.val (.int ((own_one gc) + (own_one gd)))) (.val (.int ((own_one ge) + (own_one gf)))) (.val (.long ((12 : Int64) + ((12 : Int64) + (lna.toInt64))))) .second)) rfl ?_
    exact kt
   ·simp only [if_neg hd164] at kt
    refine XS.ifNo X160.here hx rfl (hb hby at_409) rfl ((if0 _ _).trans (feq hd163).1) ?_
    refine XS.iload X160.here hx rfl (hb hby at_412) rfl ?_
    refine XS.iload X160.here hx rfl (hb hby at_414) rfl ?_
    refine XS.icmpYes X160.here hx rfl (pc0 := 416) (pc' := 431) rfl (hb hby at_416) rfl (flt hd164).2.1 (by decide) (by decide) ?_
    exact kt
 have r166 : ∀ t, Steps p.tables e below (T160.setTop (mkF m 433 (own_lo ja jb jc le mo se nn kl v8 v16 lna lnb lnc ofa ofb ofc b29 b30 (.val (.long av)) .second (.val (.int v89)) (.val (.int v94)) (.val (.int v100)) (.val (.int ((own_one ga) + (own_one gb)))) (.val (.int ((own_one gc) + (own_one gd)))) (.val (.int ((own_one ge) + (own_one gf)))) (.val (.long v165)) .second) [(.int v94)])) t → Steps p.tables e below (T160.setTop (mkF m 431 (own_lo ja jb jc le mo se nn kl v8 v16 lna lnb lnc ofa ofb ofc b29 b30 (.val (.long av)) .second (.val (.int v89)) (.val (.int v94)) (.val (.int v100)) (.val (.int ((own_one ga) + (own_one gb)))) (.val (.int ((own_one gc) + (own_one gd)))) (.val (.int ((own_one ge) + (own_one gf)))) (.val (.long v165)) .second) [])) t := fun t kt => by
  refine XS.iload X160.here hx rfl (hb hby at_431) rfl ?_
  exact kt
 obtain ⟨v170, hv170⟩ : ∃ zz : Int64, zz = (if v94 = (0 : Int32) then v165 else (if ((own_one gc) + (own_one gd)) < kl then (v165 + ((12 : Int64) + (lnb.toInt64))) else v165)) := ⟨_, rfl⟩
 have r167 : ∀ t, Steps p.tables e below (T160.setTop (mkF m 455 (own_lo ja jb jc le mo se nn kl v8 v16 lna lnb lnc ofa ofb ofc b29 b30 (.val (.long av)) .second (.val (.int v89)) (.val (.int v94)) (.val (.int v100)) (.val (.int ((own_one ga) + (own_one gb)))) (.val (.int ((own_one gc) + (own_one gd)))) (.val (.int ((own_one ge) + (own_one gf)))) (.val (.long v170)) .second) [])) t → Steps p.tables e below (T160.setTop (mkF m 433 (own_lo ja jb jc le mo se nn kl v8 v16 lna lnb lnc ofa ofb ofc b29 b30 (.val (.long av)) .second (.val (.int v89)) (.val (.int v94)) (.val (.int v100)) (.val (.int ((own_one ga) + (own_one gb)))) (.val (.int ((own_one gc) + (own_one gd)))) (.val (.int ((own_one ge) + (own_one gf)))) (.val (.long v165)) .second) [(.int v94)])) t := fun t kt => by
  rw [hv170] at kt
  by_cases hd168 : v94 = (0 : Int32)
  ·simp only [if_pos hd168] at kt
   refine XS.ifYes X160.here hx rfl (pc0 := 433) (pc' := 455) rfl (hb hby at_433) rfl ((if0 _ _).trans (teq hd168).1) (by decide) (by decide) ?_
   exact kt
  ·simp only [if_neg hd168] at kt
   by_cases hd169 : ((own_one gc) + (own_one gd)) < kl
   ·simp only [if_pos hd169] at kt
    refine XS.ifNo X160.here hx rfl (hb hby at_433) rfl ((if0 _ _).trans (feq hd168).1) ?_
    refine XS.iload X160.here hx rfl (hb hby at_436) rfl ?_
    refine XS.iload X160.here hx rfl (hb hby at_438) rfl ?_
    refine XS.icmpNo X160.here hx rfl (hb hby at_440) rfl (tlt hd169).2.1 ?_
    refine XS.lload X160.here hx rfl (hb hby at_443) rfl ?_
    refine X160.ldc2Long hx hown (mvT hZ (Wd hw 174 rfl)) (g := (mkF m 445 (own_lo ja jb jc le mo se nn kl v8 v16 lna lnb lnc ofa ofb ofc b29 b30 (.val (.long av)) .second (.val (.int v89)) (.val (.int v94)) (.val (.int v100)) (.val (.int ((own_one ga) + (own_one gb)))) (.val (.int ((own_one gc) + (own_one gd)))) (.val (.int ((own_one ge) + (own_one gf)))) (.val (.long v165)) .second) [(.long v165)])) rfl (hb hby at_445) _ ?_
    refine XS.iload X160.here hx rfl (hb hby at_448) rfl ?_
    refine XS.i2l X160.here hx rfl (hb hby at_450) rfl ?_
    refine XS.ladd X160.here hx rfl (hb hby at_451) rfl ?_
    refine XS.ladd X160.here hx rfl (hb hby at_452) rfl ?_
    refine XS.lstore X160.here hx rfl (hb hby at_453) rfl (l' := (own_lo ja jb jc le mo se nn kl v8 v16 lna lnb lnc ofa ofb ofc b29 b30 (.val (.long av)) .second (.val (.int v89)) (.val (.int v94)) (.val (.int v100)) (.val (.int ((own_one ga) + (own_one gb)))) (.val (.int ((own_one gc) + (own_one gd)))) (.val (.int ((own_one ge) + (own_one gf)))) (.val (.long (v165 + ((12 : Int64) + (lnb.toInt64))))) .second)) rfl ?_
    exact kt
   ·simp only [if_neg hd169] at kt
    refine XS.ifNo X160.here hx rfl (hb hby at_433) rfl ((if0 _ _).trans (feq hd168).1) ?_
    refine XS.iload X160.here hx rfl (hb hby at_436) rfl ?_
    refine XS.iload X160.here hx rfl (hb hby at_438) rfl ?_
    refine XS.icmpYes X160.here hx rfl (pc0 := 440) (pc' := 455) rfl (hb hby at_440) rfl (flt hd169).2.1 (by decide) (by decide) ?_
    exact kt
 have r171 : ∀ t, Steps p.tables e below (T160.setTop (mkF m 457 (own_lo ja jb jc le mo se nn kl v8 v16 lna lnb lnc ofa ofb ofc b29 b30 (.val (.long av)) .second (.val (.int v89)) (.val (.int v94)) (.val (.int v100)) (.val (.int ((own_one ga) + (own_one gb)))) (.val (.int ((own_one gc) + (own_one gd)))) (.val (.int ((own_one ge) + (own_one gf)))) (.val (.long v170)) .second) [(.int v100)])) t → Steps p.tables e below (T160.setTop (mkF m 455 (own_lo ja jb jc le mo se nn kl v8 v16 lna lnb lnc ofa ofb ofc b29 b30 (.val (.long av)) .second (.val (.int v89)) (.val (.int v94)) (.val (.int v100)) (.val (.int ((own_one ga) + (own_one gb)))) (.val (.int ((own_one gc) + (own_one gd)))) (.val (.int ((own_one ge) + (own_one gf)))) (.val (.long v170)) .second) [])) t := fun t kt => by
  refine XS.iload X160.here hx rfl (hb hby at_455) rfl ?_
  exact kt
 obtain ⟨v175, hv175⟩ : ∃ zz : Int64, zz = (if v100 = (0 : Int32) then v170 else (if ((own_one ge) + (own_one gf)) < kl then (v170 + ((12 : Int64) + (lnc.toInt64))) else v170)) := ⟨_, rfl⟩
 have r172 : ∀ t, Steps p.tables e below (T160.setTop (mkF m 479 (own_lo ja jb jc le mo se nn kl v8 v16 lna lnb lnc ofa ofb ofc b29 b30 (.val (.long av)) .second (.val (.int v89)) (.val (.int v94)) (.val (.int v100)) (.val (.int ((own_one ga) + (own_one gb)))) (.val (.int ((own_one gc) + (own_one gd)))) (.val (.int ((own_one ge) + (own_one gf)))) (.val (.long v175)) .second) [])) t → Steps p.tables e below (T160.setTop (mkF m 457 (own_lo ja jb jc le mo se nn kl v8 v16 lna lnb lnc ofa ofb ofc b29 b30 (.val (.long av)) .second (.val (.int v89)) (.val (.int v94)) (.val (.int v100)) (.val (.int ((own_one ga) + (own_one gb)))) (.val (.int ((own_one gc) + (own_one gd)))) (.val (.int ((own_one ge) + (own_one gf)))) (.val (.long v170)) .second) [(.int v100)])) t := fun t kt => by
  rw [hv175] at kt
  by_cases hd173 : v100 = (0 : Int32)
  ·simp only [if_pos hd173] at kt
   refine XS.ifYes X160.here hx rfl (pc0 := 457) (pc' := 479) rfl (hb hby at_457) rfl ((if0 _ _).trans (teq hd173).1) (by decide) (by decide) ?_
   exact kt
  ·simp only [if_neg hd173] at kt
   by_cases hd174 : ((own_one ge) + (own_one gf)) < kl
   ·simp only [if_pos hd174] at kt
    refine XS.ifNo X160.here hx rfl (hb hby at_457) rfl ((if0 _ _).trans (feq hd173).1) ?_
    refine XS.iload X160.here hx rfl (hb hby at_460) rfl ?_
    refine XS.iload X160.here hx rfl (hb hby at_462) rfl ?_
    refine XS.icmpNo X160.here hx rfl (hb hby at_464) rfl (tlt hd174).2.1 ?_
    refine XS.lload X160.here hx rfl (hb hby at_467) rfl ?_
    refine X160.ldc2Long hx hown (mvT hZ (Wd hw 174 rfl)) (g := (mkF m 469 (own_lo ja jb jc le mo se nn kl v8 v16 lna lnb lnc ofa ofb ofc b29 b30 (.val (.long av)) .second (.val (.int v89)) (.val (.int v94)) (.val (.int v100)) (.val (.int ((own_one ga) + (own_one gb)))) (.val (.int ((own_one gc) + (own_one gd)))) (.val (.int ((own_one ge) + (own_one gf)))) (.val (.long v170)) .second) [(.long v170)])) rfl (hb hby at_469) _ ?_
    refine XS.iload X160.here hx rfl (hb hby at_472) rfl ?_
    refine XS.i2l X160.here hx rfl (hb hby at_474) rfl ?_
    refine XS.ladd X160.here hx rfl (hb hby at_475) rfl ?_
    refine XS.ladd X160.here hx rfl (hb hby at_476) rfl ?_
    refine XS.lstore X160.here hx rfl (hb hby at_477) rfl (l' := (own_lo ja jb jc le mo se nn kl v8 v16 lna lnb lnc ofa ofb ofc b29 b30 (.val (.long av)) .second (.val (.int v89)) (.val (.int v94)) (.val (.int v100)) (.val (.int ((own_one ga) + (own_one gb)))) (.val (.int ((own_one gc) + (own_one gd)))) (.val (.int ((own_one ge) + (own_one gf)))) (.val (.long (v170 + ((12 : Int64) + (lnc.toInt64))))) .second)) rfl ?_
    exact kt
   ·simp only [if_neg hd174] at kt
    refine XS.ifNo X160.here hx rfl (hb hby at_457) rfl ((if0 _ _).trans (feq hd173).1) ?_
    refine XS.iload X160.here hx rfl (hb hby at_460) rfl ?_
    refine XS.iload X160.here hx rfl (hb hby at_462) rfl ?_
    refine XS.icmpYes X160.here hx rfl (pc0 := 464) (pc' := 479) rfl (hb hby at_464) rfl (flt hd174).2.1 (by decide) (by decide) ?_
    exact kt
 obtain ⟨fs, hr, hrun, hended, hW, hsame⟩ := X160.leave (v := some (.int (1 : Int32))) (fun h => by rw [Bd.returns] at h; cases h) hlk
 refine ⟨_, _, (pre0 _ (r1 _ (r2 _ (r3 _ (r4 _ (r5 _ (r6 _ (r9 _ (r10 _ (r13 _ (r14 _ (r17 _ (r18 _ (r19 _ (r20 _ (r21 _ (r22 _ (r23 _ (r24 _ (r25 _ (r26 _ (r27 _ (r28 _ (r32 _ (r33 _ (r34 _ (r86 _ (r87 _ (r90 _ (r91 _ (r95 _ (r96 _ (r101 _ (r102 _ (r111 _ (r112 _ (r121 _ (r122 _ (r131 _ (r132 _ (r141 _ (r142 _ (r151 _ (r152 _ (r161 _ (r162 _ (r166 _ (r167 _ (r171 _ (r172 _ ?_)))))))))))))))))))))))))))))))))))))))))))))))))), hrun, hended, _, _, rfl, ?_, ⟨_, rfl⟩, hW, hsame.mono (by decide) (by decide)⟩
 ·show Steps p.tables e below (T160.setTop (mkF m 479 (own_lo ja jb jc le mo se nn kl v8 v16 lna lnb lnc ofa ofb ofc b29 b30 (.val (.long av)) .second (.val (.int v89)) (.val (.int v94)) (.val (.int v100)) (.val (.int ((own_one ga) + (own_one gb)))) (.val (.int ((own_one gc) + (own_one gd)))) (.val (.int ((own_one ge) + (own_one gf)))) (.val (.long v175)) .second) [])) _
  refine XS.lload X160.here hx rfl (hb hby at_479) rfl ?_
  refine XS.lload X160.here hx rfl (hb hby at_481) rfl ?_
  refine XS.lcmp X160.here hx rfl (hb hby at_483) rfl ?_
  refine XS.ifNo X160.here hx rfl (hb hby at_484) rfl ((if0 _ _).trans (teq ((lw_eq _ _).mpr (own_fin p34_0 hv89 hv94 hv100 p102_0 p112_0 p122_0 p132_0 p142_0 p152_0 hv165 hv170 hv175))).2) ?_
  refine XS.iconst X160.here hx rfl (hb hby at_487) ?_
  refine XS.goto X160.here hx rfl (pc0 := 488) (pc' := 492) rfl (hb hby at_488) (by decide) (by decide) ?_
  exact retN X160 hx (t := .boolean) Bd.returns (by simp) (hb hby at_492) hr
 ·show QL Z ja jb jc le mo se h0 n0 _ T160.heap _
  rw [e160]
  exact ⟨rfl, N160⟩
set_option maxRecDepth 65536 in
set_option maxHeartbeats 40000000 in
theorem comes_1 {Post : Tables → Env → Array Value → State → Outcome → State → Prop} (hpost : ∀ tb e args s v u, (limb_1_1.after args s (.returned v) u = true ∧ limb_1_2.after args s (.returned v) u = true ∧ True) → FrameEnd s (.returned v) u (Jvm.fieldLocs frame_1_writes args s ++ Jvm.arrayLocs frame_1_arrays args s ++ Jvm.staticLocs frame_1_statics s) 40 256 → Post tb e args s (.returned v) u) :
  ArmFor flags0 classFile x code maxLocals ret World_1 tables_1 room_1 Calls_1 rest_1 Pre_1 Post := by
 intro l hfl _ _ p e ha hc hk s m args below hf hA hF happ hP
 obtain ⟨hcalls, hrest, hpre⟩ := hP
 obtain ⟨-, -, -, hnamed, -, -, -, hat⟩ := (Spec.applies_iff hf).mp happ
 obtain ⟨hg, hn⟩ := and_e (Cond.before_iff.mp (show (Jvm.Cond.and given_1 narrow_1).before args s = true from hpre))
 obtain ⟨hcount, gr0⟩ := and_e hg
 obtain ⟨ga0, gr1⟩ := and_e gr0
 obtain ⟨ga1, gr2⟩ := and_e gr1
 obtain ⟨ga2, gr3⟩ := and_e gr2
 obtain ⟨ga3, gr4⟩ := and_e gr3
 obtain ⟨ga4, gr5⟩ := and_e gr4
 have ga5 := gr5
 obtain ⟨w0, w1, w2, w3, w4, w5, rfl⟩ : ∃ w0 w1 w2 w3 w4 w5 : Value, args = #[w0, w1, w2, w3, w4, w5] := by
  have hs : args.size = 6 := by simpa [Cond.value, given_1] using hcount
  obtain ⟨L⟩ := args
  match L, hs with
  | [w0, w1, w2, w3, w4, w5], _ => exact ⟨w0, w1, w2, w3, w4, w5, rfl⟩
 have hw := fun d (hd : d ∈ tables_1) => atoms_spec (ws := Jvm.Cond.code x code maxLocals ret :: tables_1) hat d (List.mem_cons_of_mem _ hd)
 have hfit : Fit s := fun {y c} hc i hi => by
  obtain ⟨ha, rfl⟩ := Array.getElem?_eq_some_iff.mp hc
  have q := List.all_eq_true.mp ((Array.all_eq_true_iff_forall_mem.mp hF) _ (Array.getElem_mem ha)) i (List.mem_range.mpr hi)
  simpa [Array.getElem?_eq_getElem hi] using q
 obtain ⟨i0, ei0⟩ := isL_v ga0
 obtain rfl : w0 = (.long i0) := Option.some.inj ei0
 obtain ⟨i1, ei1⟩ := isL_v ga1
 obtain rfl : w1 = (.long i1) := Option.some.inj ei1
 obtain ⟨i2, ei2⟩ := isL_v ga2
 obtain rfl : w2 = (.long i2) := Option.some.inj ei2
 obtain ⟨i3, ei3⟩ := is_v ga3
 obtain rfl : w3 = (.int i3) := Option.some.inj ei3
 obtain ⟨i4, ei4⟩ := is_v ga4
 obtain rfl : w4 = (.int i4) := Option.some.inj ei4
 obtain ⟨i5, ei5⟩ := is_v ga5
 obtain rfl : w5 = (.int i5) := Option.some.inj ei5
 obtain ⟨n, o, h1, h2, h3, _, L, rfl, ⟨rfl, N⟩, hq⟩ := rmL l s _ hw tables_1 i0 i1 i2 i3 i4 i5 s.heap s.heap.size (Nat.le_refl _)  p e ha hc hk s m _ below hf ((Spec.applies_iff_loose hf).mp happ).1 ⟨rfl, State.Warmed39.refl s, rfl⟩ trivial
 refine ⟨n, _, h1, h2, h3, hpost _ _ _ _ _ _ ⟨Cond.after_iff.mpr rfl, Cond.after_iff.mpr (eq_i res_at (Term.int_eval (1)) rfl), trivial⟩ ⟨hq.1, hq.2.1, (hq.2.2.sift fun y hy => Or.inr (N y hy)).mono (by decide) (by decide)⟩⟩
theorem main_1_1 : Claimed_1_1 := comes_1 fun _ _ _ _ _ _ h hF => ⟨h.1, hF⟩
theorem main_1_2 : Claimed_1_2 := comes_1 fun _ _ _ _ _ _ h hF => ⟨h.2.1, hF⟩
end Jvm.Pilot.@@N@@
namespace Jvm.Pilot.@@N@@
open Jvm Jvm.ClassFile Sem Op Lib Jvm.Free Jvm.Stand Jvm.Pilot.@@N@@.Jvm.D
/-! MADE BY PROGRAM (witnessworld.py) out of the Statement's table words and the real class files: 23 classes; the members and pool entries that the words name. The judged class is class 1, her method 3. -/
namespace start1
open Jvm.ClassFile
def u (s : String) : CpInfo := .utf8 (stringToUtf16 s)
/-- a pool by its gaps: so many unusable entries, then the entry; so many at the end -/
def gap : Nat → List CpInfo → List CpInfo
  | 0, r => r
  | n + 1, r => .unusable :: gap n r
def poolList (es : List (Nat × CpInfo)) (last : Nat) : List CpInfo := es.foldr (fun e r => gap e.1 (e.2 :: r)) (gap last [])
def pool (es : List (Nat × CpInfo)) (last : Nat) : Array CpInfo := ⟨poolList es last⟩
def fileOf (pool : Array CpInfo) (this : Nat) (attrs : Array Attribute := #[]) (ms : Array MethodInfo := #[]) (fl : Nat := 33) (sup : Nat := 0) (ifs : Array Nat := #[]) (fds : Array FieldInfo := #[]) : ClassFile where
  minorVersion := 0
  majorVersion := 65
  constantPool := pool
  accessFlags := fl
  thisClass := this
  superClass := sup
  interfaces := ifs
  fields := fds
  methods := ms
  attributes := attrs
def plain (name : String) (sup : Option ClassId) : Class where
  name := name
  kind := .ordinary
  loader := none
  accessFlags := 33
  super := sup
  interfaces := #[]
  cf := none
  fields := #[]
  methods := #[]
  instanceTypes := #[]
  staticTypes := #[]
  resolved := #[]
  callSites := []
  init := .initialized
  statics := none
  mirror := none

def pool0 : Array CpInfo := pool [(5, u "<init>"), (0, u "()V"), (1, .class_ 10), (1, u "java/lang/Object")] 113

def k0c0 : Code := { maxStack := 0, maxLocals := 1, code := object_method_1_code, exceptionTable := #[], attributes := #[] }
def k0m0 : Method := { name := "<init>", desc := "()V", sig := { parameters := [], returnType := none }, accessFlags := 1, code := some k0c0 }
/-- java/lang/Object -/
def k0 : Class := { plain "java/lang/Object" none with
  accessFlags := 33
  interfaces := #[]
  cf := some (fileOf pool0 8 #[] #[{ accessFlags := 1, nameIndex := 5, descriptorIndex := 6, attributes := #[] }] 33 0 #[] #[])
  fields := #[]
  methods := #[k0m0]
  instanceTypes := #[]
  staticTypes := #[]
  resolved := Array.replicate 124 none
  statics := none }

def pool1 : Array CpInfo := pool [(2, .class_ 4), (1, u "java/lang/Object"), (0, u "<init>"), (0, u "()V"), (2, .long 9223372036854775808), (1, .class_ 12), (0, u "com/example/tallysketch/tallysketch/Recordinality"), (0, .methodref 11 14), (0, .nameAndType 5 15), (0, u "(II)V"), (0, .methodref 11 17), (0, .nameAndType 18 19), (0, u "offerItem"), (0, u "(J[BII)V"), (0, .methodref 11 21), (0, .nameAndType 22 23), (0, u "contentLength"), (0, u "()J"), (0, .methodref 25 26), (0, .class_ 27), (0, .nameAndType 28 29), (0, u "com/example/tallysketch/tallysketch/RecordinalityContentLengthPinLaw"), (0, u "gtU"), (0, u "(JJ)Z"), (0, .methodref 25 31), (0, .nameAndType 32 33), (0, u "one"), (0, u "(Z)I"), (0, .long 12), (4, u "law"), (0, u "(JJJIII)Z")] 4

def k1m0 : Method := { name := "<init>", desc := "()V", sig := { parameters := [], returnType := none }, accessFlags := 1, code := none }
def k1c1 : Code := { maxStack := 6, maxLocals := 4, code := method_2_code, exceptionTable := #[], attributes := #[] }
def k1m1 : Method := { name := "gtU", desc := "(JJ)Z", sig := { parameters := [.long, .long], returnType := some .boolean }, accessFlags := 10, code := some k1c1 }
def k1c2 : Code := { maxStack := 1, maxLocals := 1, code := method_3_code, exceptionTable := #[], attributes := #[] }
def k1m2 : Method := { name := "one", desc := "(Z)I", sig := { parameters := [.boolean], returnType := some .int }, accessFlags := 10, code := some k1c2 }
def k1c3 : Code := { maxStack := 6, maxLocals := 33, code := code, exceptionTable := #[], attributes := #[] }
def k1m3 : Method := { name := "law", desc := "(JJJIII)Z", sig := { parameters := [.long, .long, .long, .int, .int, .int], returnType := some .boolean }, accessFlags := 9, code := some k1c3 }
/-- com/example/tallysketch/tallysketch/RecordinalityContentLengthPinLaw -/
def k1 : Class := { plain "com/example/tallysketch/tallysketch/RecordinalityContentLengthPinLaw" (some 0) with
  accessFlags := 49
  interfaces := #[]
  cf := some (fileOf pool1 25 #[] #[{ accessFlags := 1, nameIndex := 5, descriptorIndex := 6, attributes := #[] }, { accessFlags := 10, nameIndex := 28, descriptorIndex := 29, attributes := #[] }, { accessFlags := 10, nameIndex := 32, descriptorIndex := 33, attributes := #[] }, { accessFlags := 9, nameIndex := 39, descriptorIndex := 40, attributes := #[] }] 49 2 #[] #[])
  fields := #[]
  methods := #[k1m0, k1m1, k1m2, k1m3]
  instanceTypes := #[]
  staticTypes := #[]
  resolved := Array.replicate 45 none
  statics := none }

def pool2 : Array CpInfo := pool [(1, .methodref 2 3), (0, .class_ 4), (0, .nameAndType 5 6), (0, u "java/lang/Object"), (0, u "<init>"), (0, u "()V"), (0, .fieldref 8 9), (0, .class_ 10), (0, .nameAndType 11 12), (0, u "com/example/tallysketch/tallysketch/Sketch"), (0, u "seed"), (0, u "I"), (0, .class_ 14), (0, u "com/example/tallysketch/tallysketch/MurmurHash3"), (0, .methodref 13 16), (0, .nameAndType 5 17), (0, u "(I)V"), (0, .fieldref 8 19), (0, .nameAndType 20 21), (0, u "hasher"), (0, u "Lcom/example/tallysketch/tallysketch/MurmurHash3;")] 244

def k2c0 : Code := { maxStack := 4, maxLocals := 2, code := prog_12_method_1_code, exceptionTable := #[], attributes := #[] }
def k2m0 : Method := { name := "<init>", desc := "(I)V", sig := { parameters := [.int], returnType := none }, accessFlags := 0, code := some k2c0 }
/-- com/example/tallysketch/tallysketch/Sketch -/
def k2 : Class := { plain "com/example/tallysketch/tallysketch/Sketch" (some 0) with
  accessFlags := 1057
  interfaces := #[]
  cf := some (fileOf pool2 8 #[] #[{ accessFlags := 0, nameIndex := 5, descriptorIndex := 17, attributes := #[] }] 1057 2 #[] #[{ accessFlags := 18, nameIndex := 11, descriptorIndex := 12, attributes := #[] }, { accessFlags := 18, nameIndex := 20, descriptorIndex := 21, attributes := #[] }])
  fields := #[{ name := "seed", type := .int, accessFlags := 18, slot := 0, constantValue := 0 }, { name := "hasher", type := (.object "com/example/tallysketch/tallysketch/MurmurHash3"), accessFlags := 18, slot := 1, constantValue := 0 }]
  methods := #[k2m0]
  instanceTypes := #[.int, (.object "com/example/tallysketch/tallysketch/MurmurHash3")]
  staticTypes := #[]
  resolved := Array.replicate 266 none
  statics := none }

def pool3 : Array CpInfo := pool [(5, .methodref 6 7), (0, .class_ 8), (0, .nameAndType 9 10), (0, u "com/example/tallysketch/tallysketch/Sketch"), (0, u "<init>"), (0, u "(I)V"), (0, .class_ 12), (0, u "com/example/tallysketch/tallysketch/Recordinality"), (0, .integer 1048576), (9, .class_ 24), (0, u "com/example/tallysketch/tallysketch/LargestHashes"), (0, .methodref 23 7), (0, .fieldref 11 27), (0, .nameAndType 28 29), (0, u "kept"), (0, u "Lcom/example/tallysketch/tallysketch/LargestHashes;"), (0, .class_ 31), (0, u "[B"), (0, .fieldref 11 33), (0, .nameAndType 34 35), (0, u "items"), (0, u "[[B"), (0, .fieldref 11 37), (0, .nameAndType 38 39), (0, u "counts"), (0, u "[J"), (3, u "()I"), (3, .methodref 23 48), (0, .nameAndType 49 43), (0, u "size"), (0, .fieldref 11 51), (0, .nameAndType 52 53), (0, u "records"), (0, u "J"), (24, .class_ 80), (1, u "java/util/Arrays"), (15, .long 12), (23, u "(II)V"), (5, u "()J"), (34, .methodref 23 162), (0, .nameAndType 163 164), (0, u "indexOf"), (0, u "(J)I"), (2, .methodref 23 168), (0, .nameAndType 169 164), (0, u "add"), (2, .methodref 23 173), (0, .nameAndType 174 175), (0, u "admits"), (0, u "(J)Z"), (0, .methodref 78 177), (0, .nameAndType 178 179), (0, u "copyOfRange"), (0, u "([BII)[B"), (4, u "MAX_K"), (0, u "I"), (1, u "CONTENT_HEAD"), (1, u "ITEM_HEAD"), (0, u "RUN_PAST"), (0, u "Ljava/lang/String;"), (14, u "contentLength"), (7, u "offerItem"), (0, u "(J[BII)V")] 58

def k3c0 : Code := { maxStack := 4, maxLocals := 3, code := prog_7_method_1_code, exceptionTable := #[], attributes := #[] }
def k3m0 : Method := { name := "<init>", desc := "(II)V", sig := { parameters := [.int, .int], returnType := none }, accessFlags := 1, code := some k3c0 }
def k3c1 : Code := { maxStack := 6, maxLocals := 4, code := prog_7_method_8_code, exceptionTable := #[], attributes := #[] }
def k3m1 : Method := { name := "contentLength", desc := "()J", sig := { parameters := [], returnType := some .long }, accessFlags := 0, code := some k3c1 }
def k3c2 : Code := { maxStack := 6, maxLocals := 9, code := prog_7_method_11_code, exceptionTable := #[], attributes := #[] }
def k3m2 : Method := { name := "offerItem", desc := "(J[BII)V", sig := { parameters := [.long, (.array .byte), .int, .int], returnType := none }, accessFlags := 0, code := some k3c2 }
/-- com/example/tallysketch/tallysketch/Recordinality -/
def k3 : Class := { plain "com/example/tallysketch/tallysketch/Recordinality" (some 2) with
  accessFlags := 49
  interfaces := #[]
  cf := some (fileOf pool3 11 #[] #[{ accessFlags := 1, nameIndex := 9, descriptorIndex := 120, attributes := #[] }, { accessFlags := 0, nameIndex := 206, descriptorIndex := 126, attributes := #[] }, { accessFlags := 0, nameIndex := 214, descriptorIndex := 215, attributes := #[] }] 49 6 #[] #[{ accessFlags := 25, nameIndex := 184, descriptorIndex := 185, attributes := #[] }, { accessFlags := 26, nameIndex := 187, descriptorIndex := 185, attributes := #[] }, { accessFlags := 26, nameIndex := 189, descriptorIndex := 185, attributes := #[] }, { accessFlags := 26, nameIndex := 190, descriptorIndex := 191, attributes := #[] }, { accessFlags := 18, nameIndex := 28, descriptorIndex := 29, attributes := #[] }, { accessFlags := 18, nameIndex := 34, descriptorIndex := 35, attributes := #[] }, { accessFlags := 18, nameIndex := 38, descriptorIndex := 39, attributes := #[] }, { accessFlags := 2, nameIndex := 52, descriptorIndex := 53, attributes := #[] }])
  fields := #[{ name := "MAX_K", type := .int, accessFlags := 25, slot := 0, constantValue := 0 }, { name := "CONTENT_HEAD", type := .int, accessFlags := 26, slot := 1, constantValue := 0 }, { name := "ITEM_HEAD", type := .int, accessFlags := 26, slot := 2, constantValue := 0 }, { name := "RUN_PAST", type := (.object "java/lang/String"), accessFlags := 26, slot := 3, constantValue := 0 }, { name := "kept", type := (.object "com/example/tallysketch/tallysketch/LargestHashes"), accessFlags := 18, slot := 2, constantValue := 0 }, { name := "items", type := (.array (.array .byte)), accessFlags := 18, slot := 3, constantValue := 0 }, { name := "counts", type := (.array .long), accessFlags := 18, slot := 4, constantValue := 0 }, { name := "records", type := .long, accessFlags := 2, slot := 5, constantValue := 0 }]
  methods := #[k3m0, k3m1, k3m2]
  instanceTypes := #[.int, (.object "com/example/tallysketch/tallysketch/MurmurHash3"), (.object "com/example/tallysketch/tallysketch/LargestHashes"), (.array (.array .byte)), (.array .long), .long]
  staticTypes := #[.int, .int, .int, (.object "java/lang/String")]
  resolved := Array.replicate 274 none
  statics := none }

def pool4 : Array CpInfo := pool [(1, .methodref 2 3), (0, .class_ 4), (0, .nameAndType 5 6), (0, u "java/lang/Object"), (0, u "<init>"), (0, u "()V"), (0, .class_ 8), (0, u "com/example/tallysketch/tallysketch/MurmurHash3"), (0, .fieldref 7 10), (0, .nameAndType 11 12), (0, u "tail"), (0, u "[B"), (0, .methodref 14 15), (0, .class_ 16), (0, .nameAndType 17 18), (0, u "java/lang/Integer"), (0, u "toUnsignedLong"), (0, u "(I)J"), (0, .fieldref 7 20), (0, .nameAndType 21 22), (0, u "seed"), (0, u "J"), (0, .methodref 7 24), (0, .nameAndType 25 6), (0, u "start"), (2, u "(I)V"), (4, .fieldref 7 34), (0, .nameAndType 35 22), (0, u "h1"), (0, .fieldref 7 37), (0, .nameAndType 38 22), (0, u "h2"), (6, .fieldref 7 46), (0, .nameAndType 47 22), (0, u "length"), (0, .fieldref 7 49), (0, .nameAndType 50 51), (0, u "tailLength"), (0, u "I"), (34, u "LITTLE_ENDIAN_LONG"), (0, u "Ljava/lang/invoke/VarHandle;"), (61, u "C1"), (1, u "C2"), (0, u "BLOCK")] 28

def k4c0 : Code := { maxStack := 3, maxLocals := 2, code := prog_6_method_1_code, exceptionTable := #[], attributes := #[] }
def k4m0 : Method := { name := "<init>", desc := "(I)V", sig := { parameters := [.int], returnType := none }, accessFlags := 1, code := some k4c0 }
def k4c1 : Code := { maxStack := 3, maxLocals := 1, code := prog_6_method_7_code, exceptionTable := #[], attributes := #[] }
def k4m1 : Method := { name := "start", desc := "()V", sig := { parameters := [], returnType := none }, accessFlags := 2, code := some k4c1 }
/-- com/example/tallysketch/tallysketch/MurmurHash3 -/
def k4 : Class := { plain "com/example/tallysketch/tallysketch/MurmurHash3" (some 0) with
  accessFlags := 49
  interfaces := #[]
  cf := some (fileOf pool4 7 #[] #[{ accessFlags := 1, nameIndex := 5, descriptorIndex := 28, attributes := #[] }, { accessFlags := 2, nameIndex := 25, descriptorIndex := 6, attributes := #[] }] 49 2 #[] #[{ accessFlags := 26, nameIndex := 149, descriptorIndex := 22, attributes := #[] }, { accessFlags := 26, nameIndex := 151, descriptorIndex := 22, attributes := #[] }, { accessFlags := 26, nameIndex := 152, descriptorIndex := 51, attributes := #[] }, { accessFlags := 26, nameIndex := 86, descriptorIndex := 87, attributes := #[] }, { accessFlags := 18, nameIndex := 21, descriptorIndex := 22, attributes := #[] }, { accessFlags := 2, nameIndex := 35, descriptorIndex := 22, attributes := #[] }, { accessFlags := 2, nameIndex := 38, descriptorIndex := 22, attributes := #[] }, { accessFlags := 18, nameIndex := 11, descriptorIndex := 12, attributes := #[] }, { accessFlags := 2, nameIndex := 50, descriptorIndex := 51, attributes := #[] }, { accessFlags := 2, nameIndex := 47, descriptorIndex := 22, attributes := #[] }])
  fields := #[{ name := "C1", type := .long, accessFlags := 26, slot := 0, constantValue := 0 }, { name := "C2", type := .long, accessFlags := 26, slot := 1, constantValue := 0 }, { name := "BLOCK", type := .int, accessFlags := 26, slot := 2, constantValue := 0 }, { name := "LITTLE_ENDIAN_LONG", type := (.object "java/lang/invoke/VarHandle"), accessFlags := 26, slot := 3, constantValue := 0 }, { name := "seed", type := .long, accessFlags := 18, slot := 0, constantValue := 0 }, { name := "h1", type := .long, accessFlags := 2, slot := 1, constantValue := 0 }, { name := "h2", type := .long, accessFlags := 2, slot := 2, constantValue := 0 }, { name := "tail", type := (.array .byte), accessFlags := 18, slot := 3, constantValue := 0 }, { name := "tailLength", type := .int, accessFlags := 2, slot := 4, constantValue := 0 }, { name := "length", type := .long, accessFlags := 2, slot := 5, constantValue := 0 }]
  methods := #[k4m0, k4m1]
  instanceTypes := #[.long, .long, .long, (.array .byte), .int, .long]
  staticTypes := #[.long, .long, .int, (.object "java/lang/invoke/VarHandle")]
  resolved := Array.replicate 181 none
  statics := none }

def pool5 : Array CpInfo := pool [(1, .class_ 2), (0, u "java/io/Serializable"), (0, .class_ 4), (0, u "java/lang/Object")] 2

/-- java/io/Serializable -/
def k5 : Class := { plain "java/io/Serializable" (some 0) with
  accessFlags := 1537
  interfaces := #[]
  cf := some (fileOf pool5 1 #[] #[] 1537 3 #[] #[])
  fields := #[]
  methods := #[]
  instanceTypes := #[]
  staticTypes := #[]
  resolved := Array.replicate 7 none
  statics := none }

def pool6 : Array CpInfo := pool [(2, .class_ 4), (1, u "java/lang/Object"), (0, u "<init>"), (0, u "()V"), (1, .class_ 10), (1, u "java/lang/Number"), (2, .class_ 14), (0, u "java/io/Serializable"), (0, u "serialVersionUID"), (0, u "J")] 20

def k6m0 : Method := { name := "<init>", desc := "()V", sig := { parameters := [], returnType := none }, accessFlags := 1, code := none }
/-- java/lang/Number -/
def k6 : Class := { plain "java/lang/Number" (some 0) with
  accessFlags := 1057
  interfaces := #[5]
  cf := some (fileOf pool6 8 #[] #[{ accessFlags := 1, nameIndex := 5, descriptorIndex := 6, attributes := #[] }] 1057 2 #[13] #[{ accessFlags := 26, nameIndex := 15, descriptorIndex := 16, attributes := #[] }])
  fields := #[{ name := "serialVersionUID", type := .long, accessFlags := 26, slot := 0, constantValue := 0 }]
  methods := #[k6m0]
  instanceTypes := #[]
  staticTypes := #[.long]
  resolved := Array.replicate 37 none
  statics := none }

def pool7 : Array CpInfo := pool [(1, .class_ 2), (0, u "java/lang/Comparable"), (0, .class_ 4), (0, u "java/lang/Object")] 7

/-- java/lang/Comparable -/
def k7 : Class := { plain "java/lang/Comparable" (some 0) with
  accessFlags := 1537
  interfaces := #[]
  cf := some (fileOf pool7 1 #[] #[] 1537 3 #[] #[])
  fields := #[]
  methods := #[]
  instanceTypes := #[]
  staticTypes := #[]
  resolved := Array.replicate 12 none
  statics := none }

def pool8 : Array CpInfo := pool [(1, .class_ 2), (0, u "java/lang/constant/Constable"), (0, .class_ 4), (0, u "java/lang/Object")] 6

/-- java/lang/constant/Constable -/
def k8 : Class := { plain "java/lang/constant/Constable" (some 0) with
  accessFlags := 1537
  interfaces := #[]
  cf := some (fileOf pool8 1 #[] #[] 1537 3 #[] #[])
  fields := #[]
  methods := #[]
  instanceTypes := #[]
  staticTypes := #[]
  resolved := Array.replicate 11 none
  statics := none }

def pool9 : Array CpInfo := pool [(1, .class_ 2), (0, u "java/lang/constant/ConstantDesc"), (0, .class_ 4), (0, u "java/lang/Object")] 32

/-- java/lang/constant/ConstantDesc -/
def k9 : Class := { plain "java/lang/constant/ConstantDesc" (some 0) with
  accessFlags := 1537
  interfaces := #[]
  cf := some (fileOf pool9 1 #[] #[] 1537 3 #[] #[])
  fields := #[]
  methods := #[]
  instanceTypes := #[]
  staticTypes := #[]
  resolved := Array.replicate 37 none
  statics := none }

def pool10 : Array CpInfo := pool [(1, .class_ 2), (0, u "java/lang/Integer"), (16, u "digits"), (0, u "[C"), (19, u "toUnsignedLong"), (0, u "(I)J"), (9, .methodref 1 52), (0, .nameAndType 53 54), (0, u "numberOfLeadingZeros"), (0, u "(I)I"), (30, u "DigitOnes"), (0, u "[B"), (2, u "DigitTens"), (37, .integer 2147483648), (61, .class_ 190), (0, u "java/lang/Integer$IntegerCache"), (3, u "I"), (8, .class_ 204), (0, u "java/lang/Number"), (2, u "value"), (54, .long 4294967295), (1, .integer 65536), (37, u "TYPE"), (0, u "Ljava/lang/Class;"), (0, .class_ 305), (0, u "java/lang/Comparable"), (0, .class_ 307), (0, u "java/lang/constant/Constable"), (0, .class_ 309), (0, u "java/lang/constant/ConstantDesc"), (0, u "MIN_VALUE"), (1, u "MAX_VALUE"), (3, u "SIZE"), (1, u "BYTES"), (1, u "serialVersionUID"), (0, u "J"), (81, u "highestOneBit")] 49

def k10c0 : Code := { maxStack := 4, maxLocals := 1, code := jdk_33_method_42_code, exceptionTable := #[], attributes := #[] }
def k10m0 : Method := { name := "toUnsignedLong", desc := "(I)J", sig := { parameters := [.int], returnType := some .long }, accessFlags := 9, code := some k10c0 }
def k10c1 : Code := { maxStack := 3, maxLocals := 1, code := jdk_33_method_45_code, exceptionTable := #[], attributes := #[] }
def k10m1 : Method := { name := "highestOneBit", desc := "(I)I", sig := { parameters := [.int], returnType := some .int }, accessFlags := 9, code := some k10c1 }
def k10c2 : Code := { maxStack := 3, maxLocals := 2, code := jdk_33_method_47_code, exceptionTable := #[], attributes := #[] }
def k10m2 : Method := { name := "numberOfLeadingZeros", desc := "(I)I", sig := { parameters := [.int], returnType := some .int }, accessFlags := 9, code := some k10c2 }
/-- java/lang/Integer -/
def k10 : Class := { plain "java/lang/Integer" (some 6) with
  accessFlags := 49
  interfaces := #[7, 8, 9]
  cf := some (fileOf pool10 1 #[.nestMembers #[189]] #[{ accessFlags := 9, nameIndex := 40, descriptorIndex := 41, attributes := #[] }, { accessFlags := 9, nameIndex := 403, descriptorIndex := 54, attributes := #[] }, { accessFlags := 9, nameIndex := 53, descriptorIndex := 54, attributes := #[] }] 49 203 #[304, 306, 308] #[{ accessFlags := 25, nameIndex := 310, descriptorIndex := 194, attributes := #[] }, { accessFlags := 25, nameIndex := 312, descriptorIndex := 194, attributes := #[] }, { accessFlags := 25, nameIndex := 302, descriptorIndex := 303, attributes := #[] }, { accessFlags := 24, nameIndex := 19, descriptorIndex := 20, attributes := #[] }, { accessFlags := 24, nameIndex := 89, descriptorIndex := 86, attributes := #[] }, { accessFlags := 24, nameIndex := 85, descriptorIndex := 86, attributes := #[] }, { accessFlags := 18, nameIndex := 207, descriptorIndex := 194, attributes := #[] }, { accessFlags := 25, nameIndex := 316, descriptorIndex := 194, attributes := #[] }, { accessFlags := 25, nameIndex := 318, descriptorIndex := 194, attributes := #[] }, { accessFlags := 26, nameIndex := 320, descriptorIndex := 321, attributes := #[] }])
  fields := #[{ name := "MIN_VALUE", type := .int, accessFlags := 25, slot := 0, constantValue := 0 }, { name := "MAX_VALUE", type := .int, accessFlags := 25, slot := 1, constantValue := 0 }, { name := "TYPE", type := (.object "java/lang/Class"), accessFlags := 25, slot := 2, constantValue := 0 }, { name := "digits", type := (.array .char), accessFlags := 24, slot := 3, constantValue := 0 }, { name := "DigitTens", type := (.array .byte), accessFlags := 24, slot := 4, constantValue := 0 }, { name := "DigitOnes", type := (.array .byte), accessFlags := 24, slot := 5, constantValue := 0 }, { name := "value", type := .int, accessFlags := 18, slot := 0, constantValue := 0 }, { name := "SIZE", type := .int, accessFlags := 25, slot := 6, constantValue := 0 }, { name := "BYTES", type := .int, accessFlags := 25, slot := 7, constantValue := 0 }, { name := "serialVersionUID", type := .long, accessFlags := 26, slot := 8, constantValue := 0 }]
  methods := #[k10m0, k10m1, k10m2]
  instanceTypes := #[.int]
  staticTypes := #[.int, .int, (.object "java/lang/Class"), (.array .char), (.array .byte), (.array .byte), .int, .int, .long]
  resolved := Array.replicate 453 none
  statics := none }

def pool11 : Array CpInfo := pool [(1, .methodref 2 3), (0, .class_ 4), (0, .nameAndType 5 6), (0, u "java/lang/Object"), (0, u "<init>"), (0, u "()V"), (0, .fieldref 8 9), (0, .class_ 10), (0, .nameAndType 11 12), (0, u "com/example/tallysketch/tallysketch/LargestHashes"), (0, u "heap"), (0, u "[J"), (0, .methodref 14 15), (0, .class_ 16), (0, .nameAndType 17 18), (0, u "java/lang/Integer"), (0, u "highestOneBit"), (0, u "(I)I"), (0, .fieldref 8 20), (0, .nameAndType 21 12), (0, u "slots"), (0, .fieldref 8 23), (0, .nameAndType 24 25), (0, u "indices"), (0, u "[I"), (0, .methodref 27 28), (0, .class_ 29), (0, .nameAndType 30 31), (0, u "java/util/Arrays"), (0, u "fill"), (0, u "([II)V"), (0, .fieldref 8 33), (0, .nameAndType 34 35), (0, u "mask"), (0, u "I"), (0, .fieldref 8 37), (0, .nameAndType 38 35), (0, u "size"), (0, .methodref 8 40), (0, .nameAndType 41 42), (0, u "full"), (0, u "()Z"), (0, .methodref 44 45), (0, .class_ 46), (0, .nameAndType 47 48), (0, u "java/lang/Long"), (0, u "compareUnsigned"), (0, u "(JJ)I"), (0, .methodref 8 50), (0, .nameAndType 51 52), (0, u "slotOf"), (0, u "(J)I"), (0, .methodref 8 54), (0, .nameAndType 55 52), (0, u "removeFromTable"), (0, .methodref 8 57), (0, .nameAndType 58 59), (0, u "replaceSmallest"), (0, u "(J)V"), (0, .methodref 8 61), (0, .nameAndType 62 59), (0, u "addToHeap"), (0, u "ABSENT"), (2, u "(I)V"), (3, u "()I"), (0, u "indexOf"), (1, u "admits"), (0, u "(J)Z"), (0, u "add")] 2

def k11c0 : Code := { maxStack := 3, maxLocals := 3, code := prog_2_method_1_code, exceptionTable := #[], attributes := #[] }
def k11m0 : Method := { name := "<init>", desc := "(I)V", sig := { parameters := [.int], returnType := none }, accessFlags := 0, code := some k11c0 }
def k11c1 : Code := { maxStack := 1, maxLocals := 1, code := prog_2_method_3_code, exceptionTable := #[], attributes := #[] }
def k11m1 : Method := { name := "size", desc := "()I", sig := { parameters := [], returnType := some .int }, accessFlags := 0, code := some k11c1 }
def k11c2 : Code := { maxStack := 4, maxLocals := 3, code := prog_2_method_4_code, exceptionTable := #[], attributes := #[] }
def k11m2 : Method := { name := "indexOf", desc := "(J)I", sig := { parameters := [.long], returnType := some .int }, accessFlags := 0, code := some k11c2 }
def k11c3 : Code := { maxStack := 4, maxLocals := 3, code := prog_2_method_5_code, exceptionTable := #[], attributes := #[] }
def k11m3 : Method := { name := "admits", desc := "(J)Z", sig := { parameters := [.long], returnType := some .boolean }, accessFlags := 0, code := some k11c3 }
def k11c4 : Code := { maxStack := 4, maxLocals := 5, code := prog_2_method_6_code, exceptionTable := #[], attributes := #[] }
def k11m4 : Method := { name := "add", desc := "(J)I", sig := { parameters := [.long], returnType := some .int }, accessFlags := 0, code := some k11c4 }
def k11c5 : Code := { maxStack := 2, maxLocals := 1, code := prog_2_method_7_code, exceptionTable := #[], attributes := #[] }
def k11m5 : Method := { name := "full", desc := "()Z", sig := { parameters := [], returnType := some .boolean }, accessFlags := 2, code := some k11c5 }
def k11c6 : Code := { maxStack := 4, maxLocals := 4, code := prog_2_method_8_code, exceptionTable := #[], attributes := #[] }
def k11m6 : Method := { name := "slotOf", desc := "(J)I", sig := { parameters := [.long], returnType := some .int }, accessFlags := 2, code := some k11c6 }
def k11c7 : Code := { maxStack := 4, maxLocals := 7, code := prog_2_method_9_code, exceptionTable := #[], attributes := #[] }
def k11m7 : Method := { name := "removeFromTable", desc := "(J)I", sig := { parameters := [.long], returnType := some .int }, accessFlags := 2, code := some k11c7 }
def k11c8 : Code := { maxStack := 4, maxLocals := 5, code := prog_2_method_10_code, exceptionTable := #[], attributes := #[] }
def k11m8 : Method := { name := "addToHeap", desc := "(J)V", sig := { parameters := [.long], returnType := none }, accessFlags := 2, code := some k11c8 }
def k11c9 : Code := { maxStack := 4, maxLocals := 5, code := prog_2_method_11_code, exceptionTable := #[], attributes := #[] }
def k11m9 : Method := { name := "replaceSmallest", desc := "(J)V", sig := { parameters := [.long], returnType := none }, accessFlags := 2, code := some k11c9 }
/-- com/example/tallysketch/tallysketch/LargestHashes -/
def k11 : Class := { plain "com/example/tallysketch/tallysketch/LargestHashes" (some 0) with
  accessFlags := 48
  interfaces := #[]
  cf := some (fileOf pool11 8 #[] #[{ accessFlags := 0, nameIndex := 5, descriptorIndex := 66, attributes := #[] }, { accessFlags := 0, nameIndex := 38, descriptorIndex := 70, attributes := #[] }, { accessFlags := 0, nameIndex := 71, descriptorIndex := 52, attributes := #[] }, { accessFlags := 0, nameIndex := 73, descriptorIndex := 74, attributes := #[] }, { accessFlags := 0, nameIndex := 75, descriptorIndex := 52, attributes := #[] }, { accessFlags := 2, nameIndex := 41, descriptorIndex := 42, attributes := #[] }, { accessFlags := 2, nameIndex := 51, descriptorIndex := 52, attributes := #[] }, { accessFlags := 2, nameIndex := 55, descriptorIndex := 52, attributes := #[] }, { accessFlags := 2, nameIndex := 62, descriptorIndex := 59, attributes := #[] }, { accessFlags := 2, nameIndex := 58, descriptorIndex := 59, attributes := #[] }] 48 2 #[] #[{ accessFlags := 24, nameIndex := 63, descriptorIndex := 35, attributes := #[] }, { accessFlags := 18, nameIndex := 11, descriptorIndex := 12, attributes := #[] }, { accessFlags := 2, nameIndex := 38, descriptorIndex := 35, attributes := #[] }, { accessFlags := 18, nameIndex := 21, descriptorIndex := 12, attributes := #[] }, { accessFlags := 18, nameIndex := 24, descriptorIndex := 25, attributes := #[] }, { accessFlags := 18, nameIndex := 34, descriptorIndex := 35, attributes := #[] }])
  fields := #[{ name := "ABSENT", type := .int, accessFlags := 24, slot := 0, constantValue := 0 }, { name := "heap", type := (.array .long), accessFlags := 18, slot := 0, constantValue := 0 }, { name := "size", type := .int, accessFlags := 2, slot := 1, constantValue := 0 }, { name := "slots", type := (.array .long), accessFlags := 18, slot := 2, constantValue := 0 }, { name := "indices", type := (.array .int), accessFlags := 18, slot := 3, constantValue := 0 }, { name := "mask", type := .int, accessFlags := 18, slot := 4, constantValue := 0 }]
  methods := #[k11m0, k11m1, k11m2, k11m3, k11m4, k11m5, k11m6, k11m7, k11m8, k11m9]
  instanceTypes := #[(.array .long), .int, (.array .long), (.array .int), .int]
  staticTypes := #[.int]
  resolved := Array.replicate 78 none
  statics := none }

def pool12 : Array CpInfo := pool [(2, .class_ 4), (1, u "java/lang/Object"), (0, u "<init>"), (0, u "()V"), (7, .class_ 16), (1, u "java/util/Arrays"), (57, .class_ 76), (1, u "java/util/Arrays$NaturalOrder"), (36, .class_ 115), (1, u "java/util/Arrays$LegacyMergeSort"), (1, u "Z"), (21, u "copyOfRange"), (10, .methodref 151 152), (0, .class_ 153), (0, .nameAndType 154 155), (0, u "java/lang/System"), (0, u "arraycopy"), (0, u "(Ljava/lang/Object;ILjava/lang/Object;II)V"), (148, .methodref 305 306), (0, .class_ 307), (0, .nameAndType 308 309), (0, u "java/lang/Math"), (0, u "min"), (0, u "(II)I"), (29, .methodref 14 340), (0, .nameAndType 341 342), (0, u "copyOfRangeByte"), (0, u "([BII)[B"), (0, .methodref 14 344), (0, .nameAndType 345 346), (0, u "checkLength"), (0, u "(II)V"), (28, .class_ 376), (0, u "java/util/Arrays$ArrayList"), (68, u "$assertionsDisabled"), (269, u "MIN_ARRAY_SORT_GRAN"), (0, u "I"), (2, u "INSERTIONSORT_THRESHOLD"), (120, u "fill"), (4, u "([II)V"), (129, .class_ 976), (0, u "java/util/Arrays$ArrayItr")] 52

def k12m0 : Method := { name := "<init>", desc := "()V", sig := { parameters := [], returnType := none }, accessFlags := 2, code := none }
def k12c1 : Code := { maxStack := 3, maxLocals := 4, code := jdk_65_method_103_code, exceptionTable := #[], attributes := #[] }
def k12m1 : Method := { name := "fill", desc := "([II)V", sig := { parameters := [(.array .int), .int], returnType := none }, accessFlags := 9, code := some k12c1 }
def k12c2 : Code := { maxStack := 4, maxLocals := 2, code := jdk_65_method_131_code, exceptionTable := #[], attributes := #[] }
def k12m2 : Method := { name := "checkLength", desc := "(II)V", sig := { parameters := [.int, .int], returnType := none }, accessFlags := 10, code := some k12c2 }
def k12c3 : Code := { maxStack := 3, maxLocals := 3, code := jdk_65_method_132_code, exceptionTable := #[], attributes := #[] }
def k12m3 : Method := { name := "copyOfRange", desc := "([BII)[B", sig := { parameters := [(.array .byte), .int, .int], returnType := some (.array .byte) }, accessFlags := 9, code := some k12c3 }
def k12c4 : Code := { maxStack := 6, maxLocals := 5, code := jdk_65_method_133_code, exceptionTable := #[], attributes := #[] }
def k12m4 : Method := { name := "copyOfRangeByte", desc := "([BII)[B", sig := { parameters := [(.array .byte), .int, .int], returnType := some (.array .byte) }, accessFlags := 10, code := some k12c4 }
/-- java/util/Arrays -/
def k12 : Class := { plain "java/util/Arrays" (some 0) with
  accessFlags := 49
  interfaces := #[]
  cf := some (fileOf pool12 14 #[.nestMembers #[975, 375, 113, 74]] #[{ accessFlags := 2, nameIndex := 5, descriptorIndex := 6, attributes := #[] }, { accessFlags := 9, nameIndex := 840, descriptorIndex := 845, attributes := #[] }, { accessFlags := 10, nameIndex := 345, descriptorIndex := 346, attributes := #[] }, { accessFlags := 9, nameIndex := 139, descriptorIndex := 342, attributes := #[] }, { accessFlags := 10, nameIndex := 341, descriptorIndex := 342, attributes := #[] }] 49 2 #[] #[{ accessFlags := 26, nameIndex := 715, descriptorIndex := 716, attributes := #[] }, { accessFlags := 26, nameIndex := 719, descriptorIndex := 716, attributes := #[] }, { accessFlags := 4120, nameIndex := 445, descriptorIndex := 117, attributes := #[] }])
  fields := #[{ name := "MIN_ARRAY_SORT_GRAN", type := .int, accessFlags := 26, slot := 0, constantValue := 0 }, { name := "INSERTIONSORT_THRESHOLD", type := .int, accessFlags := 26, slot := 1, constantValue := 0 }, { name := "$assertionsDisabled", type := .boolean, accessFlags := 4120, slot := 2, constantValue := 0 }]
  methods := #[k12m0, k12m1, k12m2, k12m3, k12m4]
  instanceTypes := #[]
  staticTypes := #[.int, .int, .boolean]
  resolved := Array.replicate 1029 none
  statics := none }

def pool13 : Array CpInfo := pool [(1, .class_ 2), (0, u "java/lang/Math"), (1, .class_ 6), (1, u "java/lang/Object"), (0, u "<init>"), (0, u "()V"), (89, .class_ 100), (1, u "java/lang/Math$RandomNumberGeneratorHolder"), (71, u "negativeZeroFloatBits"), (0, u "J"), (2, u "negativeZeroDoubleBits"), (24, u "min"), (43, u "$assertionsDisabled"), (0, u "Z"), (88, u "(II)I"), (2, u "twoToTheDoubleScaleDown"), (0, u "D"), (4, u "twoToTheDoubleScaleUp"), (9, u "E"), (3, u "PI"), (2, u "TAU"), (2, u "DEGREES_TO_RADIANS"), (0, u "RADIANS_TO_DEGREES")] 94

def k13m0 : Method := { name := "<init>", desc := "()V", sig := { parameters := [], returnType := none }, accessFlags := 2, code := none }
def k13c1 : Code := { maxStack := 2, maxLocals := 2, code := jdk_29_method_69_code, exceptionTable := #[], attributes := #[] }
def k13m1 : Method := { name := "min", desc := "(II)I", sig := { parameters := [.int, .int], returnType := some .int }, accessFlags := 9, code := some k13c1 }
/-- java/lang/Math -/
def k13 : Class := { plain "java/lang/Math" (some 0) with
  accessFlags := 49
  interfaces := #[]
  cf := some (fileOf pool13 1 #[.nestMembers #[98]] #[{ accessFlags := 2, nameIndex := 7, descriptorIndex := 8, attributes := #[] }, { accessFlags := 9, nameIndex := 201, descriptorIndex := 335, attributes := #[] }] 49 4 #[] #[{ accessFlags := 25, nameIndex := 354, descriptorIndex := 339, attributes := #[] }, { accessFlags := 25, nameIndex := 358, descriptorIndex := 339, attributes := #[] }, { accessFlags := 25, nameIndex := 361, descriptorIndex := 339, attributes := #[] }, { accessFlags := 26, nameIndex := 364, descriptorIndex := 339, attributes := #[] }, { accessFlags := 26, nameIndex := 365, descriptorIndex := 339, attributes := #[] }, { accessFlags := 26, nameIndex := 172, descriptorIndex := 173, attributes := #[] }, { accessFlags := 26, nameIndex := 176, descriptorIndex := 173, attributes := #[] }, { accessFlags := 8, nameIndex := 344, descriptorIndex := 339, attributes := #[] }, { accessFlags := 8, nameIndex := 338, descriptorIndex := 339, attributes := #[] }, { accessFlags := 4120, nameIndex := 245, descriptorIndex := 246, attributes := #[] }])
  fields := #[{ name := "E", type := .double, accessFlags := 25, slot := 0, constantValue := 0 }, { name := "PI", type := .double, accessFlags := 25, slot := 1, constantValue := 0 }, { name := "TAU", type := .double, accessFlags := 25, slot := 2, constantValue := 0 }, { name := "DEGREES_TO_RADIANS", type := .double, accessFlags := 26, slot := 3, constantValue := 0 }, { name := "RADIANS_TO_DEGREES", type := .double, accessFlags := 26, slot := 4, constantValue := 0 }, { name := "negativeZeroFloatBits", type := .long, accessFlags := 26, slot := 5, constantValue := 0 }, { name := "negativeZeroDoubleBits", type := .long, accessFlags := 26, slot := 6, constantValue := 0 }, { name := "twoToTheDoubleScaleUp", type := .double, accessFlags := 8, slot := 7, constantValue := 0 }, { name := "twoToTheDoubleScaleDown", type := .double, accessFlags := 8, slot := 8, constantValue := 0 }, { name := "$assertionsDisabled", type := .boolean, accessFlags := 4120, slot := 9, constantValue := 0 }]
  methods := #[k13m0, k13m1]
  instanceTypes := #[]
  staticTypes := #[.double, .double, .double, .double, .double, .long, .long, .double, .double, .boolean]
  resolved := Array.replicate 460 none
  statics := none }

def pool14 : Array CpInfo := pool [(2, .class_ 4), (1, u "java/lang/Object"), (0, u "<init>"), (0, u "()V"), (1, .class_ 10), (1, u "java/lang/System"), (0, u "allowSecurityManager"), (0, u "I"), (16, u "cons"), (0, u "Ljava/io/Console;"), (77, .class_ 110), (1, u "java/lang/System$CallersHolder"), (43, u "initialErrStream"), (0, u "Ljava/io/PrintStream;"), (19, u "security"), (0, u "Ljava/lang/SecurityManager;"), (31, .class_ 209), (0, u "java/lang/System$1"), (7, u "props"), (0, u "Ljava/util/Properties;"), (2, u "lineSeparator"), (0, u "Ljava/lang/String;"), (96, .class_ 321), (1, u "java/lang/System$LoggerFinder"), (5, .class_ 328), (0, u "java/lang/System$Logger"), (67, u "err"), (2, u "out"), (91, u "notSupportedJnuEncoding"), (15, u "in"), (17, u "initialIn"), (0, u "Ljava/io/InputStream;"), (35, u "bootLayer"), (0, u "Ljava/lang/ModuleLayer;"), (99, .class_ 664), (0, u "java/lang/System$2"), (9, u "NEVER"), (2, u "MAYBE"), (49, u "arraycopy"), (0, u "(Ljava/lang/Object;ILjava/lang/Object;II)V"), (72, .class_ 802), (0, u "java/lang/System$Logger$Level")] 31

def k14m0 : Method := { name := "<init>", desc := "()V", sig := { parameters := [], returnType := none }, accessFlags := 2, code := none }
def k14m1 : Method := { name := "arraycopy", desc := "(Ljava/lang/Object;ILjava/lang/Object;II)V", sig := { parameters := [(.object "java/lang/Object"), .int, (.object "java/lang/Object"), .int, .int], returnType := none }, accessFlags := 265, code := none }
/-- java/lang/System -/
def k14 : Class := { plain "java/lang/System" (some 0) with
  accessFlags := 49
  interfaces := #[]
  cf := some (fileOf pool14 8 #[.nestMembers #[319, 327, 801, 108, 663, 208]] #[{ accessFlags := 2, nameIndex := 5, descriptorIndex := 6, attributes := #[] }, { accessFlags := 265, nameIndex := 727, descriptorIndex := 728, attributes := #[] }] 49 2 #[] #[{ accessFlags := 25, nameIndex := 507, descriptorIndex := 526, attributes := #[] }, { accessFlags := 25, nameIndex := 399, descriptorIndex := 155, attributes := #[] }, { accessFlags := 25, nameIndex := 396, descriptorIndex := 155, attributes := #[] }, { accessFlags := 10, nameIndex := 525, descriptorIndex := 526, attributes := #[] }, { accessFlags := 26, nameIndex := 674, descriptorIndex := 12, attributes := #[] }, { accessFlags := 26, nameIndex := 677, descriptorIndex := 12, attributes := #[] }, { accessFlags := 10, nameIndex := 11, descriptorIndex := 12, attributes := #[] }, { accessFlags := 74, nameIndex := 175, descriptorIndex := 176, attributes := #[] }, { accessFlags := 10, nameIndex := 491, descriptorIndex := 222, attributes := #[] }, { accessFlags := 74, nameIndex := 29, descriptorIndex := 30, attributes := #[] }, { accessFlags := 74, nameIndex := 154, descriptorIndex := 155, attributes := #[] }, { accessFlags := 10, nameIndex := 217, descriptorIndex := 218, attributes := #[] }, { accessFlags := 10, nameIndex := 221, descriptorIndex := 222, attributes := #[] }, { accessFlags := 8, nameIndex := 562, descriptorIndex := 563, attributes := #[] }])
  fields := #[{ name := "in", type := (.object "java/io/InputStream"), accessFlags := 25, slot := 0, constantValue := 0 }, { name := "out", type := (.object "java/io/PrintStream"), accessFlags := 25, slot := 1, constantValue := 0 }, { name := "err", type := (.object "java/io/PrintStream"), accessFlags := 25, slot := 2, constantValue := 0 }, { name := "initialIn", type := (.object "java/io/InputStream"), accessFlags := 10, slot := 3, constantValue := 0 }, { name := "NEVER", type := .int, accessFlags := 26, slot := 4, constantValue := 0 }, { name := "MAYBE", type := .int, accessFlags := 26, slot := 5, constantValue := 0 }, { name := "allowSecurityManager", type := .int, accessFlags := 10, slot := 6, constantValue := 0 }, { name := "security", type := (.object "java/lang/SecurityManager"), accessFlags := 74, slot := 7, constantValue := 0 }, { name := "notSupportedJnuEncoding", type := (.object "java/lang/String"), accessFlags := 10, slot := 8, constantValue := 0 }, { name := "cons", type := (.object "java/io/Console"), accessFlags := 74, slot := 9, constantValue := 0 }, { name := "initialErrStream", type := (.object "java/io/PrintStream"), accessFlags := 74, slot := 10, constantValue := 0 }, { name := "props", type := (.object "java/util/Properties"), accessFlags := 10, slot := 11, constantValue := 0 }, { name := "lineSeparator", type := (.object "java/lang/String"), accessFlags := 10, slot := 12, constantValue := 0 }, { name := "bootLayer", type := (.object "java/lang/ModuleLayer"), accessFlags := 8, slot := 13, constantValue := 0 }]
  methods := #[k14m0, k14m1]
  instanceTypes := #[]
  staticTypes := #[(.object "java/io/InputStream"), (.object "java/io/PrintStream"), (.object "java/io/PrintStream"), (.object "java/io/InputStream"), .int, .int, .int, (.object "java/lang/SecurityManager"), (.object "java/lang/String"), (.object "java/io/Console"), (.object "java/io/PrintStream"), (.object "java/util/Properties"), (.object "java/lang/String"), (.object "java/lang/ModuleLayer")]
  resolved := Array.replicate 834 none
  statics := none }

def pool15 : Array CpInfo := pool [(1, .class_ 2), (0, u "java/lang/Long"), (165, .long 9223372036854775808), (66, .class_ 237), (1, u "java/lang/Long$LongCache"), (33, .class_ 272), (0, u "java/lang/Number"), (2, u "value"), (0, u "J"), (25, .methodref 1 303), (0, .nameAndType 304 305), (0, u "compare"), (0, u "(JJ)I"), (55, u "TYPE"), (0, u "Ljava/lang/Class;"), (0, .class_ 364), (0, u "java/lang/Comparable"), (0, .class_ 366), (0, u "java/lang/constant/Constable"), (0, .class_ 368), (0, u "java/lang/constant/ConstantDesc"), (0, u "MIN_VALUE"), (1, u "MAX_VALUE"), (4, u "SIZE"), (0, u "I"), (1, u "BYTES"), (1, u "serialVersionUID"), (87, u "compareUnsigned")] 54

def k15c0 : Code := { maxStack := 4, maxLocals := 4, code := jdk_35_method_42_code, exceptionTable := #[], attributes := #[] }
def k15m0 : Method := { name := "compare", desc := "(JJ)I", sig := { parameters := [.long, .long], returnType := some .int }, accessFlags := 9, code := some k15c0 }
def k15c1 : Code := { maxStack := 6, maxLocals := 4, code := jdk_35_method_43_code, exceptionTable := #[], attributes := #[] }
def k15m1 : Method := { name := "compareUnsigned", desc := "(JJ)I", sig := { parameters := [.long, .long], returnType := some .int }, accessFlags := 9, code := some k15c1 }
/-- java/lang/Long -/
def k15 : Class := { plain "java/lang/Long" (some 6) with
  accessFlags := 49
  interfaces := #[7, 8, 9]
  cf := some (fileOf pool15 1 #[.nestMembers #[235]] #[{ accessFlags := 9, nameIndex := 304, descriptorIndex := 305, attributes := #[] }, { accessFlags := 9, nameIndex := 469, descriptorIndex := 305, attributes := #[] }] 49 271 #[363, 365, 367] #[{ accessFlags := 25, nameIndex := 369, descriptorIndex := 276, attributes := #[] }, { accessFlags := 25, nameIndex := 371, descriptorIndex := 276, attributes := #[] }, { accessFlags := 25, nameIndex := 361, descriptorIndex := 362, attributes := #[] }, { accessFlags := 18, nameIndex := 275, descriptorIndex := 276, attributes := #[] }, { accessFlags := 25, nameIndex := 376, descriptorIndex := 377, attributes := #[] }, { accessFlags := 25, nameIndex := 379, descriptorIndex := 377, attributes := #[] }, { accessFlags := 26, nameIndex := 381, descriptorIndex := 276, attributes := #[] }])
  fields := #[{ name := "MIN_VALUE", type := .long, accessFlags := 25, slot := 0, constantValue := 0 }, { name := "MAX_VALUE", type := .long, accessFlags := 25, slot := 1, constantValue := 0 }, { name := "TYPE", type := (.object "java/lang/Class"), accessFlags := 25, slot := 2, constantValue := 0 }, { name := "value", type := .long, accessFlags := 18, slot := 0, constantValue := 0 }, { name := "SIZE", type := .int, accessFlags := 25, slot := 3, constantValue := 0 }, { name := "BYTES", type := .int, accessFlags := 25, slot := 4, constantValue := 0 }, { name := "serialVersionUID", type := .long, accessFlags := 26, slot := 5, constantValue := 0 }]
  methods := #[k15m0, k15m1]
  instanceTypes := #[.long]
  staticTypes := #[.long, .long, (.object "java/lang/Class"), .int, .int, .long]
  resolved := Array.replicate 524 none
  statics := none }

def pool16 : Array CpInfo := pool [(1, u "java/lang/Cloneable"), (0, .class_ 1), (0, u "java/lang/Object"), (0, .class_ 3)] 3

/-- java/lang/Cloneable -/
def k16 : Class := { plain "java/lang/Cloneable" (some 0) with
  accessFlags := 1537
  interfaces := #[]
  cf := some (fileOf pool16 2 #[] #[] 1537 4 #[] #[])
  fields := #[]
  methods := #[]
  instanceTypes := #[]
  staticTypes := #[]
  resolved := Array.replicate 8 none
  statics := none }

/-- the primitive byte -/
def k17 : Class := { plain "byte" none with kind := .primitive 'B', accessFlags := 0x411 }
/-- [B -/
def k18 : Class := { plain "[B" (some 0) with kind := .array 17 .byte, interfaces := #[16, 5], accessFlags := 1041 }

/-- the primitive int -/
def k19 : Class := { plain "int" none with kind := .primitive 'I', accessFlags := 0x411 }
/-- [I -/
def k20 : Class := { plain "[I" (some 0) with kind := .array 19 .int, interfaces := #[16, 5], accessFlags := 1041 }

/-- the primitive long -/
def k21 : Class := { plain "long" none with kind := .primitive 'J', accessFlags := 0x411 }
/-- [J -/
def k22 : Class := { plain "[J" (some 0) with kind := .array 21 .long, interfaces := #[16, 5], accessFlags := 1041 }

/-- [[B -/
def k23 : Class := { plain "[[B" (some 0) with kind := .array 18 (.array .byte), interfaces := #[16, 5], accessFlags := 1041 }

def heap : Heap := #[]
def classes : Array Class := #[k0, k1, k2, k3, k4, k5, k6, k7, k8, k9, k10, k11, k12, k13, k14, k15, k16, k17, k18, k19, k20, k21, k22, k23]
def interned : List (Array UInt16 × Addr) := []
def slotsUsed : Nat := 0
def theMethod : MethodId := ⟨1, 3⟩
def args0 : Array Value := #[.long 5, .long 7, .long 9, .int 83, .int 7, .int 1]
def aboutOver (below : List Frame) : State where
  vm := { classes := classes, interned := interned.toArray }
  heap := heap
  slotsUsed := slotsUsed
  threads := #[{ frames := .invoking theMethod args0 :: below }]
def below0 : List Frame := [.native { method := ⟨0, 0⟩, args := #[] }]
def about1 : State := aboutOver below0
def p0 : Program := .bare "" "" ""
def e0 : Env := launch0.env 0 0 0
theorem w_frames : about1.frames = Frame.invoking theMethod args0 :: below0 := rfl
set_option maxRecDepth 65536 in
theorem w_args : argsFit about1.vm theMethod args0 = true := by decide +kernel
set_option maxRecDepth 65536 in
theorem w_heap : heapFits about1 = true := by decide +kernel
set_option maxRecDepth 65536 in
theorem w_runnable : about1.curStatus? = some .runnable := by decide +kernel
set_option maxRecDepth 65536 in
theorem w_alone : about1.alone = true := by decide +kernel
set_option maxRecDepth 65536 in
theorem w_named : about1.methodNamed? x = some theMethod := by decide +kernel
set_option maxRecDepth 65536 in
theorem w_hears : about1.hears theMethod below0 = true := by decide +kernel
set_option maxRecDepth 65536 in
theorem w_ripe : about1.ripe theMethod args0 below0 = true := by decide +kernel
theorem w_running : about1.status = .running := rfl
set_option maxRecDepth 65536 in
theorem w_room : about1.hasRoom e0.platform room_1 = true :=
  launch0.hasRoom_least _ room_1 (by decide +kernel) (by decide +kernel) (by decide +kernel) (by decide +kernel) (by decide +kernel) (by decide +kernel)
theorem allAtoms_all (ts : List Jvm.Cond) (a : Array Jvm.Value) (st : Jvm.State) : (allAtoms ts).before a st = ts.all (fun c => c.before a st) := by
  induction ts with
  | nil => rfl
  | cons c t ih =>
    show (Jvm.Cond.and c (allAtoms t)).before a st = _
    rw [Jvm.Cond.before_and, ih, List.all_cons]
def words1 : List Jvm.Cond := Jvm.Cond.code x code maxLocals ret :: tables_1
/-- a 'code' word, met by the world's own term for the bytes: nothing is compared byte by byte -/
theorem code_word {y : MethodName} {bytes : ByteArray} {mx : Nat} {rt : Option FieldType} {a : Array Value} {s : State} {m : MethodId} {meth : Method} {c : Code} (h1 : s.methodNamed? y = some m) (h2 : s.vm.method? m = some meth) (h3 : meth.code = some c) (h4 : c.code = bytes)
    (h5 : (c.maxLocals == mx && c.exceptionTable.isEmpty && decide (c.maxStack ≤ mostOperands) && decide (meth.sig.returnType = rt) && !meth.locks && decide (parseMethodDescriptor y.desc = some meth.sig)) = true) : (Jvm.Cond.code y bytes mx rt).before a s = true := by
  simp only [Bool.and_eq_true, beq_iff_eq, Bool.not_eq_true', decide_eq_true_eq] at h5
  obtain ⟨⟨⟨⟨⟨g1, g2⟩, g3⟩, g4⟩, g5⟩, g6⟩ := h5
  simp [Cond.before, Cond.holds, Cond.value, h1, h2, h3, h4, g1, g2, g3, g4, g5, g6]
def isCode : Jvm.Cond → Bool
  | .code _ _ _ _ => true
  | _ => false
theorem all_split {L : List Jvm.Cond} {P : Jvm.Cond → Bool} (h1 : L.all (fun c => isCode c || P c) = true) (h2 : ∀ c ∈ L.filter isCode, P c = true) : L.all P = true := by
  refine List.all_eq_true.mpr fun c hc => ?_
  have h := List.all_eq_true.mp h1 c hc
  rcases Bool.eq_false_or_eq_true (isCode c) with hi | hi
  · exact h2 c (List.mem_filter.mpr ⟨hc, hi⟩)
  · simpa [hi] using h
set_option maxRecDepth 65536 in
theorem w_c0 : (Jvm.Cond.code x code maxLocals ret).before args0 about1 = true := code_word (m := ⟨1, 3⟩) (meth := k1m3) (c := k1c3) (by decide +kernel) rfl rfl rfl (by decide +kernel)
set_option maxRecDepth 65536 in
theorem w_c1 : (Jvm.Cond.code ({ cls := "com/example/tallysketch/tallysketch/Recordinality", name := "<init>", desc := "(II)V" } : Jvm.MethodName) prog_7_method_1_code (3 : Nat) (Option.none : Option Jvm.ClassFile.FieldType)).before args0 about1 = true := code_word (m := ⟨3, 0⟩) (meth := k3m0) (c := k3c0) (by decide +kernel) rfl rfl rfl (by decide +kernel)
set_option maxRecDepth 65536 in
theorem w_c2 : (Jvm.Cond.code ({ cls := "com/example/tallysketch/tallysketch/Sketch", name := "<init>", desc := "(I)V" } : Jvm.MethodName) prog_12_method_1_code (2 : Nat) (Option.none : Option Jvm.ClassFile.FieldType)).before args0 about1 = true := code_word (m := ⟨2, 0⟩) (meth := k2m0) (c := k2c0) (by decide +kernel) rfl rfl rfl (by decide +kernel)
set_option maxRecDepth 65536 in
theorem w_c3 : (Jvm.Cond.code ({ cls := "java/lang/Object", name := "<init>", desc := "()V" } : Jvm.MethodName) object_method_1_code (1 : Nat) (Option.none : Option Jvm.ClassFile.FieldType)).before args0 about1 = true := code_word (m := ⟨0, 0⟩) (meth := k0m0) (c := k0c0) (by decide +kernel) rfl rfl rfl (by decide +kernel)
set_option maxRecDepth 65536 in
theorem w_c4 : (Jvm.Cond.code ({ cls := "com/example/tallysketch/tallysketch/MurmurHash3", name := "<init>", desc := "(I)V" } : Jvm.MethodName) prog_6_method_1_code (2 : Nat) (Option.none : Option Jvm.ClassFile.FieldType)).before args0 about1 = true := code_word (m := ⟨4, 0⟩) (meth := k4m0) (c := k4c0) (by decide +kernel) rfl rfl rfl (by decide +kernel)
set_option maxRecDepth 65536 in
theorem w_c5 : (Jvm.Cond.code ({ cls := "java/lang/Integer", name := "toUnsignedLong", desc := "(I)J" } : Jvm.MethodName) jdk_33_method_42_code (1 : Nat) (Option.some Jvm.ClassFile.FieldType.long)).before args0 about1 = true := code_word (m := ⟨10, 0⟩) (meth := k10m0) (c := k10c0) (by decide +kernel) rfl rfl rfl (by decide +kernel)
set_option maxRecDepth 65536 in
theorem w_c6 : (Jvm.Cond.code ({ cls := "com/example/tallysketch/tallysketch/MurmurHash3", name := "start", desc := "()V" } : Jvm.MethodName) prog_6_method_7_code (1 : Nat) (Option.none : Option Jvm.ClassFile.FieldType)).before args0 about1 = true := code_word (m := ⟨4, 1⟩) (meth := k4m1) (c := k4c1) (by decide +kernel) rfl rfl rfl (by decide +kernel)
set_option maxRecDepth 65536 in
theorem w_c7 : (Jvm.Cond.code ({ cls := "com/example/tallysketch/tallysketch/LargestHashes", name := "<init>", desc := "(I)V" } : Jvm.MethodName) prog_2_method_1_code (3 : Nat) (Option.none : Option Jvm.ClassFile.FieldType)).before args0 about1 = true := code_word (m := ⟨11, 0⟩) (meth := k11m0) (c := k11c0) (by decide +kernel) rfl rfl rfl (by decide +kernel)
set_option maxRecDepth 65536 in
theorem w_c8 : (Jvm.Cond.code ({ cls := "java/lang/Integer", name := "highestOneBit", desc := "(I)I" } : Jvm.MethodName) jdk_33_method_45_code (1 : Nat) (Option.some Jvm.ClassFile.FieldType.int)).before args0 about1 = true := code_word (m := ⟨10, 1⟩) (meth := k10m1) (c := k10c1) (by decide +kernel) rfl rfl rfl (by decide +kernel)
set_option maxRecDepth 65536 in
theorem w_c9 : (Jvm.Cond.code ({ cls := "java/lang/Integer", name := "numberOfLeadingZeros", desc := "(I)I" } : Jvm.MethodName) jdk_33_method_47_code (2 : Nat) (Option.some Jvm.ClassFile.FieldType.int)).before args0 about1 = true := code_word (m := ⟨10, 2⟩) (meth := k10m2) (c := k10c2) (by decide +kernel) rfl rfl rfl (by decide +kernel)
set_option maxRecDepth 65536 in
theorem w_c10 : (Jvm.Cond.code ({ cls := "java/util/Arrays", name := "fill", desc := "([II)V" } : Jvm.MethodName) jdk_65_method_103_code (4 : Nat) (Option.none : Option Jvm.ClassFile.FieldType)).before args0 about1 = true := code_word (m := ⟨12, 1⟩) (meth := k12m1) (c := k12c1) (by decide +kernel) rfl rfl rfl (by decide +kernel)
set_option maxRecDepth 65536 in
theorem w_c11 : (Jvm.Cond.code ({ cls := "com/example/tallysketch/tallysketch/Recordinality", name := "offerItem", desc := "(J[BII)V" } : Jvm.MethodName) prog_7_method_11_code (9 : Nat) (Option.none : Option Jvm.ClassFile.FieldType)).before args0 about1 = true := code_word (m := ⟨3, 2⟩) (meth := k3m2) (c := k3c2) (by decide +kernel) rfl rfl rfl (by decide +kernel)
set_option maxRecDepth 65536 in
theorem w_c12 : (Jvm.Cond.code ({ cls := "com/example/tallysketch/tallysketch/LargestHashes", name := "indexOf", desc := "(J)I" } : Jvm.MethodName) prog_2_method_4_code (3 : Nat) (Option.some Jvm.ClassFile.FieldType.int)).before args0 about1 = true := code_word (m := ⟨11, 2⟩) (meth := k11m2) (c := k11c2) (by decide +kernel) rfl rfl rfl (by decide +kernel)
set_option maxRecDepth 65536 in
theorem w_c13 : (Jvm.Cond.code ({ cls := "com/example/tallysketch/tallysketch/LargestHashes", name := "full", desc := "()Z" } : Jvm.MethodName) prog_2_method_7_code (1 : Nat) (Option.some Jvm.ClassFile.FieldType.boolean)).before args0 about1 = true := code_word (m := ⟨11, 5⟩) (meth := k11m5) (c := k11c5) (by decide +kernel) rfl rfl rfl (by decide +kernel)
set_option maxRecDepth 65536 in
theorem w_c14 : (Jvm.Cond.code ({ cls := "com/example/tallysketch/tallysketch/LargestHashes", name := "slotOf", desc := "(J)I" } : Jvm.MethodName) prog_2_method_8_code (4 : Nat) (Option.some Jvm.ClassFile.FieldType.int)).before args0 about1 = true := code_word (m := ⟨11, 6⟩) (meth := k11m6) (c := k11c6) (by decide +kernel) rfl rfl rfl (by decide +kernel)
set_option maxRecDepth 65536 in
theorem w_c15 : (Jvm.Cond.code ({ cls := "com/example/tallysketch/tallysketch/LargestHashes", name := "admits", desc := "(J)Z" } : Jvm.MethodName) prog_2_method_5_code (3 : Nat) (Option.some Jvm.ClassFile.FieldType.boolean)).before args0 about1 = true := code_word (m := ⟨11, 3⟩) (meth := k11m3) (c := k11c3) (by decide +kernel) rfl rfl rfl (by decide +kernel)
set_option maxRecDepth 65536 in
theorem w_c16 : (Jvm.Cond.code ({ cls := "java/util/Arrays", name := "copyOfRange", desc := "([BII)[B" } : Jvm.MethodName) jdk_65_method_132_code (3 : Nat) (Option.some (Jvm.ClassFile.FieldType.array Jvm.ClassFile.FieldType.byte))).before args0 about1 = true := code_word (m := ⟨12, 3⟩) (meth := k12m3) (c := k12c3) (by decide +kernel) rfl rfl rfl (by decide +kernel)
set_option maxRecDepth 65536 in
theorem w_c17 : (Jvm.Cond.code ({ cls := "java/util/Arrays", name := "copyOfRangeByte", desc := "([BII)[B" } : Jvm.MethodName) jdk_65_method_133_code (5 : Nat) (Option.some (Jvm.ClassFile.FieldType.array Jvm.ClassFile.FieldType.byte))).before args0 about1 = true := code_word (m := ⟨12, 4⟩) (meth := k12m4) (c := k12c4) (by decide +kernel) rfl rfl rfl (by decide +kernel)
set_option maxRecDepth 65536 in
theorem w_c18 : (Jvm.Cond.code ({ cls := "java/util/Arrays", name := "checkLength", desc := "(II)V" } : Jvm.MethodName) jdk_65_method_131_code (2 : Nat) (Option.none : Option Jvm.ClassFile.FieldType)).before args0 about1 = true := code_word (m := ⟨12, 2⟩) (meth := k12m2) (c := k12c2) (by decide +kernel) rfl rfl rfl (by decide +kernel)
set_option maxRecDepth 65536 in
theorem w_c19 : (Jvm.Cond.code ({ cls := "java/lang/Math", name := "min", desc := "(II)I" } : Jvm.MethodName) jdk_29_method_69_code (2 : Nat) (Option.some Jvm.ClassFile.FieldType.int)).before args0 about1 = true := code_word (m := ⟨13, 1⟩) (meth := k13m1) (c := k13c1) (by decide +kernel) rfl rfl rfl (by decide +kernel)
set_option maxRecDepth 65536 in
theorem w_c20 : (Jvm.Cond.code ({ cls := "com/example/tallysketch/tallysketch/LargestHashes", name := "add", desc := "(J)I" } : Jvm.MethodName) prog_2_method_6_code (5 : Nat) (Option.some Jvm.ClassFile.FieldType.int)).before args0 about1 = true := code_word (m := ⟨11, 4⟩) (meth := k11m4) (c := k11c4) (by decide +kernel) rfl rfl rfl (by decide +kernel)
set_option maxRecDepth 65536 in
theorem w_c21 : (Jvm.Cond.code ({ cls := "com/example/tallysketch/tallysketch/LargestHashes", name := "addToHeap", desc := "(J)V" } : Jvm.MethodName) prog_2_method_10_code (5 : Nat) (Option.none : Option Jvm.ClassFile.FieldType)).before args0 about1 = true := code_word (m := ⟨11, 8⟩) (meth := k11m8) (c := k11c8) (by decide +kernel) rfl rfl rfl (by decide +kernel)
set_option maxRecDepth 65536 in
theorem w_c22 : (Jvm.Cond.code ({ cls := "java/lang/Long", name := "compareUnsigned", desc := "(JJ)I" } : Jvm.MethodName) jdk_35_method_43_code (4 : Nat) (Option.some Jvm.ClassFile.FieldType.int)).before args0 about1 = true := code_word (m := ⟨15, 1⟩) (meth := k15m1) (c := k15c1) (by decide +kernel) rfl rfl rfl (by decide +kernel)
set_option maxRecDepth 65536 in
theorem w_c23 : (Jvm.Cond.code ({ cls := "java/lang/Long", name := "compare", desc := "(JJ)I" } : Jvm.MethodName) jdk_35_method_42_code (4 : Nat) (Option.some Jvm.ClassFile.FieldType.int)).before args0 about1 = true := code_word (m := ⟨15, 0⟩) (meth := k15m0) (c := k15c0) (by decide +kernel) rfl rfl rfl (by decide +kernel)
set_option maxRecDepth 65536 in
theorem w_c24 : (Jvm.Cond.code ({ cls := "com/example/tallysketch/tallysketch/LargestHashes", name := "removeFromTable", desc := "(J)I" } : Jvm.MethodName) prog_2_method_9_code (7 : Nat) (Option.some Jvm.ClassFile.FieldType.int)).before args0 about1 = true := code_word (m := ⟨11, 7⟩) (meth := k11m7) (c := k11c7) (by decide +kernel) rfl rfl rfl (by decide +kernel)
set_option maxRecDepth 65536 in
theorem w_c25 : (Jvm.Cond.code ({ cls := "com/example/tallysketch/tallysketch/LargestHashes", name := "replaceSmallest", desc := "(J)V" } : Jvm.MethodName) prog_2_method_11_code (5 : Nat) (Option.none : Option Jvm.ClassFile.FieldType)).before args0 about1 = true := code_word (m := ⟨11, 9⟩) (meth := k11m9) (c := k11c9) (by decide +kernel) rfl rfl rfl (by decide +kernel)
set_option maxRecDepth 65536 in
theorem w_c26 : (Jvm.Cond.code ({ cls := "com/example/tallysketch/tallysketch/Recordinality", name := "contentLength", desc := "()J" } : Jvm.MethodName) prog_7_method_8_code (4 : Nat) (Option.some Jvm.ClassFile.FieldType.long)).before args0 about1 = true := code_word (m := ⟨3, 1⟩) (meth := k3m1) (c := k3c1) (by decide +kernel) rfl rfl rfl (by decide +kernel)
set_option maxRecDepth 65536 in
theorem w_c27 : (Jvm.Cond.code ({ cls := "com/example/tallysketch/tallysketch/LargestHashes", name := "size", desc := "()I" } : Jvm.MethodName) prog_2_method_3_code (1 : Nat) (Option.some Jvm.ClassFile.FieldType.int)).before args0 about1 = true := code_word (m := ⟨11, 1⟩) (meth := k11m1) (c := k11c1) (by decide +kernel) rfl rfl rfl (by decide +kernel)
set_option maxRecDepth 65536 in
theorem w_c28 : (Jvm.Cond.code ({ cls := "com/example/tallysketch/tallysketch/RecordinalityContentLengthPinLaw", name := "gtU", desc := "(JJ)Z" } : Jvm.MethodName) method_2_code (4 : Nat) (Option.some Jvm.ClassFile.FieldType.boolean)).before args0 about1 = true := code_word (m := ⟨1, 1⟩) (meth := k1m1) (c := k1c1) (by decide +kernel) rfl rfl rfl (by decide +kernel)
set_option maxRecDepth 65536 in
theorem w_c29 : (Jvm.Cond.code ({ cls := "com/example/tallysketch/tallysketch/RecordinalityContentLengthPinLaw", name := "one", desc := "(Z)I" } : Jvm.MethodName) method_3_code (1 : Nat) (Option.some Jvm.ClassFile.FieldType.int)).before args0 about1 = true := code_word (m := ⟨1, 2⟩) (meth := k1m2) (c := k1c2) (by decide +kernel) rfl rfl rfl (by decide +kernel)
def codes1 : List Jvm.Cond := [Jvm.Cond.code x code maxLocals ret, Jvm.Cond.code ({ cls := "com/example/tallysketch/tallysketch/Recordinality", name := "<init>", desc := "(II)V" } : Jvm.MethodName) prog_7_method_1_code (3 : Nat) (Option.none : Option Jvm.ClassFile.FieldType), Jvm.Cond.code ({ cls := "com/example/tallysketch/tallysketch/Sketch", name := "<init>", desc := "(I)V" } : Jvm.MethodName) prog_12_method_1_code (2 : Nat) (Option.none : Option Jvm.ClassFile.FieldType), Jvm.Cond.code ({ cls := "java/lang/Object", name := "<init>", desc := "()V" } : Jvm.MethodName) object_method_1_code (1 : Nat) (Option.none : Option Jvm.ClassFile.FieldType), Jvm.Cond.code ({ cls := "com/example/tallysketch/tallysketch/MurmurHash3", name := "<init>", desc := "(I)V" } : Jvm.MethodName) prog_6_method_1_code (2 : Nat) (Option.none : Option Jvm.ClassFile.FieldType), Jvm.Cond.code ({ cls := "java/lang/Integer", name := "toUnsignedLong", desc := "(I)J" } : Jvm.MethodName) jdk_33_method_42_code (1 : Nat) (Option.some Jvm.ClassFile.FieldType.long), Jvm.Cond.code ({ cls := "com/example/tallysketch/tallysketch/MurmurHash3", name := "start", desc := "()V" } : Jvm.MethodName) prog_6_method_7_code (1 : Nat) (Option.none : Option Jvm.ClassFile.FieldType), Jvm.Cond.code ({ cls := "com/example/tallysketch/tallysketch/LargestHashes", name := "<init>", desc := "(I)V" } : Jvm.MethodName) prog_2_method_1_code (3 : Nat) (Option.none : Option Jvm.ClassFile.FieldType), Jvm.Cond.code ({ cls := "java/lang/Integer", name := "highestOneBit", desc := "(I)I" } : Jvm.MethodName) jdk_33_method_45_code (1 : Nat) (Option.some Jvm.ClassFile.FieldType.int), Jvm.Cond.code ({ cls := "java/lang/Integer", name := "numberOfLeadingZeros", desc := "(I)I" } : Jvm.MethodName) jdk_33_method_47_code (2 : Nat) (Option.some Jvm.ClassFile.FieldType.int), Jvm.Cond.code ({ cls := "java/util/Arrays", name := "fill", desc := "([II)V" } : Jvm.MethodName) jdk_65_method_103_code (4 : Nat) (Option.none : Option Jvm.ClassFile.FieldType), Jvm.Cond.code ({ cls := "com/example/tallysketch/tallysketch/Recordinality", name := "offerItem", desc := "(J[BII)V" } : Jvm.MethodName) prog_7_method_11_code (9 : Nat) (Option.none : Option Jvm.ClassFile.FieldType), Jvm.Cond.code ({ cls := "com/example/tallysketch/tallysketch/LargestHashes", name := "indexOf", desc := "(J)I" } : Jvm.MethodName) prog_2_method_4_code (3 : Nat) (Option.some Jvm.ClassFile.FieldType.int), Jvm.Cond.code ({ cls := "com/example/tallysketch/tallysketch/LargestHashes", name := "full", desc := "()Z" } : Jvm.MethodName) prog_2_method_7_code (1 : Nat) (Option.some Jvm.ClassFile.FieldType.boolean), Jvm.Cond.code ({ cls := "com/example/tallysketch/tallysketch/LargestHashes", name := "slotOf", desc := "(J)I" } : Jvm.MethodName) prog_2_method_8_code (4 : Nat) (Option.some Jvm.ClassFile.FieldType.int), Jvm.Cond.code ({ cls := "com/example/tallysketch/tallysketch/LargestHashes", name := "admits", desc := "(J)Z" } : Jvm.MethodName) prog_2_method_5_code (3 : Nat) (Option.some Jvm.ClassFile.FieldType.boolean), Jvm.Cond.code ({ cls := "java/util/Arrays", name := "copyOfRange", desc := "([BII)[B" } : Jvm.MethodName) jdk_65_method_132_code (3 : Nat) (Option.some (Jvm.ClassFile.FieldType.array Jvm.ClassFile.FieldType.byte)), Jvm.Cond.code ({ cls := "java/util/Arrays", name := "copyOfRangeByte", desc := "([BII)[B" } : Jvm.MethodName) jdk_65_method_133_code (5 : Nat) (Option.some (Jvm.ClassFile.FieldType.array Jvm.ClassFile.FieldType.byte)), Jvm.Cond.code ({ cls := "java/util/Arrays", name := "checkLength", desc := "(II)V" } : Jvm.MethodName) jdk_65_method_131_code (2 : Nat) (Option.none : Option Jvm.ClassFile.FieldType), Jvm.Cond.code ({ cls := "java/lang/Math", name := "min", desc := "(II)I" } : Jvm.MethodName) jdk_29_method_69_code (2 : Nat) (Option.some Jvm.ClassFile.FieldType.int), Jvm.Cond.code ({ cls := "com/example/tallysketch/tallysketch/LargestHashes", name := "add", desc := "(J)I" } : Jvm.MethodName) prog_2_method_6_code (5 : Nat) (Option.some Jvm.ClassFile.FieldType.int), Jvm.Cond.code ({ cls := "com/example/tallysketch/tallysketch/LargestHashes", name := "addToHeap", desc := "(J)V" } : Jvm.MethodName) prog_2_method_10_code (5 : Nat) (Option.none : Option Jvm.ClassFile.FieldType), Jvm.Cond.code ({ cls := "java/lang/Long", name := "compareUnsigned", desc := "(JJ)I" } : Jvm.MethodName) jdk_35_method_43_code (4 : Nat) (Option.some Jvm.ClassFile.FieldType.int), Jvm.Cond.code ({ cls := "java/lang/Long", name := "compare", desc := "(JJ)I" } : Jvm.MethodName) jdk_35_method_42_code (4 : Nat) (Option.some Jvm.ClassFile.FieldType.int), Jvm.Cond.code ({ cls := "com/example/tallysketch/tallysketch/LargestHashes", name := "removeFromTable", desc := "(J)I" } : Jvm.MethodName) prog_2_method_9_code (7 : Nat) (Option.some Jvm.ClassFile.FieldType.int), Jvm.Cond.code ({ cls := "com/example/tallysketch/tallysketch/LargestHashes", name := "replaceSmallest", desc := "(J)V" } : Jvm.MethodName) prog_2_method_11_code (5 : Nat) (Option.none : Option Jvm.ClassFile.FieldType), Jvm.Cond.code ({ cls := "com/example/tallysketch/tallysketch/Recordinality", name := "contentLength", desc := "()J" } : Jvm.MethodName) prog_7_method_8_code (4 : Nat) (Option.some Jvm.ClassFile.FieldType.long), Jvm.Cond.code ({ cls := "com/example/tallysketch/tallysketch/LargestHashes", name := "size", desc := "()I" } : Jvm.MethodName) prog_2_method_3_code (1 : Nat) (Option.some Jvm.ClassFile.FieldType.int), Jvm.Cond.code ({ cls := "com/example/tallysketch/tallysketch/RecordinalityContentLengthPinLaw", name := "gtU", desc := "(JJ)Z" } : Jvm.MethodName) method_2_code (4 : Nat) (Option.some Jvm.ClassFile.FieldType.boolean), Jvm.Cond.code ({ cls := "com/example/tallysketch/tallysketch/RecordinalityContentLengthPinLaw", name := "one", desc := "(Z)I" } : Jvm.MethodName) method_3_code (1 : Nat) (Option.some Jvm.ClassFile.FieldType.int)]
set_option maxRecDepth 65536 in
theorem codes_eq : words1.filter isCode = codes1 := rfl
theorem w_codes : ∀ c ∈ words1.filter isCode, c.before args0 about1 = true := by
  rw [codes_eq]
  intro c hc
  simp only [codes1, List.mem_cons, List.not_mem_nil, or_false] at hc
  rcases hc with rfl | rfl | rfl | rfl | rfl | rfl | rfl | rfl | rfl | rfl | rfl | rfl | rfl | rfl | rfl | rfl | rfl | rfl | rfl | rfl | rfl | rfl | rfl | rfl | rfl | rfl | rfl | rfl | rfl | rfl
  · exact w_c0
  · exact w_c1
  · exact w_c2
  · exact w_c3
  · exact w_c4
  · exact w_c5
  · exact w_c6
  · exact w_c7
  · exact w_c8
  · exact w_c9
  · exact w_c10
  · exact w_c11
  · exact w_c12
  · exact w_c13
  · exact w_c14
  · exact w_c15
  · exact w_c16
  · exact w_c17
  · exact w_c18
  · exact w_c19
  · exact w_c20
  · exact w_c21
  · exact w_c22
  · exact w_c23
  · exact w_c24
  · exact w_c25
  · exact w_c26
  · exact w_c27
  · exact w_c28
  · exact w_c29
set_option maxRecDepth 65536 in
theorem w_t1 : (words1.take 24).all (fun c => isCode c || c.before args0 about1) = true := by decide +kernel
set_option maxRecDepth 65536 in
theorem w_t2 : ((words1.drop 24).take 24).all (fun c => isCode c || c.before args0 about1) = true := by decide +kernel
set_option maxRecDepth 65536 in
theorem w_t3 : (((words1.drop 24).drop 24).take 24).all (fun c => isCode c || c.before args0 about1) = true := by decide +kernel
set_option maxRecDepth 65536 in
theorem w_t4 : ((((words1.drop 24).drop 24).drop 24).take 24).all (fun c => isCode c || c.before args0 about1) = true := by decide +kernel
set_option maxRecDepth 65536 in
theorem w_t5 : (((((words1.drop 24).drop 24).drop 24).drop 24).take 24).all (fun c => isCode c || c.before args0 about1) = true := by decide +kernel
set_option maxRecDepth 65536 in
theorem w_t6 : ((((((words1.drop 24).drop 24).drop 24).drop 24).drop 24).take 24).all (fun c => isCode c || c.before args0 about1) = true := by decide +kernel
set_option maxRecDepth 65536 in
theorem w_t7 : (((((((words1.drop 24).drop 24).drop 24).drop 24).drop 24).drop 24).take 24).all (fun c => isCode c || c.before args0 about1) = true := by decide +kernel
set_option maxRecDepth 65536 in
theorem w_t8 : (((((((words1.drop 24).drop 24).drop 24).drop 24).drop 24).drop 24).drop 24).all (fun c => isCode c || c.before args0 about1) = true := by decide +kernel
theorem w_tables : (allAtoms (Jvm.Cond.code x code maxLocals ret :: tables_1)).before args0 about1 = true := by
  rw [allAtoms_all]
  show words1.all (fun c => c.before args0 about1) = true
  refine all_split ?_ w_codes
  rw [← List.take_append_drop 24 words1, List.all_append, w_t1, ← List.take_append_drop 24 (words1.drop 24), List.all_append, w_t2, ← List.take_append_drop 24 ((words1.drop 24).drop 24), List.all_append, w_t3, ← List.take_append_drop 24 (((words1.drop 24).drop 24).drop 24), List.all_append, w_t4, ← List.take_append_drop 24 ((((words1.drop 24).drop 24).drop 24).drop 24), List.all_append, w_t5, ← List.take_append_drop 24 (((((words1.drop 24).drop 24).drop 24).drop 24).drop 24), List.all_append, w_t6, ← List.take_append_drop 24 ((((((words1.drop 24).drop 24).drop 24).drop 24).drop 24).drop 24), List.all_append, w_t7, w_t8]
  rfl
set_option maxRecDepth 65536 in
theorem w_case : (Jvm.Cond.and given_1 narrow_1).before args0 about1 = true := by decide +kernel
theorem w_applies : (headSpec (Jvm.Cond.code x code maxLocals ret :: tables_1) room_1).applies x e0.platform about1 = true :=
  (Spec.applies_iff w_frames).mpr ⟨w_running, w_runnable, w_alone, w_named, w_hears, w_ripe, w_room, w_tables⟩
theorem atStart : AtStart classFile x code maxLocals ret World_1 tables_1 room_1 Calls_1 rest_1 Pre_1 launch0 p0 e0 about1 theMethod args0 below0 :=
  ⟨lists_1, trivial, launch0.admits_env _ _ _, launch0.least_env, fairChoices_fair.cas, fairChoices_fair.clock, w_frames, w_args, w_heap, w_applies, trivial, trivial, w_case⟩
end start1
theorem witness_1 : WitnessClaimed_1 := ⟨start1.p0, start1.e0, start1.about1, start1.theMethod, start1.args0, start1.below0, start1.atStart⟩
end Jvm.Pilot.@@N@@
