import JvmDerived
import JvmDerived.Pilot.@@N@@Statement
import JvmDerived.Pilot.@@N@@Code
set_option linter.unusedVariables false
set_option linter.unusedSimpArgs false
namespace Jvm.RoadKit
open Sem ClassFile Op Lib Jvm.Stand Jvm.Free Jvm.LawKit
section New
variable {p : Program} {l : Launch} {e : Env} {R : Room} {s : State} {m : MethodId} {args : Array Value} {below : List Frame} {meth : Method} {c : Code} {T : State} {locs : List Loc} {cells slots : Nat}
theorem retI (X : Stand p l e R s m args below meth c T locs cells slots) (hx : p.tables.exec = Jvm.exec) {pc : Nat} {Ls : Array Slot} {z : Int32} {rest : List Value} (hret : meth.sig.returnType = some .int) (hd : decode c.code pc = .ok (.ireturn, 1)) {fs : List Frame}
    (hl : ∀ (f : JFrame) (acts : List Action), f.method = m → f.locked = none → f.entered = [] → (doReturn e (T.setTop f) acts (some (.int z))).1 = T.setFrames fs) : Steps p.tables e below (T.setTop (mkF m pc Ls (.int z :: rest))) (T.setFrames fs) := by
  have hm' : T.vm.method? m = some meth := X.method'
  have hn : narrow .int (.int z) = .int z := rfl
  show Steps p.tables e below (T.setTop { method := m, pc := pc, locals := Ls, stack := _ :: rest, locked := none }) _
  jvm_step X.here [X.here.top, hx, hd, hm', hret, hn]
  first | (intro acts; rw [hl _ acts rfl rfl rfl]) | rw [hl _ _ rfl rfl rfl]
  exact Steps.refl _
end New
end Jvm.RoadKit
/- laws to paste: SEq.pays, Road.txt_of, Road.sta_is, Road.same_list (cut by pick.py; bodies as the Statement names them) -/
namespace Jvm.Pilot.@@N@@
namespace StrChars
open Jvm Sem ClassFile Op Lib Jvm.Stand Jvm.Free.XT Jvm.Free.ALB Jvm.Free.JM Jvm.Free
open Jvm.Lib.Cold (StaticIs)
/-- the byte that i2b leaves of a char -/
def lo8 (x : Int32) : Int32 := x.toInt8.toInt32
theorem fits_lo8 (y : Int32) : fits .byte (.int (lo8 y)) = true := by
  have h1 := y.toInt8.le_toInt
  have h2 := y.toInt8.toInt_lt
  simp only [lo8, fits, Bool.and_eq_true, decide_eq_true_eq, Int32.le_iff_toInt_le, Int8.toInt_toInt32, show (-128 : Int32).toInt = -128 from by decide, show (127 : Int32).toInt = 127 from by decide]
  omega
/-- the byte, read back as charAt reads it, is the char -/
theorem lo8_mask {x : Int32} (h0 : ¬ x < 0) (h1 : ¬ 255 < x) : lo8 x &&& 255 = x := by
  have t : ∀ k : Fin 256, lo8 (Int32.ofNat k.val) &&& 255 = Int32.ofNat k.val := by decide +kernel
  rw [Int32.lt_iff_toInt_lt] at h0 h1
  have e0 : (0 : Int32).toInt = 0 := rfl
  have e1 : (255 : Int32).toInt = 255 := rfl
  obtain ⟨k, hk⟩ : ∃ k : Nat, x.toInt = k := ⟨x.toInt.toNat, by omega⟩
  have hx : x = Int32.ofNat k := Int32.toInt_inj.mp (by rw [hk, Int32.toInt_ofNat_small (by omega)])
  rw [hx]
  exact t ⟨k, by omega⟩
end StrChars
namespace StrChars.Road
open Jvm Sem ClassFile Op Lib Jvm.Stand Jvm.Free Jvm.Free.XT
open Jvm.Lib.Cold (StaticIs)
abbrev ST : String := "java/lang/String"
end StrChars.Road
namespace StrChars
open Jvm Sem ClassFile Op Lib Jvm.Stand Jvm.Free.XT Jvm.Free.ALB Jvm.Free.JM Jvm.Free
open Jvm.Lib.Cold (StaticIs)
def hi8 (x : Int32) : Int32 := lo8 (x >>> ((8 : Int32) &&& 31))
/-- what StringUTF16.getChar makes of two bytes -/
def pairCh (u v : Int32) : Int32 := (((u &&& 255) <<< ((0 : Int32) &&& 31)) ||| ((v &&& 255) <<< ((8 : Int32) &&& 31))).toUInt32.toUInt16.toUInt32.toInt32
theorem lo8_and (x : Int32) : (lo8 x &&& 255).toBitVec.toNat = x.toBitVec.toNat % 256 := by
  have h : (lo8 x).toBitVec = (x.toBitVec.signExtend 8).signExtend 32 := by rw [lo8, Int8.toBitVec_toInt32, Int32.toBitVec_toInt8]
  rw [Int32.toBitVec_and, BitVec.toNat_and, h]
  have e : ((x.toBitVec.signExtend 8).signExtend 32).toNat % 256 = x.toBitVec.toNat % 256 := by
    rw [BitVec.toNat_signExtend]
    have hlt := x.toBitVec.isLt
    simp only [BitVec.toNat_setWidth, BitVec.toNat_signExtend]
    split <;> split <;> omega
  rw [← e]
  exact Nat.and_two_pow_sub_one_eq_mod _ 8
theorem pair_says {c : Int32} (h0 : ¬ c < 0) (h1 : ¬ 65535 < c) : pairCh (lo8 c) (hi8 c) = c := by
  rw [Int32.lt_iff_toInt_lt] at h0 h1
  have e0 : (0 : Int32).toInt = 0 := rfl
  have e1 : (65535 : Int32).toInt = 65535 := rfl
  have hc : c.toInt = c.toBitVec.toNat := by
    have := c.toBitVec.isLt
    have e : c.toInt = c.toBitVec.toInt := rfl
    rw [e] at h0 h1
    rw [e]
    rw [BitVec.toInt_eq_toNat_cond] at h0 h1 ⊢
    split at h0 <;> split <;> omega
  have hn : c.toBitVec.toNat < 65536 := by omega
  have a1 := lo8_and c
  have a2 : (hi8 c &&& 255).toBitVec.toNat = c.toBitVec.toNat / 256 := by
    rw [hi8, lo8_and]
    have e : ((8 : Int32) &&& 31) = 8 := by decide
    rw [e, Int32.toBitVec_shiftRight]
    have e2 : ((8 : Int32).toBitVec.smod 32) = 8#32 := by decide
    rw [e2, BitVec.sshiftRight_eq', BitVec.toNat_sshiftRight_of_msb_false (by rw [BitVec.msb_eq_false_iff_two_mul_lt]; omega)]
    show c.toBitVec.toNat >>> 8 % 256 = _
    rw [Nat.shiftRight_eq_div_pow]
    omega
  unfold pairCh
  apply Int32.toBitVec_inj.mp
  apply BitVec.eq_of_toNat_eq
  have f0 : ((0 : Int32) &&& 31) = 0 := by decide
  have f8 : ((8 : Int32) &&& 31) = 8 := by decide
  rw [f0, f8]
  have g : (((lo8 c &&& 255) <<< (0 : Int32)) ||| ((hi8 c &&& 255) <<< (8 : Int32))).toBitVec.toNat = c.toBitVec.toNat := by
    rw [Int32.toBitVec_or, Int32.toBitVec_shiftLeft, Int32.toBitVec_shiftLeft]
    have s0 : ((0 : Int32).toBitVec.smod 32) = 0#32 := by decide
    have s8 : ((8 : Int32).toBitVec.smod 32) = 8#32 := by decide
    rw [s0, s8, BitVec.toNat_or]
    simp only [BitVec.shiftLeft_eq', BitVec.toNat_shiftLeft, a1, a2]
    show (c.toBitVec.toNat % 256) <<< 0 % 2 ^ 32 ||| (c.toBitVec.toNat / 256) <<< 8 % 2 ^ 32 = _
    rw [Nat.shiftLeft_zero, Nat.mod_eq_of_lt (show c.toBitVec.toNat % 256 < 2 ^ 32 by omega), Nat.mod_eq_of_lt (show (c.toBitVec.toNat / 256) <<< 8 < 2 ^ 32 by rw [Nat.shiftLeft_eq]; omega), Nat.or_comm, ← Nat.shiftLeft_add_eq_or_of_lt (by omega), Nat.shiftLeft_eq]
    omega
  show BitVec.toNat (((((lo8 c &&& 255) <<< (0 : Int32)) ||| ((hi8 c &&& 255) <<< (8 : Int32))).toBitVec.setWidth 16).setWidth 32) = _
  rw [BitVec.toNat_setWidth, BitVec.toNat_setWidth, g]
  omega
end StrChars
namespace StrChars
open Jvm Sem ClassFile Op Lib Jvm.Stand Jvm.Free.XT Jvm.Free.ALB Jvm.Free.JM Jvm.Free
open Jvm.Lib.Cold (StaticIs)
/-- the array's cell V codes the n chars f 0 .. f (n - 1) by the coder cd, as the JDK does: coder 1 just where some char is above 255 -/
def Cod (cd : Int32) (n : Nat) (f : Nat → Int32) (V : Cell) : Prop := (cd = 0 ∧ V.slots.size = n ∧ ∀ j, j < n → V.slots[j]? = some (.int (lo8 (f j))) ∧ ¬ 255 < f j) ∨ (cd = 1 ∧ V.slots.size = 2 * n ∧ (∀ j, j < n → V.slots[2 * j]? = some (.int (lo8 (f j))) ∧ V.slots[2 * j + 1]? = some (.int (hi8 (f j)))) ∧ ∃ j, j < n ∧ 255 < f j)
/-- **x is a String of the n chars f 0 .. f (n - 1)**, Latin-1 or UTF-16; its array at t has the cell V -/
def Txt (x t : Addr) (V : Cell) (cd : Int32) (n : Nat) (f : Nat → Int32) (U : State) : Prop := Exact "java/lang/String" x U ∧ Has x "java/lang/String" "value" "[B" (.ref t) U ∧ Has x "java/lang/String" "coder" "B" (.int cd) U ∧ XT.Arr .byte t V U ∧ Cod cd n f V ∧ ∀ j, j < n → ¬ f j < 0 ∧ ¬ 65535 < f j
theorem Txt.mv {x t : Addr} {V : Cell} {cd : Int32} {n : Nat} {f : Nat → Int32} {U U' : State} (h : Txt x t V cd n f U) (hal : U.vm.Alike U'.vm) (hh : U'.heap = U.heap) : Txt x t V cd n f U' := ⟨h.1.mv hal hh, h.2.1.mv hal hh, h.2.2.1.mv hal hh, h.2.2.2.1.mv hal hh, h.2.2.2.2⟩
end StrChars
namespace StrChars.Road
open Jvm Sem ClassFile Op Lib Jvm.Stand Jvm.Free Jvm.Free.XT
open Jvm.Lib.Cold (StaticIs)
/-- the bytes of the chars cs, low before high -/
def wideBytes : List Int32 → List Value
  | [] => []
  | c :: cs => .int (lo8 c) :: .int (hi8 c) :: wideBytes cs
theorem wide_lo (d : Value) : ∀ (cs : List Int32) (j : Nat), j < cs.length → (wideBytes cs).getD (2 * j) d = .int (lo8 (cs.getD j 0))
  | [], j, h => absurd h (Nat.not_lt_zero j)
  | c :: cs, 0, _ => rfl
  | c :: cs, j + 1, h => by
    have q := wide_lo d cs j (by simpa using h)
    rw [show 2 * (j + 1) = 2 * j + 1 + 1 from by omega]
    simpa [wideBytes] using q
theorem wide_hi (d : Value) : ∀ (cs : List Int32) (j : Nat), j < cs.length → (wideBytes cs).getD (2 * j + 1) d = .int (hi8 (cs.getD j 0))
  | [], j, h => absurd h (Nat.not_lt_zero j)
  | c :: cs, 0, _ => rfl
  | c :: cs, j + 1, h => by
    have q := wide_hi d cs j (by simpa using h)
    rw [show 2 * (j + 1) + 1 = 2 * j + 1 + 1 + 1 from by omega]
    simpa [wideBytes] using q
theorem low_at (d : Value) (cs : List Int32) (j : Nat) (h : j < cs.length) : (cs.map fun c => Value.int (lo8 c)).getD j d = .int (lo8 (cs.getD j 0)) := by
  simp [List.getD_eq_getElem?_getD, h]
/-- an array of N2 bytes vs codes the chars cs by the coder cd -/
def CodA (cs : List Int32) (cd N2 : Int32) (vs : List Value) : Prop := (cd = 0 ∧ N2 = Int32.ofNat cs.length ∧ vs = (cs.map fun c => Value.int (lo8 c)) ∧ ∀ c ∈ cs, ¬ 255 < c) ∨ (cd = 1 ∧ N2 = Int32.ofNat (2 * cs.length) ∧ vs = wideBytes cs ∧ ∃ c ∈ cs, 255 < c)
theorem CodA.cod {cs : List Int32} {cd N2 : Int32} {vs : List Value} {V : Cell} (h : CodA cs cd N2 vs) (hn : 2 * cs.length < 2 ^ 31) (hs : V.slots.size = N2.toNatClampNeg) (hv : RoadKit.Has V vs (.int 0)) : Cod cd cs.length (fun j => cs.getD j 0) V := by
  rcases h with ⟨rfl, rfl, rfl, h⟩ | ⟨rfl, rfl, rfl, c, hc, hw⟩
  · rw [n32 (by omega)] at hs
    exact Or.inl ⟨rfl, hs, fun j hj => ⟨by rw [hv j (by omega), low_at _ _ _ hj], by
      have e : cs.getD j 0 = cs[j] := by simp [List.getD_eq_getElem?_getD, hj]
      show ¬ 255 < cs.getD j 0
      rw [e]; exact h _ (List.getElem_mem _)⟩⟩
  · rw [n32 (by omega)] at hs
    obtain ⟨j, hj, rfl⟩ := List.getElem_of_mem hc
    exact Or.inr ⟨rfl, hs, fun j hj => ⟨by rw [hv _ (by omega), wide_lo _ _ _ hj], by rw [hv _ (by omega), wide_hi _ _ _ hj]⟩, j, hj, by
      have e : cs.getD j 0 = cs[j] := by simp [List.getD_eq_getElem?_getD, hj]
      show 255 < cs.getD j 0
      rw [e]; exact hw⟩
/-- an object of exactly java/lang/String, its two fields found: as the laws ask it -/
theorem strObj {Z U : State} {a0 : Array Value} {kI : Nat} (wi : (Jvm.Cond.instantiable ST kI).before a0 Z = true) (al : Z.vm.Alike U.vm) {x : Addr} {v0 c0 : Value} (E : RoadKit.Exa Z U.heap x ST) (V : RoadKit.Fld Z U.heap x ST "value" "[B" v0) (C : RoadKit.Fld Z U.heap x ST "coder" "B" c0) :
    ∃ (D : Cell) (fV fC : Field), Blank ST x D U ∧ Found ST "value" "[B" fV U ∧ Found ST "coder" "B" fC U ∧ D.slots[fV.slot]? = some v0 ∧ D.slots[fC.slot]? = some c0 ∧ RoadKit.slotOf Z ST "value" "[B" = fV.slot ∧ RoadKit.slotOf Z ST "coder" "B" = fC.slot := by
  obtain ⟨D, cfV, kV, iV, fV, hD, gV, stV, knV, obV, asV, slV⟩ := V
  obtain ⟨D', cfC, kC, iC, fC, hD', gC, stC, -, -, asC, slC⟩ := C
  cases hD.symm.trans hD'
  obtain ⟨D2, kD, e1, e2, e3, e4, e5⟩ := E
  cases hD.symm.trans e1
  obtain ⟨c2, k2, i1, i2, i3, -⟩ := Cond.instantiable_spec wi
  cases e2.symm.trans i1
  cases e3.symm.trans i2
  obtain ⟨kU, u1, u2⟩ := al.2.2 _ _ e3
  exact ⟨D, fV, fC, ⟨hD, ⟨knV, fun q hq => by rw [hq] at obV; cases obV⟩, by rw [al.findClass]; exact e2, kU, u1, by rw [u2]; exact i3, by rw [u2]; exact e5 i3⟩, ⟨SBG.found_only al ⟨cfV, kV, iV, gV⟩, stV⟩, ⟨SBG.found_only al ⟨cfC, kC, iC, gC⟩, stC⟩, slV, slC, by simp [RoadKit.slotOf, gV], by simp [RoadKit.slotOf, gC]⟩
theorem sta_is {Z U : State} (al : Z.vm.Alike U.vm) {C n d : String} {v : Value} (S : RoadKit.Sta Z U.heap C n d v) : StaticIs U C n d v := by
  obtain ⟨cfS, iS, kS, fS, st, cS, t1, t2, t3, t4, t5, t6, t7⟩ := S
  exact StaticIs.there (s := { Z with heap := U.heap }) ⟨cfS, iS, kS, fS, st, cS, t1, t2, t3, t4, t5, (fun q => by rw [q] at t6; cases t6), t7⟩ al rfl
end StrChars.Road
namespace StrChars
open Jvm Sem ClassFile Op Lib Jvm.Stand Jvm.Free.XT Jvm.Free.ALB Jvm.Free.JM Jvm.Free
open Jvm.Lib.Cold (StaticIs)
/-- what place i of a byte[]'s cell holds -/
def yv (A : Cell) (i : Nat) : Int32 := match A.slots[i]? with | some (.int x) => x | _ => 0
theorem yv_get {a : Addr} {A : Cell} {U : State} (h : XT.Arr .byte a A U) (ht : Typed .byte A) {i : Nat} (hi : i < A.slots.size) : A.slots[i]? = some (.int (yv A i)) := by
  have e := Array.getElem?_eq_getElem hi
  have f := ht i _ e
  unfold yv; rw [e]
  generalize A.slots[i] = v at f
  cases v <;> simp [fits] at f ⊢
/-- the two arrays are equal, place for place -/
def EqC (A B : Cell) : Prop := A.slots.size = B.slots.size ∧ ∀ i, i < A.slots.size → yv A i = yv B i
/-- a boolean that says whether p -/
def Says01 (q : Prop) (r : Option Value) (s u : State) : Prop := ∃ v : Int32, r = some (.int v) ∧ u.heap = s.heap ∧ ((v = 1 ∧ q) ∨ (v = 0 ∧ ¬ q))
theorem Says01.mv {q : Prop} : ∀ r (U U' V V' : State), U'.heap = U.heap → V.vm.Alike V'.vm → V'.heap = V.heap → Says01 q r U V → Says01 q r U' V' :=
  fun r U U' V V' h1 _ h2 ⟨v, a, b, c⟩ => ⟨v, a, by rw [h1, h2]; exact b, c⟩
namespace LEq
def yN : MethodName := ⟨"java/lang/StringLatin1", "equals", "([B[B)Z"⟩
abbrev yB : ByteArray := jdk_43_method_13_code
theorem d0 : decode yB 0 = .ok (.aload_n 0, 1) := by decide +kernel
theorem d1 : decode yB 1 = .ok (.arraylength, 1) := by decide +kernel
theorem d2 : decode yB 2 = .ok (.aload_n 1, 1) := by decide +kernel
theorem d3 : decode yB 3 = .ok (.arraylength, 1) := by decide +kernel
theorem d4 : decode yB 4 = .ok (.if_icmp (.ne) 30, 3) := by decide +kernel
theorem d7 : decode yB 7 = .ok (.iconst 0, 1) := by decide +kernel
theorem d8 : decode yB 8 = .ok (.istore_n 2, 1) := by decide +kernel
theorem d9 : decode yB 9 = .ok (.iload_n 2, 1) := by decide +kernel
theorem d10 : decode yB 10 = .ok (.aload_n 0, 1) := by decide +kernel
theorem d11 : decode yB 11 = .ok (.arraylength, 1) := by decide +kernel
theorem d12 : decode yB 12 = .ok (.if_icmp (.ge) 20, 3) := by decide +kernel
theorem d15 : decode yB 15 = .ok (.aload_n 0, 1) := by decide +kernel
theorem d16 : decode yB 16 = .ok (.iload_n 2, 1) := by decide +kernel
theorem d17 : decode yB 17 = .ok (.baload, 1) := by decide +kernel
theorem d18 : decode yB 18 = .ok (.aload_n 1, 1) := by decide +kernel
theorem d19 : decode yB 19 = .ok (.iload_n 2, 1) := by decide +kernel
theorem d20 : decode yB 20 = .ok (.baload, 1) := by decide +kernel
theorem d21 : decode yB 21 = .ok (.if_icmp (.eq) 5, 3) := by decide +kernel
theorem d24 : decode yB 24 = .ok (.iconst 0, 1) := by decide +kernel
theorem d25 : decode yB 25 = .ok (.ireturn, 1) := by decide +kernel
theorem d26 : decode yB 26 = .ok (.iinc 2 1, 3) := by decide +kernel
theorem d29 : decode yB 29 = .ok (.goto (-20), 3) := by decide +kernel
theorem d32 : decode yB 32 = .ok (.iconst 1, 1) := by decide +kernel
theorem d33 : decode yB 33 = .ok (.ireturn, 1) := by decide +kernel
theorem d34 : decode yB 34 = .ok (.iconst 0, 1) := by decide +kernel
theorem d35 : decode yB 35 = .ok (.ireturn, 1) := by decide +kernel
def site : List Cond := []
def tab : Cond := tabOf yN yB 3 (some .boolean) site
def P (a : Addr) (A : Cell) (b : Addr) (B : Cell) (args : Array Value) (s : State) : Prop := args = #[.ref a, .ref b] ∧ XT.Arr .byte a A s ∧ Typed .byte A ∧ XT.Arr .byte b B s ∧ Typed .byte B
/-- whether two byte[] are equal, place for place -/
theorem law (l : Launch) (a : Addr) (A : Cell) (b : Addr) (B : Cell) : Law l yN 2 2 0 0 yB 3 (some .boolean) site (P a A b B) (Says01 (EqC A B)) [] 0 0 := by
  refine Law.of_walk (plainFor_of_name (by decide +kernel)) (by decide +kernel) (by decide +kernel) (by decide) (fun _ _ h => by rw [h.1]; rfl) (fun _ U U' hal hh h => ⟨h.1, h.2.1.mv hal hh, h.2.2.1, h.2.2.2.1.mv hal hh, h.2.2.2.2⟩) (fun r U U' V V' h1 hal h2 h => Says01.mv r U U' V V' h1 hal h2 h) ?_
  intro p e s m args below meth c s₁ X0 hexec hbytes hml hret hlk hnm hown hh0 W hP
  obtain ⟨rfl, hA, tA, hB, tB⟩ := hP
  have a31 := hA.2.2.2
  have b31 := hB.2.2.2
  have hA0 := hA.mv X0.warmed.alike hh0
  have hB0 := hB.mv X0.warmed.alike hh0
  have c1 : Steps p.tables e below (s₁.setTop (entryFrame m #[.ref a, .ref b] 3)) (s₁.setTop (mkF m 0 #[.val (.ref a), .val (.ref b), .unset] [])) := entry rfl
  have c2 : Steps p.tables e below (s₁.setTop (entryFrame m #[.ref a, .ref b] 3)) (s₁.setTop (mkF m 4 #[.val (.ref a), .val (.ref b), .unset] [.int (Int32.ofNat B.slots.size), .int (Int32.ofNat A.slots.size)])) := c1.trans (by
    refine XS.aloadN X0.here hexec rfl (hb hbytes d0) rfl rfl ?_
    refine X0.alen hexec hA0 rfl rfl (hb hbytes d1) ?_
    refine XS.aloadN X0.here hexec rfl (hb hbytes d2) rfl rfl ?_
    refine X0.alen hexec hB0 rfl rfl (hb hbytes d3) ?_
    exact Steps.refl _)
  by_cases hs : A.slots.size = B.slots.size
  · have c3 : Steps p.tables e below (s₁.setTop (entryFrame m #[.ref a, .ref b] 3)) (s₁.setTop (mkF m 9 #[.val (.ref a), .val (.ref b), .val (.int 0)] [])) := c2.trans (by
      refine XS.icmpNo X0.here hexec rfl (hb hbytes d4) rfl (ii_ne_f (by rw [hs])) ?_
      refine iconstV X0.here hexec rfl 0 (hb hbytes d7) (by decide) ?_
      refine XS.istoreN X0.here hexec rfl (hb hbytes d8) rfl rfl ?_
      exact Steps.refl _)
    have loop : ∀ (r i : Nat), i + r = A.slots.size → (∀ j, j < i → yv A j = yv B j) → Steps p.tables e below (s₁.setTop (entryFrame m #[.ref a, .ref b] 3)) (s₁.setTop (mkF m 9 #[.val (.ref a), .val (.ref b), .val (.int (Int32.ofNat i))] [])) → ∃ (pc : Nat) (Ls : Array Slot) (v : Int32), (pc = 25 ∨ pc = 33) ∧ ((v = 1 ∧ EqC A B) ∨ (v = 0 ∧ ¬ EqC A B)) ∧ Steps p.tables e below (s₁.setTop (entryFrame m #[.ref a, .ref b] 3)) (s₁.setTop (mkF m pc Ls [.int v])) := by
      intro r
      induction r with
      | zero =>
        intro i hi he cl
        exact ⟨33, _, 1, Or.inr rfl, Or.inl ⟨rfl, hs, fun j hj => he j (by omega)⟩, cl.trans (by
          refine XS.iloadN X0.here hexec rfl (hb hbytes d9) rfl ?_
          refine XS.aloadN X0.here hexec rfl (hb hbytes d10) rfl rfl ?_
          refine X0.alen hexec hA0 rfl rfl (hb hbytes d11) ?_
          refine XS.icmpYes X0.here hexec rfl (pc0 := 12) rfl (hb hbytes d12) rfl (ii_ge_t (nlt32 (by omega) (by omega))) (by decide) rfl ?_
          refine iconstV X0.here hexec rfl 1 (hb hbytes d32) (by decide) ?_
          exact Steps.refl _)⟩
      | succ r ih =>
        intro i hi he cl
        have c4 : Steps p.tables e below (s₁.setTop (entryFrame m #[.ref a, .ref b] 3)) (s₁.setTop (mkF m 21 #[.val (.ref a), .val (.ref b), .val (.int (Int32.ofNat i))] [.int (yv B i), .int (yv A i)])) := cl.trans (by
          refine XS.iloadN X0.here hexec rfl (hb hbytes d9) rfl ?_
          refine XS.aloadN X0.here hexec rfl (hb hbytes d10) rfl rfl ?_
          refine X0.alen hexec hA0 rfl rfl (hb hbytes d11) ?_
          refine XS.icmpNo X0.here hexec rfl (hb hbytes d12) rfl (ii_ge_f (lt32 (by omega) (by omega))) ?_
          refine XS.aloadN X0.here hexec rfl (hb hbytes d15) rfl rfl ?_
          refine XS.iloadN X0.here hexec rfl (hb hbytes d16) rfl ?_
          refine X0.aget hexec hA0 rfl (yv_get hA tA (i := i) (by omega)) rfl rfl (hb hbytes d17) ?_
          refine XS.aloadN X0.here hexec rfl (hb hbytes d18) rfl rfl ?_
          refine XS.iloadN X0.here hexec rfl (hb hbytes d19) rfl ?_
          refine X0.aget hexec hB0 rfl (yv_get hB tB (i := i) (by omega)) rfl rfl (hb hbytes d20) ?_
          exact Steps.refl _)
        by_cases hv : yv A i = yv B i
        · have c5 : Steps p.tables e below (s₁.setTop (entryFrame m #[.ref a, .ref b] 3)) (s₁.setTop (mkF m 9 #[.val (.ref a), .val (.ref b), .val (.int (Int32.ofNat i + 1))] [])) := c4.trans (by
            refine XS.icmpYes X0.here hexec rfl (pc0 := 21) rfl (hb hbytes d21) rfl (ii_eq_t hv) (by decide) rfl ?_
            refine iincV X0.here hexec rfl 1 (hb hbytes d26) (by decide) rfl rfl ?_
            refine XS.goto X0.here hexec rfl (pc0 := 29) rfl (hb hbytes d29) (by decide) rfl ?_
            exact Steps.refl _)
          rw [succ32] at c5
          exact ih (i + 1) (by omega) (fun j hj => by
            by_cases e : j = i
            · rw [e]; exact hv
            · exact he j (by omega)) c5
        · exact ⟨25, _, 0, Or.inl rfl, Or.inr ⟨rfl, fun q => hv (q.2 i (by omega))⟩, c4.trans (by
            refine XS.icmpNo X0.here hexec rfl (hb hbytes d21) rfl (ii_eq_f hv) ?_
            refine iconstV X0.here hexec rfl 0 (hb hbytes d24) (by decide) ?_
            exact Steps.refl _)⟩
    obtain ⟨pc, Ls, v, hpc, hv, cz⟩ := loop A.slots.size 0 (by omega) (fun j hj => absurd hj (Nat.not_lt_zero j)) c3
    have nv : narrow .boolean (.int v) = .int v := by rcases hv with ⟨rfl, -⟩ | ⟨rfl, -⟩ <;> rfl
    rcases hpc with rfl | rfl
    · exact ⟨s₁, some (.int v), _, _, _, X0, rfl, rfl, rfl, (fun h => by cases h), ⟨v, rfl, hh0, hv⟩, fun fs hl => cz.trans (X0.ireturnOut hexec hret nv (Or.inr (Or.inl rfl)) (hb hbytes d25) hl)⟩
    · exact ⟨s₁, some (.int v), _, _, _, X0, rfl, rfl, rfl, (fun h => by cases h), ⟨v, rfl, hh0, hv⟩, fun fs hl => cz.trans (X0.ireturnOut hexec hret nv (Or.inr (Or.inl rfl)) (hb hbytes d33) hl)⟩
  · have c3 : Steps p.tables e below (s₁.setTop (entryFrame m #[.ref a, .ref b] 3)) (s₁.setTop (mkF m 35 #[.val (.ref a), .val (.ref b), .unset] [.int 0])) := c2.trans (by
      refine XS.icmpYes X0.here hexec rfl (pc0 := 4) rfl (hb hbytes d4) rfl (ii_ne_t (ne32 a31 b31 hs)) (by decide) rfl ?_
      refine iconstV X0.here hexec rfl 0 (hb hbytes d34) (by decide) ?_
      exact Steps.refl _)
    exact ⟨s₁, some (.int 0), _, _, _, X0, rfl, rfl, rfl, (fun h => by cases h), ⟨0, rfl, hh0, Or.inr ⟨rfl, fun q => hs q.1⟩⟩, fun fs hl => c3.trans (X0.ireturnOut hexec hret rfl (Or.inr (Or.inl rfl)) (hb hbytes d35) hl)⟩
end LEq
theorem Cod.ty {cd : Int32} {n : Nat} {f : Nat → Int32} {V : Cell} (h : Cod cd n f V) : Typed .byte V := fun i v hv => by
  have hi : i < V.slots.size := (Array.getElem?_eq_some_iff.mp hv).1
  rcases h with ⟨-, k1, k2⟩ | ⟨-, k1, k2, -⟩
  · rw [(k2 i (by omega)).1] at hv; cases hv; exact fits_lo8 _
  · rcases Nat.mod_two_eq_zero_or_one i with e | e
    · obtain ⟨j, rfl⟩ : ∃ j, i = 2 * j := ⟨i / 2, by omega⟩
      rw [(k2 j (by omega)).1] at hv; cases hv; exact fits_lo8 _
    · obtain ⟨j, rfl⟩ : ∃ j, i = 2 * j + 1 := ⟨i / 2, by omega⟩
      rw [(k2 j (by omega)).2] at hv; cases hv; exact fits_lo8 _
/-- the same text -/
def SameT (n : Nat) (f : Nat → Int32) (k : Nat) (g : Nat → Int32) : Prop := n = k ∧ ∀ j, j < n → f j = g j
theorem lo8_inj {x y : Int32} (h0 : ¬ x < 0) (h1 : ¬ 255 < x) (k0 : ¬ y < 0) (k1 : ¬ 255 < y) (h : lo8 x = lo8 y) : x = y := by
  rw [← lo8_mask h0 h1, ← lo8_mask k0 k1, h]
/-- arrays coded by one coder are equal just where the texts are -/
theorem Cod.eqv {cd : Int32} {n k : Nat} {f g : Nat → Int32} {V V' : Cell} (h : Cod cd n f V) (h' : Cod cd k g V') (hf : ∀ j, j < n → ¬ f j < 0 ∧ ¬ 65535 < f j) (hg : ∀ j, j < k → ¬ g j < 0 ∧ ¬ 65535 < g j) : EqC V V' ↔ SameT n f k g := by
  have yvv : ∀ {W : Cell} {i : Nat} {x : Int32}, W.slots[i]? = some (.int x) → yv W i = x := fun q => by unfold yv; rw [q]
  rcases h with ⟨rfl, k1, k2⟩ | ⟨rfl, k1, k2, -⟩
  · rcases h' with ⟨-, m1, m2⟩ | ⟨e, -⟩
    · constructor
      · rintro ⟨e1, e2⟩
        refine ⟨by omega, fun j hj => ?_⟩
        have q := e2 j (by omega)
        rw [yvv (k2 j hj).1, yvv (m2 j (by omega)).1] at q
        exact lo8_inj (hf j hj).1 (k2 j hj).2 (hg j (by omega)).1 (m2 j (by omega)).2 q
      · rintro ⟨rfl, e2⟩
        refine ⟨by omega, fun j hj => ?_⟩
        rw [yvv (k2 j (by omega)).1, yvv (m2 j (by omega)).1, e2 j (by omega)]
    · exact absurd e (by decide)
  · rcases h' with ⟨e, -⟩ | ⟨-, m1, m2, -⟩
    · exact absurd e (by decide)
    · constructor
      · rintro ⟨e1, e2⟩
        refine ⟨by omega, fun j hj => ?_⟩
        have q1 := e2 (2 * j) (by omega)
        have q2 := e2 (2 * j + 1) (by omega)
        rw [yvv (k2 j hj).1, yvv (m2 j (by omega)).1] at q1
        rw [yvv (k2 j hj).2, yvv (m2 j (by omega)).2] at q2
        rw [← pair_says (hf j hj).1 (hf j hj).2, ← pair_says (hg j (by omega)).1 (hg j (by omega)).2, q1, q2]
      · rintro ⟨rfl, e2⟩
        refine ⟨by omega, fun i hi => ?_⟩
        rcases Nat.mod_two_eq_zero_or_one i with e | e
        · obtain ⟨j, rfl⟩ : ∃ j, i = 2 * j := ⟨i / 2, by omega⟩
          rw [yvv (k2 j (by omega)).1, yvv (m2 j (by omega)).1, e2 j (by omega)]
        · obtain ⟨j, rfl⟩ : ∃ j, i = 2 * j + 1 := ⟨i / 2, by omega⟩
          rw [yvv (k2 j (by omega)).2, yvv (m2 j (by omega)).2, e2 j (by omega)]
/-- two codings differ: so do the texts -/
theorem Cod.dif {cd cd' : Int32} {n k : Nat} {f g : Nat → Int32} {V V' : Cell} (h : Cod cd n f V) (h' : Cod cd' k g V') (hne : ¬ cd = cd') : ¬ SameT n f k g := by
  rintro ⟨rfl, e⟩
  rcases h with ⟨rfl, -, k2⟩ | ⟨rfl, -, -, j, hj, hw⟩
  · rcases h' with ⟨rfl, -⟩ | ⟨-, -, -, j, hj, hw⟩
    · exact hne rfl
    · exact (k2 j hj).2 (by rw [e j hj]; exact hw)
  · rcases h' with ⟨-, -, m2⟩ | ⟨rfl, -⟩
    · exact (m2 j hj).2 (by rw [← e j hj]; exact hw)
    · exact hne rfl
/-- an object of exactly C is an instance of C -/
theorem cinst {p : Program} {l : Launch} {e : Env} {R : Room} {s : State} {m : MethodId} {args : Array Value} {below : List Frame} {meth : Method} {c : Code} {T : State} {locs : List Loc} {cells slots : Nat} (X : Stand p l e R s m args below meth c T locs cells slots) (hexec : p.tables.exec = Jvm.exec) {own C : String} {index : Nat} (hown : s.vm.findClass own = some m.cls) (hlink : (Cond.classLink own index C).before args s = true) {a : Addr} (hE : Exact C a T)
    {g : JFrame} (hg : g.method = m) {rest : List Value} (hstack : g.stack = .ref a :: rest) (hdg : decode c.code g.pc = .ok (.instanceof index, 3)) :
    ∃ T', Stand p l e R s m args below meth c T' locs cells slots ∧ T'.heap = T.heap ∧ ∀ target, Steps p.tables e below (T'.setTop { g with pc := g.pc + 3, stack := .int 1 :: rest }) target → Steps p.tables e below (T.setTop g) target := by
  obtain ⟨cB, h1, D, h2, h3, h4⟩ := hE
  have h1' : s.vm.findClass C = some cB := by rw [← X.warmed.alike.findClass]; exact h1
  obtain ⟨vm', X', st⟩ := X.instanceofYes hexec hown hlink h2 h4 h1' (by rw [h3]; exact Jvm.Free.SB.assignable_self _ _) hg hstack hdg
  exact ⟨_, X', rfl, st⟩
theorem cself {p : Program} {l : Launch} {e : Env} {R : Room} {s : State} {m : MethodId} {args : Array Value} {below : List Frame} {meth : Method} {c : Code} {T : State} {locs : List Loc} {cells slots : Nat} (X : Stand p l e R s m args below meth c T locs cells slots) (hexec : p.tables.exec = Jvm.exec) {own C : String} {index : Nat} (hown : s.vm.findClass own = some m.cls) (hlink : (Cond.classLink own index C).before args s = true) {a : Addr} (hE : Exact C a T)
    {g : JFrame} (hg : g.method = m) {rest : List Value} (hstack : g.stack = .ref a :: rest) (hdg : decode c.code g.pc = .ok (.checkcast index, 3)) :
    ∃ T', Stand p l e R s m args below meth c T' locs cells slots ∧ T'.heap = T.heap ∧ ∀ target, Steps p.tables e below (T'.setTop { g with pc := g.pc + 3, stack := .ref a :: rest }) target → Steps p.tables e below (T.setTop g) target := by
  obtain ⟨cB, h1, D, h2, h3, h4⟩ := hE
  have h1' : s.vm.findClass C = some cB := by rw [← X.warmed.alike.findClass]; exact h1
  obtain ⟨vm', X', st⟩ := X.checkcastYes hexec hown hlink h2 h4 h1' (by rw [h3]; exact Jvm.Free.SB.assignable_self _ _) hg hstack hdg
  exact ⟨_, X', rfl, fun t h => st t (by rw [← hstack] at h; exact h)⟩
namespace SEq
def yN : MethodName := ⟨"java/lang/String", "equals", "(Ljava/lang/Object;)Z"⟩
abbrev yB : ByteArray := jdk_42_method_66_code
theorem d0 : decode yB 0 = .ok (.aload_n 0, 1) := by decide +kernel
theorem d1 : decode yB 1 = .ok (.aload_n 1, 1) := by decide +kernel
theorem d2 : decode yB 2 = .ok (.if_acmp (.ne) 5, 3) := by decide +kernel
theorem d5 : decode yB 5 = .ok (.iconst 1, 1) := by decide +kernel
theorem d6 : decode yB 6 = .ok (.ireturn, 1) := by decide +kernel
theorem d7 : decode yB 7 = .ok (.aload_n 1, 1) := by decide +kernel
theorem d8 : decode yB 8 = .ok (.instanceof 10, 3) := by decide +kernel
theorem d11 : decode yB 11 = .ok (.ifCond (.eq) 43, 3) := by decide +kernel
theorem d14 : decode yB 14 = .ok (.aload_n 1, 1) := by decide +kernel
theorem d15 : decode yB 15 = .ok (.checkcast 10, 3) := by decide +kernel
theorem d18 : decode yB 18 = .ok (.astore_n 2, 1) := by decide +kernel
theorem d19 : decode yB 19 = .ok (.getstatic 38, 3) := by decide +kernel
theorem d22 : decode yB 22 = .ok (.ifCond (.eq) 14, 3) := by decide +kernel
theorem d25 : decode yB 25 = .ok (.aload_n 0, 1) := by decide +kernel
theorem d26 : decode yB 26 = .ok (.getfield 15, 3) := by decide +kernel
theorem d29 : decode yB 29 = .ok (.aload_n 2, 1) := by decide +kernel
theorem d30 : decode yB 30 = .ok (.getfield 15, 3) := by decide +kernel
theorem d33 : decode yB 33 = .ok (.if_icmp (.ne) 21, 3) := by decide +kernel
theorem d36 : decode yB 36 = .ok (.aload_n 0, 1) := by decide +kernel
theorem d37 : decode yB 37 = .ok (.getfield 9, 3) := by decide +kernel
theorem d40 : decode yB 40 = .ok (.aload_n 2, 1) := by decide +kernel
theorem d41 : decode yB 41 = .ok (.getfield 9, 3) := by decide +kernel
theorem d44 : decode yB 44 = .ok (.invokestatic 541, 3) := by decide +kernel
theorem d47 : decode yB 47 = .ok (.ifCond (.eq) 7, 3) := by decide +kernel
theorem d50 : decode yB 50 = .ok (.iconst 1, 1) := by decide +kernel
theorem d51 : decode yB 51 = .ok (.goto 4, 3) := by decide +kernel
theorem d54 : decode yB 54 = .ok (.iconst 0, 1) := by decide +kernel
theorem d55 : decode yB 55 = .ok (.ireturn, 1) := by decide +kernel
def site : List Cond := [.classLink "java/lang/String" 10 "java/lang/String", .fieldLink "java/lang/String" 38 "java/lang/String" "COMPACT_STRINGS" "Z", .fieldLink "java/lang/String" 15 "java/lang/String" "coder" "B", .fieldLink "java/lang/String" 9 "java/lang/String" "value" "[B", LEq.tab] ++ staticW "java/lang/String" 541 LEq.yN
def tab : Cond := tabOf yN yB 3 (some .boolean) site
def P (x t : Addr) (V : Cell) (cd : Int32) (n : Nat) (f : Nat → Int32) (y t' : Addr) (V' : Cell) (cd' : Int32) (k : Nat) (g : Nat → Int32) (z : Int32) (args : Array Value) (s : State) : Prop := args = #[.ref x, .ref y] ∧ Txt x t V cd n f s ∧ Txt y t' V' cd' k g s ∧ StaticIs s "java/lang/String" "COMPACT_STRINGS" "Z" (.int z) ∧ ¬ z = 0
/-- equals(Object) of two Strings: whether the texts are the same -/
theorem law (l : Launch) (x t : Addr) (V : Cell) (cd : Int32) (n : Nat) (f : Nat → Int32) (y t' : Addr) (V' : Cell) (cd' : Int32) (k : Nat) (g : Nat → Int32) (z : Int32) : Law l yN 2 1 1 14 yB 3 (some .boolean) site (P x t V cd n f y t' V' cd' k g z) (Says01 (SameT n f k g)) [] 0 0 := by
  refine Law.of_walk (plainFor_of_name (by decide +kernel)) (by decide +kernel) (by decide +kernel) (by decide) (fun _ _ h => by rw [h.1]; rfl) (fun _ U U' hal hh h => ⟨h.1, h.2.1.mv hal hh, h.2.2.1.mv hal hh, h.2.2.2.1.there hal hh, h.2.2.2.2⟩) (fun r U U' V V' h1 hal h2 h => Says01.mv r U U' V V' h1 hal h2 h) ?_
  intro p e s m args below meth c s₁ X0 hexec hbytes hml hret hlk hnm hown hh0 W hP
  obtain ⟨rfl, hx, hy, s1, hz⟩ := hP
  have c1 : Steps p.tables e below (s₁.setTop (entryFrame m #[.ref x, .ref y] 3)) (s₁.setTop (mkF m 2 #[.val (.ref x), .val (.ref y), .unset] [.ref y, .ref x])) := Steps.trans (entry rfl) (by
    show Steps p.tables e below (s₁.setTop (mkF m 0 #[.val (.ref x), .val (.ref y), .unset] [])) _
    refine XS.aloadN X0.here hexec rfl (hb hbytes d0) rfl rfl ?_
    refine XS.aloadN X0.here hexec rfl (hb hbytes d1) rfl rfl ?_
    exact Steps.refl _)
  by_cases hxy : x = y
  · have c2 : Steps p.tables e below (s₁.setTop (entryFrame m #[.ref x, .ref y] 3)) (s₁.setTop (mkF m 6 #[.val (.ref x), .val (.ref y), .unset] [.int 1])) := c1.trans (by
      refine acmpNo X0.here hexec rfl (hb hbytes d2) rfl rfl rfl (by simp [acmp, hxy]) ?_
      refine iconstV X0.here hexec rfl 1 (hb hbytes d5) (by decide) ?_
      exact Steps.refl _)
    subst hxy
    have ec : cd = cd' := by
      obtain ⟨D, fd, a1, a2, a3⟩ := hx.2.2.1
      obtain ⟨D', fd', b1, b2, b3⟩ := hy.2.2.1
      cases a1.symm.trans b1
      obtain ⟨q1, q2, q3, q4⟩ := a2.1
      obtain ⟨r1, r2, r3, r4⟩ := b2.1
      cases q4.symm.trans r4
      cases a3.symm.trans b3; rfl
    have et : t = t' := by
      obtain ⟨D, fd, a1, a2, a3⟩ := hx.2.1
      obtain ⟨D', fd', b1, b2, b3⟩ := hy.2.1
      cases a1.symm.trans b1
      obtain ⟨q1, q2, q3, q4⟩ := a2.1
      obtain ⟨r1, r2, r3, r4⟩ := b2.1
      cases q4.symm.trans r4
      cases a3.symm.trans b3; rfl
    subst ec et
    have ev : V = V' := by cases hx.2.2.2.1.1.symm.trans hy.2.2.2.1.1; rfl
    subst ev
    have hs : SameT n f k g := (Cod.eqv hx.2.2.2.2.1 hy.2.2.2.2.1 hx.2.2.2.2.2 hy.2.2.2.2.2).mp ⟨rfl, fun _ _ => rfl⟩
    exact ⟨s₁, some (.int 1), _, _, _, X0, rfl, rfl, rfl, (fun h => by cases h), ⟨1, rfl, hh0, Or.inl ⟨rfl, hs⟩⟩, fun fs hl => c2.trans (X0.ireturnOut hexec hret rfl (Or.inr (Or.inl rfl)) (hb hbytes d6) hl)⟩
  · have c2 : Steps p.tables e below (s₁.setTop (entryFrame m #[.ref x, .ref y] 3)) (s₁.setTop (mkF m 8 #[.val (.ref x), .val (.ref y), .unset] [.ref y])) := c1.trans (by
      refine acmpYes X0.here hexec rfl (pc0 := 2) rfl (hb hbytes d2) rfl rfl rfl (by simp [acmp, hxy]) (by decide) rfl ?_
      refine XS.aloadN X0.here hexec rfl (hb hbytes d7) rfl rfl ?_
      exact Steps.refl _)
    obtain ⟨T3, X3, q3, st3⟩ := cinst X0 hexec hown (wk W (.classLink "java/lang/String" 10 "java/lang/String")) (hy.mv X0.warmed.alike hh0).1 (g := (mkF m 8 #[.val (.ref x), .val (.ref y), .unset] [.ref y])) rfl (rest := []) rfl (hb hbytes d8)
    have hh3 := q3.trans hh0
    have c4 : Steps p.tables e below (s₁.setTop (entryFrame m #[.ref x, .ref y] 3)) (T3.setTop (mkF m 15 #[.val (.ref x), .val (.ref y), .unset] [.ref y])) := (c2.trans (st3 _ (Steps.refl _))).trans (by
      refine XS.ifNo X3.here hexec rfl (hb hbytes d11) rfl (i0_eq_f (by decide)) ?_
      refine XS.aloadN X3.here hexec rfl (hb hbytes d14) rfl rfl ?_
      exact Steps.refl _)
    obtain ⟨T5, X5, q5, st5⟩ := cself X3 hexec hown (wk W (.classLink "java/lang/String" 10 "java/lang/String")) (hy.mv X3.warmed.alike hh3).1 (g := (mkF m 15 #[.val (.ref x), .val (.ref y), .unset] [.ref y])) rfl (rest := []) rfl (hb hbytes d15)
    have hh5 := q5.trans hh3
    have c6 : Steps p.tables e below (s₁.setTop (entryFrame m #[.ref x, .ref y] 3)) (T5.setTop (mkF m 19 #[.val (.ref x), .val (.ref y), .val (.ref y)] [])) := (c4.trans (st5 _ (Steps.refl _))).trans (by
      refine XS.astoreN X5.here hexec rfl (hb hbytes d18) rfl rfl rfl ?_
      exact Steps.refl _)
    obtain ⟨T7, X7, q7, st7⟩ := X5.sget hexec hown (wk W (.fieldLink "java/lang/String" 38 "java/lang/String" "COMPACT_STRINGS" "Z")) s1 (fun _ _ h => by rw [hh5]; exact h) (g := (mkF m 19 #[.val (.ref x), .val (.ref y), .val (.ref y)] [])) rfl (hb hbytes d19)
    have hh7 := q7.trans hh5
    have c8 : Steps p.tables e below (s₁.setTop (entryFrame m #[.ref x, .ref y] 3)) (T7.setTop (mkF m 26 #[.val (.ref x), .val (.ref y), .val (.ref y)] [.ref x])) := (c6.trans (st7 _ (Steps.refl _))).trans (by
      refine XS.ifNo X7.here hexec rfl (hb hbytes d22) rfl (i0_eq_f hz) ?_
      refine XS.aloadN X7.here hexec rfl (hb hbytes d25) rfl rfl ?_
      exact Steps.refl _)
    obtain ⟨T9, X9, q9, st9⟩ := X7.hget hexec hown (wk W (.fieldLink "java/lang/String" 15 "java/lang/String" "coder" "B")) (hx.mv X7.warmed.alike hh7).2.2.1 (g := (mkF m 26 #[.val (.ref x), .val (.ref y), .val (.ref y)] [.ref x])) rfl (rest := []) rfl (hb hbytes d26)
    have hh9 := q9.trans hh7
    have c10 : Steps p.tables e below (s₁.setTop (entryFrame m #[.ref x, .ref y] 3)) (T9.setTop (mkF m 30 #[.val (.ref x), .val (.ref y), .val (.ref y)] [.ref y, .int cd])) := (c8.trans (st9 _ (Steps.refl _))).trans (by
      refine XS.aloadN X9.here hexec rfl (hb hbytes d29) rfl rfl ?_
      exact Steps.refl _)
    obtain ⟨T11, X11, q11, st11⟩ := X9.hget hexec hown (wk W (.fieldLink "java/lang/String" 15 "java/lang/String" "coder" "B")) (hy.mv X9.warmed.alike hh9).2.2.1 (g := (mkF m 30 #[.val (.ref x), .val (.ref y), .val (.ref y)] [.ref y, .int cd])) rfl (rest := [.int cd]) rfl (hb hbytes d30)
    have hh11 := q11.trans hh9
    have c12 : Steps p.tables e below (s₁.setTop (entryFrame m #[.ref x, .ref y] 3)) (T11.setTop (mkF m 33 #[.val (.ref x), .val (.ref y), .val (.ref y)] [.int cd', .int cd])) := c10.trans (st11 _ (Steps.refl _))
    by_cases hcd : cd = cd'
    · subst hcd
      have c13 : Steps p.tables e below (s₁.setTop (entryFrame m #[.ref x, .ref y] 3)) (T11.setTop (mkF m 37 #[.val (.ref x), .val (.ref y), .val (.ref y)] [.ref x])) := c12.trans (by
        refine XS.icmpNo X11.here hexec rfl (hb hbytes d33) rfl (ii_ne_f rfl) ?_
        refine XS.aloadN X11.here hexec rfl (hb hbytes d36) rfl rfl ?_
        exact Steps.refl _)
      obtain ⟨T14, X14, q14, st14⟩ := X11.hget hexec hown (wk W (.fieldLink "java/lang/String" 9 "java/lang/String" "value" "[B")) (hx.mv X11.warmed.alike hh11).2.1 (g := (mkF m 37 #[.val (.ref x), .val (.ref y), .val (.ref y)] [.ref x])) rfl (rest := []) rfl (hb hbytes d37)
      have hh14 := q14.trans hh11
      have c15 : Steps p.tables e below (s₁.setTop (entryFrame m #[.ref x, .ref y] 3)) (T14.setTop (mkF m 41 #[.val (.ref x), .val (.ref y), .val (.ref y)] [.ref y, .ref t])) := (c13.trans (st14 _ (Steps.refl _))).trans (by
        refine XS.aloadN X14.here hexec rfl (hb hbytes d40) rfl rfl ?_
        exact Steps.refl _)
      obtain ⟨T16, X16, q16, st16⟩ := X14.hget hexec hown (wk W (.fieldLink "java/lang/String" 9 "java/lang/String" "value" "[B")) (hy.mv X14.warmed.alike hh14).2.1 (g := (mkF m 41 #[.val (.ref x), .val (.ref y), .val (.ref y)] [.ref y, .ref t])) rfl (rest := [.ref t]) rfl (hb hbytes d41)
      have hh16 := q16.trans hh14
      have c17 : Steps p.tables e below (s₁.setTop (entryFrame m #[.ref x, .ref y] 3)) (T16.setTop (mkF m 44 #[.val (.ref x), .val (.ref y), .val (.ref y)] [.ref t', .ref t])) := c15.trans (st16 _ (Steps.refl _))
      obtain ⟨v18, T18, X18, E18, g18⟩ := X16.callS hexec (LEq.law l t V t' V') hown (wks W (staticW "java/lang/String" 541 LEq.yN)) (wk W LEq.tab) (W := 0) (Nat.le_of_ble_eq_true rfl) (Nat.le_of_ble_eq_true rfl) (Nat.le_refl _) (Nat.le_refl _) (g := (mkF m 44 #[.val (.ref x), .val (.ref y), .val (.ref y)] [.ref t', .ref t])) rfl (by rw [hml]; rfl) c17 (argsL := [.ref t, .ref t']) (rest := []) rfl rfl (by show 2 * 0 + 0 ≤ _; decide) (hb hbytes d44) (⟨rfl, hx.2.2.2.1.mv X16.warmed.alike hh16, hx.2.2.2.2.1.ty, hy.2.2.2.1.mv X16.warmed.alike hh16, hy.2.2.2.2.1.ty⟩)
      obtain ⟨v, rfl, q18, hv⟩ := E18
      have iff := Cod.eqv hx.2.2.2.2.1 hy.2.2.2.2.1 hx.2.2.2.2.2 hy.2.2.2.2.2
      rcases hv with ⟨rfl, he⟩ | ⟨rfl, he⟩
      · have c19 : Steps p.tables e below (s₁.setTop (entryFrame m #[.ref x, .ref y] 3)) (T18.setTop (mkF m 55 #[.val (.ref x), .val (.ref y), .val (.ref y)] [.int 1])) := Steps.trans g18 (by
          refine XS.ifNo X18.here hexec rfl (hb hbytes d47) rfl (i0_eq_f (by decide)) ?_
          refine iconstV X18.here hexec rfl 1 (hb hbytes d50) (by decide) ?_
          refine XS.goto X18.here hexec rfl (pc0 := 51) rfl (hb hbytes d51) (by decide) rfl ?_
          exact Steps.refl _)
        exact ⟨T18, some (.int 1), _, _, _, X18, rfl, rfl, rfl, (fun h => by cases h), ⟨1, rfl, q18.trans hh16, Or.inl ⟨rfl, iff.mp he⟩⟩, fun fs hl => c19.trans (X18.ireturnOut hexec hret rfl (Or.inr (Or.inl rfl)) (hb hbytes d55) hl)⟩
      · have c19 : Steps p.tables e below (s₁.setTop (entryFrame m #[.ref x, .ref y] 3)) (T18.setTop (mkF m 55 #[.val (.ref x), .val (.ref y), .val (.ref y)] [.int 0])) := Steps.trans g18 (by
          refine XS.ifYes X18.here hexec rfl (pc0 := 47) rfl (hb hbytes d47) rfl (i0_eq_t rfl) (by decide) rfl ?_
          refine iconstV X18.here hexec rfl 0 (hb hbytes d54) (by decide) ?_
          exact Steps.refl _)
        exact ⟨T18, some (.int 0), _, _, _, X18, rfl, rfl, rfl, (fun h => by cases h), ⟨0, rfl, q18.trans hh16, Or.inr ⟨rfl, fun q => he (iff.mpr q)⟩⟩, fun fs hl => c19.trans (X18.ireturnOut hexec hret rfl (Or.inr (Or.inl rfl)) (hb hbytes d55) hl)⟩
    · have c13 : Steps p.tables e below (s₁.setTop (entryFrame m #[.ref x, .ref y] 3)) (T11.setTop (mkF m 55 #[.val (.ref x), .val (.ref y), .val (.ref y)] [.int 0])) := c12.trans (by
        refine XS.icmpYes X11.here hexec rfl (pc0 := 33) rfl (hb hbytes d33) rfl (ii_ne_t hcd) (by decide) rfl ?_
        refine iconstV X11.here hexec rfl 0 (hb hbytes d54) (by decide) ?_
        exact Steps.refl _)
      exact ⟨T11, some (.int 0), _, _, _, X11, rfl, rfl, rfl, (fun h => by cases h), ⟨0, rfl, hh11, Or.inr ⟨rfl, Cod.dif hx.2.2.2.2.1 hy.2.2.2.2.1 hcd⟩⟩, fun fs hl => c13.trans (X11.ireturnOut hexec hret rfl (Or.inr (Or.inl rfl)) (hb hbytes d55) hl)⟩
theorem pays {l : Launch} {R : Room} {p : Program} {e : Env} {below : List Frame} {s : State} {sargs : Array Value} {len W : Nat} (x t : Addr) (V : Cell) (cd : Int32) (n : Nat) (f : Nat → Int32) (y t' : Addr) (V' : Cell) (cd' : Int32) (k : Nat) (g : Nat → Int32) (z : Int32) (htab : tab.before sargs s = true) (hfr : 2 ≤ R.frames) (hlo : W + 28 ≤ R.locals) :
    Back l R p e below s sargs yN len W (fun A₁ a₁ => A₁.cells + 0 ≤ R.cells ∧ A₁.slots + 0 ≤ R.slots ∧ P x t V cd n f y t' V' cd' k g z a₁ A₁.U) (fun A₁ _ v₁ B₁ => Says01 (SameT n f k g) v₁ A₁.U B₁.U ∧ B₁.locs = A₁.locs ++ [] ∧ B₁.cells = A₁.cells + 0 ∧ B₁.slots = A₁.slots + 0) :=
  (law l x t V cd n f y t' V' cd' k g z).pays htab hfr (by omega)
end SEq
end StrChars
namespace StrChars.Road
open Jvm Sem ClassFile Op Lib Jvm.Stand Jvm.Free Jvm.Free.XT
open Jvm.Lib.Cold (StaticIs)
/-- the road's facts of a String, as the laws ask it -/
theorem txt_of {Z U : State} {a0 : Array Value} {kI : Nat} (wi : (Jvm.Cond.instantiable ST kI).before a0 Z = true) (al : Z.vm.Alike U.vm) {x t : Addr} {kb : ClassId} {cs : List Int32} {cd N2 : Int32} {vs : List Value} (E : RoadKit.Exa Z U.heap x ST) (V : RoadKit.Fld Z U.heap x ST "value" "[B" (.ref t)) (C : RoadKit.Fld Z U.heap x ST "coder" "B" (.int cd)) (K : RoadKit.Arv Z U.heap t kb .byte N2 vs (.int 0)) (hc : CodA cs cd N2 vs) (hb : ∀ c ∈ cs, ¬ c < 0 ∧ ¬ (65535 : Int32) < c) (l2 : cs.length ≤ 4000) :
    ∃ A, Txt x t A cd cs.length (fun j => cs.getD j 0) U := by
  obtain ⟨A, K1, K2, K3, K4, K5, K6⟩ := K
  have hcod := hc.cod (by omega) K3 K5
  obtain ⟨D, fV, fC, hB, F1, F2, g1, g2, -, -⟩ := strObj wi al E V C
  exact ⟨A, ⟨_, hB.2.2.1, D, hB.1, rfl, by cases q : D.vm <;> first | rfl | exact absurd q (hB.2.1.2 _)⟩, Has.of hB F1 g1, Has.of hB F2 g2, ⟨K1.1, State.isArrayOf_alike al K1.2.1, K1.2.2, by rcases hcod with ⟨-, q, -⟩ | ⟨-, q, -⟩ <;> omega⟩, hcod, fun j hj => by
    have e : cs.getD j 0 = cs[j] := by simp [List.getD_eq_getElem?_getD, hj]
    show ¬ cs.getD j 0 < 0 ∧ ¬ 65535 < cs.getD j 0
    rw [e]; exact hb _ (List.getElem_mem _)⟩
theorem same_list (cs ds : List Int32) : SameT cs.length (fun j => cs.getD j 0) ds.length (fun j => ds.getD j 0) ↔ cs = ds := by
  constructor
  · rintro ⟨e, q⟩
    refine List.ext_getElem e fun j h1 h2 => ?_
    have := q j h1
    simpa [List.getD_eq_getElem?_getD, h1, h2] using this
  · rintro rfl
    exact ⟨rfl, fun _ _ => rfl⟩
end StrChars.Road
end Jvm.Pilot.@@N@@

namespace Jvm.Pilot.@@N@@
namespace StrChars.Road
open Jvm Sem ClassFile Op Lib Jvm.Stand Jvm.Free Jvm.Free.XT
open Jvm.Lib.Cold (StaticIs)
theorem consq {a : Array Value} {s : State} {c : Jvm.Cond} {L : List Jvm.Cond} (h0 : c.before a s = true) (h : ∀ w ∈ L, w.before a s = true) : ∀ w ∈ c :: L, w.before a s = true := fun w hw => (List.mem_cons.mp hw).elim (fun e => e ▸ h0) (h w)
/-- the words of String.equals(Object) -/
abbrev wordsEq : List Jvm.Cond := [.code SEq.yN SEq.yB 3 (some .boolean), .initialized ST, .classLink ST 10 ST, .fieldLink ST 38 ST "COMPACT_STRINGS" "Z", .fieldLink ST 15 ST "coder" "B", .fieldLink ST 9 ST "value" "[B", .methodLink ST 541 LEq.yN, .static LEq.yN, .code LEq.yN LEq.yB 3 (some .boolean), .initialized "java/lang/StringLatin1"]
theorem tabEq_of {a : Array Value} {s : State} (h : ∀ w ∈ wordsEq, w.before a s = true) : SEq.tab.before a s = true := by
  have hl : LEq.tab.before a s = true := unparts (wk h (.code LEq.yN LEq.yB 3 (some .boolean))) (wks h (.initialized LEq.yN.cls :: LEq.site))
  have q := consq hl h
  exact unparts (wk q (.code SEq.yN SEq.yB 3 (some .boolean))) (wks q (.initialized SEq.yN.cls :: SEq.site))
theorem movedEq {Z s : State} {a0 args : Array Value} (hZ : Z.Warmed39 s.vm) (hw : ∀ d ∈ wordsEq, d.before a0 Z = true) : ∀ d ∈ wordsEq, d.before args s = true := fun d hd => by
  have t : ∀ d ∈ wordsEq, (d.onTables && d.keepsFace) = true := by decide +kernel
  exact RoadKit.mv hZ (hw d hd) (t d hd)
/-- **equals(Object) OF TWO SUCH STRINGS**: 1 just where the chars are the same -/
theorem eqW {p : Program} {l : Launch} {e : Env} {R : Room} {s : State} {args : Array Value} {below : List Frame} {len W : Nat} {Z : State} {a0 : Array Value} {h : Heap} (hZ : Z.Warmed39 s.vm) (hw : ∀ d ∈ wordsEq, d.before a0 Z = true) {kI : Nat} (wi : (Jvm.Cond.instantiable ST kI).before a0 Z = true)
    {x t : Addr} {kb : ClassId} {cs : List Int32} {cd N2 : Int32} {vs : List Value} (E : RoadKit.Exa Z h x ST) (V : RoadKit.Fld Z h x ST "value" "[B" (.ref t)) (C : RoadKit.Fld Z h x ST "coder" "B" (.int cd)) (K : RoadKit.Arv Z h t kb .byte N2 vs (.int 0)) (hc : CodA cs cd N2 vs) (hb : ∀ c ∈ cs, ¬ c < 0 ∧ ¬ (65535 : Int32) < c) (l2 : cs.length ≤ 4000)
    {y t' : Addr} {kb' : ClassId} {ds : List Int32} {cd' N2' : Int32} {vs' : List Value} (E' : RoadKit.Exa Z h y ST) (V' : RoadKit.Fld Z h y ST "value" "[B" (.ref t')) (C' : RoadKit.Fld Z h y ST "coder" "B" (.int cd')) (K' : RoadKit.Arv Z h t' kb' .byte N2' vs' (.int 0)) (hc' : CodA ds cd' N2' vs') (hb' : ∀ c ∈ ds, ¬ c < 0 ∧ ¬ (65535 : Int32) < c) (l2' : ds.length ≤ 4000)
    {z : Int32} (S : RoadKit.Sta Z h ST "COMPACT_STRINGS" "Z" (.int z)) (hz : ¬ z = 0) (hfr : 2 ≤ R.frames) (hlo : W + 28 ≤ R.locals) :
    Back l R p e below s args (⟨"java/lang/String", "equals", "(Ljava/lang/Object;)Z"⟩ : MethodName) len W (fun P a => a = #[.ref x, .ref y] ∧ P.U.heap = h ∧ P.cells + 0 ≤ R.cells ∧ P.slots + 0 ≤ R.slots)
      (fun P _ v B => ∃ L, (((v = some (.int 1) ∧ cs = ds) ∨ (v = some (.int 0) ∧ ¬ cs = ds)) ∧ L = [] ∧ B.U.heap = h) ∧ B.locs = P.locs ++ L ∧ B.cells = P.cells + 0 ∧ B.slots = P.slots + 0) := by
  intro m meth c P g ig mk a X hg hsize hdg hW hn hp'
  obtain ⟨rfl, rfl, r1, r2⟩ := hp'
  have al : Z.vm.Alike P.U.vm := hZ.alike.trans X.warmed.alike
  obtain ⟨A, hx⟩ := txt_of wi al E V C K hc hb l2
  obtain ⟨A', hy⟩ := txt_of wi al E' V' C' K' hc' hb' l2'
  obtain ⟨v, B, X', ⟨⟨w, hv, hh, hq⟩, hl, hk, hs⟩, st⟩ := SEq.pays x t A cd cs.length (fun j => cs.getD j 0) y t' A' cd' ds.length (fun j => ds.getD j 0) z (tabEq_of (movedEq hZ hw)) hfr hlo m meth c P g ig mk _ X hg hsize hdg hW hn ⟨r1, r2, rfl, hx, hy, sta_is al S, hz⟩
  refine ⟨v, B, X', ⟨[], ⟨?_, rfl, hh⟩, hl, hk, hs⟩, st⟩
  rcases hq with ⟨rfl, q⟩ | ⟨rfl, q⟩
  · exact Or.inl ⟨hv, (same_list cs ds).mp q⟩
  · exact Or.inr ⟨hv, fun e => q ((same_list cs ds).mpr e)⟩
end StrChars.Road
end Jvm.Pilot.@@N@@

namespace Jvm.Pilot.@@N@@
open Jvm Jvm.ClassFile Sem Op Lib Jvm.Free Jvm.Stand Jvm.LawKit Jvm.RoadKit Bundle Jvm.Pilot.@@N@@.Jvm.D
def own_get (l : List Int32) (j : Int32) : Int32 := l.getD j.toNatClampNeg 0
theorem own_getV (l : List Int32) (j : Int32) : (l.map Value.int).getD j.toNatClampNeg (.int (0 : Int32)) = .int (own_get l j) := by
  unfold own_get
  rw [List.getD_eq_getElem?_getD, List.getD_eq_getElem?_getD, List.getElem?_map]
  cases l[j.toNatClampNeg]? <;> rfl
theorem nfSel {args : Array Value} {s : State} {C : String} {x x' y : MethodName} (hsel : (Cond.selects C x x').before args s = true) (hc : x'.cls = y.cls) : NotFace s y := fun r0 h0 => by
  obtain ⟨c2, r2, m2, q1, q2, q3, q4, kP, hkP, hkPi⟩ := Cond.selects_spec hsel
  have e1 := findClass_of_methodNamed q3
  rw [hc] at e1
  have e3 : r0.cls = m2.cls := Option.some.inj ((findClass_of_methodNamed h0).symm.trans e1)
  exact ⟨kP, by rw [e3]; exact hkP, hkPi⟩
theorem selfSel {Z s : State} {a0 args : Array Value} {C : String} {y : MethodName} (hZ : Z.Warmed39 s.vm) (hs : (Cond.selects C y y).before a0 Z = true) (hi : (Cond.instanceMethod y).before a0 Z = true) (hp : (Cond.privateMethod y).before a0 Z = true)
    (hy : y.cls ≠ "java/lang/invoke/MethodHandle" ∧ y.cls ≠ "java/lang/invoke/VarHandle") : (Cond.selects y.cls y y).before args s = true := by
  obtain ⟨c2, r2, m2, -, -, q3, -, kP, hkP, hkPi⟩ := Cond.selects_spec (mvT (args := args) hZ hs)
  exact Stand.selects_self_of_private (findClass_of_methodNamed q3) hkP hkPi (Cond.privateMethod_at (mvP hZ hp (args := #[]))) (mvT hZ hi) hy
theorem sameSelf {Z : State} {a0 : Array Value} {C : String} {x x' y : MethodName} (hs : (Cond.selects C x x').before a0 Z = true) (hc : x'.cls = y.cls) (hi : (Cond.instanceMethod y).before a0 Z = true)
    (hy : y.cls ≠ "java/lang/invoke/MethodHandle" ∧ y.cls ≠ "java/lang/invoke/VarHandle") : (Cond.sameMethod y.cls y.cls y.name y.desc).before a0 Z = true := by
  obtain ⟨c2, r2, m2, -, -, q3, -, kP, hkP, hkPi⟩ := Cond.selects_spec hs
  obtain ⟨mk, methM, hnamed, -, -, -⟩ := Cond.instanceMethod_spec hi
  have e1 := findClass_of_methodNamed q3
  rw [hc] at e1
  have e2 := findClass_of_methodNamed hnamed
  have e3 : mk.cls = m2.cls := Option.some.inj (e2.symm.trans e1)
  have hfound := State.methodFound?_of_named hnamed hy
  have hn' : Z.methodNamed? ⟨y.cls, y.name, y.desc⟩ = some mk := hnamed
  simp only [Cond.before, Cond.holds, Cond.value, e2, hfound, hn', e3, hkP]
  simp; exact hkPi
def own_EL : List (String × Nat) := [("com/example/hamster/hamster/TreeCount", 26), ("com/example/hamster/hamster/TreeCount", 31), ("com/example/hamster/hamster/TreeCount", 33), ("com/example/hamster/hamster/TreeCountAddFilePinLaw", 18), ("com/example/hamster/hamster/TreeCountAddFilePinLaw", 26)]
theorem own_EW {Z : State} {a0 : Array Value} (hw : ∀ d ∈ tables_1, d.before a0 Z = true) : EW Z a0 own_EL := (EW.cons (hw _ (List.mem_of_getElem? (i := 76) rfl)) (by decide) (EW.cons (hw _ (List.mem_of_getElem? (i := 126) rfl)) (by decide) (EW.cons (hw _ (List.mem_of_getElem? (i := 150) rfl)) (by decide) (EW.cons (hw _ (List.mem_of_getElem? (i := 188) rfl)) (by decide) (EW.cons (hw _ (List.mem_of_getElem? (i := 199) rfl)) (by decide) EW.nil)))))
/-- the ones' digits of 0 .. 99 -/
def own_ones : List Int32 := (List.range 100).map fun i => Int32.ofNat (48 + i % 10)
abbrev own_inb (x : Int64) : Prop := ¬ (-((-x).toInt32)) < 0 ∧ (-((-x).toInt32)) < (100 : Int32)
theorem own_ten {x : Int64} (h : 0 ≤ x.toInt ∧ x.toInt ≤ 9) : x = 0 ∨ x = 1 ∨ x = 2 ∨ x = 3 ∨ x = 4 ∨ x = 5 ∨ x = 6 ∨ x = 7 ∨ x = 8 ∨ x = 9 := by
  have e : x.toInt = 0 ∨ x.toInt = 1 ∨ x.toInt = 2 ∨ x.toInt = 3 ∨ x.toInt = 4 ∨ x.toInt = 5 ∨ x.toInt = 6 ∨ x.toInt = 7 ∨ x.toInt = 8 ∨ x.toInt = 9 := by omega
  have k : ∀ y : Int64, x.toInt = y.toInt → x = y := fun y q => Int64.toInt_inj.mp q
  rcases e with e | e | e | e | e | e | e | e | e | e
  all_goals (first | exact Or.inl (k 0 e) | exact Or.inr (Or.inl (k 1 e)) | exact Or.inr (Or.inr (Or.inl (k 2 e))) | skip)
  · exact Or.inr (Or.inr (Or.inr (Or.inl (k 3 e))))
  · exact Or.inr (Or.inr (Or.inr (Or.inr (Or.inl (k 4 e)))))
  · exact Or.inr (Or.inr (Or.inr (Or.inr (Or.inr (Or.inl (k 5 e))))))
  · exact Or.inr (Or.inr (Or.inr (Or.inr (Or.inr (Or.inr (Or.inl (k 6 e)))))))
  · exact Or.inr (Or.inr (Or.inr (Or.inr (Or.inr (Or.inr (Or.inr (Or.inl (k 7 e))))))))
  · exact Or.inr (Or.inr (Or.inr (Or.inr (Or.inr (Or.inr (Or.inr (Or.inr (Or.inl (k 8 e)))))))))
  · exact Or.inr (Or.inr (Or.inr (Or.inr (Or.inr (Or.inr (Or.inr (Or.inr (Or.inr (k 9 e)))))))))
theorem own_nneg {x : Int64} (h : 0 ≤ x.toInt ∧ x.toInt ≤ 9) : ¬ x < (0 : Int64) := by rcases own_ten h with rfl | rfl | rfl | rfl | rfl | rfl | rfl | rfl | rfl | rfl <;> decide
theorem own_m10 {x : Int64} (h : 0 ≤ x.toInt ∧ x.toInt ≤ 9) : (-10 : Int64) < (-x) := by rcases own_ten h with rfl | rfl | rfl | rfl | rfl | rfl | rfl | rfl | rfl | rfl <;> decide
theorem own_mmin {x : Int64} (h : 0 ≤ x.toInt ∧ x.toInt ≤ 9) : (-2147483648 : Int64) < (-x) := by rcases own_ten h with rfl | rfl | rfl | rfl | rfl | rfl | rfl | rfl | rfl | rfl <;> decide
theorem own_m100 {x : Int64} (h : 0 ≤ x.toInt ∧ x.toInt ≤ 9) : (-100 : Int32) < ((-x).toInt32) := by rcases own_ten h with rfl | rfl | rfl | rfl | rfl | rfl | rfl | rfl | rfl | rfl <;> decide
theorem own_m9 {x : Int64} (h : 0 ≤ x.toInt ∧ x.toInt ≤ 9) : ¬ ((-x).toInt32) < (-9 : Int32) := by rcases own_ten h with rfl | rfl | rfl | rfl | rfl | rfl | rfl | rfl | rfl | rfl <;> decide
theorem own_idx {x : Int64} (h : 0 ≤ x.toInt ∧ x.toInt ≤ 9) : own_inb x := by rcases own_ten h with rfl | rfl | rfl | rfl | rfl | rfl | rfl | rfl | rfl | rfl <;> decide
theorem own_digits {s : State} {a : Array Value} (hf : Fit s) (h11 : (Jvm.Cond.initializedFor "java/lang/Integer" "DigitOnes" "[B").before a s = true) (h12 : (Jvm.Cond.exactly (Jvm.Term.static "java/lang/Integer" "DigitOnes" "[B") "[B").before a s = true)
    (h13 : (Jvm.Cond.eq (Jvm.Term.length (Jvm.Term.static "java/lang/Integer" "DigitOnes" "[B")) (Jvm.Term.int (100 : Int32))).before a s = true)
    (h14 : (Jvm.Cond.all (Jvm.Term.static "java/lang/Integer" "DigitOnes" "[B") (Jvm.Cond.eq (Jvm.Term.elem (Jvm.Term.static "java/lang/Integer" "DigitOnes" "[B") (Jvm.Term.index (0 : Nat))) (Jvm.Term.add (Jvm.Term.int (48 : Int32)) (Jvm.Term.rem (Jvm.Term.index (0 : Nat)) (Jvm.Term.int (10 : Int32)))))).before a s = true)
    (hA : (Jvm.Cond.arrayClass Jvm.ClassFile.FieldType.byte).before a s = true) :
    ∃ (dg : Addr) (k : ClassId), Sta s s.heap "java/lang/Integer" "DigitOnes" "[B" (.ref dg) ∧ Arv s s.heap dg k .byte (100 : Int32) (own_ones.map Value.int) (.int (0 : Int32)) := by
  obtain ⟨d, cB, D, kB, hev, hfcB, hcellD, hkB, hstatD, hclsD, -⟩ := Cond.exactly_spec h12
  have S := Sta.start hev (Or.inl h11)
  have hevAll : ∀ idx, (Jvm.Term.static "java/lang/Integer" "DigitOnes" "[B").eval a s none idx s = some (.ref d) := fun idx => by
    have : (Jvm.Term.static "java/lang/Integer" "DigitOnes" "[B").eval a s none idx s = (Jvm.Term.static "java/lang/Integer" "DigitOnes" "[B").eval a s none [] s := by simp only [Term.eval]
    rw [this]; exact hev
  have hl := Cond.eq_int h13 rfl
  obtain ⟨d', D', hev', harrAt, hlen⟩ := Term.length_spec hl
  cases hev.symm.trans hev'
  obtain ⟨hcellD', hknD, -, -⟩ := State.arrayAt?_spec harrAt
  cases hcellD.symm.trans hcellD'
  have h31 : D.slots.size < 2 ^ 31 := Jvm.Free.SBG.length_lt hev harrAt hl
  have hsz : D.slots.size = 100 := by
    have h2 : (100 : Int32) = D.slots.size.toInt32 := Value.int.inj hlen
    have h3 := congrArg Int32.toInt h2
    rw [len_toInt h31, show (100 : Int32).toInt = 100 from by decide] at h3; omega
  obtain ⟨cB', kB', comp, hnameB, hkB', hkindB⟩ := Cond.arrayClass_spec hA
  have eBA : ("[" ++ FieldType.toString .byte) = "[B" := by decide
  rw [eBA] at hnameB
  cases hfcB.symm.trans hnameB
  cases hkB.symm.trans hkB'
  have A : Arr s s.heap d D .byte := ⟨hcellD, ⟨(fun q h => by rw [h] at hstatD; cases hstatD), kB, (by rw [hclsD]; exact hkB), comp, hkindB⟩, hknD⟩
  have e1 : ∀ j, j < D.slots.size → (Nat.toInt32 j).toNatClampNeg = j := fun j hj => by simp only [Int32.toNatClampNeg, len_toInt (Nat.lt_trans hj h31)]; rfl
  have ho : ∀ k, k < 100 → (own_ones.map Value.int).getD k (.int (0 : Int32)) = .int (Int32.ofNat (48 + k % 10)) := fun k hk => by
    simp [own_ones, List.getD_eq_getElem?_getD, List.getElem?_map, List.getElem?_range hk]
  have H : Has D (own_ones.map Value.int) (.int (0 : Int32)) := fun r hr => by
    obtain ⟨v, g1, g2⟩ := elem_fit hf A (idx_in hr h31)
    obtain ⟨x, rfl⟩ := fit_I g2 (by simp)
    rw [e1 r hr] at g1
    have h := Cond.all_elim (hevAll []) harrAt (Jvm.Free.AList.val_of_holds h14) r hr
    have eL : (Jvm.Term.elem (Jvm.Term.static "java/lang/Integer" "DigitOnes" "[B") (Jvm.Term.index (0 : Nat))).eval a s none [r] s = some (.int x) := (Jvm.Free.SBG.elem_at (ix := .index 0) (hevAll [r]) harrAt hr h31 rfl).trans g1
    have eR : (Jvm.Term.add (Jvm.Term.int (48 : Int32)) (Jvm.Term.rem (Jvm.Term.index (0 : Nat)) (Jvm.Term.int (10 : Int32)))).eval a s none [r] s = some (.int (48 + Int32.ofNat r % 10)) := rfl
    rw [Cond.eq_ints eL eR] at h
    have hx : x = 48 + Int32.ofNat r % 10 := of_decide_eq_true (Option.some.inj h)
    rw [g1, ho r (by omega), hx, Jvm.Free.SBG.ones_num r (by omega)]
  exact ⟨d, D.cls, S, D, A, rfl, hsz, by decide, H, fun j hj => elem_fits (j := Nat.toInt32 j) hf A (idx_in hj h31) (by rw [e1 j hj]; exact H j hj)⟩
theorem own_sum0 (x y : Int64) : ((0 : Int64) + x) + y + (-x - y) = 0 := by grind
theorem own_sum1 (x : Int64) : ((0 : Int64) + x) + ((1 : Int64) - x) = 1 := by grind
theorem own_d0 : ((own_get own_ones (-((-(0 : Int64)).toInt32)))).toInt8.toInt32 = (48 : Int32) := by decide +kernel
theorem own_d1 : ((own_get own_ones (-((-(1 : Int64)).toInt32)))).toInt8.toInt32 = (49 : Int32) := by decide +kernel
theorem own_d2 : ((own_get own_ones (-((-(2 : Int64)).toInt32)))).toInt8.toInt32 = (50 : Int32) := by decide +kernel
theorem own_d3 : ((own_get own_ones (-((-(3 : Int64)).toInt32)))).toInt8.toInt32 = (51 : Int32) := by decide +kernel
theorem own_cod (cs bs : List Int32) (h : bs = cs.map StrChars.lo8) (h2 : ∀ c ∈ cs, ¬ 255 < c) : StrChars.Road.CodA cs 0 (Int32.ofNat cs.length) (bs.map Value.int) := Or.inl ⟨rfl, rfl, by rw [h, List.map_map]; rfl, h2⟩
theorem own_pn0 : plainName "com/example/hamster/hamster/TreeCount" = true := by first | (simp [plainName, overriddenIn]; done) | decide +kernel
theorem dI_0 : decode prog_13_method_1_code 0 = .ok (.aload_n 0, 1) := by decide +kernel
theorem dI_1 : decode prog_13_method_1_code 1 = .ok (.invokespecial 1, 3) := by decide +kernel
theorem dI_4 : decode prog_13_method_1_code 4 = .ok (.return_, 1) := by decide +kernel
theorem efI (m : MethodId) (a : Addr) : entryFrame m #[(.ref a)] 1 = mkF m 0 #[.val (.ref a)] [] := by first | (simp [entryFrame, mkF, argsToLocals, Value.category]; done) | rfl
def QI (Z : State) (a : Addr) (h0 : Heap) (n0 : Nat) (v : Option Value) (h : Heap) (L : List Loc) : Prop := v = none ∧ Fr n0 L ∧ h = h0
set_option maxRecDepth 65536 in
set_option maxHeartbeats 40000000 in
theorem rmI (l : Launch) (Z : State) (a0 : Array Value) (hw : ∀ d ∈ tables_1, d.before a0 Z = true) (ws : List Jvm.Cond) (a : Addr) (h0 : Heap) (n0 : Nat) (Z0 : n0 ≤ h0.size) :
    MetFree l (⟨"com/example/hamster/hamster/TreeCount", "<init>", "()V"⟩ : MethodName) (head1 (Jvm.Cond.code (⟨"com/example/hamster/hamster/TreeCount", "<init>", "()V"⟩ : MethodName) prog_13_method_1_code 1 none :: ws) ({ frames := 1, cells := 0, slots := 0, locals := 12 } : Room)) (fun av_ U => av_ = #[(.ref a)] ∧ Z.Warmed39 U.vm ∧ U.heap = h0) (fun _ _ _ _ _ => True) (fun _ U o U' => ∃ v L, o = .returned v ∧ QI Z a h0 n0 v U'.heap L ∧ FrameEnd U o U' L ({ frames := 1, cells := 0, slots := 0, locals := 12 } : Room).cells ({ frames := 1, cells := 0, slots := 0, locals := 12 } : Room).slots) := by
  refine MetFree.of_bodySF (plainFor_of_name own_pn0) hisR ?_
  intro p e s m args below meth c s₁ Bd hml0 hP hK
  obtain ⟨rfl, hZ, hh⟩ := hP
  have hx := Bd.exec
  have hby := Bd.bytes
  have hml : c.maxLocals = 1 := hml0
  have hown : s.vm.findClass "com/example/hamster/hamster/TreeCount" = some m.cls := findClass_of_methodNamed Bd.named
  have hnm := (name_of_methodNamed Bd.named Bd.method).1
  have X0 : Stand p l e ({ frames := 1, cells := 0, slots := 0, locals := 12 } : Room) s m #[(.ref a)] below meth c s₁ [] 0 0 := Stand.of_body Bd
  have e0 : s₁.heap = h0 := by rw [← hh, Bd.state]; rfl
  have N0 := Fr.nil n0
  have pre0 : ∀ t, Steps p.tables e below (s₁.setTop (mkF m 0 #[.val (.ref a)] [])) t → Steps p.tables e below (s₁.setTop (entryFrame m #[(.ref a)] 1)) t := fun t k => castTop (efI m a) k
  obtain ⟨T1, X1, e1, st1⟩ := initO X0 hx hZ hown (hw _ (List.mem_of_getElem? (i := 6) rfl)) (hw _ (List.mem_of_getElem? (i := 7) rfl)) (hw _ (List.mem_of_getElem? (i := 8) rfl)) e0 (g := (mkF m 1 #[.val (.ref a)] [(.ref a)])) rfl (by rw [hml]; rfl) rfl (hb hby dI_1) (by decide) (W := 0) (by show 2 * 0 + _ ≤ _; exact Nat.le_of_eq rfl) (by decide)
  obtain ⟨fs, hr, hrun, hended, hW, hsame⟩ := X1.leave (v := none) (fun _ => rfl)
  refine ⟨_, _, (pre0 _ ?_), hrun, hended, _, _, rfl, ?_, ⟨_, rfl⟩, hW, hsame.mono (by decide) (by decide)⟩
  · show Steps p.tables e below (s₁.setTop (mkF m 0 #[.val (.ref a)] [])) _
    refine XS.aloadN X0.here hx rfl (hb hby dI_0) rfl rfl ?_
    show Steps p.tables e below (s₁.setTop (mkF m 1 #[.val (.ref a)] [(.ref a)])) _
    refine st1 _ ?_
    show Steps p.tables e below (T1.setTop (mkF m 4 #[.val (.ref a)] [])) _
    exact X1.returnOut hx Bd.returns (hb hby dI_4) hr
  · show QI Z a h0 n0 _ T1.heap _
    rw [e1]
    exact ⟨rfl, N0, rfl⟩
theorem dF_0 : decode prog_13_method_3_code 0 = .ok (.aload_n 0, 1) := by decide +kernel
theorem dF_1 : decode prog_13_method_3_code 1 = .ok (.dup, 1) := by decide +kernel
theorem dF_2 : decode prog_13_method_3_code 2 = .ok (.getfield 13, 3) := by decide +kernel
theorem dF_5 : decode prog_13_method_3_code 5 = .ok (.lconst 1, 1) := by decide +kernel
theorem dF_6 : decode prog_13_method_3_code 6 = .ok (.ladd, 1) := by decide +kernel
theorem dF_7 : decode prog_13_method_3_code 7 = .ok (.putfield 13, 3) := by decide +kernel
theorem dF_10 : decode prog_13_method_3_code 10 = .ok (.aload_n 0, 1) := by decide +kernel
theorem dF_11 : decode prog_13_method_3_code 11 = .ok (.dup, 1) := by decide +kernel
theorem dF_12 : decode prog_13_method_3_code 12 = .ok (.getfield 16, 3) := by decide +kernel
theorem dF_15 : decode prog_13_method_3_code 15 = .ok (.lload_n 1, 1) := by decide +kernel
theorem dF_16 : decode prog_13_method_3_code 16 = .ok (.ladd, 1) := by decide +kernel
theorem dF_17 : decode prog_13_method_3_code 17 = .ok (.putfield 16, 3) := by decide +kernel
theorem dF_20 : decode prog_13_method_3_code 20 = .ok (.return_, 1) := by decide +kernel
theorem efF (m : MethodId) (a : Addr) (sz : Int64) : entryFrame m #[(.ref a), (.long sz)] 3 = mkF m 0 #[.val (.ref a), .val (.long sz), .second] [] := by first | (simp [entryFrame, mkF, argsToLocals, Value.category]; done) | rfl
def QF (Z : State) (a : Addr) (sz : Int64) (nf : Int64) (nb : Int64) (ng : Int64) (h0 : Heap) (n0 : Nat) (v : Option Value) (h : Heap) (L : List Loc) : Prop := v = none ∧ Fr n0 L ∧ Keep h0 h [a] ∧ Exa Z h a "com/example/hamster/hamster/TreeCount" ∧ Fld Z h a "com/example/hamster/hamster/TreeCount" "files" "J" (.long (nf + (1 : Int64))) ∧ Fld Z h a "com/example/hamster/hamster/TreeCount" "bytes" "J" (.long (nb + sz)) ∧ Fld Z h a "com/example/hamster/hamster/TreeCount" "folders" "J" (.long ng)
set_option maxRecDepth 65536 in
set_option maxHeartbeats 40000000 in
theorem rmF (l : Launch) (Z : State) (a0 : Array Value) (hw : ∀ d ∈ tables_1, d.before a0 Z = true) (ws : List Jvm.Cond) (a : Addr) (sz : Int64) (nf : Int64) (nb : Int64) (ng : Int64) (h0 : Heap) (n0 : Nat) (Z0 : n0 ≤ h0.size) (E_a : Exa Z h0 a "com/example/hamster/hamster/TreeCount") (F_files_a : Fld Z h0 a "com/example/hamster/hamster/TreeCount" "files" "J" (.long nf)) (F_bytes_a : Fld Z h0 a "com/example/hamster/hamster/TreeCount" "bytes" "J" (.long nb)) (F_folders_a : Fld Z h0 a "com/example/hamster/hamster/TreeCount" "folders" "J" (.long ng)) (g_a : n0 ≤ a) :
    MetFree l (⟨"com/example/hamster/hamster/TreeCount", "addFile", "(J)V"⟩ : MethodName) (head1 (Jvm.Cond.code (⟨"com/example/hamster/hamster/TreeCount", "addFile", "(J)V"⟩ : MethodName) prog_13_method_3_code 3 none :: ws) ({ frames := 0, cells := 0, slots := 0, locals := 0 } : Room)) (fun av_ U => av_ = #[(.ref a), (.long sz)] ∧ Z.Warmed39 U.vm ∧ U.heap = h0) (fun _ _ _ _ _ => True) (fun _ U o U' => ∃ v L, o = .returned v ∧ QF Z a sz nf nb ng h0 n0 v U'.heap L ∧ FrameEnd U o U' L ({ frames := 0, cells := 0, slots := 0, locals := 0 } : Room).cells ({ frames := 0, cells := 0, slots := 0, locals := 0 } : Room).slots) := by
  refine MetFree.of_bodySF (plainFor_of_name own_pn0) hisR ?_
  intro p e s m args below meth c s₁ Bd hml0 hP hK
  obtain ⟨rfl, hZ, hh⟩ := hP
  have hx := Bd.exec
  have hby := Bd.bytes
  have hml : c.maxLocals = 3 := hml0
  have hown : s.vm.findClass "com/example/hamster/hamster/TreeCount" = some m.cls := findClass_of_methodNamed Bd.named
  have hnm := (name_of_methodNamed Bd.named Bd.method).1
  have X0 : Stand p l e ({ frames := 0, cells := 0, slots := 0, locals := 0 } : Room) s m #[(.ref a), (.long sz)] below meth c s₁ [] 0 0 := Stand.of_body Bd
  have e0 : s₁.heap = h0 := by rw [← hh, Bd.state]; rfl
  have N0 := Fr.nil n0
  have pre0 : ∀ t, Steps p.tables e below (s₁.setTop (mkF m 0 #[.val (.ref a), .val (.long sz), .second] [])) t → Steps p.tables e below (s₁.setTop (entryFrame m #[(.ref a), (.long sz)] 3)) t := fun t k => castTop (efF m a sz) k
  obtain ⟨T1, X1, e1, st1⟩ := getF X0 hx hZ hown (host := "") (Or.inl (hw _ (List.mem_of_getElem? (i := 14) rfl))) Via.refl e0 F_files_a (g := (mkF m 2 #[.val (.ref a), .val (.long sz), .second] [(.ref a), (.ref a)])) rfl rfl (hb hby dF_2)
  obtain ⟨T2, h2, X2, e2, W2, st2⟩ := putF X1 hx hZ hown (host := "") (Or.inl (hw _ (List.mem_of_getElem? (i := 14) rfl))) Via.refl e1 F_files_a E_a (Or.inl (hw _ (List.mem_of_getElem? (i := 15) rfl))) (hw _ (List.mem_of_getElem? (i := 1) rfl)) (ty := .long) (by decide) rfl rfl (g := (mkF m 7 #[.val (.ref a), .val (.long sz), .second] [(.long (nf + (1 : Int64))), (.ref a)])) rfl rfl (hb hby dF_7)
  have F2 : Fld Z h2 a "com/example/hamster/hamster/TreeCount" "files" "J" (.long (nf + (1 : Int64))) := Fld.same W2 F_files_a
  have K2 : Keep h0 h2 [a] := (Keep.refl h0 [a]).wr W2 (Or.inl (List.mem_of_getElem? (i := 0) rfl))
  have Zs2 : n0 ≤ h2.size := Nat.le_trans Z0 (Keep.of_wr W2).1
  have N2 := Fr.snoc X2 N0 g_a
  obtain ⟨T3, X3, e3, st3⟩ := getF X2 hx hZ hown (host := "") (Or.inl (hw _ (List.mem_of_getElem? (i := 16) rfl))) Via.refl e2 (Fld.other W2 F_bytes_a (Or.inr (slot_ne (Or.inl (hw _ (List.mem_of_getElem? (i := 17) rfl))) (Or.inl (hw _ (List.mem_of_getElem? (i := 15) rfl))) (by decide) (t := .long) (t' := .long) (by decide) (by decide)))) (g := (mkF m 12 #[.val (.ref a), .val (.long sz), .second] [(.ref a), (.ref a)])) rfl rfl (hb hby dF_12)
  obtain ⟨T4, h4, X4, e4, W4, st4⟩ := putF X3 hx hZ hown (host := "") (Or.inl (hw _ (List.mem_of_getElem? (i := 16) rfl))) Via.refl e3 (Fld.other W2 F_bytes_a (Or.inr (slot_ne (Or.inl (hw _ (List.mem_of_getElem? (i := 17) rfl))) (Or.inl (hw _ (List.mem_of_getElem? (i := 15) rfl))) (by decide) (t := .long) (t' := .long) (by decide) (by decide)))) (E_a.wr W2) (Or.inl (hw _ (List.mem_of_getElem? (i := 17) rfl))) (hw _ (List.mem_of_getElem? (i := 1) rfl)) (ty := .long) (by decide) rfl rfl (g := (mkF m 17 #[.val (.ref a), .val (.long sz), .second] [(.long (nb + sz)), (.ref a)])) rfl rfl (hb hby dF_17)
  have F4 : Fld Z h4 a "com/example/hamster/hamster/TreeCount" "bytes" "J" (.long (nb + sz)) := Fld.same W4 (Fld.other W2 F_bytes_a (Or.inr (slot_ne (Or.inl (hw _ (List.mem_of_getElem? (i := 17) rfl))) (Or.inl (hw _ (List.mem_of_getElem? (i := 15) rfl))) (by decide) (t := .long) (t' := .long) (by decide) (by decide))))
  have K4 : Keep h0 h4 [a] := K2.wr W4 (Or.inl (List.mem_of_getElem? (i := 0) rfl))
  have Zs4 : n0 ≤ h4.size := Nat.le_trans Zs2 (Keep.of_wr W4).1
  have N4 := Fr.snoc X4 N2 g_a
  obtain ⟨fs, hr, hrun, hended, hW, hsame⟩ := X4.leave (v := none) (fun _ => rfl)
  refine ⟨_, _, (pre0 _ ?_), hrun, hended, _, _, rfl, ?_, ⟨_, rfl⟩, hW, hsame.mono (by decide) (by decide)⟩
  · show Steps p.tables e below (s₁.setTop (mkF m 0 #[.val (.ref a), .val (.long sz), .second] [])) _
    refine XS.aloadN X0.here hx rfl (hb hby dF_0) rfl rfl ?_
    show Steps p.tables e below (s₁.setTop (mkF m 1 #[.val (.ref a), .val (.long sz), .second] [(.ref a)])) _
    refine XS.dup X0.here hx rfl (hb hby dF_1) rfl rfl ?_
    show Steps p.tables e below (s₁.setTop (mkF m 2 #[.val (.ref a), .val (.long sz), .second] [(.ref a), (.ref a)])) _
    refine st1 _ ?_
    show Steps p.tables e below (T1.setTop (mkF m 5 #[.val (.ref a), .val (.long sz), .second] [(.long nf), (.ref a)])) _
    refine XS.lconst X1.here hx rfl (hb hby dF_5) ?_
    show Steps p.tables e below (T1.setTop (mkF m 6 #[.val (.ref a), .val (.long sz), .second] [(.long (1 : Int64)), (.long nf), (.ref a)])) _
    refine XS.ladd X1.here hx rfl (hb hby dF_6) rfl ?_
    show Steps p.tables e below (T1.setTop (mkF m 7 #[.val (.ref a), .val (.long sz), .second] [(.long (nf + (1 : Int64))), (.ref a)])) _
    refine st2 _ ?_
    show Steps p.tables e below (T2.setTop (mkF m 10 #[.val (.ref a), .val (.long sz), .second] [])) _
    refine XS.aloadN X2.here hx rfl (hb hby dF_10) rfl rfl ?_
    show Steps p.tables e below (T2.setTop (mkF m 11 #[.val (.ref a), .val (.long sz), .second] [(.ref a)])) _
    refine XS.dup X2.here hx rfl (hb hby dF_11) rfl rfl ?_
    show Steps p.tables e below (T2.setTop (mkF m 12 #[.val (.ref a), .val (.long sz), .second] [(.ref a), (.ref a)])) _
    refine st3 _ ?_
    show Steps p.tables e below (T3.setTop (mkF m 15 #[.val (.ref a), .val (.long sz), .second] [(.long nb), (.ref a)])) _
    refine XS.lloadN X3.here hx rfl (hb hby dF_15) rfl ?_
    show Steps p.tables e below (T3.setTop (mkF m 16 #[.val (.ref a), .val (.long sz), .second] [(.long sz), (.long nb), (.ref a)])) _
    refine XS.ladd X3.here hx rfl (hb hby dF_16) rfl ?_
    show Steps p.tables e below (T3.setTop (mkF m 17 #[.val (.ref a), .val (.long sz), .second] [(.long (nb + sz)), (.ref a)])) _
    refine st4 _ ?_
    show Steps p.tables e below (T4.setTop (mkF m 20 #[.val (.ref a), .val (.long sz), .second] [])) _
    exact X4.returnOut hx Bd.returns (hb hby dF_20) hr
  · show QF Z a sz nf nb ng h0 n0 _ T4.heap _
    rw [e4]
    exact ⟨rfl, N4, K4, ((E_a.wr W2).wr W4), (Fld.other W4 F2 (Or.inr (slot_ne (Or.inl (hw _ (List.mem_of_getElem? (i := 15) rfl))) (Or.inl (hw _ (List.mem_of_getElem? (i := 17) rfl))) (by decide) (t := .long) (t' := .long) (by decide) (by decide)))), F4, (Fld.other W4 (Fld.other W2 F_folders_a (Or.inr (slot_ne (Or.inl (hw _ (List.mem_of_getElem? (i := 125) rfl))) (Or.inl (hw _ (List.mem_of_getElem? (i := 15) rfl))) (by decide) (t := .long) (t' := .long) (by decide) (by decide)))) (Or.inr (slot_ne (Or.inl (hw _ (List.mem_of_getElem? (i := 125) rfl))) (Or.inl (hw _ (List.mem_of_getElem? (i := 17) rfl))) (by decide) (t := .long) (t' := .long) (by decide) (by decide))))⟩
theorem own_pn1 : plainName "java/lang/AbstractStringBuilder" = true := by first | (simp [plainName, overriddenIn]; done) | decide +kernel
theorem dA1_0 : decode jdk_68_method_2_code 0 = .ok (.aload_n 0, 1) := by decide +kernel
theorem dA1_1 : decode jdk_68_method_2_code 1 = .ok (.invokespecial 3, 3) := by decide +kernel
theorem dA1_4 : decode jdk_68_method_2_code 4 = .ok (.getstatic 18, 3) := by decide +kernel
theorem dA1_7 : decode jdk_68_method_2_code 7 = .ok (.ifCond .eq 18, 3) := by decide +kernel
theorem dA1_10 : decode jdk_68_method_2_code 10 = .ok (.aload_n 0, 1) := by decide +kernel
theorem dA1_11 : decode jdk_68_method_2_code 11 = .ok (.iload_n 1, 1) := by decide +kernel
theorem dA1_12 : decode jdk_68_method_2_code 12 = .ok (.newarray .byte, 2) := by decide +kernel
theorem dA1_14 : decode jdk_68_method_2_code 14 = .ok (.putfield 15, 3) := by decide +kernel
theorem dA1_17 : decode jdk_68_method_2_code 17 = .ok (.aload_n 0, 1) := by decide +kernel
theorem dA1_18 : decode jdk_68_method_2_code 18 = .ok (.iconst 0, 1) := by decide +kernel
theorem dA1_19 : decode jdk_68_method_2_code 19 = .ok (.putfield 22, 3) := by decide +kernel
theorem dA1_22 : decode jdk_68_method_2_code 22 = .ok (.goto 16, 3) := by decide +kernel
theorem dA1_38 : decode jdk_68_method_2_code 38 = .ok (.return_, 1) := by decide +kernel
theorem efA1 (m : MethodId) (xo0_ : Addr) : entryFrame m #[(.ref xo0_), (.int (16 : Int32))] 2 = mkF m 0 #[.val (.ref xo0_), .val (.int (16 : Int32))] [] := by first | (simp [entryFrame, mkF, argsToLocals, Value.category]; done) | rfl
def QA1 (Z : State) (xo0_ : Addr) (ui1_ : Int32) (h0 : Heap) (n0 : Nat) (v : Option Value) (h : Heap) (L : List Loc) : Prop := ∃ fb3 : Addr, ∃ k_fb3 : ClassId, v = none ∧ Fr n0 L ∧ Keep h0 h [xo0_] ∧ n0 ≤ fb3 ∧ h0.size ≤ fb3 ∧ Exa Z h xo0_ "java/lang/StringBuilder" ∧ Fld Z h xo0_ "java/lang/AbstractStringBuilder" "value" "[B" (.ref fb3) ∧ Fld Z h xo0_ "java/lang/AbstractStringBuilder" "coder" "B" (.int (0 : Int32)) ∧ Fld Z h xo0_ "java/lang/AbstractStringBuilder" "count" "I" (.int (0 : Int32)) ∧ Arv Z h fb3 k_fb3 .byte (16 : Int32) [(.int (0 : Int32)), (.int (0 : Int32)), (.int (0 : Int32)), (.int (0 : Int32)), (.int (0 : Int32)), (.int (0 : Int32)), (.int (0 : Int32)), (.int (0 : Int32)), (.int (0 : Int32)), (.int (0 : Int32)), (.int (0 : Int32)), (.int (0 : Int32)), (.int (0 : Int32)), (.int (0 : Int32)), (.int (0 : Int32)), (.int (0 : Int32))] (.int (0 : Int32))
set_option maxRecDepth 65536 in
set_option maxHeartbeats 40000000 in
theorem rmA1 (l : Launch) (Z : State) (a0 : Array Value) (hw : ∀ d ∈ tables_1, d.before a0 Z = true) (ws : List Jvm.Cond) (xo0_ : Addr) (ui1_ : Int32) (h0 : Heap) (n0 : Nat) (Z0 : n0 ≤ h0.size) (E_xo0_ : Exa Z h0 xo0_ "java/lang/StringBuilder") (F_value_xo0_ : Fld Z h0 xo0_ "java/lang/AbstractStringBuilder" "value" "[B" .null) (F_coder_xo0_ : Fld Z h0 xo0_ "java/lang/AbstractStringBuilder" "coder" "B" (.int (0 : Int32))) (F_count_xo0_ : Fld Z h0 xo0_ "java/lang/AbstractStringBuilder" "count" "I" (.int (0 : Int32))) (X00 : Old Z n0 h0) (S_COMPACT_STRINGS : Sta Z Z.heap "java/lang/String" "COMPACT_STRINGS" "Z" (.int ui1_)) (hp0_ : ¬ (ui1_ = (0 : Int32))) (g_xo0_ : n0 ≤ xo0_) :
    MetFree l (⟨"java/lang/AbstractStringBuilder", "<init>", "(I)V"⟩ : MethodName) (head1 (Jvm.Cond.code (⟨"java/lang/AbstractStringBuilder", "<init>", "(I)V"⟩ : MethodName) jdk_68_method_2_code 2 none :: ws) ({ frames := 1, cells := 1, slots := 16, locals := 12 } : Room)) (fun av_ U => av_ = #[(.ref xo0_), (.int (16 : Int32))] ∧ Z.Warmed39 U.vm ∧ U.heap = h0) (fun _ _ _ _ _ => True) (fun _ U o U' => ∃ v L, o = .returned v ∧ QA1 Z xo0_ ui1_ h0 n0 v U'.heap L ∧ FrameEnd U o U' L ({ frames := 1, cells := 1, slots := 16, locals := 12 } : Room).cells ({ frames := 1, cells := 1, slots := 16, locals := 12 } : Room).slots) := by
  refine MetFree.of_bodySF (plainFor_of_name own_pn1) hisR ?_
  intro p e s m args below meth c s₁ Bd hml0 hP hK
  obtain ⟨rfl, hZ, hh⟩ := hP
  have hx := Bd.exec
  have hby := Bd.bytes
  have hml : c.maxLocals = 2 := hml0
  have hown : s.vm.findClass "java/lang/AbstractStringBuilder" = some m.cls := findClass_of_methodNamed Bd.named
  have hnm := (name_of_methodNamed Bd.named Bd.method).1
  have X0 : Stand p l e ({ frames := 1, cells := 1, slots := 16, locals := 12 } : Room) s m #[(.ref xo0_), (.int (16 : Int32))] below meth c s₁ [] 0 0 := Stand.of_body Bd
  have e0 : s₁.heap = h0 := by rw [← hh, Bd.state]; rfl
  have N0 := Fr.nil n0
  have pre0 : ∀ t, Steps p.tables e below (s₁.setTop (mkF m 0 #[.val (.ref xo0_), .val (.int (16 : Int32))] [])) t → Steps p.tables e below (s₁.setTop (entryFrame m #[(.ref xo0_), (.int (16 : Int32))] 2)) t := fun t k => castTop (efA1 m xo0_) k
  obtain ⟨T1, X1, e1, st1⟩ := initO X0 hx hZ hown (hw _ (List.mem_of_getElem? (i := 35) rfl)) (hw _ (List.mem_of_getElem? (i := 7) rfl)) (hw _ (List.mem_of_getElem? (i := 8) rfl)) e0 (g := (mkF m 1 #[.val (.ref xo0_), .val (.int (16 : Int32))] [(.ref xo0_)])) rfl (by rw [hml]; rfl) rfl (hb hby dA1_1) (by decide) (W := 0) (by show 2 * 0 + _ ≤ _; exact Nat.le_of_eq rfl) (by decide)
  obtain ⟨T2, X2, e2, st2⟩ := getS2 X1 hx hZ hown (host := "") (Or.inl (hw _ (List.mem_of_getElem? (i := 36) rfl))) Via.refl e1 (S_COMPACT_STRINGS.ext X00.2) (g := (mkF m 4 #[.val (.ref xo0_), .val (.int (16 : Int32))] [])) rfl (hb hby dA1_4)
  obtain ⟨T3, h3, k3, X3, e3, E3, A3, st3⟩ := newP X2 hx hZ (hw _ (List.mem_of_getElem? (i := 38) rfl)) e2 (g := (mkF m 12 #[.val (.ref xo0_), .val (.int (16 : Int32))] [(.int (16 : Int32)), (.ref xo0_)])) rfl (hb hby dA1_12) rfl (by decide) (cap := 16) (by decide) (by decide) (by decide) (by decide)
  obtain ⟨b3, g3⟩ : ∃ z, z = h0.size := ⟨_, rfl⟩
  rw [← g3] at A3 st3
  have ne_xo0__b3 : xo0_ ≠ b3 := Nat.ne_of_lt (Nat.lt_of_lt_of_le E_xo0_.lt (Nat.le_of_eq g3.symm))
  have g_b3 : n0 ≤ b3 := Nat.le_trans Z0 (Nat.le_of_eq g3.symm)
  have sz_b3 : h0.size ≤ b3 := Nat.le_trans (Keep.refl h0 [xo0_]).1 (Nat.le_of_eq g3.symm)
  have K3 : Keep h0 h3 [xo0_] := (Keep.refl h0 [xo0_]).ext E3
  have Zs3 : n0 ≤ h3.size := Nat.le_trans Z0 E3.1
  have V3 : Arv Z h3 b3 k3 .byte (16 : Int32) [(.int (0 : Int32)), (.int (0 : Int32)), (.int (0 : Int32)), (.int (0 : Int32)), (.int (0 : Int32)), (.int (0 : Int32)), (.int (0 : Int32)), (.int (0 : Int32)), (.int (0 : Int32)), (.int (0 : Int32)), (.int (0 : Int32)), (.int (0 : Int32)), (.int (0 : Int32)), (.int (0 : Int32)), (.int (0 : Int32)), (.int (0 : Int32))] (.int (0 : Int32)) := (Arv.new A3 (by decide)).pad (pad_rep [] (.int (0 : Int32)) 16)
  obtain ⟨T4, h4, X4, e4, W4, st4⟩ := putF X3 hx hZ hown (host := "") (Or.inl (hw _ (List.mem_of_getElem? (i := 39) rfl))) Via.refl e3 (F_value_xo0_.ext E3) (E_xo0_.ext E3) (Or.inl (hw _ (List.mem_of_getElem? (i := 40) rfl))) (hw _ (List.mem_of_getElem? (i := 24) rfl)) (ty := (.array .byte)) (by decide) rfl rfl (g := (mkF m 14 #[.val (.ref xo0_), .val (.int (16 : Int32))] [(.ref b3), (.ref xo0_)])) rfl rfl (hb hby dA1_14)
  have F4 : Fld Z h4 xo0_ "java/lang/AbstractStringBuilder" "value" "[B" (.ref b3) := Fld.same W4 (F_value_xo0_.ext E3)
  have K4 : Keep h0 h4 [xo0_] := K3.wr W4 (Or.inl (List.mem_of_getElem? (i := 0) rfl))
  have Zs4 : n0 ≤ h4.size := Nat.le_trans Zs3 (Keep.of_wr W4).1
  have N4 := Fr.snoc X4 N0 g_xo0_
  obtain ⟨T5, h5, X5, e5, W5, st5⟩ := putFN X4 hx hZ hown (hw _ (List.mem_of_getElem? (i := 41) rfl)) Via.refl e4 (Fld.other W4 (F_coder_xo0_.ext E3) (Or.inr (slot_ne (Or.inl (hw _ (List.mem_of_getElem? (i := 42) rfl))) (Or.inl (hw _ (List.mem_of_getElem? (i := 40) rfl))) (by decide) (t := .byte) (t' := (.array .byte)) (by decide) (by decide)))) ((E_xo0_.ext E3).wr W4) (Or.inl (hw _ (List.mem_of_getElem? (i := 42) rfl))) (hw _ (List.mem_of_getElem? (i := 24) rfl)) (ty := .byte) (v := (.int (0 : Int32))) (v' := (.int (0 : Int32))) (by decide) rfl rfl (g := (mkF m 19 #[.val (.ref xo0_), .val (.int (16 : Int32))] [(.int (0 : Int32)), (.ref xo0_)])) rfl rfl (hb hby dA1_19)
  have F5 : Fld Z h5 xo0_ "java/lang/AbstractStringBuilder" "coder" "B" (.int (0 : Int32)) := Fld.same W5 (Fld.other W4 (F_coder_xo0_.ext E3) (Or.inr (slot_ne (Or.inl (hw _ (List.mem_of_getElem? (i := 42) rfl))) (Or.inl (hw _ (List.mem_of_getElem? (i := 40) rfl))) (by decide) (t := .byte) (t' := (.array .byte)) (by decide) (by decide))))
  have K5 : Keep h0 h5 [xo0_] := K4.wr W5 (Or.inl (List.mem_of_getElem? (i := 0) rfl))
  have Zs5 : n0 ≤ h5.size := Nat.le_trans Zs4 (Keep.of_wr W5).1
  have N5 := Fr.snoc X5 N4 g_xo0_
  obtain ⟨fs, hr, hrun, hended, hW, hsame⟩ := X5.leave (v := none) (fun _ => rfl)
  refine ⟨_, _, (pre0 _ ?_), hrun, hended, _, _, rfl, ?_, ⟨_, rfl⟩, hW, hsame.mono (by decide) (by decide)⟩
  · show Steps p.tables e below (s₁.setTop (mkF m 0 #[.val (.ref xo0_), .val (.int (16 : Int32))] [])) _
    refine XS.aloadN X0.here hx rfl (hb hby dA1_0) rfl rfl ?_
    show Steps p.tables e below (s₁.setTop (mkF m 1 #[.val (.ref xo0_), .val (.int (16 : Int32))] [(.ref xo0_)])) _
    refine st1 _ ?_
    show Steps p.tables e below (T1.setTop (mkF m 4 #[.val (.ref xo0_), .val (.int (16 : Int32))] [])) _
    refine st2 _ ?_
    show Steps p.tables e below (T2.setTop (mkF m 7 #[.val (.ref xo0_), .val (.int (16 : Int32))] [(.int ui1_)])) _
    refine XS.ifNo X2.here hx rfl (hb hby dA1_7) rfl ((if0 _ _).trans (feq hp0_).1) ?_
    show Steps p.tables e below (T2.setTop (mkF m 10 #[.val (.ref xo0_), .val (.int (16 : Int32))] [])) _
    refine XS.aloadN X2.here hx rfl (hb hby dA1_10) rfl rfl ?_
    show Steps p.tables e below (T2.setTop (mkF m 11 #[.val (.ref xo0_), .val (.int (16 : Int32))] [(.ref xo0_)])) _
    refine XS.iloadN X2.here hx rfl (hb hby dA1_11) rfl ?_
    show Steps p.tables e below (T2.setTop (mkF m 12 #[.val (.ref xo0_), .val (.int (16 : Int32))] [(.int (16 : Int32)), (.ref xo0_)])) _
    refine st3 _ ?_
    show Steps p.tables e below (T3.setTop (mkF m 14 #[.val (.ref xo0_), .val (.int (16 : Int32))] [(.ref b3), (.ref xo0_)])) _
    refine st4 _ ?_
    show Steps p.tables e below (T4.setTop (mkF m 17 #[.val (.ref xo0_), .val (.int (16 : Int32))] [])) _
    refine XS.aloadN X4.here hx rfl (hb hby dA1_17) rfl rfl ?_
    show Steps p.tables e below (T4.setTop (mkF m 18 #[.val (.ref xo0_), .val (.int (16 : Int32))] [(.ref xo0_)])) _
    refine XS.iconst X4.here hx rfl (hb hby dA1_18) ?_
    show Steps p.tables e below (T4.setTop (mkF m 19 #[.val (.ref xo0_), .val (.int (16 : Int32))] [(.int (0 : Int32)), (.ref xo0_)])) _
    refine st5 _ ?_
    show Steps p.tables e below (T5.setTop (mkF m 22 #[.val (.ref xo0_), .val (.int (16 : Int32))] [])) _
    refine XS.goto X5.here hx rfl (pc0 := 22) (pc' := 38) rfl (hb hby dA1_22) (by decide) (by decide) ?_
    show Steps p.tables e below (T5.setTop (mkF m 38 #[.val (.ref xo0_), .val (.int (16 : Int32))] [])) _
    exact X5.returnOut hx Bd.returns (hb hby dA1_38) hr
  · show QA1 Z xo0_ ui1_ h0 n0 _ T5.heap _
    rw [e5]
    exact ⟨b3, k3, rfl, N5, K5, g_b3, sz_b3, (((E_xo0_.ext E3).wr W4).wr W5), (Fld.other W5 F4 (Or.inr (slot_ne (Or.inl (hw _ (List.mem_of_getElem? (i := 40) rfl))) (Or.inl (hw _ (List.mem_of_getElem? (i := 42) rfl))) (by decide) (t := (.array .byte)) (t' := .byte) (by decide) (by decide)))), F5, (Fld.other W5 (Fld.other W4 (F_count_xo0_.ext E3) (Or.inr (slot_ne (Or.inl (hw _ (List.mem_of_getElem? (i := 54) rfl))) (Or.inl (hw _ (List.mem_of_getElem? (i := 40) rfl))) (by decide) (t := .int) (t' := (.array .byte)) (by decide) (by decide)))) (Or.inr (slot_ne (Or.inl (hw _ (List.mem_of_getElem? (i := 54) rfl))) (Or.inl (hw _ (List.mem_of_getElem? (i := 42) rfl))) (by decide) (t := .int) (t' := .byte) (by decide) (by decide)))), ((V3.other W4 (Ne.symm ne_xo0__b3)).other W5 (Ne.symm ne_xo0__b3))⟩
theorem own_pd0 : parseMethodDescriptor "(I)V" = some ⟨[.int], none⟩ := by decide +kernel
theorem own_pn2 : plainName "java/lang/StringBuilder" = true := by first | (simp [plainName, overriddenIn]; done) | decide +kernel
theorem dA0_0 : decode jdk_67_method_1_code 0 = .ok (.aload_n 0, 1) := by decide +kernel
theorem dA0_1 : decode jdk_67_method_1_code 1 = .ok (.bipush 16, 2) := by decide +kernel
theorem dA0_3 : decode jdk_67_method_1_code 3 = .ok (.invokespecial 1, 3) := by decide +kernel
theorem dA0_6 : decode jdk_67_method_1_code 6 = .ok (.return_, 1) := by decide +kernel
theorem efA0 (m : MethodId) (xo0_ : Addr) : entryFrame m #[(.ref xo0_)] 1 = mkF m 0 #[.val (.ref xo0_)] [] := by first | (simp [entryFrame, mkF, argsToLocals, Value.category]; done) | rfl
def QA0 (Z : State) (xo0_ : Addr) (ui1_ : Int32) (h0 : Heap) (n0 : Nat) (v : Option Value) (h : Heap) (L : List Loc) : Prop := ∃ ffb3_1 : Addr, ∃ k_ffb3_1 : ClassId, v = none ∧ Fr n0 L ∧ Keep h0 h [xo0_] ∧ n0 ≤ ffb3_1 ∧ h0.size ≤ ffb3_1 ∧ Exa Z h xo0_ "java/lang/StringBuilder" ∧ Fld Z h xo0_ "java/lang/AbstractStringBuilder" "value" "[B" (.ref ffb3_1) ∧ Fld Z h xo0_ "java/lang/AbstractStringBuilder" "coder" "B" (.int (0 : Int32)) ∧ Fld Z h xo0_ "java/lang/AbstractStringBuilder" "count" "I" (.int (0 : Int32)) ∧ Arv Z h ffb3_1 k_ffb3_1 .byte (16 : Int32) [(.int (0 : Int32)), (.int (0 : Int32)), (.int (0 : Int32)), (.int (0 : Int32)), (.int (0 : Int32)), (.int (0 : Int32)), (.int (0 : Int32)), (.int (0 : Int32)), (.int (0 : Int32)), (.int (0 : Int32)), (.int (0 : Int32)), (.int (0 : Int32)), (.int (0 : Int32)), (.int (0 : Int32)), (.int (0 : Int32)), (.int (0 : Int32))] (.int (0 : Int32))
set_option maxRecDepth 65536 in
set_option maxHeartbeats 40000000 in
theorem rmA0 (l : Launch) (Z : State) (a0 : Array Value) (hw : ∀ d ∈ tables_1, d.before a0 Z = true) (ws : List Jvm.Cond) (xo0_ : Addr) (ui1_ : Int32) (h0 : Heap) (n0 : Nat) (Z0 : n0 ≤ h0.size) (E_xo0_ : Exa Z h0 xo0_ "java/lang/StringBuilder") (F_value_xo0_ : Fld Z h0 xo0_ "java/lang/AbstractStringBuilder" "value" "[B" .null) (F_coder_xo0_ : Fld Z h0 xo0_ "java/lang/AbstractStringBuilder" "coder" "B" (.int (0 : Int32))) (F_count_xo0_ : Fld Z h0 xo0_ "java/lang/AbstractStringBuilder" "count" "I" (.int (0 : Int32))) (X00 : Old Z n0 h0) (S_COMPACT_STRINGS : Sta Z Z.heap "java/lang/String" "COMPACT_STRINGS" "Z" (.int ui1_)) (hp0_ : ¬ (ui1_ = (0 : Int32))) (g_xo0_ : n0 ≤ xo0_) :
    MetFree l (⟨"java/lang/StringBuilder", "<init>", "()V"⟩ : MethodName) (head1 (Jvm.Cond.code (⟨"java/lang/StringBuilder", "<init>", "()V"⟩ : MethodName) jdk_67_method_1_code 1 none :: ws) ({ frames := 2, cells := 1, slots := 16, locals := 25 } : Room)) (fun av_ U => av_ = #[(.ref xo0_)] ∧ Z.Warmed39 U.vm ∧ U.heap = h0) (fun _ _ _ _ _ => True) (fun _ U o U' => ∃ v L, o = .returned v ∧ QA0 Z xo0_ ui1_ h0 n0 v U'.heap L ∧ FrameEnd U o U' L ({ frames := 2, cells := 1, slots := 16, locals := 25 } : Room).cells ({ frames := 2, cells := 1, slots := 16, locals := 25 } : Room).slots) := by
  refine MetFree.of_bodySF (plainFor_of_name own_pn2) hisR ?_
  intro p e s m args below meth c s₁ Bd hml0 hP hK
  obtain ⟨rfl, hZ, hh⟩ := hP
  have hx := Bd.exec
  have hby := Bd.bytes
  have hml : c.maxLocals = 1 := hml0
  have hown : s.vm.findClass "java/lang/StringBuilder" = some m.cls := findClass_of_methodNamed Bd.named
  have hnm := (name_of_methodNamed Bd.named Bd.method).1
  have X0 : Stand p l e ({ frames := 2, cells := 1, slots := 16, locals := 25 } : Room) s m #[(.ref xo0_)] below meth c s₁ [] 0 0 := Stand.of_body Bd
  have e0 : s₁.heap = h0 := by rw [← hh, Bd.state]; rfl
  have N0 := Fr.nil n0
  have pre0 : ∀ t, Steps p.tables e below (s₁.setTop (mkF m 0 #[.val (.ref xo0_)] [])) t → Steps p.tables e below (s₁.setTop (entryFrame m #[(.ref xo0_)] 1)) t := fun t k => castTop (efA0 m xo0_) k
  obtain ⟨_, _, ⟨T1, L1, k1, n1⟩, -, X1, ⟨Lc1, hQ1, l1, y1, z1⟩, st1⟩ := X0.specialBack hx (y := (⟨"java/lang/AbstractStringBuilder", "<init>", "(I)V"⟩ : MethodName)) rfl hown (mvT hZ (hw _ (List.mem_of_getElem? (i := 29) rfl))) (mvT hZ (hw _ (List.mem_of_getElem? (i := 30) rfl))) (mvT hZ (hw _ (List.mem_of_getElem? (i := 34) rfl))) (by decide) (backOf (W := 0) (rmA1 l Z a0 hw [] xo0_ ui1_ h0 n0 Z0 E_xo0_ F_value_xo0_ F_coder_xo0_ F_count_xo0_ X00 S_COMPACT_STRINGS hp0_ g_xo0_) hZ (hw _ (List.mem_of_getElem? (i := 34) rfl)) (hw _ (List.mem_of_getElem? (i := 33) rfl)) (by decide) (by decide)) (g := (mkF m 3 #[.val (.ref xo0_)] [(.int (16 : Int32)), (.ref xo0_)])) rfl (by rw [hml]; rfl) (Steps.refl _) (a := xo0_) (argsL := [(.int (16 : Int32))]) (rest := []) (lenOf own_pd0 rfl) rfl (by show 2 * 0 + _ ≤ _; exact Nat.le_of_eq rfl) (hb hby dA0_3) (fun _ _ => ⟨rfl, e0, (by decide : 0 + 1 ≤ _), (by decide : 0 + 16 ≤ _)⟩)
  dsimp only [Pt.U, Pt.locs, Pt.cells, Pt.slots] at X1 l1 y1 z1 st1 hQ1
  subst l1 y1 z1
  obtain ⟨fb3_1, k_fb3_1, rfl, Nq1, Kc1, g_fb3_1, zq_fb3_1, q1_0, q1_1, q1_2, q1_3, q1_4⟩ := hQ1
  have sz_fb3_1 : h0.size ≤ fb3_1 := Nat.le_trans (Keep.refl h0 [xo0_]).1 zq_fb3_1
  have ne_xo0__fb3_1 : xo0_ ≠ fb3_1 := Nat.ne_of_lt (Nat.lt_of_lt_of_le E_xo0_.lt zq_fb3_1)
  have K1 : Keep h0 T1.heap [xo0_] := Keep.trans (Keep.refl h0 [xo0_]) Kc1 (allS (Or.inl (List.mem_of_getElem? (i := 0) rfl)) all0)
  have Zs1 : n0 ≤ T1.heap.size := Nat.le_trans Z0 Kc1.1
  have N1 := Fr.app N0 Nq1
  obtain ⟨fs, hr, hrun, hended, hW, hsame⟩ := X1.leave (v := none) (fun _ => rfl)
  refine ⟨_, _, (pre0 _ ?_), hrun, hended, _, _, rfl, ?_, ⟨_, rfl⟩, hW, hsame.mono (by decide) (by decide)⟩
  · show Steps p.tables e below (s₁.setTop (mkF m 0 #[.val (.ref xo0_)] [])) _
    refine XS.aloadN X0.here hx rfl (hb hby dA0_0) rfl rfl ?_
    show Steps p.tables e below (s₁.setTop (mkF m 1 #[.val (.ref xo0_)] [(.ref xo0_)])) _
    refine XS.bipush X0.here hx rfl (hb hby dA0_1) ?_
    show Steps p.tables e below (s₁.setTop (mkF m 3 #[.val (.ref xo0_)] [(.int (16 : Int32)), (.ref xo0_)])) _
    refine st1.trans ?_
    show Steps p.tables e below (T1.setTop (mkF m 6 #[.val (.ref xo0_)] [])) _
    exact X1.returnOut hx Bd.returns (hb hby dA0_6) hr
  · show QA0 Z xo0_ ui1_ h0 n0 _ T1.heap _
    exact ⟨fb3_1, k_fb3_1, rfl, N1, K1, g_fb3_1, sz_fb3_1, q1_0, q1_1, q1_2, q1_3, q1_4⟩
theorem own_pd1 : parseMethodDescriptor "()V" = some ⟨[], none⟩ := by decide +kernel
theorem own_pn3 : plainName "java/lang/Long" = true := by first | (simp [plainName, overriddenIn]; done) | decide +kernel
theorem dA4_0 : decode jdk_35_method_15_code 0 = .ok (.iconst 1, 1) := by decide +kernel
theorem dA4_1 : decode jdk_35_method_15_code 1 = .ok (.istore_n 2, 1) := by decide +kernel
theorem dA4_2 : decode jdk_35_method_15_code 2 = .ok (.lload_n 0, 1) := by decide +kernel
theorem dA4_3 : decode jdk_35_method_15_code 3 = .ok (.lconst 0, 1) := by decide +kernel
theorem dA4_4 : decode jdk_35_method_15_code 4 = .ok (.lcmp, 1) := by decide +kernel
theorem dA4_5 : decode jdk_35_method_15_code 5 = .ok (.ifCond .lt 8, 3) := by decide +kernel
theorem dA4_8 : decode jdk_35_method_15_code 8 = .ok (.iconst 0, 1) := by decide +kernel
theorem dA4_9 : decode jdk_35_method_15_code 9 = .ok (.istore_n 2, 1) := by decide +kernel
theorem dA4_10 : decode jdk_35_method_15_code 10 = .ok (.lload_n 0, 1) := by decide +kernel
theorem dA4_11 : decode jdk_35_method_15_code 11 = .ok (.lneg, 1) := by decide +kernel
theorem dA4_12 : decode jdk_35_method_15_code 12 = .ok (.lstore_n 0, 1) := by decide +kernel
theorem dA4_13 : decode jdk_35_method_15_code 13 = .ok (.ldc2_w 140, 3) := by decide +kernel
theorem dA4_16 : decode jdk_35_method_15_code 16 = .ok (.lstore_n 3, 1) := by decide +kernel
theorem dA4_17 : decode jdk_35_method_15_code 17 = .ok (.iconst 1, 1) := by decide +kernel
theorem dA4_18 : decode jdk_35_method_15_code 18 = .ok (.istore 5, 2) := by decide +kernel
theorem dA4_20 : decode jdk_35_method_15_code 20 = .ok (.iload 5, 2) := by decide +kernel
theorem dA4_22 : decode jdk_35_method_15_code 22 = .ok (.bipush 19, 2) := by decide +kernel
theorem dA4_24 : decode jdk_35_method_15_code 24 = .ok (.if_icmp .ge 26, 3) := by decide +kernel
theorem dA4_27 : decode jdk_35_method_15_code 27 = .ok (.lload_n 0, 1) := by decide +kernel
theorem dA4_28 : decode jdk_35_method_15_code 28 = .ok (.lload_n 3, 1) := by decide +kernel
theorem dA4_29 : decode jdk_35_method_15_code 29 = .ok (.lcmp, 1) := by decide +kernel
theorem dA4_30 : decode jdk_35_method_15_code 30 = .ok (.ifCond .le 8, 3) := by decide +kernel
theorem dA4_33 : decode jdk_35_method_15_code 33 = .ok (.iload 5, 2) := by decide +kernel
theorem dA4_35 : decode jdk_35_method_15_code 35 = .ok (.iload_n 2, 1) := by decide +kernel
theorem dA4_36 : decode jdk_35_method_15_code 36 = .ok (.iadd, 1) := by decide +kernel
theorem dA4_37 : decode jdk_35_method_15_code 37 = .ok (.ireturn, 1) := by decide +kernel
theorem efA4 (m : MethodId) (xj0_ : Int64) : entryFrame m #[(.long xj0_)] 6 = mkF m 0 #[.val (.long xj0_), .second, .unset, .unset, .unset, .unset] [] := by first | (simp [entryFrame, mkF, argsToLocals, Value.category]; done) | rfl
def QA4 (Z : State) (xj0_ : Int64) (h0 : Heap) (n0 : Nat) (v : Option Value) (h : Heap) (L : List Loc) : Prop := v = some (.int (1 : Int32)) ∧ Fr n0 L ∧ h = h0
set_option maxRecDepth 65536 in
set_option maxHeartbeats 40000000 in
theorem rmA4 (l : Launch) (Z : State) (a0 : Array Value) (hw : ∀ d ∈ tables_1, d.before a0 Z = true) (ws : List Jvm.Cond) (xj0_ : Int64) (h0 : Heap) (n0 : Nat) (Z0 : n0 ≤ h0.size) (hp0_ : ¬ (xj0_ < (0 : Int64))) (hp1_ : (-10 : Int64) < (-xj0_)) :
    MetFree l (⟨"java/lang/Long", "stringSize", "(J)I"⟩ : MethodName) (head1 (Jvm.Cond.code (⟨"java/lang/Long", "stringSize", "(J)I"⟩ : MethodName) jdk_35_method_15_code 6 (some .int) :: ws) ({ frames := 0, cells := 0, slots := 0, locals := 0 } : Room)) (fun av_ U => av_ = #[(.long xj0_)] ∧ Z.Warmed39 U.vm ∧ U.heap = h0) (fun _ _ _ _ _ => True) (fun _ U o U' => ∃ v L, o = .returned v ∧ QA4 Z xj0_ h0 n0 v U'.heap L ∧ FrameEnd U o U' L ({ frames := 0, cells := 0, slots := 0, locals := 0 } : Room).cells ({ frames := 0, cells := 0, slots := 0, locals := 0 } : Room).slots) := by
  refine MetFree.of_bodySF (plainFor_of_name own_pn3) hisR ?_
  intro p e s m args below meth c s₁ Bd hml0 hP hK
  obtain ⟨rfl, hZ, hh⟩ := hP
  have hx := Bd.exec
  have hby := Bd.bytes
  have hml : c.maxLocals = 6 := hml0
  have hown : s.vm.findClass "java/lang/Long" = some m.cls := findClass_of_methodNamed Bd.named
  have hnm := (name_of_methodNamed Bd.named Bd.method).1
  have X0 : Stand p l e ({ frames := 0, cells := 0, slots := 0, locals := 0 } : Room) s m #[(.long xj0_)] below meth c s₁ [] 0 0 := Stand.of_body Bd
  have e0 : s₁.heap = h0 := by rw [← hh, Bd.state]; rfl
  have N0 := Fr.nil n0
  have pre0 : ∀ t, Steps p.tables e below (s₁.setTop (mkF m 0 #[.val (.long xj0_), .second, .unset, .unset, .unset, .unset] [])) t → Steps p.tables e below (s₁.setTop (entryFrame m #[(.long xj0_)] 6)) t := fun t k => castTop (efA4 m xj0_) k
  obtain ⟨fs, hr, hrun, hended, hW, hsame⟩ := X0.leave (v := some (.int (1 : Int32))) (fun h => by rw [Bd.returns] at h; cases h)
  refine ⟨_, _, (pre0 _ ?_), hrun, hended, _, _, rfl, ?_, ⟨_, rfl⟩, hW, hsame.mono (by decide) (by decide)⟩
  · show Steps p.tables e below (s₁.setTop (mkF m 0 #[.val (.long xj0_), .second, .unset, .unset, .unset, .unset] [])) _
    refine XS.iconst X0.here hx rfl (hb hby dA4_0) ?_
    show Steps p.tables e below (s₁.setTop (mkF m 1 #[.val (.long xj0_), .second, .unset, .unset, .unset, .unset] [(.int (1 : Int32))])) _
    refine XS.istoreN X0.here hx rfl (hb hby dA4_1) rfl (l' := #[.val (.long xj0_), .second, .val (.int (1 : Int32)), .unset, .unset, .unset]) rfl ?_
    show Steps p.tables e below (s₁.setTop (mkF m 2 #[.val (.long xj0_), .second, .val (.int (1 : Int32)), .unset, .unset, .unset] [])) _
    refine XS.lloadN X0.here hx rfl (hb hby dA4_2) rfl ?_
    show Steps p.tables e below (s₁.setTop (mkF m 3 #[.val (.long xj0_), .second, .val (.int (1 : Int32)), .unset, .unset, .unset] [(.long xj0_)])) _
    refine XS.lconst X0.here hx rfl (hb hby dA4_3) ?_
    show Steps p.tables e below (s₁.setTop (mkF m 4 #[.val (.long xj0_), .second, .val (.int (1 : Int32)), .unset, .unset, .unset] [(.long (0 : Int64)), (.long xj0_)])) _
    refine XS.lcmp X0.here hx rfl (hb hby dA4_4) rfl ?_
    show Steps p.tables e below (s₁.setTop (mkF m 5 #[.val (.long xj0_), .second, .val (.int (1 : Int32)), .unset, .unset, .unset] [(.int (lcmpW xj0_ (0 : Int64)))])) _
    refine XS.ifNo X0.here hx rfl (hb hby dA4_5) rfl ((if0 _ _).trans (flt (fun q => hp0_ ((lw_lt _ _).mp q))).1) ?_
    show Steps p.tables e below (s₁.setTop (mkF m 8 #[.val (.long xj0_), .second, .val (.int (1 : Int32)), .unset, .unset, .unset] [])) _
    refine XS.iconst X0.here hx rfl (hb hby dA4_8) ?_
    show Steps p.tables e below (s₁.setTop (mkF m 9 #[.val (.long xj0_), .second, .val (.int (1 : Int32)), .unset, .unset, .unset] [(.int (0 : Int32))])) _
    refine XS.istoreN X0.here hx rfl (hb hby dA4_9) rfl (l' := #[.val (.long xj0_), .second, .val (.int (0 : Int32)), .unset, .unset, .unset]) rfl ?_
    show Steps p.tables e below (s₁.setTop (mkF m 10 #[.val (.long xj0_), .second, .val (.int (0 : Int32)), .unset, .unset, .unset] [])) _
    refine XS.lloadN X0.here hx rfl (hb hby dA4_10) rfl ?_
    show Steps p.tables e below (s₁.setTop (mkF m 11 #[.val (.long xj0_), .second, .val (.int (0 : Int32)), .unset, .unset, .unset] [(.long xj0_)])) _
    refine XS.lneg X0.here hx rfl (hb hby dA4_11) rfl ?_
    show Steps p.tables e below (s₁.setTop (mkF m 12 #[.val (.long xj0_), .second, .val (.int (0 : Int32)), .unset, .unset, .unset] [(.long (-xj0_))])) _
    refine XS.lstoreN X0.here hx rfl (hb hby dA4_12) rfl (l' := #[.val (.long (-xj0_)), .second, .val (.int (0 : Int32)), .unset, .unset, .unset]) rfl ?_
    show Steps p.tables e below (s₁.setTop (mkF m 13 #[.val (.long (-xj0_)), .second, .val (.int (0 : Int32)), .unset, .unset, .unset] [])) _
    refine X0.ldc2Long hx hown (mvT hZ (hw _ (List.mem_of_getElem? (i := 59) rfl))) (g := (mkF m 13 #[.val (.long (-xj0_)), .second, .val (.int (0 : Int32)), .unset, .unset, .unset] [])) rfl (hb hby dA4_13) _ ?_
    show Steps p.tables e below (s₁.setTop (mkF m 16 #[.val (.long (-xj0_)), .second, .val (.int (0 : Int32)), .unset, .unset, .unset] [(.long (-10 : Int64))])) _
    refine XS.lstoreN X0.here hx rfl (hb hby dA4_16) rfl (l' := #[.val (.long (-xj0_)), .second, .val (.int (0 : Int32)), .val (.long (-10 : Int64)), .second, .unset]) rfl ?_
    show Steps p.tables e below (s₁.setTop (mkF m 17 #[.val (.long (-xj0_)), .second, .val (.int (0 : Int32)), .val (.long (-10 : Int64)), .second, .unset] [])) _
    refine XS.iconst X0.here hx rfl (hb hby dA4_17) ?_
    show Steps p.tables e below (s₁.setTop (mkF m 18 #[.val (.long (-xj0_)), .second, .val (.int (0 : Int32)), .val (.long (-10 : Int64)), .second, .unset] [(.int (1 : Int32))])) _
    refine XS.istore X0.here hx rfl (hb hby dA4_18) rfl (l' := #[.val (.long (-xj0_)), .second, .val (.int (0 : Int32)), .val (.long (-10 : Int64)), .second, .val (.int (1 : Int32))]) rfl ?_
    show Steps p.tables e below (s₁.setTop (mkF m 20 #[.val (.long (-xj0_)), .second, .val (.int (0 : Int32)), .val (.long (-10 : Int64)), .second, .val (.int (1 : Int32))] [])) _
    refine XS.iload X0.here hx rfl (hb hby dA4_20) rfl ?_
    show Steps p.tables e below (s₁.setTop (mkF m 22 #[.val (.long (-xj0_)), .second, .val (.int (0 : Int32)), .val (.long (-10 : Int64)), .second, .val (.int (1 : Int32))] [(.int (1 : Int32))])) _
    refine XS.bipush X0.here hx rfl (hb hby dA4_22) ?_
    show Steps p.tables e below (s₁.setTop (mkF m 24 #[.val (.long (-xj0_)), .second, .val (.int (0 : Int32)), .val (.long (-10 : Int64)), .second, .val (.int (1 : Int32))] [(.int (19 : Int32)), (.int (1 : Int32))])) _
    refine XS.icmpNo X0.here hx rfl (hb hby dA4_24) rfl (tlt (by decide : (1 : Int32) < (19 : Int32))).2.1 ?_
    show Steps p.tables e below (s₁.setTop (mkF m 27 #[.val (.long (-xj0_)), .second, .val (.int (0 : Int32)), .val (.long (-10 : Int64)), .second, .val (.int (1 : Int32))] [])) _
    refine XS.lloadN X0.here hx rfl (hb hby dA4_27) rfl ?_
    show Steps p.tables e below (s₁.setTop (mkF m 28 #[.val (.long (-xj0_)), .second, .val (.int (0 : Int32)), .val (.long (-10 : Int64)), .second, .val (.int (1 : Int32))] [(.long (-xj0_))])) _
    refine XS.lloadN X0.here hx rfl (hb hby dA4_28) rfl ?_
    show Steps p.tables e below (s₁.setTop (mkF m 29 #[.val (.long (-xj0_)), .second, .val (.int (0 : Int32)), .val (.long (-10 : Int64)), .second, .val (.int (1 : Int32))] [(.long (-10 : Int64)), (.long (-xj0_))])) _
    refine XS.lcmp X0.here hx rfl (hb hby dA4_29) rfl ?_
    show Steps p.tables e below (s₁.setTop (mkF m 30 #[.val (.long (-xj0_)), .second, .val (.int (0 : Int32)), .val (.long (-10 : Int64)), .second, .val (.int (1 : Int32))] [(.int (lcmpW (-xj0_) (-10 : Int64)))])) _
    refine XS.ifNo X0.here hx rfl (hb hby dA4_30) rfl ((if0 _ _).trans (tlt ((lw_gt _ _).mpr hp1_)).2.2.2) ?_
    show Steps p.tables e below (s₁.setTop (mkF m 33 #[.val (.long (-xj0_)), .second, .val (.int (0 : Int32)), .val (.long (-10 : Int64)), .second, .val (.int (1 : Int32))] [])) _
    refine XS.iload X0.here hx rfl (hb hby dA4_33) rfl ?_
    show Steps p.tables e below (s₁.setTop (mkF m 35 #[.val (.long (-xj0_)), .second, .val (.int (0 : Int32)), .val (.long (-10 : Int64)), .second, .val (.int (1 : Int32))] [(.int (1 : Int32))])) _
    refine XS.iloadN X0.here hx rfl (hb hby dA4_35) rfl ?_
    show Steps p.tables e below (s₁.setTop (mkF m 36 #[.val (.long (-xj0_)), .second, .val (.int (0 : Int32)), .val (.long (-10 : Int64)), .second, .val (.int (1 : Int32))] [(.int (0 : Int32)), (.int (1 : Int32))])) _
    refine XS.iadd X0.here hx rfl (hb hby dA4_36) rfl ?_
    show Steps p.tables e below (s₁.setTop (mkF m 37 #[.val (.long (-xj0_)), .second, .val (.int (0 : Int32)), .val (.long (-10 : Int64)), .second, .val (.int (1 : Int32))] [(.int (1 : Int32))])) _
    exact retI X0 hx Bd.returns (hb hby dA4_37) hr
  · show QA4 Z xj0_ h0 n0 _ s₁.heap _
    rw [e0]
    exact ⟨rfl, N0, rfl⟩
theorem own_pd2 : parseMethodDescriptor "(J)I" = some ⟨[.long], some .int⟩ := by decide +kernel
theorem dA5_0 : decode jdk_68_method_9_code 0 = .ok (.aload_n 0, 1) := by decide +kernel
theorem dA5_1 : decode jdk_68_method_9_code 1 = .ok (.getfield 15, 3) := by decide +kernel
theorem dA5_4 : decode jdk_68_method_9_code 4 = .ok (.arraylength, 1) := by decide +kernel
theorem dA5_5 : decode jdk_68_method_9_code 5 = .ok (.aload_n 0, 1) := by decide +kernel
theorem dA5_6 : decode jdk_68_method_9_code 6 = .ok (.getfield 22, 3) := by decide +kernel
theorem dA5_9 : decode jdk_68_method_9_code 9 = .ok (.ishr, 1) := by decide +kernel
theorem dA5_10 : decode jdk_68_method_9_code 10 = .ok (.istore_n 2, 1) := by decide +kernel
theorem dA5_11 : decode jdk_68_method_9_code 11 = .ok (.iload_n 1, 1) := by decide +kernel
theorem dA5_12 : decode jdk_68_method_9_code 12 = .ok (.iload_n 2, 1) := by decide +kernel
theorem dA5_13 : decode jdk_68_method_9_code 13 = .ok (.isub, 1) := by decide +kernel
theorem dA5_14 : decode jdk_68_method_9_code 14 = .ok (.ifCond .le 24, 3) := by decide +kernel
theorem dA5_38 : decode jdk_68_method_9_code 38 = .ok (.return_, 1) := by decide +kernel
theorem efA5 (m : MethodId) (xo0_ : Addr) : entryFrame m #[(.ref xo0_), (.int (1 : Int32))] 3 = mkF m 0 #[.val (.ref xo0_), .val (.int (1 : Int32)), .unset] [] := by first | (simp [entryFrame, mkF, argsToLocals, Value.category]; done) | rfl
def QA5 (Z : State) (xo0_ : Addr) (uo1_ : Addr) (k_uo1_ : ClassId) (h0 : Heap) (n0 : Nat) (v : Option Value) (h : Heap) (L : List Loc) : Prop := v = none ∧ Fr n0 L ∧ h = h0
set_option maxRecDepth 65536 in
set_option maxHeartbeats 40000000 in
theorem rmA5 (l : Launch) (Z : State) (a0 : Array Value) (hw : ∀ d ∈ tables_1, d.before a0 Z = true) (ws : List Jvm.Cond) (xo0_ : Addr) (uo1_ : Addr) (k_uo1_ : ClassId) (h0 : Heap) (n0 : Nat) (Z0 : n0 ≤ h0.size) (E_xo0_ : Exa Z h0 xo0_ "java/lang/StringBuilder") (F_value_xo0_ : Fld Z h0 xo0_ "java/lang/AbstractStringBuilder" "value" "[B" (.ref uo1_)) (F_coder_xo0_ : Fld Z h0 xo0_ "java/lang/AbstractStringBuilder" "coder" "B" (.int (0 : Int32))) (F_count_xo0_ : Fld Z h0 xo0_ "java/lang/AbstractStringBuilder" "count" "I" (.int (0 : Int32))) (V_uo1_ : Arv Z h0 uo1_ k_uo1_ .byte (16 : Int32) [(.int (0 : Int32)), (.int (0 : Int32)), (.int (0 : Int32)), (.int (0 : Int32)), (.int (0 : Int32)), (.int (0 : Int32)), (.int (0 : Int32)), (.int (0 : Int32)), (.int (0 : Int32)), (.int (0 : Int32)), (.int (0 : Int32)), (.int (0 : Int32)), (.int (0 : Int32)), (.int (0 : Int32)), (.int (0 : Int32)), (.int (0 : Int32))] (.int (0 : Int32))) :
    MetFree l (⟨"java/lang/AbstractStringBuilder", "ensureCapacityInternal", "(I)V"⟩ : MethodName) (head1 (Jvm.Cond.code (⟨"java/lang/AbstractStringBuilder", "ensureCapacityInternal", "(I)V"⟩ : MethodName) jdk_68_method_9_code 3 none :: ws) ({ frames := 0, cells := 0, slots := 0, locals := 0 } : Room)) (fun av_ U => av_ = #[(.ref xo0_), (.int (1 : Int32))] ∧ Z.Warmed39 U.vm ∧ U.heap = h0) (fun _ _ _ _ _ => True) (fun _ U o U' => ∃ v L, o = .returned v ∧ QA5 Z xo0_ uo1_ k_uo1_ h0 n0 v U'.heap L ∧ FrameEnd U o U' L ({ frames := 0, cells := 0, slots := 0, locals := 0 } : Room).cells ({ frames := 0, cells := 0, slots := 0, locals := 0 } : Room).slots) := by
  refine MetFree.of_bodySF (plainFor_of_name own_pn1) hisR ?_
  intro p e s m args below meth c s₁ Bd hml0 hP hK
  obtain ⟨rfl, hZ, hh⟩ := hP
  have hx := Bd.exec
  have hby := Bd.bytes
  have hml : c.maxLocals = 3 := hml0
  have hown : s.vm.findClass "java/lang/AbstractStringBuilder" = some m.cls := findClass_of_methodNamed Bd.named
  have hnm := (name_of_methodNamed Bd.named Bd.method).1
  have X0 : Stand p l e ({ frames := 0, cells := 0, slots := 0, locals := 0 } : Room) s m #[(.ref xo0_), (.int (1 : Int32))] below meth c s₁ [] 0 0 := Stand.of_body Bd
  have e0 : s₁.heap = h0 := by rw [← hh, Bd.state]; rfl
  have N0 := Fr.nil n0
  have pre0 : ∀ t, Steps p.tables e below (s₁.setTop (mkF m 0 #[.val (.ref xo0_), .val (.int (1 : Int32)), .unset] [])) t → Steps p.tables e below (s₁.setTop (entryFrame m #[(.ref xo0_), (.int (1 : Int32))] 3)) t := fun t k => castTop (efA5 m xo0_) k
  obtain ⟨T1, X1, e1, st1⟩ := getF X0 hx hZ hown (host := "") (Or.inl (hw _ (List.mem_of_getElem? (i := 39) rfl))) Via.refl e0 F_value_xo0_ (g := (mkF m 1 #[.val (.ref xo0_), .val (.int (1 : Int32)), .unset] [(.ref xo0_)])) rfl rfl (hb hby dA5_1)
  obtain ⟨cl2, Ar2, q2, S2, M2, Hs2, G2⟩ := (id V_uo1_)
  obtain ⟨T3, X3, e3, st3⟩ := getF X1 hx hZ hown (host := "") (Or.inl (hw _ (List.mem_of_getElem? (i := 41) rfl))) Via.refl e1 F_coder_xo0_ (g := (mkF m 6 #[.val (.ref xo0_), .val (.int (1 : Int32)), .unset] [(.ref xo0_), (.int (16 : Int32))])) rfl rfl (hb hby dA5_6)
  obtain ⟨fs, hr, hrun, hended, hW, hsame⟩ := X3.leave (v := none) (fun _ => rfl)
  refine ⟨_, _, (pre0 _ ?_), hrun, hended, _, _, rfl, ?_, ⟨_, rfl⟩, hW, hsame.mono (by decide) (by decide)⟩
  · show Steps p.tables e below (s₁.setTop (mkF m 0 #[.val (.ref xo0_), .val (.int (1 : Int32)), .unset] [])) _
    refine XS.aloadN X0.here hx rfl (hb hby dA5_0) rfl rfl ?_
    show Steps p.tables e below (s₁.setTop (mkF m 1 #[.val (.ref xo0_), .val (.int (1 : Int32)), .unset] [(.ref xo0_)])) _
    refine st1 _ ?_
    show Steps p.tables e below (T1.setTop (mkF m 4 #[.val (.ref xo0_), .val (.int (1 : Int32)), .unset] [(.ref uo1_)])) _
    refine X1.arraylength hx (by rw [e1]; exact Ar2.1) (State.isArrayOf_alike hZ.alike Ar2.2.1) (g := (mkF m 4 #[.val (.ref xo0_), .val (.int (1 : Int32)), .unset] [(.ref uo1_)])) rfl rfl (hb hby dA5_4) _ ?_
    rw [len_of S2 M2]
    show Steps p.tables e below (T1.setTop (mkF m 5 #[.val (.ref xo0_), .val (.int (1 : Int32)), .unset] [(.int (16 : Int32))])) _
    refine XS.aloadN X1.here hx rfl (hb hby dA5_5) rfl rfl ?_
    show Steps p.tables e below (T1.setTop (mkF m 6 #[.val (.ref xo0_), .val (.int (1 : Int32)), .unset] [(.ref xo0_), (.int (16 : Int32))])) _
    refine st3 _ ?_
    show Steps p.tables e below (T3.setTop (mkF m 9 #[.val (.ref xo0_), .val (.int (1 : Int32)), .unset] [(.int (0 : Int32)), (.int (16 : Int32))])) _
    refine XS.ishr X3.here hx rfl (hb hby dA5_9) rfl ?_
    rw [show ((16 : Int32) >>> ((0 : Int32) &&& 31)) = (16 : Int32) from by decide]
    show Steps p.tables e below (T3.setTop (mkF m 10 #[.val (.ref xo0_), .val (.int (1 : Int32)), .unset] [(.int (16 : Int32))])) _
    refine XS.istoreN X3.here hx rfl (hb hby dA5_10) rfl (l' := #[.val (.ref xo0_), .val (.int (1 : Int32)), .val (.int (16 : Int32))]) rfl ?_
    show Steps p.tables e below (T3.setTop (mkF m 11 #[.val (.ref xo0_), .val (.int (1 : Int32)), .val (.int (16 : Int32))] [])) _
    refine XS.iloadN X3.here hx rfl (hb hby dA5_11) rfl ?_
    show Steps p.tables e below (T3.setTop (mkF m 12 #[.val (.ref xo0_), .val (.int (1 : Int32)), .val (.int (16 : Int32))] [(.int (1 : Int32))])) _
    refine XS.iloadN X3.here hx rfl (hb hby dA5_12) rfl ?_
    show Steps p.tables e below (T3.setTop (mkF m 13 #[.val (.ref xo0_), .val (.int (1 : Int32)), .val (.int (16 : Int32))] [(.int (16 : Int32)), (.int (1 : Int32))])) _
    refine XS.isub X3.here hx rfl (hb hby dA5_13) rfl ?_
    show Steps p.tables e below (T3.setTop (mkF m 14 #[.val (.ref xo0_), .val (.int (1 : Int32)), .val (.int (16 : Int32))] [(.int (-15 : Int32))])) _
    refine XS.ifYes X3.here hx rfl (pc0 := 14) (pc' := 38) rfl (hb hby dA5_14) rfl ((if0 _ _).trans (flt (by decide : ¬ ((0 : Int32) < (-15 : Int32)))).2.2.2) (by decide) (by decide) ?_
    show Steps p.tables e below (T3.setTop (mkF m 38 #[.val (.ref xo0_), .val (.int (1 : Int32)), .val (.int (16 : Int32))] [])) _
    exact X3.returnOut hx Bd.returns (hb hby dA5_38) hr
  · show QA5 Z xo0_ uo1_ k_uo1_ h0 n0 _ T3.heap _
    rw [e3]
    exact ⟨rfl, N0, rfl⟩
theorem dA6_0 : decode jdk_68_method_68_code 0 = .ok (.getstatic 18, 3) := by decide +kernel
theorem dA6_3 : decode jdk_68_method_68_code 3 = .ok (.ifCond .eq 14, 3) := by decide +kernel
theorem dA6_6 : decode jdk_68_method_68_code 6 = .ok (.aload_n 0, 1) := by decide +kernel
theorem dA6_7 : decode jdk_68_method_68_code 7 = .ok (.getfield 22, 3) := by decide +kernel
theorem dA6_10 : decode jdk_68_method_68_code 10 = .ok (.ifCond .ne 7, 3) := by decide +kernel
theorem dA6_13 : decode jdk_68_method_68_code 13 = .ok (.iconst 1, 1) := by decide +kernel
theorem dA6_14 : decode jdk_68_method_68_code 14 = .ok (.goto 4, 3) := by decide +kernel
theorem dA6_18 : decode jdk_68_method_68_code 18 = .ok (.ireturn, 1) := by decide +kernel
theorem efA6 (m : MethodId) (xo0_ : Addr) : entryFrame m #[(.ref xo0_)] 1 = mkF m 0 #[.val (.ref xo0_)] [] := by first | (simp [entryFrame, mkF, argsToLocals, Value.category]; done) | rfl
def QA6 (Z : State) (xo0_ : Addr) (uo1_ : Addr) (ui2_ : Int32) (h0 : Heap) (n0 : Nat) (v : Option Value) (h : Heap) (L : List Loc) : Prop := v = some (.int (1 : Int32)) ∧ Fr n0 L ∧ h = h0
set_option maxRecDepth 65536 in
set_option maxHeartbeats 40000000 in
theorem rmA6 (l : Launch) (Z : State) (a0 : Array Value) (hw : ∀ d ∈ tables_1, d.before a0 Z = true) (ws : List Jvm.Cond) (xo0_ : Addr) (uo1_ : Addr) (ui2_ : Int32) (h0 : Heap) (n0 : Nat) (Z0 : n0 ≤ h0.size) (E_xo0_ : Exa Z h0 xo0_ "java/lang/StringBuilder") (F_value_xo0_ : Fld Z h0 xo0_ "java/lang/AbstractStringBuilder" "value" "[B" (.ref uo1_)) (F_coder_xo0_ : Fld Z h0 xo0_ "java/lang/AbstractStringBuilder" "coder" "B" (.int (0 : Int32))) (F_count_xo0_ : Fld Z h0 xo0_ "java/lang/AbstractStringBuilder" "count" "I" (.int (0 : Int32))) (X00 : Old Z n0 h0) (S_COMPACT_STRINGS : Sta Z Z.heap "java/lang/String" "COMPACT_STRINGS" "Z" (.int ui2_)) (hp0_ : ¬ (ui2_ = (0 : Int32))) :
    MetFree l (⟨"java/lang/AbstractStringBuilder", "isLatin1", "()Z"⟩ : MethodName) (head1 (Jvm.Cond.code (⟨"java/lang/AbstractStringBuilder", "isLatin1", "()Z"⟩ : MethodName) jdk_68_method_68_code 1 (some .boolean) :: ws) ({ frames := 0, cells := 0, slots := 0, locals := 0 } : Room)) (fun av_ U => av_ = #[(.ref xo0_)] ∧ Z.Warmed39 U.vm ∧ U.heap = h0) (fun _ _ _ _ _ => True) (fun _ U o U' => ∃ v L, o = .returned v ∧ QA6 Z xo0_ uo1_ ui2_ h0 n0 v U'.heap L ∧ FrameEnd U o U' L ({ frames := 0, cells := 0, slots := 0, locals := 0 } : Room).cells ({ frames := 0, cells := 0, slots := 0, locals := 0 } : Room).slots) := by
  refine MetFree.of_bodySF (plainFor_of_name own_pn1) hisR ?_
  intro p e s m args below meth c s₁ Bd hml0 hP hK
  obtain ⟨rfl, hZ, hh⟩ := hP
  have hx := Bd.exec
  have hby := Bd.bytes
  have hml : c.maxLocals = 1 := hml0
  have hown : s.vm.findClass "java/lang/AbstractStringBuilder" = some m.cls := findClass_of_methodNamed Bd.named
  have hnm := (name_of_methodNamed Bd.named Bd.method).1
  have X0 : Stand p l e ({ frames := 0, cells := 0, slots := 0, locals := 0 } : Room) s m #[(.ref xo0_)] below meth c s₁ [] 0 0 := Stand.of_body Bd
  have e0 : s₁.heap = h0 := by rw [← hh, Bd.state]; rfl
  have N0 := Fr.nil n0
  have pre0 : ∀ t, Steps p.tables e below (s₁.setTop (mkF m 0 #[.val (.ref xo0_)] [])) t → Steps p.tables e below (s₁.setTop (entryFrame m #[(.ref xo0_)] 1)) t := fun t k => castTop (efA6 m xo0_) k
  obtain ⟨T1, X1, e1, st1⟩ := getS2 X0 hx hZ hown (host := "") (Or.inl (hw _ (List.mem_of_getElem? (i := 36) rfl))) Via.refl e0 (S_COMPACT_STRINGS.ext X00.2) (g := (mkF m 0 #[.val (.ref xo0_)] [])) rfl (hb hby dA6_0)
  obtain ⟨T2, X2, e2, st2⟩ := getF X1 hx hZ hown (host := "") (Or.inl (hw _ (List.mem_of_getElem? (i := 41) rfl))) Via.refl e1 F_coder_xo0_ (g := (mkF m 7 #[.val (.ref xo0_)] [(.ref xo0_)])) rfl rfl (hb hby dA6_7)
  obtain ⟨fs, hr, hrun, hended, hW, hsame⟩ := X2.leave (v := some (.int (1 : Int32))) (fun h => by rw [Bd.returns] at h; cases h)
  refine ⟨_, _, (pre0 _ ?_), hrun, hended, _, _, rfl, ?_, ⟨_, rfl⟩, hW, hsame.mono (by decide) (by decide)⟩
  · show Steps p.tables e below (s₁.setTop (mkF m 0 #[.val (.ref xo0_)] [])) _
    refine st1 _ ?_
    show Steps p.tables e below (T1.setTop (mkF m 3 #[.val (.ref xo0_)] [(.int ui2_)])) _
    refine XS.ifNo X1.here hx rfl (hb hby dA6_3) rfl ((if0 _ _).trans (feq hp0_).1) ?_
    show Steps p.tables e below (T1.setTop (mkF m 6 #[.val (.ref xo0_)] [])) _
    refine XS.aloadN X1.here hx rfl (hb hby dA6_6) rfl rfl ?_
    show Steps p.tables e below (T1.setTop (mkF m 7 #[.val (.ref xo0_)] [(.ref xo0_)])) _
    refine st2 _ ?_
    show Steps p.tables e below (T2.setTop (mkF m 10 #[.val (.ref xo0_)] [(.int (0 : Int32))])) _
    refine XS.ifNo X2.here hx rfl (hb hby dA6_10) rfl ((if0 _ _).trans (teq (by decide : (0 : Int32) = (0 : Int32))).2) ?_
    show Steps p.tables e below (T2.setTop (mkF m 13 #[.val (.ref xo0_)] [])) _
    refine XS.iconst X2.here hx rfl (hb hby dA6_13) ?_
    show Steps p.tables e below (T2.setTop (mkF m 14 #[.val (.ref xo0_)] [(.int (1 : Int32))])) _
    refine XS.goto X2.here hx rfl (pc0 := 14) (pc' := 18) rfl (hb hby dA6_14) (by decide) (by decide) ?_
    show Steps p.tables e below (T2.setTop (mkF m 18 #[.val (.ref xo0_)] [(.int (1 : Int32))])) _
    exact retN X2 hx (t := .boolean) Bd.returns (by simp) (hb hby dA6_18) hr
  · show QA6 Z xo0_ uo1_ ui2_ h0 n0 _ T2.heap _
    rw [e2]
    exact ⟨rfl, N0, rfl⟩
theorem own_pd3 : parseMethodDescriptor "()Z" = some ⟨[], some .boolean⟩ := by decide +kernel
theorem dA7_0 : decode jdk_35_method_14_code 0 = .ok (.iload_n 2, 1) := by decide +kernel
theorem dA7_1 : decode jdk_35_method_14_code 1 = .ok (.istore 7, 2) := by decide +kernel
theorem dA7_3 : decode jdk_35_method_14_code 3 = .ok (.lload_n 0, 1) := by decide +kernel
theorem dA7_4 : decode jdk_35_method_14_code 4 = .ok (.lconst 0, 1) := by decide +kernel
theorem dA7_5 : decode jdk_35_method_14_code 5 = .ok (.lcmp, 1) := by decide +kernel
theorem dA7_6 : decode jdk_35_method_14_code 6 = .ok (.ifCond .ge 7, 3) := by decide +kernel
theorem dA7_13 : decode jdk_35_method_14_code 13 = .ok (.iconst 0, 1) := by decide +kernel
theorem dA7_14 : decode jdk_35_method_14_code 14 = .ok (.istore 8, 2) := by decide +kernel
theorem dA7_16 : decode jdk_35_method_14_code 16 = .ok (.iload 8, 2) := by decide +kernel
theorem dA7_18 : decode jdk_35_method_14_code 18 = .ok (.ifCond .ne 6, 3) := by decide +kernel
theorem dA7_21 : decode jdk_35_method_14_code 21 = .ok (.lload_n 0, 1) := by decide +kernel
theorem dA7_22 : decode jdk_35_method_14_code 22 = .ok (.lneg, 1) := by decide +kernel
theorem dA7_23 : decode jdk_35_method_14_code 23 = .ok (.lstore_n 0, 1) := by decide +kernel
theorem dA7_24 : decode jdk_35_method_14_code 24 = .ok (.lload_n 0, 1) := by decide +kernel
theorem dA7_25 : decode jdk_35_method_14_code 25 = .ok (.ldc2_w 129, 3) := by decide +kernel
theorem dA7_28 : decode jdk_35_method_14_code 28 = .ok (.lcmp, 1) := by decide +kernel
theorem dA7_29 : decode jdk_35_method_14_code 29 = .ok (.ifCond .gt 53, 3) := by decide +kernel
theorem dA7_82 : decode jdk_35_method_14_code 82 = .ok (.lload_n 0, 1) := by decide +kernel
theorem dA7_83 : decode jdk_35_method_14_code 83 = .ok (.l2i, 1) := by decide +kernel
theorem dA7_84 : decode jdk_35_method_14_code 84 = .ok (.istore 10, 2) := by decide +kernel
theorem dA7_86 : decode jdk_35_method_14_code 86 = .ok (.iload 10, 2) := by decide +kernel
theorem dA7_88 : decode jdk_35_method_14_code 88 = .ok (.bipush (-100), 2) := by decide +kernel
theorem dA7_90 : decode jdk_35_method_14_code 90 = .ok (.if_icmp .gt 53, 3) := by decide +kernel
theorem dA7_143 : decode jdk_35_method_14_code 143 = .ok (.aload_n 3, 1) := by decide +kernel
theorem dA7_144 : decode jdk_35_method_14_code 144 = .ok (.iinc 7 (-1), 3) := by decide +kernel
theorem dA7_147 : decode jdk_35_method_14_code 147 = .ok (.iload 7, 2) := by decide +kernel
theorem dA7_149 : decode jdk_35_method_14_code 149 = .ok (.getstatic 133, 3) := by decide +kernel
theorem dA7_152 : decode jdk_35_method_14_code 152 = .ok (.iload 10, 2) := by decide +kernel
theorem dA7_154 : decode jdk_35_method_14_code 154 = .ok (.ineg, 1) := by decide +kernel
theorem dA7_155 : decode jdk_35_method_14_code 155 = .ok (.baload, 1) := by decide +kernel
theorem dA7_156 : decode jdk_35_method_14_code 156 = .ok (.bastore, 1) := by decide +kernel
theorem dA7_157 : decode jdk_35_method_14_code 157 = .ok (.iload 10, 2) := by decide +kernel
theorem dA7_159 : decode jdk_35_method_14_code 159 = .ok (.bipush (-9), 2) := by decide +kernel
theorem dA7_161 : decode jdk_35_method_14_code 161 = .ok (.if_icmp .ge 17, 3) := by decide +kernel
theorem dA7_178 : decode jdk_35_method_14_code 178 = .ok (.iload 8, 2) := by decide +kernel
theorem dA7_180 : decode jdk_35_method_14_code 180 = .ok (.ifCond .eq 12, 3) := by decide +kernel
theorem dA7_192 : decode jdk_35_method_14_code 192 = .ok (.iload 7, 2) := by decide +kernel
theorem dA7_194 : decode jdk_35_method_14_code 194 = .ok (.ireturn, 1) := by decide +kernel
theorem efA7 (m : MethodId) (xj0_ : Int64) (xo2_ : Addr) : entryFrame m #[(.long xj0_), (.int (1 : Int32)), (.ref xo2_)] 11 = mkF m 0 #[.val (.long xj0_), .second, .val (.int (1 : Int32)), .val (.ref xo2_), .unset, .unset, .unset, .unset, .unset, .unset, .unset] [] := by first | (simp [entryFrame, mkF, argsToLocals, Value.category]; done) | rfl
def QA7 (Z : State) (xj0_ : Int64) (xo2_ : Addr) (uo1_ : Addr) (k_uo1_ : ClassId) (k_xo2_ : ClassId) (h0 : Heap) (n0 : Nat) (v : Option Value) (h : Heap) (L : List Loc) : Prop := v = some (.int (0 : Int32)) ∧ Fr n0 L ∧ Keep h0 h [xo2_] ∧ Arv Z h xo2_ k_xo2_ .byte (16 : Int32) [(.int ((own_get own_ones (-((-xj0_).toInt32)))).toInt8.toInt32), (.int (0 : Int32)), (.int (0 : Int32)), (.int (0 : Int32)), (.int (0 : Int32)), (.int (0 : Int32)), (.int (0 : Int32)), (.int (0 : Int32)), (.int (0 : Int32)), (.int (0 : Int32)), (.int (0 : Int32)), (.int (0 : Int32)), (.int (0 : Int32)), (.int (0 : Int32)), (.int (0 : Int32)), (.int (0 : Int32))] (.int (0 : Int32))
set_option maxRecDepth 65536 in
set_option maxHeartbeats 40000000 in
theorem rmA7 (l : Launch) (Z : State) (a0 : Array Value) (hw : ∀ d ∈ tables_1, d.before a0 Z = true) (ws : List Jvm.Cond) (xj0_ : Int64) (xo2_ : Addr) (uo1_ : Addr) (k_uo1_ : ClassId) (k_xo2_ : ClassId) (h0 : Heap) (n0 : Nat) (Z0 : n0 ≤ h0.size) (hp0_ : ¬ (xj0_ < (0 : Int64))) (hp1_ : (-2147483648 : Int64) < (-xj0_)) (hp2_ : (-100 : Int32) < ((-xj0_).toInt32)) (X00 : Old Z n0 h0) (S_DigitOnes : Sta Z Z.heap "java/lang/Integer" "DigitOnes" "[B" (.ref uo1_)) (V_uo1_ : Arv Z Z.heap uo1_ k_uo1_ .byte (100 : Int32) (own_ones.map Value.int) (.int (0 : Int32))) (hp3_ : own_inb xj0_) (V_xo2_ : Arv Z h0 xo2_ k_xo2_ .byte (16 : Int32) [(.int (0 : Int32)), (.int (0 : Int32)), (.int (0 : Int32)), (.int (0 : Int32)), (.int (0 : Int32)), (.int (0 : Int32)), (.int (0 : Int32)), (.int (0 : Int32)), (.int (0 : Int32)), (.int (0 : Int32)), (.int (0 : Int32)), (.int (0 : Int32)), (.int (0 : Int32)), (.int (0 : Int32)), (.int (0 : Int32)), (.int (0 : Int32))] (.int (0 : Int32))) (g_xo2_ : n0 ≤ xo2_) (hp4_ : ¬ (((-xj0_).toInt32) < (-9 : Int32))) :
    MetFree l (⟨"java/lang/Long", "getChars", "(JI[B)I"⟩ : MethodName) (head1 (Jvm.Cond.code (⟨"java/lang/Long", "getChars", "(JI[B)I"⟩ : MethodName) jdk_35_method_14_code 11 (some .int) :: ws) ({ frames := 0, cells := 0, slots := 0, locals := 0 } : Room)) (fun av_ U => av_ = #[(.long xj0_), (.int (1 : Int32)), (.ref xo2_)] ∧ Z.Warmed39 U.vm ∧ U.heap = h0) (fun _ _ _ _ _ => True) (fun _ U o U' => ∃ v L, o = .returned v ∧ QA7 Z xj0_ xo2_ uo1_ k_uo1_ k_xo2_ h0 n0 v U'.heap L ∧ FrameEnd U o U' L ({ frames := 0, cells := 0, slots := 0, locals := 0 } : Room).cells ({ frames := 0, cells := 0, slots := 0, locals := 0 } : Room).slots) := by
  refine MetFree.of_bodySF (plainFor_of_name own_pn3) hisR ?_
  intro p e s m args below meth c s₁ Bd hml0 hP hK
  obtain ⟨rfl, hZ, hh⟩ := hP
  have hx := Bd.exec
  have hby := Bd.bytes
  have hml : c.maxLocals = 11 := hml0
  have hown : s.vm.findClass "java/lang/Long" = some m.cls := findClass_of_methodNamed Bd.named
  have hnm := (name_of_methodNamed Bd.named Bd.method).1
  have X0 : Stand p l e ({ frames := 0, cells := 0, slots := 0, locals := 0 } : Room) s m #[(.long xj0_), (.int (1 : Int32)), (.ref xo2_)] below meth c s₁ [] 0 0 := Stand.of_body Bd
  have e0 : s₁.heap = h0 := by rw [← hh, Bd.state]; rfl
  have N0 := Fr.nil n0
  have pre0 : ∀ t, Steps p.tables e below (s₁.setTop (mkF m 0 #[.val (.long xj0_), .second, .val (.int (1 : Int32)), .val (.ref xo2_), .unset, .unset, .unset, .unset, .unset, .unset, .unset] [])) t → Steps p.tables e below (s₁.setTop (entryFrame m #[(.long xj0_), (.int (1 : Int32)), (.ref xo2_)] 11)) t := fun t k => castTop (efA7 m xj0_ xo2_) k
  obtain ⟨T1, X1, e1, st1⟩ := getS2 X0 hx hZ hown (host := "") (Or.inl (hw _ (List.mem_of_getElem? (i := 74) rfl))) Via.refl e0 (S_DigitOnes.ext X00.2) (g := (mkF m 149 #[.val (.long (-xj0_)), .second, .val (.int (1 : Int32)), .val (.ref xo2_), .unset, .unset, .unset, .val (.int (0 : Int32)), .val (.int (0 : Int32)), .unset, .val (.int ((-xj0_).toInt32))] [(.int (0 : Int32)), (.ref xo2_)])) rfl (hb hby dA7_149)
  obtain ⟨cl2, Ar2, q2, S2, M2, Hs2, G2⟩ := (V_uo1_.ext X00.2)
  have hin2 : ¬ ((-((-xj0_).toInt32)) < 0 ∨ cl2.slots.size ≤ ((-((-xj0_).toInt32))).toNatClampNeg) := inb_of S2 hp3_
  have hat2 : cl2.slots[((-((-xj0_).toInt32))).toNatClampNeg]? = some (.int (own_get own_ones (-((-xj0_).toInt32)))) := Hs2.at hin2 (own_getV own_ones (-((-xj0_).toInt32)))
  obtain ⟨cl3, Ar3, q3, S3, M3, Hs3, G3⟩ := (id V_xo2_)
  have hin3 : ¬ ((0 : Int32) < 0 ∨ cl3.slots.size ≤ ((0 : Int32)).toNatClampNeg) := inb_of S3 ⟨by decide, by decide⟩
  obtain ⟨T4, h4, X4, e4, W4, st4⟩ := stB X1 hx hZ e1 Ar3 (j := (0 : Int32)) hin3 (g := (mkF m 156 #[.val (.long (-xj0_)), .second, .val (.int (1 : Int32)), .val (.ref xo2_), .unset, .unset, .unset, .val (.int (0 : Int32)), .val (.int (0 : Int32)), .unset, .val (.int ((-xj0_).toInt32))] [(.int (own_get own_ones (-((-xj0_).toInt32)))), (.int (0 : Int32)), (.ref xo2_)])) rfl rfl (hb hby dA7_156)
  have V4 : Arv Z h4 xo2_ k_xo2_ .byte (16 : Int32) [(.int ((own_get own_ones (-((-xj0_).toInt32)))).toInt8.toInt32), (.int (0 : Int32)), (.int (0 : Int32)), (.int (0 : Int32)), (.int (0 : Int32)), (.int (0 : Int32)), (.int (0 : Int32)), (.int (0 : Int32)), (.int (0 : Int32)), (.int (0 : Int32)), (.int (0 : Int32)), (.int (0 : Int32)), (.int (0 : Int32)), (.int (0 : Int32)), (.int (0 : Int32)), (.int (0 : Int32))] (.int (0 : Int32)) := Arv.set Ar3 q3 S3 M3 Hs3 G3 (fits_nar_byte _) W4 0 rfl (Nat.le_of_ble_eq_true rfl)
  have K4 : Keep h0 h4 [xo2_] := (Keep.refl h0 [xo2_]).wr W4 (Or.inl (List.mem_of_getElem? (i := 0) rfl))
  have Zs4 : n0 ≤ h4.size := Nat.le_trans Z0 (Keep.of_wr W4).1
  have N4 := Fr.snoc X4 N0 g_xo2_
  obtain ⟨fs, hr, hrun, hended, hW, hsame⟩ := X4.leave (v := some (.int (0 : Int32))) (fun h => by rw [Bd.returns] at h; cases h)
  refine ⟨_, _, (pre0 _ ?_), hrun, hended, _, _, rfl, ?_, ⟨_, rfl⟩, hW, hsame.mono (by decide) (by decide)⟩
  · show Steps p.tables e below (s₁.setTop (mkF m 0 #[.val (.long xj0_), .second, .val (.int (1 : Int32)), .val (.ref xo2_), .unset, .unset, .unset, .unset, .unset, .unset, .unset] [])) _
    refine XS.iloadN X0.here hx rfl (hb hby dA7_0) rfl ?_
    show Steps p.tables e below (s₁.setTop (mkF m 1 #[.val (.long xj0_), .second, .val (.int (1 : Int32)), .val (.ref xo2_), .unset, .unset, .unset, .unset, .unset, .unset, .unset] [(.int (1 : Int32))])) _
    refine XS.istore X0.here hx rfl (hb hby dA7_1) rfl (l' := #[.val (.long xj0_), .second, .val (.int (1 : Int32)), .val (.ref xo2_), .unset, .unset, .unset, .val (.int (1 : Int32)), .unset, .unset, .unset]) rfl ?_
    show Steps p.tables e below (s₁.setTop (mkF m 3 #[.val (.long xj0_), .second, .val (.int (1 : Int32)), .val (.ref xo2_), .unset, .unset, .unset, .val (.int (1 : Int32)), .unset, .unset, .unset] [])) _
    refine XS.lloadN X0.here hx rfl (hb hby dA7_3) rfl ?_
    show Steps p.tables e below (s₁.setTop (mkF m 4 #[.val (.long xj0_), .second, .val (.int (1 : Int32)), .val (.ref xo2_), .unset, .unset, .unset, .val (.int (1 : Int32)), .unset, .unset, .unset] [(.long xj0_)])) _
    refine XS.lconst X0.here hx rfl (hb hby dA7_4) ?_
    show Steps p.tables e below (s₁.setTop (mkF m 5 #[.val (.long xj0_), .second, .val (.int (1 : Int32)), .val (.ref xo2_), .unset, .unset, .unset, .val (.int (1 : Int32)), .unset, .unset, .unset] [(.long (0 : Int64)), (.long xj0_)])) _
    refine XS.lcmp X0.here hx rfl (hb hby dA7_5) rfl ?_
    show Steps p.tables e below (s₁.setTop (mkF m 6 #[.val (.long xj0_), .second, .val (.int (1 : Int32)), .val (.ref xo2_), .unset, .unset, .unset, .val (.int (1 : Int32)), .unset, .unset, .unset] [(.int (lcmpW xj0_ (0 : Int64)))])) _
    refine XS.ifYes X0.here hx rfl (pc0 := 6) (pc' := 13) rfl (hb hby dA7_6) rfl ((if0 _ _).trans (flt (fun q => hp0_ ((lw_lt _ _).mp q))).2.1) (by decide) (by decide) ?_
    show Steps p.tables e below (s₁.setTop (mkF m 13 #[.val (.long xj0_), .second, .val (.int (1 : Int32)), .val (.ref xo2_), .unset, .unset, .unset, .val (.int (1 : Int32)), .unset, .unset, .unset] [])) _
    refine XS.iconst X0.here hx rfl (hb hby dA7_13) ?_
    show Steps p.tables e below (s₁.setTop (mkF m 14 #[.val (.long xj0_), .second, .val (.int (1 : Int32)), .val (.ref xo2_), .unset, .unset, .unset, .val (.int (1 : Int32)), .unset, .unset, .unset] [(.int (0 : Int32))])) _
    refine XS.istore X0.here hx rfl (hb hby dA7_14) rfl (l' := #[.val (.long xj0_), .second, .val (.int (1 : Int32)), .val (.ref xo2_), .unset, .unset, .unset, .val (.int (1 : Int32)), .val (.int (0 : Int32)), .unset, .unset]) rfl ?_
    show Steps p.tables e below (s₁.setTop (mkF m 16 #[.val (.long xj0_), .second, .val (.int (1 : Int32)), .val (.ref xo2_), .unset, .unset, .unset, .val (.int (1 : Int32)), .val (.int (0 : Int32)), .unset, .unset] [])) _
    refine XS.iload X0.here hx rfl (hb hby dA7_16) rfl ?_
    show Steps p.tables e below (s₁.setTop (mkF m 18 #[.val (.long xj0_), .second, .val (.int (1 : Int32)), .val (.ref xo2_), .unset, .unset, .unset, .val (.int (1 : Int32)), .val (.int (0 : Int32)), .unset, .unset] [(.int (0 : Int32))])) _
    refine XS.ifNo X0.here hx rfl (hb hby dA7_18) rfl ((if0 _ _).trans (teq (by decide : (0 : Int32) = (0 : Int32))).2) ?_
    show Steps p.tables e below (s₁.setTop (mkF m 21 #[.val (.long xj0_), .second, .val (.int (1 : Int32)), .val (.ref xo2_), .unset, .unset, .unset, .val (.int (1 : Int32)), .val (.int (0 : Int32)), .unset, .unset] [])) _
    refine XS.lloadN X0.here hx rfl (hb hby dA7_21) rfl ?_
    show Steps p.tables e below (s₁.setTop (mkF m 22 #[.val (.long xj0_), .second, .val (.int (1 : Int32)), .val (.ref xo2_), .unset, .unset, .unset, .val (.int (1 : Int32)), .val (.int (0 : Int32)), .unset, .unset] [(.long xj0_)])) _
    refine XS.lneg X0.here hx rfl (hb hby dA7_22) rfl ?_
    show Steps p.tables e below (s₁.setTop (mkF m 23 #[.val (.long xj0_), .second, .val (.int (1 : Int32)), .val (.ref xo2_), .unset, .unset, .unset, .val (.int (1 : Int32)), .val (.int (0 : Int32)), .unset, .unset] [(.long (-xj0_))])) _
    refine XS.lstoreN X0.here hx rfl (hb hby dA7_23) rfl (l' := #[.val (.long (-xj0_)), .second, .val (.int (1 : Int32)), .val (.ref xo2_), .unset, .unset, .unset, .val (.int (1 : Int32)), .val (.int (0 : Int32)), .unset, .unset]) rfl ?_
    show Steps p.tables e below (s₁.setTop (mkF m 24 #[.val (.long (-xj0_)), .second, .val (.int (1 : Int32)), .val (.ref xo2_), .unset, .unset, .unset, .val (.int (1 : Int32)), .val (.int (0 : Int32)), .unset, .unset] [])) _
    refine XS.lloadN X0.here hx rfl (hb hby dA7_24) rfl ?_
    show Steps p.tables e below (s₁.setTop (mkF m 25 #[.val (.long (-xj0_)), .second, .val (.int (1 : Int32)), .val (.ref xo2_), .unset, .unset, .unset, .val (.int (1 : Int32)), .val (.int (0 : Int32)), .unset, .unset] [(.long (-xj0_))])) _
    refine X0.ldc2Long hx hown (mvT hZ (hw _ (List.mem_of_getElem? (i := 73) rfl))) (g := (mkF m 25 #[.val (.long (-xj0_)), .second, .val (.int (1 : Int32)), .val (.ref xo2_), .unset, .unset, .unset, .val (.int (1 : Int32)), .val (.int (0 : Int32)), .unset, .unset] [(.long (-xj0_))])) rfl (hb hby dA7_25) _ ?_
    show Steps p.tables e below (s₁.setTop (mkF m 28 #[.val (.long (-xj0_)), .second, .val (.int (1 : Int32)), .val (.ref xo2_), .unset, .unset, .unset, .val (.int (1 : Int32)), .val (.int (0 : Int32)), .unset, .unset] [(.long (-2147483648 : Int64)), (.long (-xj0_))])) _
    refine XS.lcmp X0.here hx rfl (hb hby dA7_28) rfl ?_
    show Steps p.tables e below (s₁.setTop (mkF m 29 #[.val (.long (-xj0_)), .second, .val (.int (1 : Int32)), .val (.ref xo2_), .unset, .unset, .unset, .val (.int (1 : Int32)), .val (.int (0 : Int32)), .unset, .unset] [(.int (lcmpW (-xj0_) (-2147483648 : Int64)))])) _
    refine XS.ifYes X0.here hx rfl (pc0 := 29) (pc' := 82) rfl (hb hby dA7_29) rfl ((if0 _ _).trans (tlt ((lw_gt _ _).mpr hp1_)).2.2.1) (by decide) (by decide) ?_
    show Steps p.tables e below (s₁.setTop (mkF m 82 #[.val (.long (-xj0_)), .second, .val (.int (1 : Int32)), .val (.ref xo2_), .unset, .unset, .unset, .val (.int (1 : Int32)), .val (.int (0 : Int32)), .unset, .unset] [])) _
    refine XS.lloadN X0.here hx rfl (hb hby dA7_82) rfl ?_
    show Steps p.tables e below (s₁.setTop (mkF m 83 #[.val (.long (-xj0_)), .second, .val (.int (1 : Int32)), .val (.ref xo2_), .unset, .unset, .unset, .val (.int (1 : Int32)), .val (.int (0 : Int32)), .unset, .unset] [(.long (-xj0_))])) _
    refine XS.l2i X0.here hx rfl (hb hby dA7_83) rfl ?_
    show Steps p.tables e below (s₁.setTop (mkF m 84 #[.val (.long (-xj0_)), .second, .val (.int (1 : Int32)), .val (.ref xo2_), .unset, .unset, .unset, .val (.int (1 : Int32)), .val (.int (0 : Int32)), .unset, .unset] [(.int ((-xj0_).toInt32))])) _
    refine XS.istore X0.here hx rfl (hb hby dA7_84) rfl (l' := #[.val (.long (-xj0_)), .second, .val (.int (1 : Int32)), .val (.ref xo2_), .unset, .unset, .unset, .val (.int (1 : Int32)), .val (.int (0 : Int32)), .unset, .val (.int ((-xj0_).toInt32))]) rfl ?_
    show Steps p.tables e below (s₁.setTop (mkF m 86 #[.val (.long (-xj0_)), .second, .val (.int (1 : Int32)), .val (.ref xo2_), .unset, .unset, .unset, .val (.int (1 : Int32)), .val (.int (0 : Int32)), .unset, .val (.int ((-xj0_).toInt32))] [])) _
    refine XS.iload X0.here hx rfl (hb hby dA7_86) rfl ?_
    show Steps p.tables e below (s₁.setTop (mkF m 88 #[.val (.long (-xj0_)), .second, .val (.int (1 : Int32)), .val (.ref xo2_), .unset, .unset, .unset, .val (.int (1 : Int32)), .val (.int (0 : Int32)), .unset, .val (.int ((-xj0_).toInt32))] [(.int ((-xj0_).toInt32))])) _
    refine XS.bipush X0.here hx rfl (hb hby dA7_88) ?_
    show Steps p.tables e below (s₁.setTop (mkF m 90 #[.val (.long (-xj0_)), .second, .val (.int (1 : Int32)), .val (.ref xo2_), .unset, .unset, .unset, .val (.int (1 : Int32)), .val (.int (0 : Int32)), .unset, .val (.int ((-xj0_).toInt32))] [(.int (-100 : Int32)), (.int ((-xj0_).toInt32))])) _
    refine XS.icmpYes X0.here hx rfl (pc0 := 90) (pc' := 143) rfl (hb hby dA7_90) rfl (tlt hp2_).2.2.1 (by decide) (by decide) ?_
    show Steps p.tables e below (s₁.setTop (mkF m 143 #[.val (.long (-xj0_)), .second, .val (.int (1 : Int32)), .val (.ref xo2_), .unset, .unset, .unset, .val (.int (1 : Int32)), .val (.int (0 : Int32)), .unset, .val (.int ((-xj0_).toInt32))] [])) _
    refine XS.aloadN X0.here hx rfl (hb hby dA7_143) rfl rfl ?_
    show Steps p.tables e below (s₁.setTop (mkF m 144 #[.val (.long (-xj0_)), .second, .val (.int (1 : Int32)), .val (.ref xo2_), .unset, .unset, .unset, .val (.int (1 : Int32)), .val (.int (0 : Int32)), .unset, .val (.int ((-xj0_).toInt32))] [(.ref xo2_)])) _
    refine XS.iinc X0.here hx rfl (hb hby dA7_144) rfl (l' := #[.val (.long (-xj0_)), .second, .val (.int (1 : Int32)), .val (.ref xo2_), .unset, .unset, .unset, .val (.int (0 : Int32)), .val (.int (0 : Int32)), .unset, .val (.int ((-xj0_).toInt32))]) rfl ?_
    show Steps p.tables e below (s₁.setTop (mkF m 147 #[.val (.long (-xj0_)), .second, .val (.int (1 : Int32)), .val (.ref xo2_), .unset, .unset, .unset, .val (.int (0 : Int32)), .val (.int (0 : Int32)), .unset, .val (.int ((-xj0_).toInt32))] [(.ref xo2_)])) _
    refine XS.iload X0.here hx rfl (hb hby dA7_147) rfl ?_
    show Steps p.tables e below (s₁.setTop (mkF m 149 #[.val (.long (-xj0_)), .second, .val (.int (1 : Int32)), .val (.ref xo2_), .unset, .unset, .unset, .val (.int (0 : Int32)), .val (.int (0 : Int32)), .unset, .val (.int ((-xj0_).toInt32))] [(.int (0 : Int32)), (.ref xo2_)])) _
    refine st1 _ ?_
    show Steps p.tables e below (T1.setTop (mkF m 152 #[.val (.long (-xj0_)), .second, .val (.int (1 : Int32)), .val (.ref xo2_), .unset, .unset, .unset, .val (.int (0 : Int32)), .val (.int (0 : Int32)), .unset, .val (.int ((-xj0_).toInt32))] [(.ref uo1_), (.int (0 : Int32)), (.ref xo2_)])) _
    refine XS.iload X1.here hx rfl (hb hby dA7_152) rfl ?_
    show Steps p.tables e below (T1.setTop (mkF m 154 #[.val (.long (-xj0_)), .second, .val (.int (1 : Int32)), .val (.ref xo2_), .unset, .unset, .unset, .val (.int (0 : Int32)), .val (.int (0 : Int32)), .unset, .val (.int ((-xj0_).toInt32))] [(.int ((-xj0_).toInt32)), (.ref uo1_), (.int (0 : Int32)), (.ref xo2_)])) _
    refine XS.ineg X1.here hx rfl (hb hby dA7_154) rfl ?_
    show Steps p.tables e below (T1.setTop (mkF m 155 #[.val (.long (-xj0_)), .second, .val (.int (1 : Int32)), .val (.ref xo2_), .unset, .unset, .unset, .val (.int (0 : Int32)), .val (.int (0 : Int32)), .unset, .val (.int ((-xj0_).toInt32))] [(.int (-((-xj0_).toInt32))), (.ref uo1_), (.int (0 : Int32)), (.ref xo2_)])) _
    refine X1.baloadBytes hx (j := (-((-xj0_).toInt32))) (v := (.int (own_get own_ones (-((-xj0_).toInt32))))) (by rw [e1]; exact Ar2.1) (State.isArrayOf_alike hZ.alike Ar2.2.1) Ar2.2.2 hin2 hat2 (g := (mkF m 155 #[.val (.long (-xj0_)), .second, .val (.int (1 : Int32)), .val (.ref xo2_), .unset, .unset, .unset, .val (.int (0 : Int32)), .val (.int (0 : Int32)), .unset, .val (.int ((-xj0_).toInt32))] [(.int (-((-xj0_).toInt32))), (.ref uo1_), (.int (0 : Int32)), (.ref xo2_)])) rfl rfl (hb hby dA7_155) _ ?_
    show Steps p.tables e below (T1.setTop (mkF m 156 #[.val (.long (-xj0_)), .second, .val (.int (1 : Int32)), .val (.ref xo2_), .unset, .unset, .unset, .val (.int (0 : Int32)), .val (.int (0 : Int32)), .unset, .val (.int ((-xj0_).toInt32))] [(.int (own_get own_ones (-((-xj0_).toInt32)))), (.int (0 : Int32)), (.ref xo2_)])) _
    refine st4 _ ?_
    show Steps p.tables e below (T4.setTop (mkF m 157 #[.val (.long (-xj0_)), .second, .val (.int (1 : Int32)), .val (.ref xo2_), .unset, .unset, .unset, .val (.int (0 : Int32)), .val (.int (0 : Int32)), .unset, .val (.int ((-xj0_).toInt32))] [])) _
    refine XS.iload X4.here hx rfl (hb hby dA7_157) rfl ?_
    show Steps p.tables e below (T4.setTop (mkF m 159 #[.val (.long (-xj0_)), .second, .val (.int (1 : Int32)), .val (.ref xo2_), .unset, .unset, .unset, .val (.int (0 : Int32)), .val (.int (0 : Int32)), .unset, .val (.int ((-xj0_).toInt32))] [(.int ((-xj0_).toInt32))])) _
    refine XS.bipush X4.here hx rfl (hb hby dA7_159) ?_
    show Steps p.tables e below (T4.setTop (mkF m 161 #[.val (.long (-xj0_)), .second, .val (.int (1 : Int32)), .val (.ref xo2_), .unset, .unset, .unset, .val (.int (0 : Int32)), .val (.int (0 : Int32)), .unset, .val (.int ((-xj0_).toInt32))] [(.int (-9 : Int32)), (.int ((-xj0_).toInt32))])) _
    refine XS.icmpYes X4.here hx rfl (pc0 := 161) (pc' := 178) rfl (hb hby dA7_161) rfl (flt hp4_).2.1 (by decide) (by decide) ?_
    show Steps p.tables e below (T4.setTop (mkF m 178 #[.val (.long (-xj0_)), .second, .val (.int (1 : Int32)), .val (.ref xo2_), .unset, .unset, .unset, .val (.int (0 : Int32)), .val (.int (0 : Int32)), .unset, .val (.int ((-xj0_).toInt32))] [])) _
    refine XS.iload X4.here hx rfl (hb hby dA7_178) rfl ?_
    show Steps p.tables e below (T4.setTop (mkF m 180 #[.val (.long (-xj0_)), .second, .val (.int (1 : Int32)), .val (.ref xo2_), .unset, .unset, .unset, .val (.int (0 : Int32)), .val (.int (0 : Int32)), .unset, .val (.int ((-xj0_).toInt32))] [(.int (0 : Int32))])) _
    refine XS.ifYes X4.here hx rfl (pc0 := 180) (pc' := 192) rfl (hb hby dA7_180) rfl ((if0 _ _).trans (teq (by decide : (0 : Int32) = (0 : Int32))).1) (by decide) (by decide) ?_
    show Steps p.tables e below (T4.setTop (mkF m 192 #[.val (.long (-xj0_)), .second, .val (.int (1 : Int32)), .val (.ref xo2_), .unset, .unset, .unset, .val (.int (0 : Int32)), .val (.int (0 : Int32)), .unset, .val (.int ((-xj0_).toInt32))] [])) _
    refine XS.iload X4.here hx rfl (hb hby dA7_192) rfl ?_
    show Steps p.tables e below (T4.setTop (mkF m 194 #[.val (.long (-xj0_)), .second, .val (.int (1 : Int32)), .val (.ref xo2_), .unset, .unset, .unset, .val (.int (0 : Int32)), .val (.int (0 : Int32)), .unset, .val (.int ((-xj0_).toInt32))] [(.int (0 : Int32))])) _
    exact retI X4 hx Bd.returns (hb hby dA7_194) hr
  · show QA7 Z xj0_ xo2_ uo1_ k_uo1_ k_xo2_ h0 n0 _ T4.heap _
    rw [e4]
    exact ⟨rfl, N4, K4, V4⟩
theorem own_pd4 : parseMethodDescriptor "(JI[B)I" = some ⟨[.long, .int, (.array .byte)], some .int⟩ := by decide +kernel
theorem dA3_0 : decode jdk_68_method_33_code 0 = .ok (.aload_n 0, 1) := by decide +kernel
theorem dA3_1 : decode jdk_68_method_33_code 1 = .ok (.getfield 79, 3) := by decide +kernel
theorem dA3_4 : decode jdk_68_method_33_code 4 = .ok (.istore_n 3, 1) := by decide +kernel
theorem dA3_5 : decode jdk_68_method_33_code 5 = .ok (.iload_n 3, 1) := by decide +kernel
theorem dA3_6 : decode jdk_68_method_33_code 6 = .ok (.lload_n 1, 1) := by decide +kernel
theorem dA3_7 : decode jdk_68_method_33_code 7 = .ok (.invokestatic 254, 3) := by decide +kernel
theorem dA3_10 : decode jdk_68_method_33_code 10 = .ok (.iadd, 1) := by decide +kernel
theorem dA3_11 : decode jdk_68_method_33_code 11 = .ok (.istore 4, 2) := by decide +kernel
theorem dA3_13 : decode jdk_68_method_33_code 13 = .ok (.aload_n 0, 1) := by decide +kernel
theorem dA3_14 : decode jdk_68_method_33_code 14 = .ok (.iload 4, 2) := by decide +kernel
theorem dA3_16 : decode jdk_68_method_33_code 16 = .ok (.invokevirtual 100, 3) := by decide +kernel
theorem dA3_19 : decode jdk_68_method_33_code 19 = .ok (.aload_n 0, 1) := by decide +kernel
theorem dA3_20 : decode jdk_68_method_33_code 20 = .ok (.invokevirtual 83, 3) := by decide +kernel
theorem dA3_23 : decode jdk_68_method_33_code 23 = .ok (.ifCond .eq 17, 3) := by decide +kernel
theorem dA3_26 : decode jdk_68_method_33_code 26 = .ok (.lload_n 1, 1) := by decide +kernel
theorem dA3_27 : decode jdk_68_method_33_code 27 = .ok (.iload 4, 2) := by decide +kernel
theorem dA3_29 : decode jdk_68_method_33_code 29 = .ok (.aload_n 0, 1) := by decide +kernel
theorem dA3_30 : decode jdk_68_method_33_code 30 = .ok (.getfield 15, 3) := by decide +kernel
theorem dA3_33 : decode jdk_68_method_33_code 33 = .ok (.invokestatic 259, 3) := by decide +kernel
theorem dA3_36 : decode jdk_68_method_33_code 36 = .ok (.pop, 1) := by decide +kernel
theorem dA3_37 : decode jdk_68_method_33_code 37 = .ok (.goto 15, 3) := by decide +kernel
theorem dA3_52 : decode jdk_68_method_33_code 52 = .ok (.aload_n 0, 1) := by decide +kernel
theorem dA3_53 : decode jdk_68_method_33_code 53 = .ok (.iload 4, 2) := by decide +kernel
theorem dA3_55 : decode jdk_68_method_33_code 55 = .ok (.putfield 79, 3) := by decide +kernel
theorem dA3_58 : decode jdk_68_method_33_code 58 = .ok (.aload_n 0, 1) := by decide +kernel
theorem dA3_59 : decode jdk_68_method_33_code 59 = .ok (.areturn, 1) := by decide +kernel
theorem efA3 (m : MethodId) (xo0_ : Addr) (xj1_ : Int64) : entryFrame m #[(.ref xo0_), (.long xj1_)] 5 = mkF m 0 #[.val (.ref xo0_), .val (.long xj1_), .second, .unset, .unset] [] := by first | (simp [entryFrame, mkF, argsToLocals, Value.category]; done) | rfl
def QA3 (Z : State) (xo0_ : Addr) (xj1_ : Int64) (uo1_ : Addr) (k_uo1_ : ClassId) (ui2_ : Int32) (uo3_ : Addr) (k_uo3_ : ClassId) (h0 : Heap) (n0 : Nat) (v : Option Value) (h : Heap) (L : List Loc) : Prop := v = some (.ref xo0_) ∧ Fr n0 L ∧ Keep h0 h [uo1_, xo0_] ∧ Arv Z h uo1_ k_uo1_ .byte (16 : Int32) [(.int ((own_get own_ones (-((-xj1_).toInt32)))).toInt8.toInt32), (.int (0 : Int32)), (.int (0 : Int32)), (.int (0 : Int32)), (.int (0 : Int32)), (.int (0 : Int32)), (.int (0 : Int32)), (.int (0 : Int32)), (.int (0 : Int32)), (.int (0 : Int32)), (.int (0 : Int32)), (.int (0 : Int32)), (.int (0 : Int32)), (.int (0 : Int32)), (.int (0 : Int32)), (.int (0 : Int32))] (.int (0 : Int32)) ∧ Exa Z h xo0_ "java/lang/StringBuilder" ∧ Fld Z h xo0_ "java/lang/AbstractStringBuilder" "value" "[B" (.ref uo1_) ∧ Fld Z h xo0_ "java/lang/AbstractStringBuilder" "coder" "B" (.int (0 : Int32)) ∧ Fld Z h xo0_ "java/lang/AbstractStringBuilder" "count" "I" (.int (1 : Int32))
set_option maxRecDepth 65536 in
set_option maxHeartbeats 40000000 in
theorem rmA3 (l : Launch) (Z : State) (a0 : Array Value) (hw : ∀ d ∈ tables_1, d.before a0 Z = true) (ws : List Jvm.Cond) (xo0_ : Addr) (xj1_ : Int64) (uo1_ : Addr) (k_uo1_ : ClassId) (ui2_ : Int32) (uo3_ : Addr) (k_uo3_ : ClassId) (h0 : Heap) (n0 : Nat) (Z0 : n0 ≤ h0.size) (E_xo0_ : Exa Z h0 xo0_ "java/lang/StringBuilder") (F_value_xo0_ : Fld Z h0 xo0_ "java/lang/AbstractStringBuilder" "value" "[B" (.ref uo1_)) (F_coder_xo0_ : Fld Z h0 xo0_ "java/lang/AbstractStringBuilder" "coder" "B" (.int (0 : Int32))) (F_count_xo0_ : Fld Z h0 xo0_ "java/lang/AbstractStringBuilder" "count" "I" (.int (0 : Int32))) (hp0_ : ¬ (xj1_ < (0 : Int64))) (hp1_ : (-10 : Int64) < (-xj1_)) (V_uo1_ : Arv Z h0 uo1_ k_uo1_ .byte (16 : Int32) [(.int (0 : Int32)), (.int (0 : Int32)), (.int (0 : Int32)), (.int (0 : Int32)), (.int (0 : Int32)), (.int (0 : Int32)), (.int (0 : Int32)), (.int (0 : Int32)), (.int (0 : Int32)), (.int (0 : Int32)), (.int (0 : Int32)), (.int (0 : Int32)), (.int (0 : Int32)), (.int (0 : Int32)), (.int (0 : Int32)), (.int (0 : Int32))] (.int (0 : Int32))) (X00 : Old Z n0 h0) (S_COMPACT_STRINGS : Sta Z Z.heap "java/lang/String" "COMPACT_STRINGS" "Z" (.int ui2_)) (hp2_ : ¬ (ui2_ = (0 : Int32))) (hp3_ : (-2147483648 : Int64) < (-xj1_)) (hp4_ : (-100 : Int32) < ((-xj1_).toInt32)) (S_DigitOnes : Sta Z Z.heap "java/lang/Integer" "DigitOnes" "[B" (.ref uo3_)) (V_uo3_ : Arv Z Z.heap uo3_ k_uo3_ .byte (100 : Int32) (own_ones.map Value.int) (.int (0 : Int32))) (hp5_ : own_inb xj1_) (hp6_ : ¬ (((-xj1_).toInt32) < (-9 : Int32))) (g_uo1_ : n0 ≤ uo1_) (g_xo0_ : n0 ≤ xo0_) :
    MetFree l (⟨"java/lang/AbstractStringBuilder", "append", "(J)Ljava/lang/AbstractStringBuilder;"⟩ : MethodName) (head1 (Jvm.Cond.code (⟨"java/lang/AbstractStringBuilder", "append", "(J)Ljava/lang/AbstractStringBuilder;"⟩ : MethodName) jdk_68_method_33_code 5 (some (.object "java/lang/AbstractStringBuilder")) :: ws) ({ frames := 1, cells := 0, slots := 0, locals := 22 } : Room)) (fun av_ U => av_ = #[(.ref xo0_), (.long xj1_)] ∧ Z.Warmed39 U.vm ∧ U.heap = h0) (fun _ _ _ _ _ => True) (fun _ U o U' => ∃ v L, o = .returned v ∧ QA3 Z xo0_ xj1_ uo1_ k_uo1_ ui2_ uo3_ k_uo3_ h0 n0 v U'.heap L ∧ FrameEnd U o U' L ({ frames := 1, cells := 0, slots := 0, locals := 22 } : Room).cells ({ frames := 1, cells := 0, slots := 0, locals := 22 } : Room).slots) := by
  refine MetFree.of_bodySF (plainFor_of_name own_pn1) hisR ?_
  intro p e s m args below meth c s₁ Bd hml0 hP hK
  obtain ⟨rfl, hZ, hh⟩ := hP
  have hx := Bd.exec
  have hby := Bd.bytes
  have hml : c.maxLocals = 5 := hml0
  have hown : s.vm.findClass "java/lang/AbstractStringBuilder" = some m.cls := findClass_of_methodNamed Bd.named
  have hnm := (name_of_methodNamed Bd.named Bd.method).1
  have X0 : Stand p l e ({ frames := 1, cells := 0, slots := 0, locals := 22 } : Room) s m #[(.ref xo0_), (.long xj1_)] below meth c s₁ [] 0 0 := Stand.of_body Bd
  have e0 : s₁.heap = h0 := by rw [← hh, Bd.state]; rfl
  have N0 := Fr.nil n0
  have pre0 : ∀ t, Steps p.tables e below (s₁.setTop (mkF m 0 #[.val (.ref xo0_), .val (.long xj1_), .second, .unset, .unset] [])) t → Steps p.tables e below (s₁.setTop (entryFrame m #[(.ref xo0_), (.long xj1_)] 5)) t := fun t k => castTop (efA3 m xo0_ xj1_) k
  obtain ⟨T1, X1, e1, st1⟩ := getF X0 hx hZ hown (host := "") (Or.inl (hw _ (List.mem_of_getElem? (i := 53) rfl))) Via.refl e0 F_count_xo0_ (g := (mkF m 1 #[.val (.ref xo0_), .val (.long xj1_), .second, .unset, .unset] [(.ref xo0_)])) rfl rfl (hb hby dA3_1)
  obtain ⟨_, _, ⟨T2, L2, k2, n2⟩, -, X2, ⟨Lc2, hQ2, l2, y2, z2⟩, st2⟩ := Jvm.LawKit.callS X1 hx (y := (⟨"java/lang/Long", "stringSize", "(J)I"⟩ : MethodName)) hown (mvT hZ (hw _ (List.mem_of_getElem? (i := 55) rfl))) (mvT hZ (hw _ (List.mem_of_getElem? (i := 56) rfl))) (mvT hZ (hw _ (List.mem_of_getElem? (i := 57) rfl))) (mvT hZ (hw _ (List.mem_of_getElem? (i := 58) rfl))) (by decide) (backOf (W := 1) (rmA4 l Z a0 hw [] xj1_ h0 n0 Z0 hp0_ hp1_) hZ (hw _ (List.mem_of_getElem? (i := 58) rfl)) (hw _ (List.mem_of_getElem? (i := 57) rfl)) (by decide) (by decide)) (g := (mkF m 7 #[.val (.ref xo0_), .val (.long xj1_), .second, .val (.int (0 : Int32)), .unset] [(.long xj1_), (.int (0 : Int32))])) rfl (by rw [hml]; rfl) (argsL := [(.long xj1_)]) (rest := [(.int (0 : Int32))]) (lenOf own_pd2 rfl) rfl (by show 2 * 0 + _ ≤ _; exact Nat.le_of_eq rfl) (hb hby dA3_7) (fun _ _ => ⟨rfl, e1, (by decide : 0 + 0 ≤ _), (by decide : 0 + 0 ≤ _)⟩)
  dsimp only [Pt.U, Pt.locs, Pt.cells, Pt.slots] at X2 l2 y2 z2 st2 hQ2
  subst l2 y2 z2
  obtain ⟨rfl, Nq2, e2⟩ := hQ2
  have N2 := Fr.app N0 Nq2
  obtain ⟨cq3, qa3, qb3⟩ := E_xo0_.cell
  obtain ⟨_, _, ⟨T3, L3, k3, n3⟩, -, X3, ⟨Lc3, hQ3, l3, y3, z3⟩, st3⟩ := X2.privateBack hx (y := (⟨"java/lang/AbstractStringBuilder", "ensureCapacityInternal", "(I)V"⟩ : MethodName)) hown (mvT hZ (hw _ (List.mem_of_getElem? (i := 60) rfl))) (mvT hZ (hw _ (List.mem_of_getElem? (i := 61) rfl))) (selfSel hZ (hw _ (List.mem_of_getElem? (i := 63) rfl)) (hw _ (List.mem_of_getElem? (i := 61) rfl)) (hw _ (List.mem_of_getElem? (i := 62) rfl)) (by decide)) (Cond.privateMethod_at (mvP hZ (hw _ (List.mem_of_getElem? (i := 62) rfl)) (args := #[]))) (mvT hZ (hw _ (List.mem_of_getElem? (i := 64) rfl))) (by decide) (backOf (W := 0) (rmA5 l Z a0 hw [] xo0_ uo1_ k_uo1_ h0 n0 Z0 E_xo0_ F_value_xo0_ F_coder_xo0_ F_count_xo0_ V_uo1_) hZ (hw _ (List.mem_of_getElem? (i := 64) rfl)) (hw _ (List.mem_of_getElem? (i := 33) rfl)) (by decide) (by decide)) (g := (mkF m 16 #[.val (.ref xo0_), .val (.long xj1_), .second, .val (.int (0 : Int32)), .val (.int (1 : Int32))] [(.int (1 : Int32)), (.ref xo0_)])) rfl (by rw [hml]; rfl) (Steps.refl _) (a := xo0_) (by rw [e2]; exact qa3) qb3 (argsL := [(.int (1 : Int32))]) (rest := []) (lenOf own_pd0 rfl) rfl (by show 2 * 0 + _ ≤ _; exact Nat.le_of_eq rfl) (hb hby dA3_16) (fun _ _ => ⟨rfl, e2, (by decide : 0 + 0 ≤ _), (by decide : 0 + 0 ≤ _)⟩)
  dsimp only [Pt.U, Pt.locs, Pt.cells, Pt.slots] at X3 l3 y3 z3 st3 hQ3
  subst l3 y3 z3
  obtain ⟨rfl, Nq3, e3⟩ := hQ3
  have N3 := Fr.app N2 Nq3
  obtain ⟨cq4, kq4, q4a, q4b, q4c⟩ := isOf hZ e3 E_xo0_
  obtain ⟨_, _, ⟨T4, L4, k4, n4⟩, -, X4, ⟨Lc4, hQ4, l4, y4, z4⟩, st4⟩ := X3.virtualBack hx (y := (⟨"java/lang/AbstractStringBuilder", "isLatin1", "()Z"⟩ : MethodName)) (z := (⟨"java/lang/AbstractStringBuilder", "isLatin1", "()Z"⟩ : MethodName)) hown (mvT hZ (hw _ (List.mem_of_getElem? (i := 65) rfl))) (mvT hZ (hw _ (List.mem_of_getElem? (i := 66) rfl))) (notFace_of_selects (args := #[]) (mvT hZ (hw _ (List.mem_of_getElem? (i := 68) rfl)))) (mvT hZ (hw _ (List.mem_of_getElem? (i := 68) rfl))) (mvT hZ (hw _ (List.mem_of_getElem? (i := 67) rfl))) (by decide) (backOf (W := 0) (rmA6 l Z a0 hw [] xo0_ uo1_ ui2_ h0 n0 Z0 E_xo0_ F_value_xo0_ F_coder_xo0_ F_count_xo0_ X00 S_COMPACT_STRINGS hp2_) hZ (hw _ (List.mem_of_getElem? (i := 69) rfl)) (hw _ (List.mem_of_getElem? (i := 33) rfl)) (by decide) (by decide)) q4a q4c (g := (mkF m 20 #[.val (.ref xo0_), .val (.long xj1_), .second, .val (.int (0 : Int32)), .val (.int (1 : Int32))] [(.ref xo0_)])) rfl (by rw [hml]; rfl) (Steps.refl _) (argsL := []) (rest := []) (lenOf own_pd3 rfl) rfl (by show 2 * 0 + _ ≤ _; exact Nat.le_of_eq rfl) (hb hby dA3_20) (fun _ _ => ⟨rfl, e3, (by decide : 0 + 0 ≤ _), (by decide : 0 + 0 ≤ _)⟩)
  dsimp only [Pt.U, Pt.locs, Pt.cells, Pt.slots] at X4 l4 y4 z4 st4 hQ4
  subst l4 y4 z4
  obtain ⟨rfl, Nq4, e4⟩ := hQ4
  have N4 := Fr.app N3 Nq4
  obtain ⟨T5, X5, e5, st5⟩ := getF X4 hx hZ hown (host := "") (Or.inl (hw _ (List.mem_of_getElem? (i := 39) rfl))) Via.refl e4 F_value_xo0_ (g := (mkF m 30 #[.val (.ref xo0_), .val (.long xj1_), .second, .val (.int (0 : Int32)), .val (.int (1 : Int32))] [(.ref xo0_), (.int (1 : Int32)), (.long xj1_)])) rfl rfl (hb hby dA3_30)
  obtain ⟨_, _, ⟨T6, L6, k6, n6⟩, -, X6, ⟨Lc6, hQ6, l6, y6, z6⟩, st6⟩ := Jvm.LawKit.callS X5 hx (y := (⟨"java/lang/Long", "getChars", "(JI[B)I"⟩ : MethodName)) hown (mvT hZ (hw _ (List.mem_of_getElem? (i := 70) rfl))) (mvT hZ (hw _ (List.mem_of_getElem? (i := 71) rfl))) (mvT hZ (hw _ (List.mem_of_getElem? (i := 57) rfl))) (mvT hZ (hw _ (List.mem_of_getElem? (i := 72) rfl))) (by decide) (backOf (W := 0) (rmA7 l Z a0 hw [] xj1_ uo1_ uo3_ k_uo3_ k_uo1_ h0 n0 Z0 hp0_ hp3_ hp4_ X00 S_DigitOnes V_uo3_ hp5_ V_uo1_ g_uo1_ hp6_) hZ (hw _ (List.mem_of_getElem? (i := 72) rfl)) (hw _ (List.mem_of_getElem? (i := 57) rfl)) (by decide) (by decide)) (g := (mkF m 33 #[.val (.ref xo0_), .val (.long xj1_), .second, .val (.int (0 : Int32)), .val (.int (1 : Int32))] [(.ref uo1_), (.int (1 : Int32)), (.long xj1_)])) rfl (by rw [hml]; rfl) (argsL := [(.long xj1_), (.int (1 : Int32)), (.ref uo1_)]) (rest := []) (lenOf own_pd4 rfl) rfl (by show 2 * 0 + _ ≤ _; exact Nat.le_of_eq rfl) (hb hby dA3_33) (fun _ _ => ⟨rfl, e5, (by decide : 0 + 0 ≤ _), (by decide : 0 + 0 ≤ _)⟩)
  dsimp only [Pt.U, Pt.locs, Pt.cells, Pt.slots] at X6 l6 y6 z6 st6 hQ6
  subst l6 y6 z6
  obtain ⟨rfl, Nq6, Kc6, q6_0⟩ := hQ6
  have K6 : Keep h0 T6.heap [uo1_, xo0_] := Keep.trans (Keep.refl h0 [uo1_, xo0_]) Kc6 (allS (Or.inl (List.mem_of_getElem? (i := 0) rfl)) all0)
  have Zs6 : n0 ≤ T6.heap.size := Nat.le_trans Z0 Kc6.1
  have N6 := Fr.app N4 Nq6
  have no7 : xo0_ ≠ uo1_ := Exa.neArv (E_xo0_.keep Kc6) q6_0 (hw _ (List.mem_of_getElem? (i := 24) rfl))
  obtain ⟨T8, h8, X8, e8, W8, st8⟩ := putF X6 hx hZ hown (host := "") (Or.inl (hw _ (List.mem_of_getElem? (i := 53) rfl))) Via.refl rfl (F_count_xo0_.keep Kc6 (ninS no7 nin0)) (E_xo0_.keep Kc6) (Or.inl (hw _ (List.mem_of_getElem? (i := 54) rfl))) (hw _ (List.mem_of_getElem? (i := 24) rfl)) (ty := .int) (by decide) rfl rfl (g := (mkF m 55 #[.val (.ref xo0_), .val (.long xj1_), .second, .val (.int (0 : Int32)), .val (.int (1 : Int32))] [(.int (1 : Int32)), (.ref xo0_)])) rfl rfl (hb hby dA3_55)
  have F8 : Fld Z h8 xo0_ "java/lang/AbstractStringBuilder" "count" "I" (.int (1 : Int32)) := Fld.same W8 (F_count_xo0_.keep Kc6 (ninS no7 nin0))
  have K8 : Keep h0 h8 [uo1_, xo0_] := K6.wr W8 (Or.inl (List.mem_of_getElem? (i := 1) rfl))
  have Zs8 : n0 ≤ h8.size := Nat.le_trans Zs6 (Keep.of_wr W8).1
  have N8 := Fr.snoc X8 N6 g_xo0_
  obtain ⟨fs, hr, hrun, hended, hW, hsame⟩ := X8.leave (v := some (.ref xo0_)) (fun h => by rw [Bd.returns] at h; cases h)
  refine ⟨_, _, (pre0 _ ?_), hrun, hended, _, _, rfl, ?_, ⟨_, rfl⟩, hW, hsame.mono (by decide) (by decide)⟩
  · show Steps p.tables e below (s₁.setTop (mkF m 0 #[.val (.ref xo0_), .val (.long xj1_), .second, .unset, .unset] [])) _
    refine XS.aloadN X0.here hx rfl (hb hby dA3_0) rfl rfl ?_
    show Steps p.tables e below (s₁.setTop (mkF m 1 #[.val (.ref xo0_), .val (.long xj1_), .second, .unset, .unset] [(.ref xo0_)])) _
    refine st1 _ ?_
    show Steps p.tables e below (T1.setTop (mkF m 4 #[.val (.ref xo0_), .val (.long xj1_), .second, .unset, .unset] [(.int (0 : Int32))])) _
    refine XS.istoreN X1.here hx rfl (hb hby dA3_4) rfl (l' := #[.val (.ref xo0_), .val (.long xj1_), .second, .val (.int (0 : Int32)), .unset]) rfl ?_
    show Steps p.tables e below (T1.setTop (mkF m 5 #[.val (.ref xo0_), .val (.long xj1_), .second, .val (.int (0 : Int32)), .unset] [])) _
    refine XS.iloadN X1.here hx rfl (hb hby dA3_5) rfl ?_
    show Steps p.tables e below (T1.setTop (mkF m 6 #[.val (.ref xo0_), .val (.long xj1_), .second, .val (.int (0 : Int32)), .unset] [(.int (0 : Int32))])) _
    refine XS.lloadN X1.here hx rfl (hb hby dA3_6) rfl ?_
    show Steps p.tables e below (T1.setTop (mkF m 7 #[.val (.ref xo0_), .val (.long xj1_), .second, .val (.int (0 : Int32)), .unset] [(.long xj1_), (.int (0 : Int32))])) _
    refine st2 _ ?_
    show Steps p.tables e below (T2.setTop (mkF m 10 #[.val (.ref xo0_), .val (.long xj1_), .second, .val (.int (0 : Int32)), .unset] [(.int (1 : Int32)), (.int (0 : Int32))])) _
    refine XS.iadd X2.here hx rfl (hb hby dA3_10) rfl ?_
    show Steps p.tables e below (T2.setTop (mkF m 11 #[.val (.ref xo0_), .val (.long xj1_), .second, .val (.int (0 : Int32)), .unset] [(.int (1 : Int32))])) _
    refine XS.istore X2.here hx rfl (hb hby dA3_11) rfl (l' := #[.val (.ref xo0_), .val (.long xj1_), .second, .val (.int (0 : Int32)), .val (.int (1 : Int32))]) rfl ?_
    show Steps p.tables e below (T2.setTop (mkF m 13 #[.val (.ref xo0_), .val (.long xj1_), .second, .val (.int (0 : Int32)), .val (.int (1 : Int32))] [])) _
    refine XS.aloadN X2.here hx rfl (hb hby dA3_13) rfl rfl ?_
    show Steps p.tables e below (T2.setTop (mkF m 14 #[.val (.ref xo0_), .val (.long xj1_), .second, .val (.int (0 : Int32)), .val (.int (1 : Int32))] [(.ref xo0_)])) _
    refine XS.iload X2.here hx rfl (hb hby dA3_14) rfl ?_
    show Steps p.tables e below (T2.setTop (mkF m 16 #[.val (.ref xo0_), .val (.long xj1_), .second, .val (.int (0 : Int32)), .val (.int (1 : Int32))] [(.int (1 : Int32)), (.ref xo0_)])) _
    refine st3.trans ?_
    show Steps p.tables e below (T3.setTop (mkF m 19 #[.val (.ref xo0_), .val (.long xj1_), .second, .val (.int (0 : Int32)), .val (.int (1 : Int32))] [])) _
    refine XS.aloadN X3.here hx rfl (hb hby dA3_19) rfl rfl ?_
    show Steps p.tables e below (T3.setTop (mkF m 20 #[.val (.ref xo0_), .val (.long xj1_), .second, .val (.int (0 : Int32)), .val (.int (1 : Int32))] [(.ref xo0_)])) _
    refine st4.trans ?_
    show Steps p.tables e below (T4.setTop (mkF m 23 #[.val (.ref xo0_), .val (.long xj1_), .second, .val (.int (0 : Int32)), .val (.int (1 : Int32))] [(.int (1 : Int32))])) _
    refine XS.ifNo X4.here hx rfl (hb hby dA3_23) rfl ((if0 _ _).trans (feq (by decide : ¬ ((1 : Int32) = (0 : Int32)))).1) ?_
    show Steps p.tables e below (T4.setTop (mkF m 26 #[.val (.ref xo0_), .val (.long xj1_), .second, .val (.int (0 : Int32)), .val (.int (1 : Int32))] [])) _
    refine XS.lloadN X4.here hx rfl (hb hby dA3_26) rfl ?_
    show Steps p.tables e below (T4.setTop (mkF m 27 #[.val (.ref xo0_), .val (.long xj1_), .second, .val (.int (0 : Int32)), .val (.int (1 : Int32))] [(.long xj1_)])) _
    refine XS.iload X4.here hx rfl (hb hby dA3_27) rfl ?_
    show Steps p.tables e below (T4.setTop (mkF m 29 #[.val (.ref xo0_), .val (.long xj1_), .second, .val (.int (0 : Int32)), .val (.int (1 : Int32))] [(.int (1 : Int32)), (.long xj1_)])) _
    refine XS.aloadN X4.here hx rfl (hb hby dA3_29) rfl rfl ?_
    show Steps p.tables e below (T4.setTop (mkF m 30 #[.val (.ref xo0_), .val (.long xj1_), .second, .val (.int (0 : Int32)), .val (.int (1 : Int32))] [(.ref xo0_), (.int (1 : Int32)), (.long xj1_)])) _
    refine st5 _ ?_
    show Steps p.tables e below (T5.setTop (mkF m 33 #[.val (.ref xo0_), .val (.long xj1_), .second, .val (.int (0 : Int32)), .val (.int (1 : Int32))] [(.ref uo1_), (.int (1 : Int32)), (.long xj1_)])) _
    refine st6 _ ?_
    show Steps p.tables e below (T6.setTop (mkF m 36 #[.val (.ref xo0_), .val (.long xj1_), .second, .val (.int (0 : Int32)), .val (.int (1 : Int32))] [(.int (0 : Int32))])) _
    refine XS.pop X6.here hx rfl (hb hby dA3_36) rfl rfl ?_
    show Steps p.tables e below (T6.setTop (mkF m 37 #[.val (.ref xo0_), .val (.long xj1_), .second, .val (.int (0 : Int32)), .val (.int (1 : Int32))] [])) _
    refine XS.goto X6.here hx rfl (pc0 := 37) (pc' := 52) rfl (hb hby dA3_37) (by decide) (by decide) ?_
    show Steps p.tables e below (T6.setTop (mkF m 52 #[.val (.ref xo0_), .val (.long xj1_), .second, .val (.int (0 : Int32)), .val (.int (1 : Int32))] [])) _
    refine XS.aloadN X6.here hx rfl (hb hby dA3_52) rfl rfl ?_
    show Steps p.tables e below (T6.setTop (mkF m 53 #[.val (.ref xo0_), .val (.long xj1_), .second, .val (.int (0 : Int32)), .val (.int (1 : Int32))] [(.ref xo0_)])) _
    refine XS.iload X6.here hx rfl (hb hby dA3_53) rfl ?_
    show Steps p.tables e below (T6.setTop (mkF m 55 #[.val (.ref xo0_), .val (.long xj1_), .second, .val (.int (0 : Int32)), .val (.int (1 : Int32))] [(.int (1 : Int32)), (.ref xo0_)])) _
    refine st8 _ ?_
    show Steps p.tables e below (T8.setTop (mkF m 58 #[.val (.ref xo0_), .val (.long xj1_), .second, .val (.int (0 : Int32)), .val (.int (1 : Int32))] [])) _
    refine XS.aloadN X8.here hx rfl (hb hby dA3_58) rfl rfl ?_
    show Steps p.tables e below (T8.setTop (mkF m 59 #[.val (.ref xo0_), .val (.long xj1_), .second, .val (.int (0 : Int32)), .val (.int (1 : Int32))] [(.ref xo0_)])) _
    jvm_step X8.here [X8.here.top, hx, (hb hby dA3_59), X8.method', Bd.returns, Value.isRef, FieldType.isReference]
    first | (intro acts; rw [hr _ acts rfl rfl rfl]) | rw [hr _ _ rfl rfl rfl]
    exact Steps.refl _
  · show QA3 Z xo0_ xj1_ uo1_ k_uo1_ ui2_ uo3_ k_uo3_ h0 n0 _ T8.heap _
    rw [e8]
    exact ⟨rfl, N8, K8, (q6_0.other W8 (Ne.symm no7)), ((E_xo0_.keep Kc6).wr W8), (Fld.other W8 (F_value_xo0_.keep Kc6 (ninS no7 nin0)) (Or.inr (slot_ne (Or.inl (hw _ (List.mem_of_getElem? (i := 40) rfl))) (Or.inl (hw _ (List.mem_of_getElem? (i := 54) rfl))) (by decide) (t := (.array .byte)) (t' := .int) (by decide) (by decide)))), (Fld.other W8 (F_coder_xo0_.keep Kc6 (ninS no7 nin0)) (Or.inr (slot_ne (Or.inl (hw _ (List.mem_of_getElem? (i := 42) rfl))) (Or.inl (hw _ (List.mem_of_getElem? (i := 54) rfl))) (by decide) (t := .byte) (t' := .int) (by decide) (by decide)))), F8⟩
theorem own_pd5 : parseMethodDescriptor "(J)Ljava/lang/AbstractStringBuilder;" = some ⟨[.long], some (.object "java/lang/AbstractStringBuilder")⟩ := by decide +kernel
theorem dA2_0 : decode jdk_67_method_16_code 0 = .ok (.aload_n 0, 1) := by decide +kernel
theorem dA2_1 : decode jdk_67_method_16_code 1 = .ok (.lload_n 1, 1) := by decide +kernel
theorem dA2_2 : decode jdk_67_method_16_code 2 = .ok (.invokespecial 56, 3) := by decide +kernel
theorem dA2_5 : decode jdk_67_method_16_code 5 = .ok (.pop, 1) := by decide +kernel
theorem dA2_6 : decode jdk_67_method_16_code 6 = .ok (.aload_n 0, 1) := by decide +kernel
theorem dA2_7 : decode jdk_67_method_16_code 7 = .ok (.areturn, 1) := by decide +kernel
theorem efA2 (m : MethodId) (xo0_ : Addr) (xj1_ : Int64) : entryFrame m #[(.ref xo0_), (.long xj1_)] 3 = mkF m 0 #[.val (.ref xo0_), .val (.long xj1_), .second] [] := by first | (simp [entryFrame, mkF, argsToLocals, Value.category]; done) | rfl
def QA2 (Z : State) (xo0_ : Addr) (xj1_ : Int64) (uo1_ : Addr) (k_uo1_ : ClassId) (ui2_ : Int32) (uo3_ : Addr) (k_uo3_ : ClassId) (h0 : Heap) (n0 : Nat) (v : Option Value) (h : Heap) (L : List Loc) : Prop := v = some (.ref xo0_) ∧ Fr n0 L ∧ Keep h0 h [xo0_, uo1_] ∧ Exa Z h xo0_ "java/lang/StringBuilder" ∧ Fld Z h xo0_ "java/lang/AbstractStringBuilder" "value" "[B" (.ref uo1_) ∧ Fld Z h xo0_ "java/lang/AbstractStringBuilder" "coder" "B" (.int (0 : Int32)) ∧ Fld Z h xo0_ "java/lang/AbstractStringBuilder" "count" "I" (.int (1 : Int32)) ∧ Arv Z h uo1_ k_uo1_ .byte (16 : Int32) [(.int ((own_get own_ones (-((-xj1_).toInt32)))).toInt8.toInt32), (.int (0 : Int32)), (.int (0 : Int32)), (.int (0 : Int32)), (.int (0 : Int32)), (.int (0 : Int32)), (.int (0 : Int32)), (.int (0 : Int32)), (.int (0 : Int32)), (.int (0 : Int32)), (.int (0 : Int32)), (.int (0 : Int32)), (.int (0 : Int32)), (.int (0 : Int32)), (.int (0 : Int32)), (.int (0 : Int32))] (.int (0 : Int32))
set_option maxRecDepth 65536 in
set_option maxHeartbeats 40000000 in
theorem rmA2 (l : Launch) (Z : State) (a0 : Array Value) (hw : ∀ d ∈ tables_1, d.before a0 Z = true) (ws : List Jvm.Cond) (xo0_ : Addr) (xj1_ : Int64) (uo1_ : Addr) (k_uo1_ : ClassId) (ui2_ : Int32) (uo3_ : Addr) (k_uo3_ : ClassId) (h0 : Heap) (n0 : Nat) (Z0 : n0 ≤ h0.size) (E_xo0_ : Exa Z h0 xo0_ "java/lang/StringBuilder") (F_value_xo0_ : Fld Z h0 xo0_ "java/lang/AbstractStringBuilder" "value" "[B" (.ref uo1_)) (F_coder_xo0_ : Fld Z h0 xo0_ "java/lang/AbstractStringBuilder" "coder" "B" (.int (0 : Int32))) (F_count_xo0_ : Fld Z h0 xo0_ "java/lang/AbstractStringBuilder" "count" "I" (.int (0 : Int32))) (hp0_ : ¬ (xj1_ < (0 : Int64))) (hp1_ : (-10 : Int64) < (-xj1_)) (V_uo1_ : Arv Z h0 uo1_ k_uo1_ .byte (16 : Int32) [(.int (0 : Int32)), (.int (0 : Int32)), (.int (0 : Int32)), (.int (0 : Int32)), (.int (0 : Int32)), (.int (0 : Int32)), (.int (0 : Int32)), (.int (0 : Int32)), (.int (0 : Int32)), (.int (0 : Int32)), (.int (0 : Int32)), (.int (0 : Int32)), (.int (0 : Int32)), (.int (0 : Int32)), (.int (0 : Int32)), (.int (0 : Int32))] (.int (0 : Int32))) (X00 : Old Z n0 h0) (S_COMPACT_STRINGS : Sta Z Z.heap "java/lang/String" "COMPACT_STRINGS" "Z" (.int ui2_)) (hp2_ : ¬ (ui2_ = (0 : Int32))) (hp3_ : (-2147483648 : Int64) < (-xj1_)) (hp4_ : (-100 : Int32) < ((-xj1_).toInt32)) (S_DigitOnes : Sta Z Z.heap "java/lang/Integer" "DigitOnes" "[B" (.ref uo3_)) (V_uo3_ : Arv Z Z.heap uo3_ k_uo3_ .byte (100 : Int32) (own_ones.map Value.int) (.int (0 : Int32))) (hp5_ : own_inb xj1_) (hp6_ : ¬ (((-xj1_).toInt32) < (-9 : Int32))) (g_uo1_ : n0 ≤ uo1_) (g_xo0_ : n0 ≤ xo0_) :
    MetFree l (⟨"java/lang/StringBuilder", "append", "(J)Ljava/lang/StringBuilder;"⟩ : MethodName) (head1 (Jvm.Cond.code (⟨"java/lang/StringBuilder", "append", "(J)Ljava/lang/StringBuilder;"⟩ : MethodName) jdk_67_method_16_code 3 (some (.object "java/lang/StringBuilder")) :: ws) ({ frames := 2, cells := 0, slots := 0, locals := 38 } : Room)) (fun av_ U => av_ = #[(.ref xo0_), (.long xj1_)] ∧ Z.Warmed39 U.vm ∧ U.heap = h0) (fun _ _ _ _ _ => True) (fun _ U o U' => ∃ v L, o = .returned v ∧ QA2 Z xo0_ xj1_ uo1_ k_uo1_ ui2_ uo3_ k_uo3_ h0 n0 v U'.heap L ∧ FrameEnd U o U' L ({ frames := 2, cells := 0, slots := 0, locals := 38 } : Room).cells ({ frames := 2, cells := 0, slots := 0, locals := 38 } : Room).slots) := by
  refine MetFree.of_bodySF (plainFor_of_name own_pn2) hisR ?_
  intro p e s m args below meth c s₁ Bd hml0 hP hK
  obtain ⟨rfl, hZ, hh⟩ := hP
  have hx := Bd.exec
  have hby := Bd.bytes
  have hml : c.maxLocals = 3 := hml0
  have hown : s.vm.findClass "java/lang/StringBuilder" = some m.cls := findClass_of_methodNamed Bd.named
  have hnm := (name_of_methodNamed Bd.named Bd.method).1
  have X0 : Stand p l e ({ frames := 2, cells := 0, slots := 0, locals := 38 } : Room) s m #[(.ref xo0_), (.long xj1_)] below meth c s₁ [] 0 0 := Stand.of_body Bd
  have e0 : s₁.heap = h0 := by rw [← hh, Bd.state]; rfl
  have N0 := Fr.nil n0
  have pre0 : ∀ t, Steps p.tables e below (s₁.setTop (mkF m 0 #[.val (.ref xo0_), .val (.long xj1_), .second] [])) t → Steps p.tables e below (s₁.setTop (entryFrame m #[(.ref xo0_), (.long xj1_)] 3)) t := fun t k => castTop (efA2 m xo0_ xj1_) k
  obtain ⟨_, _, ⟨T1, L1, k1, n1⟩, -, X1, ⟨Lc1, hQ1, l1, y1, z1⟩, st1⟩ := superBack X0 hx hZ (y := (⟨"java/lang/AbstractStringBuilder", "append", "(J)Ljava/lang/AbstractStringBuilder;"⟩ : MethodName)) hown (hw _ (List.mem_of_getElem? (i := 48) rfl)) (sameSelf (hw _ (List.mem_of_getElem? (i := 63) rfl)) rfl (hw _ (List.mem_of_getElem? (i := 49) rfl)) (by decide)) (hw _ (List.mem_of_getElem? (i := 49) rfl)) (hw _ (List.mem_of_getElem? (i := 50) rfl)) (by decide) (backOf (W := 0) (rmA3 l Z a0 hw [] xo0_ xj1_ uo1_ k_uo1_ ui2_ uo3_ k_uo3_ h0 n0 Z0 E_xo0_ F_value_xo0_ F_coder_xo0_ F_count_xo0_ hp0_ hp1_ V_uo1_ X00 S_COMPACT_STRINGS hp2_ hp3_ hp4_ S_DigitOnes V_uo3_ hp5_ hp6_ g_uo1_ g_xo0_) hZ (hw _ (List.mem_of_getElem? (i := 52) rfl)) (hw _ (List.mem_of_getElem? (i := 33) rfl)) (by decide) (by decide)) e0 (Ins.self E_xo0_) (g := (mkF m 2 #[.val (.ref xo0_), .val (.long xj1_), .second] [(.long xj1_), (.ref xo0_)])) rfl (by rw [hml]; rfl) (hw _ (List.mem_of_getElem? (i := 52) rfl)) (argsL := [(.long xj1_)]) (rest := []) (lenOf own_pd5 rfl) rfl (by show 2 * 0 + _ ≤ _; exact Nat.le_of_eq rfl) (hb hby dA2_2) (fun _ _ => ⟨rfl, e0, (by decide : 0 + 0 ≤ _), (by decide : 0 + 0 ≤ _)⟩)
  dsimp only [Pt.U, Pt.locs, Pt.cells, Pt.slots] at X1 l1 y1 z1 st1 hQ1
  subst l1 y1 z1
  obtain ⟨rfl, Nq1, Kc1, q1_0, q1_1, q1_2, q1_3, q1_4⟩ := hQ1
  have K1 : Keep h0 T1.heap [xo0_, uo1_] := Keep.trans (Keep.refl h0 [xo0_, uo1_]) Kc1 (allS (Or.inl (List.mem_of_getElem? (i := 1) rfl)) (allS (Or.inl (List.mem_of_getElem? (i := 0) rfl)) all0))
  have Zs1 : n0 ≤ T1.heap.size := Nat.le_trans Z0 Kc1.1
  have N1 := Fr.app N0 Nq1
  obtain ⟨fs, hr, hrun, hended, hW, hsame⟩ := X1.leave (v := some (.ref xo0_)) (fun h => by rw [Bd.returns] at h; cases h)
  refine ⟨_, _, (pre0 _ ?_), hrun, hended, _, _, rfl, ?_, ⟨_, rfl⟩, hW, hsame.mono (by decide) (by decide)⟩
  · show Steps p.tables e below (s₁.setTop (mkF m 0 #[.val (.ref xo0_), .val (.long xj1_), .second] [])) _
    refine XS.aloadN X0.here hx rfl (hb hby dA2_0) rfl rfl ?_
    show Steps p.tables e below (s₁.setTop (mkF m 1 #[.val (.ref xo0_), .val (.long xj1_), .second] [(.ref xo0_)])) _
    refine XS.lloadN X0.here hx rfl (hb hby dA2_1) rfl ?_
    show Steps p.tables e below (s₁.setTop (mkF m 2 #[.val (.ref xo0_), .val (.long xj1_), .second] [(.long xj1_), (.ref xo0_)])) _
    refine st1.trans ?_
    show Steps p.tables e below (T1.setTop (mkF m 5 #[.val (.ref xo0_), .val (.long xj1_), .second] [(.ref xo0_)])) _
    refine XS.pop X1.here hx rfl (hb hby dA2_5) rfl rfl ?_
    show Steps p.tables e below (T1.setTop (mkF m 6 #[.val (.ref xo0_), .val (.long xj1_), .second] [])) _
    refine XS.aloadN X1.here hx rfl (hb hby dA2_6) rfl rfl ?_
    show Steps p.tables e below (T1.setTop (mkF m 7 #[.val (.ref xo0_), .val (.long xj1_), .second] [(.ref xo0_)])) _
    jvm_step X1.here [X1.here.top, hx, (hb hby dA2_7), X1.method', Bd.returns, Value.isRef, FieldType.isReference]
    first | (intro acts; rw [hr _ acts rfl rfl rfl]) | rw [hr _ _ rfl rfl rfl]
    exact Steps.refl _
  · show QA2 Z xo0_ xj1_ uo1_ k_uo1_ ui2_ uo3_ k_uo3_ h0 n0 _ T1.heap _
    exact ⟨rfl, N1, K1, q1_1, q1_2, q1_3, q1_4, q1_0⟩
theorem own_pd6 : parseMethodDescriptor "(J)Ljava/lang/StringBuilder;" = some ⟨[.long], some (.object "java/lang/StringBuilder")⟩ := by decide +kernel
theorem own_pn4 : plainName "java/lang/String" = true := by first | (simp [plainName, overriddenIn]; done) | decide +kernel
theorem dA11_0 : decode jdk_42_method_152_code 0 = .ok (.getstatic 38, 3) := by decide +kernel
theorem dA11_3 : decode jdk_42_method_152_code 3 = .ok (.ifCond .eq 10, 3) := by decide +kernel
theorem dA11_6 : decode jdk_42_method_152_code 6 = .ok (.aload_n 0, 1) := by decide +kernel
theorem dA11_7 : decode jdk_42_method_152_code 7 = .ok (.getfield 15, 3) := by decide +kernel
theorem dA11_10 : decode jdk_42_method_152_code 10 = .ok (.goto 4, 3) := by decide +kernel
theorem dA11_14 : decode jdk_42_method_152_code 14 = .ok (.ireturn, 1) := by decide +kernel
theorem efA11 (m : MethodId) (xo0_ : Addr) : entryFrame m #[(.ref xo0_)] 1 = mkF m 0 #[.val (.ref xo0_)] [] := by first | (simp [entryFrame, mkF, argsToLocals, Value.category]; done) | rfl
def QA11 (Z : State) (xo0_ : Addr) (uo1_ : Addr) (ui2_ : Int32) (h0 : Heap) (n0 : Nat) (v : Option Value) (h : Heap) (L : List Loc) : Prop := v = some (.int (0 : Int32)) ∧ Fr n0 L ∧ h = h0
set_option maxRecDepth 65536 in
set_option maxHeartbeats 40000000 in
theorem rmA11 (l : Launch) (Z : State) (a0 : Array Value) (hw : ∀ d ∈ tables_1, d.before a0 Z = true) (ws : List Jvm.Cond) (xo0_ : Addr) (uo1_ : Addr) (ui2_ : Int32) (h0 : Heap) (n0 : Nat) (Z0 : n0 ≤ h0.size) (E_xo0_ : Exa Z h0 xo0_ "java/lang/String") (F_coder_xo0_ : Fld Z h0 xo0_ "java/lang/String" "coder" "B" (.int (0 : Int32))) (F_value_xo0_ : Fld Z h0 xo0_ "java/lang/String" "value" "[B" (.ref uo1_)) (X00 : Old Z n0 h0) (S_COMPACT_STRINGS : Sta Z Z.heap "java/lang/String" "COMPACT_STRINGS" "Z" (.int ui2_)) (hp0_ : ¬ (ui2_ = (0 : Int32))) :
    MetFree l (⟨"java/lang/String", "coder", "()B"⟩ : MethodName) (head1 (Jvm.Cond.code (⟨"java/lang/String", "coder", "()B"⟩ : MethodName) jdk_42_method_152_code 1 (some .byte) :: ws) ({ frames := 0, cells := 0, slots := 0, locals := 0 } : Room)) (fun av_ U => av_ = #[(.ref xo0_)] ∧ Z.Warmed39 U.vm ∧ U.heap = h0) (fun _ _ _ _ _ => True) (fun _ U o U' => ∃ v L, o = .returned v ∧ QA11 Z xo0_ uo1_ ui2_ h0 n0 v U'.heap L ∧ FrameEnd U o U' L ({ frames := 0, cells := 0, slots := 0, locals := 0 } : Room).cells ({ frames := 0, cells := 0, slots := 0, locals := 0 } : Room).slots) := by
  refine MetFree.of_bodySF (plainFor_of_name own_pn4) hisR ?_
  intro p e s m args below meth c s₁ Bd hml0 hP hK
  obtain ⟨rfl, hZ, hh⟩ := hP
  have hx := Bd.exec
  have hby := Bd.bytes
  have hml : c.maxLocals = 1 := hml0
  have hown : s.vm.findClass "java/lang/String" = some m.cls := findClass_of_methodNamed Bd.named
  have hnm := (name_of_methodNamed Bd.named Bd.method).1
  have X0 : Stand p l e ({ frames := 0, cells := 0, slots := 0, locals := 0 } : Room) s m #[(.ref xo0_)] below meth c s₁ [] 0 0 := Stand.of_body Bd
  have e0 : s₁.heap = h0 := by rw [← hh, Bd.state]; rfl
  have N0 := Fr.nil n0
  have pre0 : ∀ t, Steps p.tables e below (s₁.setTop (mkF m 0 #[.val (.ref xo0_)] [])) t → Steps p.tables e below (s₁.setTop (entryFrame m #[(.ref xo0_)] 1)) t := fun t k => castTop (efA11 m xo0_) k
  obtain ⟨T1, X1, e1, st1⟩ := getS2 X0 hx hZ hown (host := "") (Or.inl (hw _ (List.mem_of_getElem? (i := 102) rfl))) Via.refl e0 (S_COMPACT_STRINGS.ext X00.2) (g := (mkF m 0 #[.val (.ref xo0_)] [])) rfl (hb hby dA11_0)
  obtain ⟨T2, X2, e2, st2⟩ := getF X1 hx hZ hown (host := "") (Or.inl (hw _ (List.mem_of_getElem? (i := 103) rfl))) Via.refl e1 F_coder_xo0_ (g := (mkF m 7 #[.val (.ref xo0_)] [(.ref xo0_)])) rfl rfl (hb hby dA11_7)
  obtain ⟨fs, hr, hrun, hended, hW, hsame⟩ := X2.leave (v := some (.int (0 : Int32))) (fun h => by rw [Bd.returns] at h; cases h)
  refine ⟨_, _, (pre0 _ ?_), hrun, hended, _, _, rfl, ?_, ⟨_, rfl⟩, hW, hsame.mono (by decide) (by decide)⟩
  · show Steps p.tables e below (s₁.setTop (mkF m 0 #[.val (.ref xo0_)] [])) _
    refine st1 _ ?_
    show Steps p.tables e below (T1.setTop (mkF m 3 #[.val (.ref xo0_)] [(.int ui2_)])) _
    refine XS.ifNo X1.here hx rfl (hb hby dA11_3) rfl ((if0 _ _).trans (feq hp0_).1) ?_
    show Steps p.tables e below (T1.setTop (mkF m 6 #[.val (.ref xo0_)] [])) _
    refine XS.aloadN X1.here hx rfl (hb hby dA11_6) rfl rfl ?_
    show Steps p.tables e below (T1.setTop (mkF m 7 #[.val (.ref xo0_)] [(.ref xo0_)])) _
    refine st2 _ ?_
    show Steps p.tables e below (T2.setTop (mkF m 10 #[.val (.ref xo0_)] [(.int (0 : Int32))])) _
    refine XS.goto X2.here hx rfl (pc0 := 10) (pc' := 14) rfl (hb hby dA11_10) (by decide) (by decide) ?_
    show Steps p.tables e below (T2.setTop (mkF m 14 #[.val (.ref xo0_)] [(.int (0 : Int32))])) _
    exact retN X2 hx (t := .byte) Bd.returns (by simp) (hb hby dA11_14) hr
  · show QA11 Z xo0_ uo1_ ui2_ h0 n0 _ T2.heap _
    rw [e2]
    exact ⟨rfl, N0, rfl⟩
theorem own_pd7 : parseMethodDescriptor "()B" = some ⟨[], some .byte⟩ := by decide +kernel
theorem dA10_0 : decode jdk_42_method_54_code 0 = .ok (.aload_n 0, 1) := by decide +kernel
theorem dA10_1 : decode jdk_42_method_54_code 1 = .ok (.getfield 9, 3) := by decide +kernel
theorem dA10_4 : decode jdk_42_method_54_code 4 = .ok (.arraylength, 1) := by decide +kernel
theorem dA10_5 : decode jdk_42_method_54_code 5 = .ok (.aload_n 0, 1) := by decide +kernel
theorem dA10_6 : decode jdk_42_method_54_code 6 = .ok (.invokevirtual 335, 3) := by decide +kernel
theorem dA10_9 : decode jdk_42_method_54_code 9 = .ok (.ishr, 1) := by decide +kernel
theorem dA10_10 : decode jdk_42_method_54_code 10 = .ok (.ireturn, 1) := by decide +kernel
theorem efA10 (m : MethodId) (xo0_ : Addr) : entryFrame m #[(.ref xo0_)] 1 = mkF m 0 #[.val (.ref xo0_)] [] := by first | (simp [entryFrame, mkF, argsToLocals, Value.category]; done) | rfl
def QA10 (Z : State) (xo0_ : Addr) (uo1_ : Addr) (k_uo1_ : ClassId) (ui2_ : Int32) (h0 : Heap) (n0 : Nat) (v : Option Value) (h : Heap) (L : List Loc) : Prop := v = some (.int (8 : Int32)) ∧ Fr n0 L ∧ h = h0
set_option maxRecDepth 65536 in
set_option maxHeartbeats 40000000 in
theorem rmA10 (l : Launch) (Z : State) (a0 : Array Value) (hw : ∀ d ∈ tables_1, d.before a0 Z = true) (ws : List Jvm.Cond) (xo0_ : Addr) (uo1_ : Addr) (k_uo1_ : ClassId) (ui2_ : Int32) (h0 : Heap) (n0 : Nat) (Z0 : n0 ≤ h0.size) (E_xo0_ : Exa Z h0 xo0_ "java/lang/String") (F_coder_xo0_ : Fld Z h0 xo0_ "java/lang/String" "coder" "B" (.int (0 : Int32))) (F_value_xo0_ : Fld Z h0 xo0_ "java/lang/String" "value" "[B" (.ref uo1_)) (V_uo1_ : Arv Z h0 uo1_ k_uo1_ .byte (8 : Int32) [(.int (32 : Int32)), (.int (102 : Int32)), (.int (105 : Int32)), (.int (108 : Int32)), (.int (101 : Int32)), (.int (115 : Int32)), (.int (44 : Int32)), (.int (32 : Int32))] (.int 0)) (X00 : Old Z n0 h0) (S_COMPACT_STRINGS : Sta Z Z.heap "java/lang/String" "COMPACT_STRINGS" "Z" (.int ui2_)) (hp0_ : ¬ (ui2_ = (0 : Int32))) :
    MetFree l (⟨"java/lang/String", "length", "()I"⟩ : MethodName) (head1 (Jvm.Cond.code (⟨"java/lang/String", "length", "()I"⟩ : MethodName) jdk_42_method_54_code 1 (some .int) :: ws) ({ frames := 1, cells := 0, slots := 0, locals := 13 } : Room)) (fun av_ U => av_ = #[(.ref xo0_)] ∧ Z.Warmed39 U.vm ∧ U.heap = h0) (fun _ _ _ _ _ => True) (fun _ U o U' => ∃ v L, o = .returned v ∧ QA10 Z xo0_ uo1_ k_uo1_ ui2_ h0 n0 v U'.heap L ∧ FrameEnd U o U' L ({ frames := 1, cells := 0, slots := 0, locals := 13 } : Room).cells ({ frames := 1, cells := 0, slots := 0, locals := 13 } : Room).slots) := by
  refine MetFree.of_bodySF (plainFor_of_name own_pn4) hisR ?_
  intro p e s m args below meth c s₁ Bd hml0 hP hK
  obtain ⟨rfl, hZ, hh⟩ := hP
  have hx := Bd.exec
  have hby := Bd.bytes
  have hml : c.maxLocals = 1 := hml0
  have hown : s.vm.findClass "java/lang/String" = some m.cls := findClass_of_methodNamed Bd.named
  have hnm := (name_of_methodNamed Bd.named Bd.method).1
  have X0 : Stand p l e ({ frames := 1, cells := 0, slots := 0, locals := 13 } : Room) s m #[(.ref xo0_)] below meth c s₁ [] 0 0 := Stand.of_body Bd
  have e0 : s₁.heap = h0 := by rw [← hh, Bd.state]; rfl
  have N0 := Fr.nil n0
  have pre0 : ∀ t, Steps p.tables e below (s₁.setTop (mkF m 0 #[.val (.ref xo0_)] [])) t → Steps p.tables e below (s₁.setTop (entryFrame m #[(.ref xo0_)] 1)) t := fun t k => castTop (efA10 m xo0_) k
  obtain ⟨T1, X1, e1, st1⟩ := getF X0 hx hZ hown (host := "") (Or.inl (hw _ (List.mem_of_getElem? (i := 96) rfl))) Via.refl e0 F_value_xo0_ (g := (mkF m 1 #[.val (.ref xo0_)] [(.ref xo0_)])) rfl rfl (hb hby dA10_1)
  obtain ⟨cl2, Ar2, q2, S2, M2, Hs2, G2⟩ := (id V_uo1_)
  obtain ⟨cq3, kq3, q3a, q3b, q3c⟩ := isOf hZ e1 E_xo0_
  obtain ⟨_, _, ⟨T3, L3, k3, n3⟩, -, X3, ⟨Lc3, hQ3, l3, y3, z3⟩, st3⟩ := X1.virtualBack hx (y := (⟨"java/lang/String", "coder", "()B"⟩ : MethodName)) (z := (⟨"java/lang/String", "coder", "()B"⟩ : MethodName)) hown (mvT hZ (hw _ (List.mem_of_getElem? (i := 97) rfl))) (mvT hZ (hw _ (List.mem_of_getElem? (i := 98) rfl))) (notFace_of_selects (args := #[]) (mvT hZ (hw _ (List.mem_of_getElem? (i := 100) rfl)))) (mvT hZ (hw _ (List.mem_of_getElem? (i := 100) rfl))) (mvT hZ (hw _ (List.mem_of_getElem? (i := 99) rfl))) (by decide) (backOf (W := 1) (rmA11 l Z a0 hw [] xo0_ uo1_ ui2_ h0 n0 Z0 E_xo0_ F_coder_xo0_ F_value_xo0_ X00 S_COMPACT_STRINGS hp0_) hZ (hw _ (List.mem_of_getElem? (i := 101) rfl)) (hw _ (List.mem_of_getElem? (i := 37) rfl)) (by decide) (by decide)) q3a q3c (g := (mkF m 6 #[.val (.ref xo0_)] [(.ref xo0_), (.int (8 : Int32))])) rfl (by rw [hml]; rfl) (Steps.refl _) (argsL := []) (rest := [(.int (8 : Int32))]) (lenOf own_pd7 rfl) rfl (by show 2 * 0 + _ ≤ _; exact Nat.le_of_eq rfl) (hb hby dA10_6) (fun _ _ => ⟨rfl, e1, (by decide : 0 + 0 ≤ _), (by decide : 0 + 0 ≤ _)⟩)
  dsimp only [Pt.U, Pt.locs, Pt.cells, Pt.slots] at X3 l3 y3 z3 st3 hQ3
  subst l3 y3 z3
  obtain ⟨rfl, Nq3, e3⟩ := hQ3
  have N3 := Fr.app N0 Nq3
  obtain ⟨fs, hr, hrun, hended, hW, hsame⟩ := X3.leave (v := some (.int (8 : Int32))) (fun h => by rw [Bd.returns] at h; cases h)
  refine ⟨_, _, (pre0 _ ?_), hrun, hended, _, _, rfl, ?_, ⟨_, rfl⟩, hW, hsame.mono (by decide) (by decide)⟩
  · show Steps p.tables e below (s₁.setTop (mkF m 0 #[.val (.ref xo0_)] [])) _
    refine XS.aloadN X0.here hx rfl (hb hby dA10_0) rfl rfl ?_
    show Steps p.tables e below (s₁.setTop (mkF m 1 #[.val (.ref xo0_)] [(.ref xo0_)])) _
    refine st1 _ ?_
    show Steps p.tables e below (T1.setTop (mkF m 4 #[.val (.ref xo0_)] [(.ref uo1_)])) _
    refine X1.arraylength hx (by rw [e1]; exact Ar2.1) (State.isArrayOf_alike hZ.alike Ar2.2.1) (g := (mkF m 4 #[.val (.ref xo0_)] [(.ref uo1_)])) rfl rfl (hb hby dA10_4) _ ?_
    rw [len_of S2 M2]
    show Steps p.tables e below (T1.setTop (mkF m 5 #[.val (.ref xo0_)] [(.int (8 : Int32))])) _
    refine XS.aloadN X1.here hx rfl (hb hby dA10_5) rfl rfl ?_
    show Steps p.tables e below (T1.setTop (mkF m 6 #[.val (.ref xo0_)] [(.ref xo0_), (.int (8 : Int32))])) _
    refine st3.trans ?_
    show Steps p.tables e below (T3.setTop (mkF m 9 #[.val (.ref xo0_)] [(.int (0 : Int32)), (.int (8 : Int32))])) _
    refine XS.ishr X3.here hx rfl (hb hby dA10_9) rfl ?_
    rw [show ((8 : Int32) >>> ((0 : Int32) &&& 31)) = (8 : Int32) from by decide]
    show Steps p.tables e below (T3.setTop (mkF m 10 #[.val (.ref xo0_)] [(.int (8 : Int32))])) _
    exact retI X3 hx Bd.returns (hb hby dA10_10) hr
  · show QA10 Z xo0_ uo1_ k_uo1_ ui2_ h0 n0 _ T3.heap _
    rw [e3]
    exact ⟨rfl, N3, rfl⟩
theorem own_pd8 : parseMethodDescriptor "()I" = some ⟨[], some .int⟩ := by decide +kernel
theorem dA12_0 : decode jdk_68_method_9_code 0 = .ok (.aload_n 0, 1) := by decide +kernel
theorem dA12_1 : decode jdk_68_method_9_code 1 = .ok (.getfield 15, 3) := by decide +kernel
theorem dA12_4 : decode jdk_68_method_9_code 4 = .ok (.arraylength, 1) := by decide +kernel
theorem dA12_5 : decode jdk_68_method_9_code 5 = .ok (.aload_n 0, 1) := by decide +kernel
theorem dA12_6 : decode jdk_68_method_9_code 6 = .ok (.getfield 22, 3) := by decide +kernel
theorem dA12_9 : decode jdk_68_method_9_code 9 = .ok (.ishr, 1) := by decide +kernel
theorem dA12_10 : decode jdk_68_method_9_code 10 = .ok (.istore_n 2, 1) := by decide +kernel
theorem dA12_11 : decode jdk_68_method_9_code 11 = .ok (.iload_n 1, 1) := by decide +kernel
theorem dA12_12 : decode jdk_68_method_9_code 12 = .ok (.iload_n 2, 1) := by decide +kernel
theorem dA12_13 : decode jdk_68_method_9_code 13 = .ok (.isub, 1) := by decide +kernel
theorem dA12_14 : decode jdk_68_method_9_code 14 = .ok (.ifCond .le 24, 3) := by decide +kernel
theorem dA12_38 : decode jdk_68_method_9_code 38 = .ok (.return_, 1) := by decide +kernel
theorem efA12 (m : MethodId) (xo0_ : Addr) : entryFrame m #[(.ref xo0_), (.int (9 : Int32))] 3 = mkF m 0 #[.val (.ref xo0_), .val (.int (9 : Int32)), .unset] [] := by first | (simp [entryFrame, mkF, argsToLocals, Value.category]; done) | rfl
def QA12 (Z : State) (xo0_ : Addr) (uo1_ : Addr) (ui2_ : Int32) (k_uo1_ : ClassId) (h0 : Heap) (n0 : Nat) (v : Option Value) (h : Heap) (L : List Loc) : Prop := v = none ∧ Fr n0 L ∧ h = h0
set_option maxRecDepth 65536 in
set_option maxHeartbeats 40000000 in
theorem rmA12 (l : Launch) (Z : State) (a0 : Array Value) (hw : ∀ d ∈ tables_1, d.before a0 Z = true) (ws : List Jvm.Cond) (xo0_ : Addr) (uo1_ : Addr) (ui2_ : Int32) (k_uo1_ : ClassId) (h0 : Heap) (n0 : Nat) (Z0 : n0 ≤ h0.size) (E_xo0_ : Exa Z h0 xo0_ "java/lang/StringBuilder") (F_value_xo0_ : Fld Z h0 xo0_ "java/lang/AbstractStringBuilder" "value" "[B" (.ref uo1_)) (F_coder_xo0_ : Fld Z h0 xo0_ "java/lang/AbstractStringBuilder" "coder" "B" (.int (0 : Int32))) (F_count_xo0_ : Fld Z h0 xo0_ "java/lang/AbstractStringBuilder" "count" "I" (.int (1 : Int32))) (V_uo1_ : Arv Z h0 uo1_ k_uo1_ .byte (16 : Int32) [(.int ui2_), (.int (0 : Int32)), (.int (0 : Int32)), (.int (0 : Int32)), (.int (0 : Int32)), (.int (0 : Int32)), (.int (0 : Int32)), (.int (0 : Int32)), (.int (0 : Int32)), (.int (0 : Int32)), (.int (0 : Int32)), (.int (0 : Int32)), (.int (0 : Int32)), (.int (0 : Int32)), (.int (0 : Int32)), (.int (0 : Int32))] (.int (0 : Int32))) :
    MetFree l (⟨"java/lang/AbstractStringBuilder", "ensureCapacityInternal", "(I)V"⟩ : MethodName) (head1 (Jvm.Cond.code (⟨"java/lang/AbstractStringBuilder", "ensureCapacityInternal", "(I)V"⟩ : MethodName) jdk_68_method_9_code 3 none :: ws) ({ frames := 0, cells := 0, slots := 0, locals := 0 } : Room)) (fun av_ U => av_ = #[(.ref xo0_), (.int (9 : Int32))] ∧ Z.Warmed39 U.vm ∧ U.heap = h0) (fun _ _ _ _ _ => True) (fun _ U o U' => ∃ v L, o = .returned v ∧ QA12 Z xo0_ uo1_ ui2_ k_uo1_ h0 n0 v U'.heap L ∧ FrameEnd U o U' L ({ frames := 0, cells := 0, slots := 0, locals := 0 } : Room).cells ({ frames := 0, cells := 0, slots := 0, locals := 0 } : Room).slots) := by
  refine MetFree.of_bodySF (plainFor_of_name own_pn1) hisR ?_
  intro p e s m args below meth c s₁ Bd hml0 hP hK
  obtain ⟨rfl, hZ, hh⟩ := hP
  have hx := Bd.exec
  have hby := Bd.bytes
  have hml : c.maxLocals = 3 := hml0
  have hown : s.vm.findClass "java/lang/AbstractStringBuilder" = some m.cls := findClass_of_methodNamed Bd.named
  have hnm := (name_of_methodNamed Bd.named Bd.method).1
  have X0 : Stand p l e ({ frames := 0, cells := 0, slots := 0, locals := 0 } : Room) s m #[(.ref xo0_), (.int (9 : Int32))] below meth c s₁ [] 0 0 := Stand.of_body Bd
  have e0 : s₁.heap = h0 := by rw [← hh, Bd.state]; rfl
  have N0 := Fr.nil n0
  have pre0 : ∀ t, Steps p.tables e below (s₁.setTop (mkF m 0 #[.val (.ref xo0_), .val (.int (9 : Int32)), .unset] [])) t → Steps p.tables e below (s₁.setTop (entryFrame m #[(.ref xo0_), (.int (9 : Int32))] 3)) t := fun t k => castTop (efA12 m xo0_) k
  obtain ⟨T1, X1, e1, st1⟩ := getF X0 hx hZ hown (host := "") (Or.inl (hw _ (List.mem_of_getElem? (i := 39) rfl))) Via.refl e0 F_value_xo0_ (g := (mkF m 1 #[.val (.ref xo0_), .val (.int (9 : Int32)), .unset] [(.ref xo0_)])) rfl rfl (hb hby dA12_1)
  obtain ⟨cl2, Ar2, q2, S2, M2, Hs2, G2⟩ := (id V_uo1_)
  obtain ⟨T3, X3, e3, st3⟩ := getF X1 hx hZ hown (host := "") (Or.inl (hw _ (List.mem_of_getElem? (i := 41) rfl))) Via.refl e1 F_coder_xo0_ (g := (mkF m 6 #[.val (.ref xo0_), .val (.int (9 : Int32)), .unset] [(.ref xo0_), (.int (16 : Int32))])) rfl rfl (hb hby dA12_6)
  obtain ⟨fs, hr, hrun, hended, hW, hsame⟩ := X3.leave (v := none) (fun _ => rfl)
  refine ⟨_, _, (pre0 _ ?_), hrun, hended, _, _, rfl, ?_, ⟨_, rfl⟩, hW, hsame.mono (by decide) (by decide)⟩
  · show Steps p.tables e below (s₁.setTop (mkF m 0 #[.val (.ref xo0_), .val (.int (9 : Int32)), .unset] [])) _
    refine XS.aloadN X0.here hx rfl (hb hby dA12_0) rfl rfl ?_
    show Steps p.tables e below (s₁.setTop (mkF m 1 #[.val (.ref xo0_), .val (.int (9 : Int32)), .unset] [(.ref xo0_)])) _
    refine st1 _ ?_
    show Steps p.tables e below (T1.setTop (mkF m 4 #[.val (.ref xo0_), .val (.int (9 : Int32)), .unset] [(.ref uo1_)])) _
    refine X1.arraylength hx (by rw [e1]; exact Ar2.1) (State.isArrayOf_alike hZ.alike Ar2.2.1) (g := (mkF m 4 #[.val (.ref xo0_), .val (.int (9 : Int32)), .unset] [(.ref uo1_)])) rfl rfl (hb hby dA12_4) _ ?_
    rw [len_of S2 M2]
    show Steps p.tables e below (T1.setTop (mkF m 5 #[.val (.ref xo0_), .val (.int (9 : Int32)), .unset] [(.int (16 : Int32))])) _
    refine XS.aloadN X1.here hx rfl (hb hby dA12_5) rfl rfl ?_
    show Steps p.tables e below (T1.setTop (mkF m 6 #[.val (.ref xo0_), .val (.int (9 : Int32)), .unset] [(.ref xo0_), (.int (16 : Int32))])) _
    refine st3 _ ?_
    show Steps p.tables e below (T3.setTop (mkF m 9 #[.val (.ref xo0_), .val (.int (9 : Int32)), .unset] [(.int (0 : Int32)), (.int (16 : Int32))])) _
    refine XS.ishr X3.here hx rfl (hb hby dA12_9) rfl ?_
    rw [show ((16 : Int32) >>> ((0 : Int32) &&& 31)) = (16 : Int32) from by decide]
    show Steps p.tables e below (T3.setTop (mkF m 10 #[.val (.ref xo0_), .val (.int (9 : Int32)), .unset] [(.int (16 : Int32))])) _
    refine XS.istoreN X3.here hx rfl (hb hby dA12_10) rfl (l' := #[.val (.ref xo0_), .val (.int (9 : Int32)), .val (.int (16 : Int32))]) rfl ?_
    show Steps p.tables e below (T3.setTop (mkF m 11 #[.val (.ref xo0_), .val (.int (9 : Int32)), .val (.int (16 : Int32))] [])) _
    refine XS.iloadN X3.here hx rfl (hb hby dA12_11) rfl ?_
    show Steps p.tables e below (T3.setTop (mkF m 12 #[.val (.ref xo0_), .val (.int (9 : Int32)), .val (.int (16 : Int32))] [(.int (9 : Int32))])) _
    refine XS.iloadN X3.here hx rfl (hb hby dA12_12) rfl ?_
    show Steps p.tables e below (T3.setTop (mkF m 13 #[.val (.ref xo0_), .val (.int (9 : Int32)), .val (.int (16 : Int32))] [(.int (16 : Int32)), (.int (9 : Int32))])) _
    refine XS.isub X3.here hx rfl (hb hby dA12_13) rfl ?_
    show Steps p.tables e below (T3.setTop (mkF m 14 #[.val (.ref xo0_), .val (.int (9 : Int32)), .val (.int (16 : Int32))] [(.int (-7 : Int32))])) _
    refine XS.ifYes X3.here hx rfl (pc0 := 14) (pc' := 38) rfl (hb hby dA12_14) rfl ((if0 _ _).trans (flt (by decide : ¬ ((0 : Int32) < (-7 : Int32)))).2.2.2) (by decide) (by decide) ?_
    show Steps p.tables e below (T3.setTop (mkF m 38 #[.val (.ref xo0_), .val (.int (9 : Int32)), .val (.int (16 : Int32))] [])) _
    exact X3.returnOut hx Bd.returns (hb hby dA12_38) hr
  · show QA12 Z xo0_ uo1_ ui2_ k_uo1_ h0 n0 _ T3.heap _
    rw [e3]
    exact ⟨rfl, N0, rfl⟩
theorem dA14_0 : decode jdk_68_method_71_code 0 = .ok (.getstatic 18, 3) := by decide +kernel
theorem dA14_3 : decode jdk_68_method_71_code 3 = .ok (.ifCond .eq 18, 3) := by decide +kernel
theorem dA14_6 : decode jdk_68_method_71_code 6 = .ok (.aload_n 0, 1) := by decide +kernel
theorem dA14_7 : decode jdk_68_method_71_code 7 = .ok (.getfield 22, 3) := by decide +kernel
theorem dA14_10 : decode jdk_68_method_71_code 10 = .ok (.aload_n 1, 1) := by decide +kernel
theorem dA14_11 : decode jdk_68_method_71_code 11 = .ok (.invokevirtual 40, 3) := by decide +kernel
theorem dA14_14 : decode jdk_68_method_71_code 14 = .ok (.if_icmp .eq 7, 3) := by decide +kernel
theorem dA14_21 : decode jdk_68_method_71_code 21 = .ok (.return_, 1) := by decide +kernel
theorem efA14 (m : MethodId) (xo0_ : Addr) (xo1_ : Addr) : entryFrame m #[(.ref xo0_), (.ref xo1_)] 2 = mkF m 0 #[.val (.ref xo0_), .val (.ref xo1_)] [] := by first | (simp [entryFrame, mkF, argsToLocals, Value.category]; done) | rfl
def QA14 (Z : State) (xo0_ : Addr) (xo1_ : Addr) (uo1_ : Addr) (uo2_ : Addr) (ui3_ : Int32) (h0 : Heap) (n0 : Nat) (v : Option Value) (h : Heap) (L : List Loc) : Prop := v = none ∧ Fr n0 L ∧ h = h0
set_option maxRecDepth 65536 in
set_option maxHeartbeats 40000000 in
theorem rmA14 (l : Launch) (Z : State) (a0 : Array Value) (hw : ∀ d ∈ tables_1, d.before a0 Z = true) (ws : List Jvm.Cond) (xo0_ : Addr) (xo1_ : Addr) (uo1_ : Addr) (uo2_ : Addr) (ui3_ : Int32) (h0 : Heap) (n0 : Nat) (Z0 : n0 ≤ h0.size) (E_xo0_ : Exa Z h0 xo0_ "java/lang/StringBuilder") (F_value_xo0_ : Fld Z h0 xo0_ "java/lang/AbstractStringBuilder" "value" "[B" (.ref uo1_)) (F_coder_xo0_ : Fld Z h0 xo0_ "java/lang/AbstractStringBuilder" "coder" "B" (.int (0 : Int32))) (F_count_xo0_ : Fld Z h0 xo0_ "java/lang/AbstractStringBuilder" "count" "I" (.int (1 : Int32))) (E_xo1_ : Exa Z h0 xo1_ "java/lang/String") (F_coder_xo1_ : Fld Z h0 xo1_ "java/lang/String" "coder" "B" (.int (0 : Int32))) (F_value_xo1_ : Fld Z h0 xo1_ "java/lang/String" "value" "[B" (.ref uo2_)) (X00 : Old Z n0 h0) (S_COMPACT_STRINGS : Sta Z Z.heap "java/lang/String" "COMPACT_STRINGS" "Z" (.int ui3_)) (hp0_ : ¬ (ui3_ = (0 : Int32))) :
    MetFree l (⟨"java/lang/AbstractStringBuilder", "inflateIfNeededFor", "(Ljava/lang/String;)V"⟩ : MethodName) (head1 (Jvm.Cond.code (⟨"java/lang/AbstractStringBuilder", "inflateIfNeededFor", "(Ljava/lang/String;)V"⟩ : MethodName) jdk_68_method_71_code 2 none :: ws) ({ frames := 1, cells := 0, slots := 0, locals := 13 } : Room)) (fun av_ U => av_ = #[(.ref xo0_), (.ref xo1_)] ∧ Z.Warmed39 U.vm ∧ U.heap = h0) (fun _ _ _ _ _ => True) (fun _ U o U' => ∃ v L, o = .returned v ∧ QA14 Z xo0_ xo1_ uo1_ uo2_ ui3_ h0 n0 v U'.heap L ∧ FrameEnd U o U' L ({ frames := 1, cells := 0, slots := 0, locals := 13 } : Room).cells ({ frames := 1, cells := 0, slots := 0, locals := 13 } : Room).slots) := by
  refine MetFree.of_bodySF (plainFor_of_name own_pn1) hisR ?_
  intro p e s m args below meth c s₁ Bd hml0 hP hK
  obtain ⟨rfl, hZ, hh⟩ := hP
  have hx := Bd.exec
  have hby := Bd.bytes
  have hml : c.maxLocals = 2 := hml0
  have hown : s.vm.findClass "java/lang/AbstractStringBuilder" = some m.cls := findClass_of_methodNamed Bd.named
  have hnm := (name_of_methodNamed Bd.named Bd.method).1
  have X0 : Stand p l e ({ frames := 1, cells := 0, slots := 0, locals := 13 } : Room) s m #[(.ref xo0_), (.ref xo1_)] below meth c s₁ [] 0 0 := Stand.of_body Bd
  have e0 : s₁.heap = h0 := by rw [← hh, Bd.state]; rfl
  have N0 := Fr.nil n0
  have pre0 : ∀ t, Steps p.tables e below (s₁.setTop (mkF m 0 #[.val (.ref xo0_), .val (.ref xo1_)] [])) t → Steps p.tables e below (s₁.setTop (entryFrame m #[(.ref xo0_), (.ref xo1_)] 2)) t := fun t k => castTop (efA14 m xo0_ xo1_) k
  obtain ⟨T1, X1, e1, st1⟩ := getS2 X0 hx hZ hown (host := "") (Or.inl (hw _ (List.mem_of_getElem? (i := 36) rfl))) Via.refl e0 (S_COMPACT_STRINGS.ext X00.2) (g := (mkF m 0 #[.val (.ref xo0_), .val (.ref xo1_)] [])) rfl (hb hby dA14_0)
  obtain ⟨T2, X2, e2, st2⟩ := getF X1 hx hZ hown (host := "") (Or.inl (hw _ (List.mem_of_getElem? (i := 41) rfl))) Via.refl e1 F_coder_xo0_ (g := (mkF m 7 #[.val (.ref xo0_), .val (.ref xo1_)] [(.ref xo0_)])) rfl rfl (hb hby dA14_7)
  obtain ⟨cq3, kq3, q3a, q3b, q3c⟩ := isOf hZ e2 E_xo1_
  obtain ⟨_, _, ⟨T3, L3, k3, n3⟩, -, X3, ⟨Lc3, hQ3, l3, y3, z3⟩, st3⟩ := X2.virtualBack hx (y := (⟨"java/lang/String", "coder", "()B"⟩ : MethodName)) (z := (⟨"java/lang/String", "coder", "()B"⟩ : MethodName)) hown (mvT hZ (hw _ (List.mem_of_getElem? (i := 114) rfl))) (mvT hZ (hw _ (List.mem_of_getElem? (i := 98) rfl))) (notFace_of_selects (args := #[]) (mvT hZ (hw _ (List.mem_of_getElem? (i := 100) rfl)))) (mvT hZ (hw _ (List.mem_of_getElem? (i := 100) rfl))) (mvT hZ (hw _ (List.mem_of_getElem? (i := 99) rfl))) (by decide) (backOf (W := 1) (rmA11 l Z a0 hw [] xo1_ uo2_ ui3_ h0 n0 Z0 E_xo1_ F_coder_xo1_ F_value_xo1_ X00 S_COMPACT_STRINGS hp0_) hZ (hw _ (List.mem_of_getElem? (i := 101) rfl)) (hw _ (List.mem_of_getElem? (i := 37) rfl)) (by decide) (by decide)) q3a q3c (g := (mkF m 11 #[.val (.ref xo0_), .val (.ref xo1_)] [(.ref xo1_), (.int (0 : Int32))])) rfl (by rw [hml]; rfl) (Steps.refl _) (argsL := []) (rest := [(.int (0 : Int32))]) (lenOf own_pd7 rfl) rfl (by show 2 * 0 + _ ≤ _; exact Nat.le_of_eq rfl) (hb hby dA14_11) (fun _ _ => ⟨rfl, e2, (by decide : 0 + 0 ≤ _), (by decide : 0 + 0 ≤ _)⟩)
  dsimp only [Pt.U, Pt.locs, Pt.cells, Pt.slots] at X3 l3 y3 z3 st3 hQ3
  subst l3 y3 z3
  obtain ⟨rfl, Nq3, e3⟩ := hQ3
  have N3 := Fr.app N0 Nq3
  obtain ⟨fs, hr, hrun, hended, hW, hsame⟩ := X3.leave (v := none) (fun _ => rfl)
  refine ⟨_, _, (pre0 _ ?_), hrun, hended, _, _, rfl, ?_, ⟨_, rfl⟩, hW, hsame.mono (by decide) (by decide)⟩
  · show Steps p.tables e below (s₁.setTop (mkF m 0 #[.val (.ref xo0_), .val (.ref xo1_)] [])) _
    refine st1 _ ?_
    show Steps p.tables e below (T1.setTop (mkF m 3 #[.val (.ref xo0_), .val (.ref xo1_)] [(.int ui3_)])) _
    refine XS.ifNo X1.here hx rfl (hb hby dA14_3) rfl ((if0 _ _).trans (feq hp0_).1) ?_
    show Steps p.tables e below (T1.setTop (mkF m 6 #[.val (.ref xo0_), .val (.ref xo1_)] [])) _
    refine XS.aloadN X1.here hx rfl (hb hby dA14_6) rfl rfl ?_
    show Steps p.tables e below (T1.setTop (mkF m 7 #[.val (.ref xo0_), .val (.ref xo1_)] [(.ref xo0_)])) _
    refine st2 _ ?_
    show Steps p.tables e below (T2.setTop (mkF m 10 #[.val (.ref xo0_), .val (.ref xo1_)] [(.int (0 : Int32))])) _
    refine XS.aloadN X2.here hx rfl (hb hby dA14_10) rfl rfl ?_
    show Steps p.tables e below (T2.setTop (mkF m 11 #[.val (.ref xo0_), .val (.ref xo1_)] [(.ref xo1_), (.int (0 : Int32))])) _
    refine st3.trans ?_
    show Steps p.tables e below (T3.setTop (mkF m 14 #[.val (.ref xo0_), .val (.ref xo1_)] [(.int (0 : Int32)), (.int (0 : Int32))])) _
    refine XS.icmpYes X3.here hx rfl (pc0 := 14) (pc' := 21) rfl (hb hby dA14_14) rfl (teq (by decide : (0 : Int32) = (0 : Int32))).1 (by decide) (by decide) ?_
    show Steps p.tables e below (T3.setTop (mkF m 21 #[.val (.ref xo0_), .val (.ref xo1_)] [])) _
    exact X3.returnOut hx Bd.returns (hb hby dA14_21) hr
  · show QA14 Z xo0_ xo1_ uo1_ uo2_ ui3_ h0 n0 _ T3.heap _
    rw [e3]
    exact ⟨rfl, N3, rfl⟩
theorem own_pd9 : parseMethodDescriptor "(Ljava/lang/String;)V" = some ⟨[(.object "java/lang/String")], none⟩ := by decide +kernel
theorem dA15_0 : decode jdk_42_method_147_code 0 = .ok (.aload_n 0, 1) := by decide +kernel
theorem dA15_1 : decode jdk_42_method_147_code 1 = .ok (.invokevirtual 335, 3) := by decide +kernel
theorem dA15_4 : decode jdk_42_method_147_code 4 = .ok (.iload_n 3, 1) := by decide +kernel
theorem dA15_5 : decode jdk_42_method_147_code 5 = .ok (.if_icmp .ne 23, 3) := by decide +kernel
theorem dA15_8 : decode jdk_42_method_147_code 8 = .ok (.aload_n 0, 1) := by decide +kernel
theorem dA15_9 : decode jdk_42_method_147_code 9 = .ok (.getfield 9, 3) := by decide +kernel
theorem dA15_12 : decode jdk_42_method_147_code 12 = .ok (.iconst 0, 1) := by decide +kernel
theorem dA15_13 : decode jdk_42_method_147_code 13 = .ok (.aload_n 1, 1) := by decide +kernel
theorem dA15_14 : decode jdk_42_method_147_code 14 = .ok (.iload_n 2, 1) := by decide +kernel
theorem dA15_15 : decode jdk_42_method_147_code 15 = .ok (.iload_n 3, 1) := by decide +kernel
theorem dA15_16 : decode jdk_42_method_147_code 16 = .ok (.ishl, 1) := by decide +kernel
theorem dA15_17 : decode jdk_42_method_147_code 17 = .ok (.aload_n 0, 1) := by decide +kernel
theorem dA15_18 : decode jdk_42_method_147_code 18 = .ok (.getfield 9, 3) := by decide +kernel
theorem dA15_21 : decode jdk_42_method_147_code 21 = .ok (.arraylength, 1) := by decide +kernel
theorem dA15_22 : decode jdk_42_method_147_code 22 = .ok (.invokestatic 212, 3) := by decide +kernel
theorem dA15_25 : decode jdk_42_method_147_code 25 = .ok (.goto 18, 3) := by decide +kernel
theorem dA15_43 : decode jdk_42_method_147_code 43 = .ok (.return_, 1) := by decide +kernel
theorem efA15 (m : MethodId) (xo0_ : Addr) (xo1_ : Addr) : entryFrame m #[(.ref xo0_), (.ref xo1_), (.int (1 : Int32)), (.int (0 : Int32))] 4 = mkF m 0 #[.val (.ref xo0_), .val (.ref xo1_), .val (.int (1 : Int32)), .val (.int (0 : Int32))] [] := by first | (simp [entryFrame, mkF, argsToLocals, Value.category]; done) | rfl
def QA15 (Z : State) (xo0_ : Addr) (xo1_ : Addr) (uo1_ : Addr) (ui2_ : Int32) (k_uo1_ : ClassId) (ui3_ : Int32) (k_xo1_ : ClassId) (h0 : Heap) (n0 : Nat) (v : Option Value) (h : Heap) (L : List Loc) : Prop := v = none ∧ Fr n0 L ∧ Keep h0 h [xo1_] ∧ Arv Z h xo1_ k_xo1_ .byte (16 : Int32) [(.int ui3_), (.int (32 : Int32)), (.int (102 : Int32)), (.int (105 : Int32)), (.int (108 : Int32)), (.int (101 : Int32)), (.int (115 : Int32)), (.int (44 : Int32)), (.int (32 : Int32)), (.int (0 : Int32)), (.int (0 : Int32)), (.int (0 : Int32)), (.int (0 : Int32)), (.int (0 : Int32)), (.int (0 : Int32)), (.int (0 : Int32))] (.int (0 : Int32))
set_option maxRecDepth 65536 in
set_option maxHeartbeats 40000000 in
theorem rmA15 (l : Launch) (Z : State) (a0 : Array Value) (hw : ∀ d ∈ tables_1, d.before a0 Z = true) (ws : List Jvm.Cond) (xo0_ : Addr) (xo1_ : Addr) (uo1_ : Addr) (ui2_ : Int32) (k_uo1_ : ClassId) (ui3_ : Int32) (k_xo1_ : ClassId) (h0 : Heap) (n0 : Nat) (Z0 : n0 ≤ h0.size) (E_xo0_ : Exa Z h0 xo0_ "java/lang/String") (F_coder_xo0_ : Fld Z h0 xo0_ "java/lang/String" "coder" "B" (.int (0 : Int32))) (F_value_xo0_ : Fld Z h0 xo0_ "java/lang/String" "value" "[B" (.ref uo1_)) (X00 : Old Z n0 h0) (S_COMPACT_STRINGS : Sta Z Z.heap "java/lang/String" "COMPACT_STRINGS" "Z" (.int ui2_)) (hp0_ : ¬ (ui2_ = (0 : Int32))) (V_uo1_ : Arv Z h0 uo1_ k_uo1_ .byte (8 : Int32) [(.int (32 : Int32)), (.int (102 : Int32)), (.int (105 : Int32)), (.int (108 : Int32)), (.int (101 : Int32)), (.int (115 : Int32)), (.int (44 : Int32)), (.int (32 : Int32))] (.int 0)) (V_xo1_ : Arv Z h0 xo1_ k_xo1_ .byte (16 : Int32) [(.int ui3_), (.int (0 : Int32)), (.int (0 : Int32)), (.int (0 : Int32)), (.int (0 : Int32)), (.int (0 : Int32)), (.int (0 : Int32)), (.int (0 : Int32)), (.int (0 : Int32)), (.int (0 : Int32)), (.int (0 : Int32)), (.int (0 : Int32)), (.int (0 : Int32)), (.int (0 : Int32)), (.int (0 : Int32)), (.int (0 : Int32))] (.int (0 : Int32))) (g_xo1_ : n0 ≤ xo1_) :
    MetFree l (⟨"java/lang/String", "getBytes", "([BIB)V"⟩ : MethodName) (head1 (Jvm.Cond.code (⟨"java/lang/String", "getBytes", "([BIB)V"⟩ : MethodName) jdk_42_method_147_code 4 none :: ws) ({ frames := 1, cells := 0, slots := 0, locals := 40 } : Room)) (fun av_ U => av_ = #[(.ref xo0_), (.ref xo1_), (.int (1 : Int32)), (.int (0 : Int32))] ∧ Z.Warmed39 U.vm ∧ U.heap = h0) (fun _ _ _ _ _ => True) (fun _ U o U' => ∃ v L, o = .returned v ∧ QA15 Z xo0_ xo1_ uo1_ ui2_ k_uo1_ ui3_ k_xo1_ h0 n0 v U'.heap L ∧ FrameEnd U o U' L ({ frames := 1, cells := 0, slots := 0, locals := 40 } : Room).cells ({ frames := 1, cells := 0, slots := 0, locals := 40 } : Room).slots) := by
  refine MetFree.of_bodySF (plainFor_of_name own_pn4) hisR ?_
  intro p e s m args below meth c s₁ Bd hml0 hP hK
  obtain ⟨rfl, hZ, hh⟩ := hP
  have hx := Bd.exec
  have hby := Bd.bytes
  have hml : c.maxLocals = 4 := hml0
  have hown : s.vm.findClass "java/lang/String" = some m.cls := findClass_of_methodNamed Bd.named
  have hnm := (name_of_methodNamed Bd.named Bd.method).1
  have X0 : Stand p l e ({ frames := 1, cells := 0, slots := 0, locals := 40 } : Room) s m #[(.ref xo0_), (.ref xo1_), (.int (1 : Int32)), (.int (0 : Int32))] below meth c s₁ [] 0 0 := Stand.of_body Bd
  have e0 : s₁.heap = h0 := by rw [← hh, Bd.state]; rfl
  have N0 := Fr.nil n0
  have pre0 : ∀ t, Steps p.tables e below (s₁.setTop (mkF m 0 #[.val (.ref xo0_), .val (.ref xo1_), .val (.int (1 : Int32)), .val (.int (0 : Int32))] [])) t → Steps p.tables e below (s₁.setTop (entryFrame m #[(.ref xo0_), (.ref xo1_), (.int (1 : Int32)), (.int (0 : Int32))] 4)) t := fun t k => castTop (efA15 m xo0_ xo1_) k
  obtain ⟨cq1, kq1, q1a, q1b, q1c⟩ := isOf hZ e0 E_xo0_
  obtain ⟨_, _, ⟨T1, L1, k1, n1⟩, -, X1, ⟨Lc1, hQ1, l1, y1, z1⟩, st1⟩ := X0.virtualBack hx (y := (⟨"java/lang/String", "coder", "()B"⟩ : MethodName)) (z := (⟨"java/lang/String", "coder", "()B"⟩ : MethodName)) hown (mvT hZ (hw _ (List.mem_of_getElem? (i := 97) rfl))) (mvT hZ (hw _ (List.mem_of_getElem? (i := 98) rfl))) (notFace_of_selects (args := #[]) (mvT hZ (hw _ (List.mem_of_getElem? (i := 100) rfl)))) (mvT hZ (hw _ (List.mem_of_getElem? (i := 100) rfl))) (mvT hZ (hw _ (List.mem_of_getElem? (i := 99) rfl))) (by decide) (backOf (W := 0) (rmA11 l Z a0 hw [] xo0_ uo1_ ui2_ h0 n0 Z0 E_xo0_ F_coder_xo0_ F_value_xo0_ X00 S_COMPACT_STRINGS hp0_) hZ (hw _ (List.mem_of_getElem? (i := 101) rfl)) (hw _ (List.mem_of_getElem? (i := 37) rfl)) (by decide) (by decide)) q1a q1c (g := (mkF m 1 #[.val (.ref xo0_), .val (.ref xo1_), .val (.int (1 : Int32)), .val (.int (0 : Int32))] [(.ref xo0_)])) rfl (by rw [hml]; rfl) (Steps.refl _) (argsL := []) (rest := []) (lenOf own_pd7 rfl) rfl (by show 2 * 0 + _ ≤ _; exact Nat.le_of_eq rfl) (hb hby dA15_1) (fun _ _ => ⟨rfl, e0, (by decide : 0 + 0 ≤ _), (by decide : 0 + 0 ≤ _)⟩)
  dsimp only [Pt.U, Pt.locs, Pt.cells, Pt.slots] at X1 l1 y1 z1 st1 hQ1
  subst l1 y1 z1
  obtain ⟨rfl, Nq1, e1⟩ := hQ1
  have N1 := Fr.app N0 Nq1
  obtain ⟨T2, X2, e2, st2⟩ := getF X1 hx hZ hown (host := "") (Or.inl (hw _ (List.mem_of_getElem? (i := 96) rfl))) Via.refl e1 F_value_xo0_ (g := (mkF m 9 #[.val (.ref xo0_), .val (.ref xo1_), .val (.int (1 : Int32)), .val (.int (0 : Int32))] [(.ref xo0_)])) rfl rfl (hb hby dA15_9)
  obtain ⟨T3, X3, e3, st3⟩ := getF X2 hx hZ hown (host := "") (Or.inl (hw _ (List.mem_of_getElem? (i := 96) rfl))) Via.refl e2 F_value_xo0_ (g := (mkF m 18 #[.val (.ref xo0_), .val (.ref xo1_), .val (.int (1 : Int32)), .val (.int (0 : Int32))] [(.ref xo0_), (.int (1 : Int32)), (.ref xo1_), (.int (0 : Int32)), (.ref uo1_)])) rfl rfl (hb hby dA15_18)
  obtain ⟨cl4, Ar4, q4, S4, M4, Hs4, G4⟩ := (id V_uo1_)
  obtain ⟨T5, h5, L5, X5, e5, N5, Kc5, V5', st5⟩ := cpA X3 hx hZ hown (hw _ (List.mem_of_getElem? (i := 120) rfl)) (hw _ (List.mem_of_getElem? (i := 123) rfl)) (hw _ (List.mem_of_getElem? (i := 121) rfl)) (hw _ (List.mem_of_getElem? (i := 122) rfl)) e3 (us := [(.int (32 : Int32)), (.int (102 : Int32)), (.int (105 : Int32)), (.int (108 : Int32)), (.int (101 : Int32)), (.int (115 : Int32)), (.int (44 : Int32)), (.int (32 : Int32))]) V_uo1_ V_xo1_ (Or.inl ⟨rfl, rfl⟩) (by decide) (by decide) (by decide) (by decide) (by decide) rfl (by first | decide | exact Nat.le_of_ble_eq_true rfl) N1 g_xo1_ (g := (mkF m 22 #[.val (.ref xo0_), .val (.ref xo1_), .val (.int (1 : Int32)), .val (.int (0 : Int32))] [(.int (8 : Int32)), (.int (1 : Int32)), (.ref xo1_), (.int (0 : Int32)), (.ref uo1_)])) rfl (by rw [hml]; rfl) rfl (hb hby dA15_22) (by decide) (W := 0) (by show 2 * 0 + _ ≤ _; exact Nat.le_of_eq rfl) (by decide)
  have K5 : Keep h0 h5 [xo1_] := Keep.trans (Keep.refl h0 [xo1_]) Kc5 (allS (Or.inl (List.mem_of_getElem? (i := 0) rfl)) all0)
  have Zs5 : n0 ≤ h5.size := Nat.le_trans Z0 Kc5.1
  have V5 : Arv Z h5 xo1_ k_xo1_ .byte (16 : Int32) [(.int ui3_), (.int (32 : Int32)), (.int (102 : Int32)), (.int (105 : Int32)), (.int (108 : Int32)), (.int (101 : Int32)), (.int (115 : Int32)), (.int (44 : Int32)), (.int (32 : Int32)), (.int (0 : Int32)), (.int (0 : Int32)), (.int (0 : Int32)), (.int (0 : Int32)), (.int (0 : Int32)), (.int (0 : Int32)), (.int (0 : Int32))] (.int (0 : Int32)) := V5'
  obtain ⟨fs, hr, hrun, hended, hW, hsame⟩ := X5.leave (v := none) (fun _ => rfl)
  refine ⟨_, _, (pre0 _ ?_), hrun, hended, _, _, rfl, ?_, ⟨_, rfl⟩, hW, hsame.mono (by decide) (by decide)⟩
  · show Steps p.tables e below (s₁.setTop (mkF m 0 #[.val (.ref xo0_), .val (.ref xo1_), .val (.int (1 : Int32)), .val (.int (0 : Int32))] [])) _
    refine XS.aloadN X0.here hx rfl (hb hby dA15_0) rfl rfl ?_
    show Steps p.tables e below (s₁.setTop (mkF m 1 #[.val (.ref xo0_), .val (.ref xo1_), .val (.int (1 : Int32)), .val (.int (0 : Int32))] [(.ref xo0_)])) _
    refine st1.trans ?_
    show Steps p.tables e below (T1.setTop (mkF m 4 #[.val (.ref xo0_), .val (.ref xo1_), .val (.int (1 : Int32)), .val (.int (0 : Int32))] [(.int (0 : Int32))])) _
    refine XS.iloadN X1.here hx rfl (hb hby dA15_4) rfl ?_
    show Steps p.tables e below (T1.setTop (mkF m 5 #[.val (.ref xo0_), .val (.ref xo1_), .val (.int (1 : Int32)), .val (.int (0 : Int32))] [(.int (0 : Int32)), (.int (0 : Int32))])) _
    refine XS.icmpNo X1.here hx rfl (hb hby dA15_5) rfl (teq (by decide : (0 : Int32) = (0 : Int32))).2 ?_
    show Steps p.tables e below (T1.setTop (mkF m 8 #[.val (.ref xo0_), .val (.ref xo1_), .val (.int (1 : Int32)), .val (.int (0 : Int32))] [])) _
    refine XS.aloadN X1.here hx rfl (hb hby dA15_8) rfl rfl ?_
    show Steps p.tables e below (T1.setTop (mkF m 9 #[.val (.ref xo0_), .val (.ref xo1_), .val (.int (1 : Int32)), .val (.int (0 : Int32))] [(.ref xo0_)])) _
    refine st2 _ ?_
    show Steps p.tables e below (T2.setTop (mkF m 12 #[.val (.ref xo0_), .val (.ref xo1_), .val (.int (1 : Int32)), .val (.int (0 : Int32))] [(.ref uo1_)])) _
    refine XS.iconst X2.here hx rfl (hb hby dA15_12) ?_
    show Steps p.tables e below (T2.setTop (mkF m 13 #[.val (.ref xo0_), .val (.ref xo1_), .val (.int (1 : Int32)), .val (.int (0 : Int32))] [(.int (0 : Int32)), (.ref uo1_)])) _
    refine XS.aloadN X2.here hx rfl (hb hby dA15_13) rfl rfl ?_
    show Steps p.tables e below (T2.setTop (mkF m 14 #[.val (.ref xo0_), .val (.ref xo1_), .val (.int (1 : Int32)), .val (.int (0 : Int32))] [(.ref xo1_), (.int (0 : Int32)), (.ref uo1_)])) _
    refine XS.iloadN X2.here hx rfl (hb hby dA15_14) rfl ?_
    show Steps p.tables e below (T2.setTop (mkF m 15 #[.val (.ref xo0_), .val (.ref xo1_), .val (.int (1 : Int32)), .val (.int (0 : Int32))] [(.int (1 : Int32)), (.ref xo1_), (.int (0 : Int32)), (.ref uo1_)])) _
    refine XS.iloadN X2.here hx rfl (hb hby dA15_15) rfl ?_
    show Steps p.tables e below (T2.setTop (mkF m 16 #[.val (.ref xo0_), .val (.ref xo1_), .val (.int (1 : Int32)), .val (.int (0 : Int32))] [(.int (0 : Int32)), (.int (1 : Int32)), (.ref xo1_), (.int (0 : Int32)), (.ref uo1_)])) _
    refine XS.ishl X2.here hx rfl (hb hby dA15_16) rfl ?_
    rw [show ((1 : Int32) <<< ((0 : Int32) &&& 31)) = (1 : Int32) from by decide]
    show Steps p.tables e below (T2.setTop (mkF m 17 #[.val (.ref xo0_), .val (.ref xo1_), .val (.int (1 : Int32)), .val (.int (0 : Int32))] [(.int (1 : Int32)), (.ref xo1_), (.int (0 : Int32)), (.ref uo1_)])) _
    refine XS.aloadN X2.here hx rfl (hb hby dA15_17) rfl rfl ?_
    show Steps p.tables e below (T2.setTop (mkF m 18 #[.val (.ref xo0_), .val (.ref xo1_), .val (.int (1 : Int32)), .val (.int (0 : Int32))] [(.ref xo0_), (.int (1 : Int32)), (.ref xo1_), (.int (0 : Int32)), (.ref uo1_)])) _
    refine st3 _ ?_
    show Steps p.tables e below (T3.setTop (mkF m 21 #[.val (.ref xo0_), .val (.ref xo1_), .val (.int (1 : Int32)), .val (.int (0 : Int32))] [(.ref uo1_), (.int (1 : Int32)), (.ref xo1_), (.int (0 : Int32)), (.ref uo1_)])) _
    refine X3.arraylength hx (by rw [e3]; exact Ar4.1) (State.isArrayOf_alike hZ.alike Ar4.2.1) (g := (mkF m 21 #[.val (.ref xo0_), .val (.ref xo1_), .val (.int (1 : Int32)), .val (.int (0 : Int32))] [(.ref uo1_), (.int (1 : Int32)), (.ref xo1_), (.int (0 : Int32)), (.ref uo1_)])) rfl rfl (hb hby dA15_21) _ ?_
    rw [len_of S4 M4]
    show Steps p.tables e below (T3.setTop (mkF m 22 #[.val (.ref xo0_), .val (.ref xo1_), .val (.int (1 : Int32)), .val (.int (0 : Int32))] [(.int (8 : Int32)), (.int (1 : Int32)), (.ref xo1_), (.int (0 : Int32)), (.ref uo1_)])) _
    refine st5 _ ?_
    show Steps p.tables e below (T5.setTop (mkF m 25 #[.val (.ref xo0_), .val (.ref xo1_), .val (.int (1 : Int32)), .val (.int (0 : Int32))] [])) _
    refine XS.goto X5.here hx rfl (pc0 := 25) (pc' := 43) rfl (hb hby dA15_25) (by decide) (by decide) ?_
    show Steps p.tables e below (T5.setTop (mkF m 43 #[.val (.ref xo0_), .val (.ref xo1_), .val (.int (1 : Int32)), .val (.int (0 : Int32))] [])) _
    exact X5.returnOut hx Bd.returns (hb hby dA15_43) hr
  · show QA15 Z xo0_ xo1_ uo1_ ui2_ k_uo1_ ui3_ k_xo1_ h0 n0 _ T5.heap _
    rw [e5]
    exact ⟨rfl, N5, K5, V5⟩
theorem own_pd10 : parseMethodDescriptor "([BIB)V" = some ⟨[(.array .byte), .int, .byte], none⟩ := by decide +kernel
theorem dA13_0 : decode jdk_68_method_73_code 0 = .ok (.aload_n 0, 1) := by decide +kernel
theorem dA13_1 : decode jdk_68_method_73_code 1 = .ok (.aload_n 2, 1) := by decide +kernel
theorem dA13_2 : decode jdk_68_method_73_code 2 = .ok (.invokevirtual 397, 3) := by decide +kernel
theorem dA13_5 : decode jdk_68_method_73_code 5 = .ok (.aload_n 2, 1) := by decide +kernel
theorem dA13_6 : decode jdk_68_method_73_code 6 = .ok (.aload_n 0, 1) := by decide +kernel
theorem dA13_7 : decode jdk_68_method_73_code 7 = .ok (.getfield 15, 3) := by decide +kernel
theorem dA13_10 : decode jdk_68_method_73_code 10 = .ok (.iload_n 1, 1) := by decide +kernel
theorem dA13_11 : decode jdk_68_method_73_code 11 = .ok (.aload_n 0, 1) := by decide +kernel
theorem dA13_12 : decode jdk_68_method_73_code 12 = .ok (.getfield 22, 3) := by decide +kernel
theorem dA13_15 : decode jdk_68_method_73_code 15 = .ok (.invokevirtual 399, 3) := by decide +kernel
theorem dA13_18 : decode jdk_68_method_73_code 18 = .ok (.return_, 1) := by decide +kernel
theorem efA13 (m : MethodId) (xo0_ : Addr) (xo2_ : Addr) : entryFrame m #[(.ref xo0_), (.int (1 : Int32)), (.ref xo2_)] 3 = mkF m 0 #[.val (.ref xo0_), .val (.int (1 : Int32)), .val (.ref xo2_)] [] := by first | (simp [entryFrame, mkF, argsToLocals, Value.category]; done) | rfl
def QA13 (Z : State) (xo0_ : Addr) (xo2_ : Addr) (uo1_ : Addr) (uo2_ : Addr) (ui3_ : Int32) (k_uo2_ : ClassId) (ui4_ : Int32) (k_uo1_ : ClassId) (h0 : Heap) (n0 : Nat) (v : Option Value) (h : Heap) (L : List Loc) : Prop := v = none ∧ Fr n0 L ∧ Keep h0 h [uo1_] ∧ Arv Z h uo1_ k_uo1_ .byte (16 : Int32) [(.int ui4_), (.int (32 : Int32)), (.int (102 : Int32)), (.int (105 : Int32)), (.int (108 : Int32)), (.int (101 : Int32)), (.int (115 : Int32)), (.int (44 : Int32)), (.int (32 : Int32)), (.int (0 : Int32)), (.int (0 : Int32)), (.int (0 : Int32)), (.int (0 : Int32)), (.int (0 : Int32)), (.int (0 : Int32)), (.int (0 : Int32))] (.int (0 : Int32))
set_option maxRecDepth 65536 in
set_option maxHeartbeats 40000000 in
theorem rmA13 (l : Launch) (Z : State) (a0 : Array Value) (hw : ∀ d ∈ tables_1, d.before a0 Z = true) (ws : List Jvm.Cond) (xo0_ : Addr) (xo2_ : Addr) (uo1_ : Addr) (uo2_ : Addr) (ui3_ : Int32) (k_uo2_ : ClassId) (ui4_ : Int32) (k_uo1_ : ClassId) (h0 : Heap) (n0 : Nat) (Z0 : n0 ≤ h0.size) (E_xo0_ : Exa Z h0 xo0_ "java/lang/StringBuilder") (F_value_xo0_ : Fld Z h0 xo0_ "java/lang/AbstractStringBuilder" "value" "[B" (.ref uo1_)) (F_coder_xo0_ : Fld Z h0 xo0_ "java/lang/AbstractStringBuilder" "coder" "B" (.int (0 : Int32))) (F_count_xo0_ : Fld Z h0 xo0_ "java/lang/AbstractStringBuilder" "count" "I" (.int (1 : Int32))) (E_xo2_ : Exa Z h0 xo2_ "java/lang/String") (F_coder_xo2_ : Fld Z h0 xo2_ "java/lang/String" "coder" "B" (.int (0 : Int32))) (F_value_xo2_ : Fld Z h0 xo2_ "java/lang/String" "value" "[B" (.ref uo2_)) (X00 : Old Z n0 h0) (S_COMPACT_STRINGS : Sta Z Z.heap "java/lang/String" "COMPACT_STRINGS" "Z" (.int ui3_)) (hp0_ : ¬ (ui3_ = (0 : Int32))) (V_uo2_ : Arv Z h0 uo2_ k_uo2_ .byte (8 : Int32) [(.int (32 : Int32)), (.int (102 : Int32)), (.int (105 : Int32)), (.int (108 : Int32)), (.int (101 : Int32)), (.int (115 : Int32)), (.int (44 : Int32)), (.int (32 : Int32))] (.int 0)) (V_uo1_ : Arv Z h0 uo1_ k_uo1_ .byte (16 : Int32) [(.int ui4_), (.int (0 : Int32)), (.int (0 : Int32)), (.int (0 : Int32)), (.int (0 : Int32)), (.int (0 : Int32)), (.int (0 : Int32)), (.int (0 : Int32)), (.int (0 : Int32)), (.int (0 : Int32)), (.int (0 : Int32)), (.int (0 : Int32)), (.int (0 : Int32)), (.int (0 : Int32)), (.int (0 : Int32)), (.int (0 : Int32))] (.int (0 : Int32))) (g_uo1_ : n0 ≤ uo1_) :
    MetFree l (⟨"java/lang/AbstractStringBuilder", "putStringAt", "(ILjava/lang/String;)V"⟩ : MethodName) (head1 (Jvm.Cond.code (⟨"java/lang/AbstractStringBuilder", "putStringAt", "(ILjava/lang/String;)V"⟩ : MethodName) jdk_68_method_73_code 3 none :: ws) ({ frames := 2, cells := 0, slots := 0, locals := 55 } : Room)) (fun av_ U => av_ = #[(.ref xo0_), (.int (1 : Int32)), (.ref xo2_)] ∧ Z.Warmed39 U.vm ∧ U.heap = h0) (fun _ _ _ _ _ => True) (fun _ U o U' => ∃ v L, o = .returned v ∧ QA13 Z xo0_ xo2_ uo1_ uo2_ ui3_ k_uo2_ ui4_ k_uo1_ h0 n0 v U'.heap L ∧ FrameEnd U o U' L ({ frames := 2, cells := 0, slots := 0, locals := 55 } : Room).cells ({ frames := 2, cells := 0, slots := 0, locals := 55 } : Room).slots) := by
  refine MetFree.of_bodySF (plainFor_of_name own_pn1) hisR ?_
  intro p e s m args below meth c s₁ Bd hml0 hP hK
  obtain ⟨rfl, hZ, hh⟩ := hP
  have hx := Bd.exec
  have hby := Bd.bytes
  have hml : c.maxLocals = 3 := hml0
  have hown : s.vm.findClass "java/lang/AbstractStringBuilder" = some m.cls := findClass_of_methodNamed Bd.named
  have hnm := (name_of_methodNamed Bd.named Bd.method).1
  have X0 : Stand p l e ({ frames := 2, cells := 0, slots := 0, locals := 55 } : Room) s m #[(.ref xo0_), (.int (1 : Int32)), (.ref xo2_)] below meth c s₁ [] 0 0 := Stand.of_body Bd
  have e0 : s₁.heap = h0 := by rw [← hh, Bd.state]; rfl
  have N0 := Fr.nil n0
  have pre0 : ∀ t, Steps p.tables e below (s₁.setTop (mkF m 0 #[.val (.ref xo0_), .val (.int (1 : Int32)), .val (.ref xo2_)] [])) t → Steps p.tables e below (s₁.setTop (entryFrame m #[(.ref xo0_), (.int (1 : Int32)), (.ref xo2_)] 3)) t := fun t k => castTop (efA13 m xo0_ xo2_) k
  obtain ⟨cq1, qa1, qb1⟩ := E_xo0_.cell
  obtain ⟨_, _, ⟨T1, L1, k1, n1⟩, -, X1, ⟨Lc1, hQ1, l1, y1, z1⟩, st1⟩ := X0.privateBack hx (y := (⟨"java/lang/AbstractStringBuilder", "inflateIfNeededFor", "(Ljava/lang/String;)V"⟩ : MethodName)) hown (mvT hZ (hw _ (List.mem_of_getElem? (i := 109) rfl))) (mvT hZ (hw _ (List.mem_of_getElem? (i := 110) rfl))) (selfSel hZ (hw _ (List.mem_of_getElem? (i := 112) rfl)) (hw _ (List.mem_of_getElem? (i := 110) rfl)) (hw _ (List.mem_of_getElem? (i := 111) rfl)) (by decide)) (Cond.privateMethod_at (mvP hZ (hw _ (List.mem_of_getElem? (i := 111) rfl)) (args := #[]))) (mvT hZ (hw _ (List.mem_of_getElem? (i := 113) rfl))) (by decide) (backOf (W := 0) (rmA14 l Z a0 hw [] xo0_ xo2_ uo1_ uo2_ ui3_ h0 n0 Z0 E_xo0_ F_value_xo0_ F_coder_xo0_ F_count_xo0_ E_xo2_ F_coder_xo2_ F_value_xo2_ X00 S_COMPACT_STRINGS hp0_) hZ (hw _ (List.mem_of_getElem? (i := 113) rfl)) (hw _ (List.mem_of_getElem? (i := 33) rfl)) (by decide) (by decide)) (g := (mkF m 2 #[.val (.ref xo0_), .val (.int (1 : Int32)), .val (.ref xo2_)] [(.ref xo2_), (.ref xo0_)])) rfl (by rw [hml]; rfl) (Steps.refl _) (a := xo0_) (by rw [e0]; exact qa1) qb1 (argsL := [(.ref xo2_)]) (rest := []) (lenOf own_pd9 rfl) rfl (by show 2 * 0 + _ ≤ _; exact Nat.le_of_eq rfl) (hb hby dA13_2) (fun _ _ => ⟨rfl, e0, (by decide : 0 + 0 ≤ _), (by decide : 0 + 0 ≤ _)⟩)
  dsimp only [Pt.U, Pt.locs, Pt.cells, Pt.slots] at X1 l1 y1 z1 st1 hQ1
  subst l1 y1 z1
  obtain ⟨rfl, Nq1, e1⟩ := hQ1
  have N1 := Fr.app N0 Nq1
  obtain ⟨T2, X2, e2, st2⟩ := getF X1 hx hZ hown (host := "") (Or.inl (hw _ (List.mem_of_getElem? (i := 39) rfl))) Via.refl e1 F_value_xo0_ (g := (mkF m 7 #[.val (.ref xo0_), .val (.int (1 : Int32)), .val (.ref xo2_)] [(.ref xo0_), (.ref xo2_)])) rfl rfl (hb hby dA13_7)
  obtain ⟨T3, X3, e3, st3⟩ := getF X2 hx hZ hown (host := "") (Or.inl (hw _ (List.mem_of_getElem? (i := 41) rfl))) Via.refl e2 F_coder_xo0_ (g := (mkF m 12 #[.val (.ref xo0_), .val (.int (1 : Int32)), .val (.ref xo2_)] [(.ref xo0_), (.int (1 : Int32)), (.ref uo1_), (.ref xo2_)])) rfl rfl (hb hby dA13_12)
  obtain ⟨cq4, kq4, q4a, q4b, q4c⟩ := isOf hZ e3 E_xo2_
  obtain ⟨_, _, ⟨T4, L4, k4, n4⟩, -, X4, ⟨Lc4, hQ4, l4, y4, z4⟩, st4⟩ := X3.virtualBack hx (y := (⟨"java/lang/String", "getBytes", "([BIB)V"⟩ : MethodName)) (z := (⟨"java/lang/String", "getBytes", "([BIB)V"⟩ : MethodName)) hown (mvT hZ (hw _ (List.mem_of_getElem? (i := 115) rfl))) (mvT hZ (hw _ (List.mem_of_getElem? (i := 116) rfl))) (notFace_of_selects (args := #[]) (mvT hZ (hw _ (List.mem_of_getElem? (i := 118) rfl)))) (mvT hZ (hw _ (List.mem_of_getElem? (i := 118) rfl))) (mvT hZ (hw _ (List.mem_of_getElem? (i := 117) rfl))) (by decide) (backOf (W := 0) (rmA15 l Z a0 hw [] xo2_ uo1_ uo2_ ui3_ k_uo2_ ui4_ k_uo1_ h0 n0 Z0 E_xo2_ F_coder_xo2_ F_value_xo2_ X00 S_COMPACT_STRINGS hp0_ V_uo2_ V_uo1_ g_uo1_) hZ (hw _ (List.mem_of_getElem? (i := 119) rfl)) (hw _ (List.mem_of_getElem? (i := 37) rfl)) (by decide) (by decide)) q4a q4c (g := (mkF m 15 #[.val (.ref xo0_), .val (.int (1 : Int32)), .val (.ref xo2_)] [(.int (0 : Int32)), (.int (1 : Int32)), (.ref uo1_), (.ref xo2_)])) rfl (by rw [hml]; rfl) (Steps.refl _) (argsL := [(.ref uo1_), (.int (1 : Int32)), (.int (0 : Int32))]) (rest := []) (lenOf own_pd10 rfl) rfl (by show 2 * 0 + _ ≤ _; exact Nat.le_of_eq rfl) (hb hby dA13_15) (fun _ _ => ⟨rfl, e3, (by decide : 0 + 0 ≤ _), (by decide : 0 + 0 ≤ _)⟩)
  dsimp only [Pt.U, Pt.locs, Pt.cells, Pt.slots] at X4 l4 y4 z4 st4 hQ4
  subst l4 y4 z4
  obtain ⟨rfl, Nq4, Kc4, q4_0⟩ := hQ4
  have K4 : Keep h0 T4.heap [uo1_] := Keep.trans (Keep.refl h0 [uo1_]) Kc4 (allS (Or.inl (List.mem_of_getElem? (i := 0) rfl)) all0)
  have Zs4 : n0 ≤ T4.heap.size := Nat.le_trans Z0 Kc4.1
  have N4 := Fr.app N1 Nq4
  obtain ⟨fs, hr, hrun, hended, hW, hsame⟩ := X4.leave (v := none) (fun _ => rfl)
  refine ⟨_, _, (pre0 _ ?_), hrun, hended, _, _, rfl, ?_, ⟨_, rfl⟩, hW, hsame.mono (by decide) (by decide)⟩
  · show Steps p.tables e below (s₁.setTop (mkF m 0 #[.val (.ref xo0_), .val (.int (1 : Int32)), .val (.ref xo2_)] [])) _
    refine XS.aloadN X0.here hx rfl (hb hby dA13_0) rfl rfl ?_
    show Steps p.tables e below (s₁.setTop (mkF m 1 #[.val (.ref xo0_), .val (.int (1 : Int32)), .val (.ref xo2_)] [(.ref xo0_)])) _
    refine XS.aloadN X0.here hx rfl (hb hby dA13_1) rfl rfl ?_
    show Steps p.tables e below (s₁.setTop (mkF m 2 #[.val (.ref xo0_), .val (.int (1 : Int32)), .val (.ref xo2_)] [(.ref xo2_), (.ref xo0_)])) _
    refine st1.trans ?_
    show Steps p.tables e below (T1.setTop (mkF m 5 #[.val (.ref xo0_), .val (.int (1 : Int32)), .val (.ref xo2_)] [])) _
    refine XS.aloadN X1.here hx rfl (hb hby dA13_5) rfl rfl ?_
    show Steps p.tables e below (T1.setTop (mkF m 6 #[.val (.ref xo0_), .val (.int (1 : Int32)), .val (.ref xo2_)] [(.ref xo2_)])) _
    refine XS.aloadN X1.here hx rfl (hb hby dA13_6) rfl rfl ?_
    show Steps p.tables e below (T1.setTop (mkF m 7 #[.val (.ref xo0_), .val (.int (1 : Int32)), .val (.ref xo2_)] [(.ref xo0_), (.ref xo2_)])) _
    refine st2 _ ?_
    show Steps p.tables e below (T2.setTop (mkF m 10 #[.val (.ref xo0_), .val (.int (1 : Int32)), .val (.ref xo2_)] [(.ref uo1_), (.ref xo2_)])) _
    refine XS.iloadN X2.here hx rfl (hb hby dA13_10) rfl ?_
    show Steps p.tables e below (T2.setTop (mkF m 11 #[.val (.ref xo0_), .val (.int (1 : Int32)), .val (.ref xo2_)] [(.int (1 : Int32)), (.ref uo1_), (.ref xo2_)])) _
    refine XS.aloadN X2.here hx rfl (hb hby dA13_11) rfl rfl ?_
    show Steps p.tables e below (T2.setTop (mkF m 12 #[.val (.ref xo0_), .val (.int (1 : Int32)), .val (.ref xo2_)] [(.ref xo0_), (.int (1 : Int32)), (.ref uo1_), (.ref xo2_)])) _
    refine st3 _ ?_
    show Steps p.tables e below (T3.setTop (mkF m 15 #[.val (.ref xo0_), .val (.int (1 : Int32)), .val (.ref xo2_)] [(.int (0 : Int32)), (.int (1 : Int32)), (.ref uo1_), (.ref xo2_)])) _
    refine st4.trans ?_
    show Steps p.tables e below (T4.setTop (mkF m 18 #[.val (.ref xo0_), .val (.int (1 : Int32)), .val (.ref xo2_)] [])) _
    exact X4.returnOut hx Bd.returns (hb hby dA13_18) hr
  · show QA13 Z xo0_ xo2_ uo1_ uo2_ ui3_ k_uo2_ ui4_ k_uo1_ h0 n0 _ T4.heap _
    exact ⟨rfl, N4, K4, q4_0⟩
theorem own_pd11 : parseMethodDescriptor "(ILjava/lang/String;)V" = some ⟨[.int, (.object "java/lang/String")], none⟩ := by decide +kernel
theorem dA9_0 : decode jdk_68_method_22_code 0 = .ok (.aload_n 1, 1) := by decide +kernel
theorem dA9_1 : decode jdk_68_method_22_code 1 = .ok (.ifnonnull 8, 3) := by decide +kernel
theorem dA9_9 : decode jdk_68_method_22_code 9 = .ok (.aload_n 1, 1) := by decide +kernel
theorem dA9_10 : decode jdk_68_method_22_code 10 = .ok (.invokevirtual 32, 3) := by decide +kernel
theorem dA9_13 : decode jdk_68_method_22_code 13 = .ok (.istore_n 2, 1) := by decide +kernel
theorem dA9_14 : decode jdk_68_method_22_code 14 = .ok (.aload_n 0, 1) := by decide +kernel
theorem dA9_15 : decode jdk_68_method_22_code 15 = .ok (.aload_n 0, 1) := by decide +kernel
theorem dA9_16 : decode jdk_68_method_22_code 16 = .ok (.getfield 79, 3) := by decide +kernel
theorem dA9_19 : decode jdk_68_method_22_code 19 = .ok (.iload_n 2, 1) := by decide +kernel
theorem dA9_20 : decode jdk_68_method_22_code 20 = .ok (.iadd, 1) := by decide +kernel
theorem dA9_21 : decode jdk_68_method_22_code 21 = .ok (.invokevirtual 100, 3) := by decide +kernel
theorem dA9_24 : decode jdk_68_method_22_code 24 = .ok (.aload_n 0, 1) := by decide +kernel
theorem dA9_25 : decode jdk_68_method_22_code 25 = .ok (.aload_n 0, 1) := by decide +kernel
theorem dA9_26 : decode jdk_68_method_22_code 26 = .ok (.getfield 79, 3) := by decide +kernel
theorem dA9_29 : decode jdk_68_method_22_code 29 = .ok (.aload_n 1, 1) := by decide +kernel
theorem dA9_30 : decode jdk_68_method_22_code 30 = .ok (.invokevirtual 208, 3) := by decide +kernel
theorem dA9_33 : decode jdk_68_method_22_code 33 = .ok (.aload_n 0, 1) := by decide +kernel
theorem dA9_34 : decode jdk_68_method_22_code 34 = .ok (.dup, 1) := by decide +kernel
theorem dA9_35 : decode jdk_68_method_22_code 35 = .ok (.getfield 79, 3) := by decide +kernel
theorem dA9_38 : decode jdk_68_method_22_code 38 = .ok (.iload_n 2, 1) := by decide +kernel
theorem dA9_39 : decode jdk_68_method_22_code 39 = .ok (.iadd, 1) := by decide +kernel
theorem dA9_40 : decode jdk_68_method_22_code 40 = .ok (.putfield 79, 3) := by decide +kernel
theorem dA9_43 : decode jdk_68_method_22_code 43 = .ok (.aload_n 0, 1) := by decide +kernel
theorem dA9_44 : decode jdk_68_method_22_code 44 = .ok (.areturn, 1) := by decide +kernel
theorem efA9 (m : MethodId) (xo0_ : Addr) (xo1_ : Addr) : entryFrame m #[(.ref xo0_), (.ref xo1_)] 3 = mkF m 0 #[.val (.ref xo0_), .val (.ref xo1_), .unset] [] := by first | (simp [entryFrame, mkF, argsToLocals, Value.category]; done) | rfl
def QA9 (Z : State) (xo0_ : Addr) (xo1_ : Addr) (uo1_ : Addr) (uo2_ : Addr) (k_uo2_ : ClassId) (ui3_ : Int32) (ui4_ : Int32) (k_uo1_ : ClassId) (h0 : Heap) (n0 : Nat) (v : Option Value) (h : Heap) (L : List Loc) : Prop := v = some (.ref xo0_) ∧ Fr n0 L ∧ Keep h0 h [uo1_, xo0_] ∧ Arv Z h uo1_ k_uo1_ .byte (16 : Int32) [(.int ui4_), (.int (32 : Int32)), (.int (102 : Int32)), (.int (105 : Int32)), (.int (108 : Int32)), (.int (101 : Int32)), (.int (115 : Int32)), (.int (44 : Int32)), (.int (32 : Int32)), (.int (0 : Int32)), (.int (0 : Int32)), (.int (0 : Int32)), (.int (0 : Int32)), (.int (0 : Int32)), (.int (0 : Int32)), (.int (0 : Int32))] (.int (0 : Int32)) ∧ Exa Z h xo0_ "java/lang/StringBuilder" ∧ Fld Z h xo0_ "java/lang/AbstractStringBuilder" "value" "[B" (.ref uo1_) ∧ Fld Z h xo0_ "java/lang/AbstractStringBuilder" "coder" "B" (.int (0 : Int32)) ∧ Fld Z h xo0_ "java/lang/AbstractStringBuilder" "count" "I" (.int (9 : Int32))
set_option maxRecDepth 65536 in
set_option maxHeartbeats 40000000 in
theorem rmA9 (l : Launch) (Z : State) (a0 : Array Value) (hw : ∀ d ∈ tables_1, d.before a0 Z = true) (ws : List Jvm.Cond) (xo0_ : Addr) (xo1_ : Addr) (uo1_ : Addr) (uo2_ : Addr) (k_uo2_ : ClassId) (ui3_ : Int32) (ui4_ : Int32) (k_uo1_ : ClassId) (h0 : Heap) (n0 : Nat) (Z0 : n0 ≤ h0.size) (E_xo0_ : Exa Z h0 xo0_ "java/lang/StringBuilder") (F_value_xo0_ : Fld Z h0 xo0_ "java/lang/AbstractStringBuilder" "value" "[B" (.ref uo1_)) (F_coder_xo0_ : Fld Z h0 xo0_ "java/lang/AbstractStringBuilder" "coder" "B" (.int (0 : Int32))) (F_count_xo0_ : Fld Z h0 xo0_ "java/lang/AbstractStringBuilder" "count" "I" (.int (1 : Int32))) (E_xo1_ : Exa Z h0 xo1_ "java/lang/String") (F_coder_xo1_ : Fld Z h0 xo1_ "java/lang/String" "coder" "B" (.int (0 : Int32))) (F_value_xo1_ : Fld Z h0 xo1_ "java/lang/String" "value" "[B" (.ref uo2_)) (V_uo2_ : Arv Z h0 uo2_ k_uo2_ .byte (8 : Int32) [(.int (32 : Int32)), (.int (102 : Int32)), (.int (105 : Int32)), (.int (108 : Int32)), (.int (101 : Int32)), (.int (115 : Int32)), (.int (44 : Int32)), (.int (32 : Int32))] (.int 0)) (X00 : Old Z n0 h0) (S_COMPACT_STRINGS : Sta Z Z.heap "java/lang/String" "COMPACT_STRINGS" "Z" (.int ui3_)) (hp0_ : ¬ (ui3_ = (0 : Int32))) (V_uo1_ : Arv Z h0 uo1_ k_uo1_ .byte (16 : Int32) [(.int ui4_), (.int (0 : Int32)), (.int (0 : Int32)), (.int (0 : Int32)), (.int (0 : Int32)), (.int (0 : Int32)), (.int (0 : Int32)), (.int (0 : Int32)), (.int (0 : Int32)), (.int (0 : Int32)), (.int (0 : Int32)), (.int (0 : Int32)), (.int (0 : Int32)), (.int (0 : Int32)), (.int (0 : Int32)), (.int (0 : Int32))] (.int (0 : Int32))) (g_uo1_ : n0 ≤ uo1_) (g_xo0_ : n0 ≤ xo0_) :
    MetFree l (⟨"java/lang/AbstractStringBuilder", "append", "(Ljava/lang/String;)Ljava/lang/AbstractStringBuilder;"⟩ : MethodName) (head1 (Jvm.Cond.code (⟨"java/lang/AbstractStringBuilder", "append", "(Ljava/lang/String;)Ljava/lang/AbstractStringBuilder;"⟩ : MethodName) jdk_68_method_22_code 3 (some (.object "java/lang/AbstractStringBuilder")) :: ws) ({ frames := 3, cells := 0, slots := 0, locals := 69 } : Room)) (fun av_ U => av_ = #[(.ref xo0_), (.ref xo1_)] ∧ Z.Warmed39 U.vm ∧ U.heap = h0) (fun _ _ _ _ _ => True) (fun _ U o U' => ∃ v L, o = .returned v ∧ QA9 Z xo0_ xo1_ uo1_ uo2_ k_uo2_ ui3_ ui4_ k_uo1_ h0 n0 v U'.heap L ∧ FrameEnd U o U' L ({ frames := 3, cells := 0, slots := 0, locals := 69 } : Room).cells ({ frames := 3, cells := 0, slots := 0, locals := 69 } : Room).slots) := by
  refine MetFree.of_bodySF (plainFor_of_name own_pn1) hisR ?_
  intro p e s m args below meth c s₁ Bd hml0 hP hK
  obtain ⟨rfl, hZ, hh⟩ := hP
  have hx := Bd.exec
  have hby := Bd.bytes
  have hml : c.maxLocals = 3 := hml0
  have hown : s.vm.findClass "java/lang/AbstractStringBuilder" = some m.cls := findClass_of_methodNamed Bd.named
  have hnm := (name_of_methodNamed Bd.named Bd.method).1
  have X0 : Stand p l e ({ frames := 3, cells := 0, slots := 0, locals := 69 } : Room) s m #[(.ref xo0_), (.ref xo1_)] below meth c s₁ [] 0 0 := Stand.of_body Bd
  have e0 : s₁.heap = h0 := by rw [← hh, Bd.state]; rfl
  have N0 := Fr.nil n0
  have pre0 : ∀ t, Steps p.tables e below (s₁.setTop (mkF m 0 #[.val (.ref xo0_), .val (.ref xo1_), .unset] [])) t → Steps p.tables e below (s₁.setTop (entryFrame m #[(.ref xo0_), (.ref xo1_)] 3)) t := fun t k => castTop (efA9 m xo0_ xo1_) k
  obtain ⟨cq1, kq1, q1a, q1b, q1c⟩ := isOf hZ e0 E_xo1_
  obtain ⟨_, _, ⟨T1, L1, k1, n1⟩, -, X1, ⟨Lc1, hQ1, l1, y1, z1⟩, st1⟩ := X0.virtualBack hx (y := (⟨"java/lang/String", "length", "()I"⟩ : MethodName)) (z := (⟨"java/lang/String", "length", "()I"⟩ : MethodName)) hown (mvT hZ (hw _ (List.mem_of_getElem? (i := 91) rfl))) (mvT hZ (hw _ (List.mem_of_getElem? (i := 92) rfl))) (notFace_of_selects (args := #[]) (mvT hZ (hw _ (List.mem_of_getElem? (i := 94) rfl)))) (mvT hZ (hw _ (List.mem_of_getElem? (i := 94) rfl))) (mvT hZ (hw _ (List.mem_of_getElem? (i := 93) rfl))) (by decide) (backOf (W := 0) (rmA10 l Z a0 hw [] xo1_ uo2_ k_uo2_ ui3_ h0 n0 Z0 E_xo1_ F_coder_xo1_ F_value_xo1_ V_uo2_ X00 S_COMPACT_STRINGS hp0_) hZ (hw _ (List.mem_of_getElem? (i := 95) rfl)) (hw _ (List.mem_of_getElem? (i := 37) rfl)) (by decide) (by decide)) q1a q1c (g := (mkF m 10 #[.val (.ref xo0_), .val (.ref xo1_), .unset] [(.ref xo1_)])) rfl (by rw [hml]; rfl) (Steps.refl _) (argsL := []) (rest := []) (lenOf own_pd8 rfl) rfl (by show 2 * 0 + _ ≤ _; exact Nat.le_of_eq rfl) (hb hby dA9_10) (fun _ _ => ⟨rfl, e0, (by decide : 0 + 0 ≤ _), (by decide : 0 + 0 ≤ _)⟩)
  dsimp only [Pt.U, Pt.locs, Pt.cells, Pt.slots] at X1 l1 y1 z1 st1 hQ1
  subst l1 y1 z1
  obtain ⟨rfl, Nq1, e1⟩ := hQ1
  have N1 := Fr.app N0 Nq1
  obtain ⟨T2, X2, e2, st2⟩ := getF X1 hx hZ hown (host := "") (Or.inl (hw _ (List.mem_of_getElem? (i := 53) rfl))) Via.refl e1 F_count_xo0_ (g := (mkF m 16 #[.val (.ref xo0_), .val (.ref xo1_), .val (.int (8 : Int32))] [(.ref xo0_), (.ref xo0_)])) rfl rfl (hb hby dA9_16)
  obtain ⟨cq3, qa3, qb3⟩ := E_xo0_.cell
  obtain ⟨_, _, ⟨T3, L3, k3, n3⟩, -, X3, ⟨Lc3, hQ3, l3, y3, z3⟩, st3⟩ := X2.privateBack hx (y := (⟨"java/lang/AbstractStringBuilder", "ensureCapacityInternal", "(I)V"⟩ : MethodName)) hown (mvT hZ (hw _ (List.mem_of_getElem? (i := 60) rfl))) (mvT hZ (hw _ (List.mem_of_getElem? (i := 61) rfl))) (selfSel hZ (hw _ (List.mem_of_getElem? (i := 63) rfl)) (hw _ (List.mem_of_getElem? (i := 61) rfl)) (hw _ (List.mem_of_getElem? (i := 62) rfl)) (by decide)) (Cond.privateMethod_at (mvP hZ (hw _ (List.mem_of_getElem? (i := 62) rfl)) (args := #[]))) (mvT hZ (hw _ (List.mem_of_getElem? (i := 64) rfl))) (by decide) (backOf (W := 0) (rmA12 l Z a0 hw [] xo0_ uo1_ ui4_ k_uo1_ h0 n0 Z0 E_xo0_ F_value_xo0_ F_coder_xo0_ F_count_xo0_ V_uo1_) hZ (hw _ (List.mem_of_getElem? (i := 64) rfl)) (hw _ (List.mem_of_getElem? (i := 33) rfl)) (by decide) (by decide)) (g := (mkF m 21 #[.val (.ref xo0_), .val (.ref xo1_), .val (.int (8 : Int32))] [(.int (9 : Int32)), (.ref xo0_)])) rfl (by rw [hml]; rfl) (Steps.refl _) (a := xo0_) (by rw [e2]; exact qa3) qb3 (argsL := [(.int (9 : Int32))]) (rest := []) (lenOf own_pd0 rfl) rfl (by show 2 * 0 + _ ≤ _; exact Nat.le_of_eq rfl) (hb hby dA9_21) (fun _ _ => ⟨rfl, e2, (by decide : 0 + 0 ≤ _), (by decide : 0 + 0 ≤ _)⟩)
  dsimp only [Pt.U, Pt.locs, Pt.cells, Pt.slots] at X3 l3 y3 z3 st3 hQ3
  subst l3 y3 z3
  obtain ⟨rfl, Nq3, e3⟩ := hQ3
  have N3 := Fr.app N1 Nq3
  obtain ⟨T4, X4, e4, st4⟩ := getF X3 hx hZ hown (host := "") (Or.inl (hw _ (List.mem_of_getElem? (i := 53) rfl))) Via.refl e3 F_count_xo0_ (g := (mkF m 26 #[.val (.ref xo0_), .val (.ref xo1_), .val (.int (8 : Int32))] [(.ref xo0_), (.ref xo0_)])) rfl rfl (hb hby dA9_26)
  obtain ⟨cq5, qa5, qb5⟩ := E_xo0_.cell
  obtain ⟨_, _, ⟨T5, L5, k5, n5⟩, -, X5, ⟨Lc5, hQ5, l5, y5, z5⟩, st5⟩ := X4.privateBack hx (y := (⟨"java/lang/AbstractStringBuilder", "putStringAt", "(ILjava/lang/String;)V"⟩ : MethodName)) hown (mvT hZ (hw _ (List.mem_of_getElem? (i := 104) rfl))) (mvT hZ (hw _ (List.mem_of_getElem? (i := 105) rfl))) (selfSel hZ (hw _ (List.mem_of_getElem? (i := 107) rfl)) (hw _ (List.mem_of_getElem? (i := 105) rfl)) (hw _ (List.mem_of_getElem? (i := 106) rfl)) (by decide)) (Cond.privateMethod_at (mvP hZ (hw _ (List.mem_of_getElem? (i := 106) rfl)) (args := #[]))) (mvT hZ (hw _ (List.mem_of_getElem? (i := 108) rfl))) (by decide) (backOf (W := 0) (rmA13 l Z a0 hw [] xo0_ xo1_ uo1_ uo2_ ui3_ k_uo2_ ui4_ k_uo1_ h0 n0 Z0 E_xo0_ F_value_xo0_ F_coder_xo0_ F_count_xo0_ E_xo1_ F_coder_xo1_ F_value_xo1_ X00 S_COMPACT_STRINGS hp0_ V_uo2_ V_uo1_ g_uo1_) hZ (hw _ (List.mem_of_getElem? (i := 108) rfl)) (hw _ (List.mem_of_getElem? (i := 33) rfl)) (by decide) (by decide)) (g := (mkF m 30 #[.val (.ref xo0_), .val (.ref xo1_), .val (.int (8 : Int32))] [(.ref xo1_), (.int (1 : Int32)), (.ref xo0_)])) rfl (by rw [hml]; rfl) (Steps.refl _) (a := xo0_) (by rw [e4]; exact qa5) qb5 (argsL := [(.int (1 : Int32)), (.ref xo1_)]) (rest := []) (lenOf own_pd11 rfl) rfl (by show 2 * 0 + _ ≤ _; exact Nat.le_of_eq rfl) (hb hby dA9_30) (fun _ _ => ⟨rfl, e4, (by decide : 0 + 0 ≤ _), (by decide : 0 + 0 ≤ _)⟩)
  dsimp only [Pt.U, Pt.locs, Pt.cells, Pt.slots] at X5 l5 y5 z5 st5 hQ5
  subst l5 y5 z5
  obtain ⟨rfl, Nq5, Kc5, q5_0⟩ := hQ5
  have K5 : Keep h0 T5.heap [uo1_, xo0_] := Keep.trans (Keep.refl h0 [uo1_, xo0_]) Kc5 (allS (Or.inl (List.mem_of_getElem? (i := 0) rfl)) all0)
  have Zs5 : n0 ≤ T5.heap.size := Nat.le_trans Z0 Kc5.1
  have N5 := Fr.app N3 Nq5
  have no6 : xo0_ ≠ uo1_ := Exa.neArv (E_xo0_.keep Kc5) q5_0 (hw _ (List.mem_of_getElem? (i := 24) rfl))
  obtain ⟨T7, X7, e7, st7⟩ := getF X5 hx hZ hown (host := "") (Or.inl (hw _ (List.mem_of_getElem? (i := 53) rfl))) Via.refl rfl (F_count_xo0_.keep Kc5 (ninS no6 nin0)) (g := (mkF m 35 #[.val (.ref xo0_), .val (.ref xo1_), .val (.int (8 : Int32))] [(.ref xo0_), (.ref xo0_)])) rfl rfl (hb hby dA9_35)
  obtain ⟨T8, h8, X8, e8, W8, st8⟩ := putF X7 hx hZ hown (host := "") (Or.inl (hw _ (List.mem_of_getElem? (i := 53) rfl))) Via.refl e7 (F_count_xo0_.keep Kc5 (ninS no6 nin0)) (E_xo0_.keep Kc5) (Or.inl (hw _ (List.mem_of_getElem? (i := 54) rfl))) (hw _ (List.mem_of_getElem? (i := 24) rfl)) (ty := .int) (by decide) rfl rfl (g := (mkF m 40 #[.val (.ref xo0_), .val (.ref xo1_), .val (.int (8 : Int32))] [(.int (9 : Int32)), (.ref xo0_)])) rfl rfl (hb hby dA9_40)
  have F8 : Fld Z h8 xo0_ "java/lang/AbstractStringBuilder" "count" "I" (.int (9 : Int32)) := Fld.same W8 (F_count_xo0_.keep Kc5 (ninS no6 nin0))
  have K8 : Keep h0 h8 [uo1_, xo0_] := K5.wr W8 (Or.inl (List.mem_of_getElem? (i := 1) rfl))
  have Zs8 : n0 ≤ h8.size := Nat.le_trans Zs5 (Keep.of_wr W8).1
  have N8 := Fr.snoc X8 N5 g_xo0_
  obtain ⟨fs, hr, hrun, hended, hW, hsame⟩ := X8.leave (v := some (.ref xo0_)) (fun h => by rw [Bd.returns] at h; cases h)
  refine ⟨_, _, (pre0 _ ?_), hrun, hended, _, _, rfl, ?_, ⟨_, rfl⟩, hW, hsame.mono (by decide) (by decide)⟩
  · show Steps p.tables e below (s₁.setTop (mkF m 0 #[.val (.ref xo0_), .val (.ref xo1_), .unset] [])) _
    refine XS.aloadN X0.here hx rfl (hb hby dA9_0) rfl rfl ?_
    show Steps p.tables e below (s₁.setTop (mkF m 1 #[.val (.ref xo0_), .val (.ref xo1_), .unset] [(.ref xo1_)])) _
    refine XS.ifnonnullYes X0.here hx rfl (pc0 := 1) (pc' := 9) rfl (hb hby dA9_1) rfl (by decide) (by decide) ?_
    show Steps p.tables e below (s₁.setTop (mkF m 9 #[.val (.ref xo0_), .val (.ref xo1_), .unset] [])) _
    refine XS.aloadN X0.here hx rfl (hb hby dA9_9) rfl rfl ?_
    show Steps p.tables e below (s₁.setTop (mkF m 10 #[.val (.ref xo0_), .val (.ref xo1_), .unset] [(.ref xo1_)])) _
    refine st1.trans ?_
    show Steps p.tables e below (T1.setTop (mkF m 13 #[.val (.ref xo0_), .val (.ref xo1_), .unset] [(.int (8 : Int32))])) _
    refine XS.istoreN X1.here hx rfl (hb hby dA9_13) rfl (l' := #[.val (.ref xo0_), .val (.ref xo1_), .val (.int (8 : Int32))]) rfl ?_
    show Steps p.tables e below (T1.setTop (mkF m 14 #[.val (.ref xo0_), .val (.ref xo1_), .val (.int (8 : Int32))] [])) _
    refine XS.aloadN X1.here hx rfl (hb hby dA9_14) rfl rfl ?_
    show Steps p.tables e below (T1.setTop (mkF m 15 #[.val (.ref xo0_), .val (.ref xo1_), .val (.int (8 : Int32))] [(.ref xo0_)])) _
    refine XS.aloadN X1.here hx rfl (hb hby dA9_15) rfl rfl ?_
    show Steps p.tables e below (T1.setTop (mkF m 16 #[.val (.ref xo0_), .val (.ref xo1_), .val (.int (8 : Int32))] [(.ref xo0_), (.ref xo0_)])) _
    refine st2 _ ?_
    show Steps p.tables e below (T2.setTop (mkF m 19 #[.val (.ref xo0_), .val (.ref xo1_), .val (.int (8 : Int32))] [(.int (1 : Int32)), (.ref xo0_)])) _
    refine XS.iloadN X2.here hx rfl (hb hby dA9_19) rfl ?_
    show Steps p.tables e below (T2.setTop (mkF m 20 #[.val (.ref xo0_), .val (.ref xo1_), .val (.int (8 : Int32))] [(.int (8 : Int32)), (.int (1 : Int32)), (.ref xo0_)])) _
    refine XS.iadd X2.here hx rfl (hb hby dA9_20) rfl ?_
    show Steps p.tables e below (T2.setTop (mkF m 21 #[.val (.ref xo0_), .val (.ref xo1_), .val (.int (8 : Int32))] [(.int (9 : Int32)), (.ref xo0_)])) _
    refine st3.trans ?_
    show Steps p.tables e below (T3.setTop (mkF m 24 #[.val (.ref xo0_), .val (.ref xo1_), .val (.int (8 : Int32))] [])) _
    refine XS.aloadN X3.here hx rfl (hb hby dA9_24) rfl rfl ?_
    show Steps p.tables e below (T3.setTop (mkF m 25 #[.val (.ref xo0_), .val (.ref xo1_), .val (.int (8 : Int32))] [(.ref xo0_)])) _
    refine XS.aloadN X3.here hx rfl (hb hby dA9_25) rfl rfl ?_
    show Steps p.tables e below (T3.setTop (mkF m 26 #[.val (.ref xo0_), .val (.ref xo1_), .val (.int (8 : Int32))] [(.ref xo0_), (.ref xo0_)])) _
    refine st4 _ ?_
    show Steps p.tables e below (T4.setTop (mkF m 29 #[.val (.ref xo0_), .val (.ref xo1_), .val (.int (8 : Int32))] [(.int (1 : Int32)), (.ref xo0_)])) _
    refine XS.aloadN X4.here hx rfl (hb hby dA9_29) rfl rfl ?_
    show Steps p.tables e below (T4.setTop (mkF m 30 #[.val (.ref xo0_), .val (.ref xo1_), .val (.int (8 : Int32))] [(.ref xo1_), (.int (1 : Int32)), (.ref xo0_)])) _
    refine st5.trans ?_
    show Steps p.tables e below (T5.setTop (mkF m 33 #[.val (.ref xo0_), .val (.ref xo1_), .val (.int (8 : Int32))] [])) _
    refine XS.aloadN X5.here hx rfl (hb hby dA9_33) rfl rfl ?_
    show Steps p.tables e below (T5.setTop (mkF m 34 #[.val (.ref xo0_), .val (.ref xo1_), .val (.int (8 : Int32))] [(.ref xo0_)])) _
    refine XS.dup X5.here hx rfl (hb hby dA9_34) rfl rfl ?_
    show Steps p.tables e below (T5.setTop (mkF m 35 #[.val (.ref xo0_), .val (.ref xo1_), .val (.int (8 : Int32))] [(.ref xo0_), (.ref xo0_)])) _
    refine st7 _ ?_
    show Steps p.tables e below (T7.setTop (mkF m 38 #[.val (.ref xo0_), .val (.ref xo1_), .val (.int (8 : Int32))] [(.int (1 : Int32)), (.ref xo0_)])) _
    refine XS.iloadN X7.here hx rfl (hb hby dA9_38) rfl ?_
    show Steps p.tables e below (T7.setTop (mkF m 39 #[.val (.ref xo0_), .val (.ref xo1_), .val (.int (8 : Int32))] [(.int (8 : Int32)), (.int (1 : Int32)), (.ref xo0_)])) _
    refine XS.iadd X7.here hx rfl (hb hby dA9_39) rfl ?_
    show Steps p.tables e below (T7.setTop (mkF m 40 #[.val (.ref xo0_), .val (.ref xo1_), .val (.int (8 : Int32))] [(.int (9 : Int32)), (.ref xo0_)])) _
    refine st8 _ ?_
    show Steps p.tables e below (T8.setTop (mkF m 43 #[.val (.ref xo0_), .val (.ref xo1_), .val (.int (8 : Int32))] [])) _
    refine XS.aloadN X8.here hx rfl (hb hby dA9_43) rfl rfl ?_
    show Steps p.tables e below (T8.setTop (mkF m 44 #[.val (.ref xo0_), .val (.ref xo1_), .val (.int (8 : Int32))] [(.ref xo0_)])) _
    jvm_step X8.here [X8.here.top, hx, (hb hby dA9_44), X8.method', Bd.returns, Value.isRef, FieldType.isReference]
    first | (intro acts; rw [hr _ acts rfl rfl rfl]) | rw [hr _ _ rfl rfl rfl]
    exact Steps.refl _
  · show QA9 Z xo0_ xo1_ uo1_ uo2_ k_uo2_ ui3_ ui4_ k_uo1_ h0 n0 _ T8.heap _
    rw [e8]
    exact ⟨rfl, N8, K8, (q5_0.other W8 (Ne.symm no6)), ((E_xo0_.keep Kc5).wr W8), (Fld.other W8 (F_value_xo0_.keep Kc5 (ninS no6 nin0)) (Or.inr (slot_ne (Or.inl (hw _ (List.mem_of_getElem? (i := 40) rfl))) (Or.inl (hw _ (List.mem_of_getElem? (i := 54) rfl))) (by decide) (t := (.array .byte)) (t' := .int) (by decide) (by decide)))), (Fld.other W8 (F_coder_xo0_.keep Kc5 (ninS no6 nin0)) (Or.inr (slot_ne (Or.inl (hw _ (List.mem_of_getElem? (i := 42) rfl))) (Or.inl (hw _ (List.mem_of_getElem? (i := 54) rfl))) (by decide) (t := .byte) (t' := .int) (by decide) (by decide)))), F8⟩
theorem own_pd12 : parseMethodDescriptor "(Ljava/lang/String;)Ljava/lang/AbstractStringBuilder;" = some ⟨[(.object "java/lang/String")], some (.object "java/lang/AbstractStringBuilder")⟩ := by decide +kernel
theorem dA8_0 : decode jdk_67_method_7_code 0 = .ok (.aload_n 0, 1) := by decide +kernel
theorem dA8_1 : decode jdk_67_method_7_code 1 = .ok (.aload_n 1, 1) := by decide +kernel
theorem dA8_2 : decode jdk_67_method_7_code 2 = .ok (.invokespecial 29, 3) := by decide +kernel
theorem dA8_5 : decode jdk_67_method_7_code 5 = .ok (.pop, 1) := by decide +kernel
theorem dA8_6 : decode jdk_67_method_7_code 6 = .ok (.aload_n 0, 1) := by decide +kernel
theorem dA8_7 : decode jdk_67_method_7_code 7 = .ok (.areturn, 1) := by decide +kernel
theorem efA8 (m : MethodId) (xo0_ : Addr) (xo1_ : Addr) : entryFrame m #[(.ref xo0_), (.ref xo1_)] 2 = mkF m 0 #[.val (.ref xo0_), .val (.ref xo1_)] [] := by first | (simp [entryFrame, mkF, argsToLocals, Value.category]; done) | rfl
def QA8 (Z : State) (xo0_ : Addr) (xo1_ : Addr) (uo1_ : Addr) (uo2_ : Addr) (k_uo2_ : ClassId) (ui3_ : Int32) (ui4_ : Int32) (k_uo1_ : ClassId) (h0 : Heap) (n0 : Nat) (v : Option Value) (h : Heap) (L : List Loc) : Prop := v = some (.ref xo0_) ∧ Fr n0 L ∧ Keep h0 h [xo0_, uo1_] ∧ Exa Z h xo0_ "java/lang/StringBuilder" ∧ Fld Z h xo0_ "java/lang/AbstractStringBuilder" "value" "[B" (.ref uo1_) ∧ Fld Z h xo0_ "java/lang/AbstractStringBuilder" "coder" "B" (.int (0 : Int32)) ∧ Fld Z h xo0_ "java/lang/AbstractStringBuilder" "count" "I" (.int (9 : Int32)) ∧ Arv Z h uo1_ k_uo1_ .byte (16 : Int32) [(.int ui4_), (.int (32 : Int32)), (.int (102 : Int32)), (.int (105 : Int32)), (.int (108 : Int32)), (.int (101 : Int32)), (.int (115 : Int32)), (.int (44 : Int32)), (.int (32 : Int32)), (.int (0 : Int32)), (.int (0 : Int32)), (.int (0 : Int32)), (.int (0 : Int32)), (.int (0 : Int32)), (.int (0 : Int32)), (.int (0 : Int32))] (.int (0 : Int32))
set_option maxRecDepth 65536 in
set_option maxHeartbeats 40000000 in
theorem rmA8 (l : Launch) (Z : State) (a0 : Array Value) (hw : ∀ d ∈ tables_1, d.before a0 Z = true) (ws : List Jvm.Cond) (xo0_ : Addr) (xo1_ : Addr) (uo1_ : Addr) (uo2_ : Addr) (k_uo2_ : ClassId) (ui3_ : Int32) (ui4_ : Int32) (k_uo1_ : ClassId) (h0 : Heap) (n0 : Nat) (Z0 : n0 ≤ h0.size) (E_xo0_ : Exa Z h0 xo0_ "java/lang/StringBuilder") (F_value_xo0_ : Fld Z h0 xo0_ "java/lang/AbstractStringBuilder" "value" "[B" (.ref uo1_)) (F_coder_xo0_ : Fld Z h0 xo0_ "java/lang/AbstractStringBuilder" "coder" "B" (.int (0 : Int32))) (F_count_xo0_ : Fld Z h0 xo0_ "java/lang/AbstractStringBuilder" "count" "I" (.int (1 : Int32))) (E_xo1_ : Exa Z h0 xo1_ "java/lang/String") (F_coder_xo1_ : Fld Z h0 xo1_ "java/lang/String" "coder" "B" (.int (0 : Int32))) (F_value_xo1_ : Fld Z h0 xo1_ "java/lang/String" "value" "[B" (.ref uo2_)) (V_uo2_ : Arv Z h0 uo2_ k_uo2_ .byte (8 : Int32) [(.int (32 : Int32)), (.int (102 : Int32)), (.int (105 : Int32)), (.int (108 : Int32)), (.int (101 : Int32)), (.int (115 : Int32)), (.int (44 : Int32)), (.int (32 : Int32))] (.int 0)) (X00 : Old Z n0 h0) (S_COMPACT_STRINGS : Sta Z Z.heap "java/lang/String" "COMPACT_STRINGS" "Z" (.int ui3_)) (hp0_ : ¬ (ui3_ = (0 : Int32))) (V_uo1_ : Arv Z h0 uo1_ k_uo1_ .byte (16 : Int32) [(.int ui4_), (.int (0 : Int32)), (.int (0 : Int32)), (.int (0 : Int32)), (.int (0 : Int32)), (.int (0 : Int32)), (.int (0 : Int32)), (.int (0 : Int32)), (.int (0 : Int32)), (.int (0 : Int32)), (.int (0 : Int32)), (.int (0 : Int32)), (.int (0 : Int32)), (.int (0 : Int32)), (.int (0 : Int32)), (.int (0 : Int32))] (.int (0 : Int32))) (g_uo1_ : n0 ≤ uo1_) (g_xo0_ : n0 ≤ xo0_) :
    MetFree l (⟨"java/lang/StringBuilder", "append", "(Ljava/lang/String;)Ljava/lang/StringBuilder;"⟩ : MethodName) (head1 (Jvm.Cond.code (⟨"java/lang/StringBuilder", "append", "(Ljava/lang/String;)Ljava/lang/StringBuilder;"⟩ : MethodName) jdk_67_method_7_code 2 (some (.object "java/lang/StringBuilder")) :: ws) ({ frames := 4, cells := 0, slots := 0, locals := 83 } : Room)) (fun av_ U => av_ = #[(.ref xo0_), (.ref xo1_)] ∧ Z.Warmed39 U.vm ∧ U.heap = h0) (fun _ _ _ _ _ => True) (fun _ U o U' => ∃ v L, o = .returned v ∧ QA8 Z xo0_ xo1_ uo1_ uo2_ k_uo2_ ui3_ ui4_ k_uo1_ h0 n0 v U'.heap L ∧ FrameEnd U o U' L ({ frames := 4, cells := 0, slots := 0, locals := 83 } : Room).cells ({ frames := 4, cells := 0, slots := 0, locals := 83 } : Room).slots) := by
  refine MetFree.of_bodySF (plainFor_of_name own_pn2) hisR ?_
  intro p e s m args below meth c s₁ Bd hml0 hP hK
  obtain ⟨rfl, hZ, hh⟩ := hP
  have hx := Bd.exec
  have hby := Bd.bytes
  have hml : c.maxLocals = 2 := hml0
  have hown : s.vm.findClass "java/lang/StringBuilder" = some m.cls := findClass_of_methodNamed Bd.named
  have hnm := (name_of_methodNamed Bd.named Bd.method).1
  have X0 : Stand p l e ({ frames := 4, cells := 0, slots := 0, locals := 83 } : Room) s m #[(.ref xo0_), (.ref xo1_)] below meth c s₁ [] 0 0 := Stand.of_body Bd
  have e0 : s₁.heap = h0 := by rw [← hh, Bd.state]; rfl
  have N0 := Fr.nil n0
  have pre0 : ∀ t, Steps p.tables e below (s₁.setTop (mkF m 0 #[.val (.ref xo0_), .val (.ref xo1_)] [])) t → Steps p.tables e below (s₁.setTop (entryFrame m #[(.ref xo0_), (.ref xo1_)] 2)) t := fun t k => castTop (efA8 m xo0_ xo1_) k
  obtain ⟨_, _, ⟨T1, L1, k1, n1⟩, -, X1, ⟨Lc1, hQ1, l1, y1, z1⟩, st1⟩ := superBack X0 hx hZ (y := (⟨"java/lang/AbstractStringBuilder", "append", "(Ljava/lang/String;)Ljava/lang/AbstractStringBuilder;"⟩ : MethodName)) hown (hw _ (List.mem_of_getElem? (i := 87) rfl)) (sameSelf (hw _ (List.mem_of_getElem? (i := 63) rfl)) rfl (hw _ (List.mem_of_getElem? (i := 88) rfl)) (by decide)) (hw _ (List.mem_of_getElem? (i := 88) rfl)) (hw _ (List.mem_of_getElem? (i := 50) rfl)) (by decide) (backOf (W := 0) (rmA9 l Z a0 hw [] xo0_ xo1_ uo1_ uo2_ k_uo2_ ui3_ ui4_ k_uo1_ h0 n0 Z0 E_xo0_ F_value_xo0_ F_coder_xo0_ F_count_xo0_ E_xo1_ F_coder_xo1_ F_value_xo1_ V_uo2_ X00 S_COMPACT_STRINGS hp0_ V_uo1_ g_uo1_ g_xo0_) hZ (hw _ (List.mem_of_getElem? (i := 90) rfl)) (hw _ (List.mem_of_getElem? (i := 33) rfl)) (by decide) (by decide)) e0 (Ins.self E_xo0_) (g := (mkF m 2 #[.val (.ref xo0_), .val (.ref xo1_)] [(.ref xo1_), (.ref xo0_)])) rfl (by rw [hml]; rfl) (hw _ (List.mem_of_getElem? (i := 90) rfl)) (argsL := [(.ref xo1_)]) (rest := []) (lenOf own_pd12 rfl) rfl (by show 2 * 0 + _ ≤ _; exact Nat.le_of_eq rfl) (hb hby dA8_2) (fun _ _ => ⟨rfl, e0, (by decide : 0 + 0 ≤ _), (by decide : 0 + 0 ≤ _)⟩)
  dsimp only [Pt.U, Pt.locs, Pt.cells, Pt.slots] at X1 l1 y1 z1 st1 hQ1
  subst l1 y1 z1
  obtain ⟨rfl, Nq1, Kc1, q1_0, q1_1, q1_2, q1_3, q1_4⟩ := hQ1
  have K1 : Keep h0 T1.heap [xo0_, uo1_] := Keep.trans (Keep.refl h0 [xo0_, uo1_]) Kc1 (allS (Or.inl (List.mem_of_getElem? (i := 1) rfl)) (allS (Or.inl (List.mem_of_getElem? (i := 0) rfl)) all0))
  have Zs1 : n0 ≤ T1.heap.size := Nat.le_trans Z0 Kc1.1
  have N1 := Fr.app N0 Nq1
  obtain ⟨fs, hr, hrun, hended, hW, hsame⟩ := X1.leave (v := some (.ref xo0_)) (fun h => by rw [Bd.returns] at h; cases h)
  refine ⟨_, _, (pre0 _ ?_), hrun, hended, _, _, rfl, ?_, ⟨_, rfl⟩, hW, hsame.mono (by decide) (by decide)⟩
  · show Steps p.tables e below (s₁.setTop (mkF m 0 #[.val (.ref xo0_), .val (.ref xo1_)] [])) _
    refine XS.aloadN X0.here hx rfl (hb hby dA8_0) rfl rfl ?_
    show Steps p.tables e below (s₁.setTop (mkF m 1 #[.val (.ref xo0_), .val (.ref xo1_)] [(.ref xo0_)])) _
    refine XS.aloadN X0.here hx rfl (hb hby dA8_1) rfl rfl ?_
    show Steps p.tables e below (s₁.setTop (mkF m 2 #[.val (.ref xo0_), .val (.ref xo1_)] [(.ref xo1_), (.ref xo0_)])) _
    refine st1.trans ?_
    show Steps p.tables e below (T1.setTop (mkF m 5 #[.val (.ref xo0_), .val (.ref xo1_)] [(.ref xo0_)])) _
    refine XS.pop X1.here hx rfl (hb hby dA8_5) rfl rfl ?_
    show Steps p.tables e below (T1.setTop (mkF m 6 #[.val (.ref xo0_), .val (.ref xo1_)] [])) _
    refine XS.aloadN X1.here hx rfl (hb hby dA8_6) rfl rfl ?_
    show Steps p.tables e below (T1.setTop (mkF m 7 #[.val (.ref xo0_), .val (.ref xo1_)] [(.ref xo0_)])) _
    jvm_step X1.here [X1.here.top, hx, (hb hby dA8_7), X1.method', Bd.returns, Value.isRef, FieldType.isReference]
    first | (intro acts; rw [hr _ acts rfl rfl rfl]) | rw [hr _ _ rfl rfl rfl]
    exact Steps.refl _
  · show QA8 Z xo0_ xo1_ uo1_ uo2_ k_uo2_ ui3_ ui4_ k_uo1_ h0 n0 _ T1.heap _
    exact ⟨rfl, N1, K1, q1_1, q1_2, q1_3, q1_4, q1_0⟩
theorem own_pd13 : parseMethodDescriptor "(Ljava/lang/String;)Ljava/lang/StringBuilder;" = some ⟨[(.object "java/lang/String")], some (.object "java/lang/StringBuilder")⟩ := by decide +kernel
theorem dA18_0 : decode jdk_68_method_9_code 0 = .ok (.aload_n 0, 1) := by decide +kernel
theorem dA18_1 : decode jdk_68_method_9_code 1 = .ok (.getfield 15, 3) := by decide +kernel
theorem dA18_4 : decode jdk_68_method_9_code 4 = .ok (.arraylength, 1) := by decide +kernel
theorem dA18_5 : decode jdk_68_method_9_code 5 = .ok (.aload_n 0, 1) := by decide +kernel
theorem dA18_6 : decode jdk_68_method_9_code 6 = .ok (.getfield 22, 3) := by decide +kernel
theorem dA18_9 : decode jdk_68_method_9_code 9 = .ok (.ishr, 1) := by decide +kernel
theorem dA18_10 : decode jdk_68_method_9_code 10 = .ok (.istore_n 2, 1) := by decide +kernel
theorem dA18_11 : decode jdk_68_method_9_code 11 = .ok (.iload_n 1, 1) := by decide +kernel
theorem dA18_12 : decode jdk_68_method_9_code 12 = .ok (.iload_n 2, 1) := by decide +kernel
theorem dA18_13 : decode jdk_68_method_9_code 13 = .ok (.isub, 1) := by decide +kernel
theorem dA18_14 : decode jdk_68_method_9_code 14 = .ok (.ifCond .le 24, 3) := by decide +kernel
theorem dA18_38 : decode jdk_68_method_9_code 38 = .ok (.return_, 1) := by decide +kernel
theorem efA18 (m : MethodId) (xo0_ : Addr) : entryFrame m #[(.ref xo0_), (.int (10 : Int32))] 3 = mkF m 0 #[.val (.ref xo0_), .val (.int (10 : Int32)), .unset] [] := by first | (simp [entryFrame, mkF, argsToLocals, Value.category]; done) | rfl
def QA18 (Z : State) (xo0_ : Addr) (uo1_ : Addr) (ui2_ : Int32) (k_uo1_ : ClassId) (h0 : Heap) (n0 : Nat) (v : Option Value) (h : Heap) (L : List Loc) : Prop := v = none ∧ Fr n0 L ∧ h = h0
set_option maxRecDepth 65536 in
set_option maxHeartbeats 40000000 in
theorem rmA18 (l : Launch) (Z : State) (a0 : Array Value) (hw : ∀ d ∈ tables_1, d.before a0 Z = true) (ws : List Jvm.Cond) (xo0_ : Addr) (uo1_ : Addr) (ui2_ : Int32) (k_uo1_ : ClassId) (h0 : Heap) (n0 : Nat) (Z0 : n0 ≤ h0.size) (E_xo0_ : Exa Z h0 xo0_ "java/lang/StringBuilder") (F_value_xo0_ : Fld Z h0 xo0_ "java/lang/AbstractStringBuilder" "value" "[B" (.ref uo1_)) (F_coder_xo0_ : Fld Z h0 xo0_ "java/lang/AbstractStringBuilder" "coder" "B" (.int (0 : Int32))) (F_count_xo0_ : Fld Z h0 xo0_ "java/lang/AbstractStringBuilder" "count" "I" (.int (9 : Int32))) (V_uo1_ : Arv Z h0 uo1_ k_uo1_ .byte (16 : Int32) [(.int ui2_), (.int (32 : Int32)), (.int (102 : Int32)), (.int (105 : Int32)), (.int (108 : Int32)), (.int (101 : Int32)), (.int (115 : Int32)), (.int (44 : Int32)), (.int (32 : Int32)), (.int (0 : Int32)), (.int (0 : Int32)), (.int (0 : Int32)), (.int (0 : Int32)), (.int (0 : Int32)), (.int (0 : Int32)), (.int (0 : Int32))] (.int (0 : Int32))) :
    MetFree l (⟨"java/lang/AbstractStringBuilder", "ensureCapacityInternal", "(I)V"⟩ : MethodName) (head1 (Jvm.Cond.code (⟨"java/lang/AbstractStringBuilder", "ensureCapacityInternal", "(I)V"⟩ : MethodName) jdk_68_method_9_code 3 none :: ws) ({ frames := 0, cells := 0, slots := 0, locals := 0 } : Room)) (fun av_ U => av_ = #[(.ref xo0_), (.int (10 : Int32))] ∧ Z.Warmed39 U.vm ∧ U.heap = h0) (fun _ _ _ _ _ => True) (fun _ U o U' => ∃ v L, o = .returned v ∧ QA18 Z xo0_ uo1_ ui2_ k_uo1_ h0 n0 v U'.heap L ∧ FrameEnd U o U' L ({ frames := 0, cells := 0, slots := 0, locals := 0 } : Room).cells ({ frames := 0, cells := 0, slots := 0, locals := 0 } : Room).slots) := by
  refine MetFree.of_bodySF (plainFor_of_name own_pn1) hisR ?_
  intro p e s m args below meth c s₁ Bd hml0 hP hK
  obtain ⟨rfl, hZ, hh⟩ := hP
  have hx := Bd.exec
  have hby := Bd.bytes
  have hml : c.maxLocals = 3 := hml0
  have hown : s.vm.findClass "java/lang/AbstractStringBuilder" = some m.cls := findClass_of_methodNamed Bd.named
  have hnm := (name_of_methodNamed Bd.named Bd.method).1
  have X0 : Stand p l e ({ frames := 0, cells := 0, slots := 0, locals := 0 } : Room) s m #[(.ref xo0_), (.int (10 : Int32))] below meth c s₁ [] 0 0 := Stand.of_body Bd
  have e0 : s₁.heap = h0 := by rw [← hh, Bd.state]; rfl
  have N0 := Fr.nil n0
  have pre0 : ∀ t, Steps p.tables e below (s₁.setTop (mkF m 0 #[.val (.ref xo0_), .val (.int (10 : Int32)), .unset] [])) t → Steps p.tables e below (s₁.setTop (entryFrame m #[(.ref xo0_), (.int (10 : Int32))] 3)) t := fun t k => castTop (efA18 m xo0_) k
  obtain ⟨T1, X1, e1, st1⟩ := getF X0 hx hZ hown (host := "") (Or.inl (hw _ (List.mem_of_getElem? (i := 39) rfl))) Via.refl e0 F_value_xo0_ (g := (mkF m 1 #[.val (.ref xo0_), .val (.int (10 : Int32)), .unset] [(.ref xo0_)])) rfl rfl (hb hby dA18_1)
  obtain ⟨cl2, Ar2, q2, S2, M2, Hs2, G2⟩ := (id V_uo1_)
  obtain ⟨T3, X3, e3, st3⟩ := getF X1 hx hZ hown (host := "") (Or.inl (hw _ (List.mem_of_getElem? (i := 41) rfl))) Via.refl e1 F_coder_xo0_ (g := (mkF m 6 #[.val (.ref xo0_), .val (.int (10 : Int32)), .unset] [(.ref xo0_), (.int (16 : Int32))])) rfl rfl (hb hby dA18_6)
  obtain ⟨fs, hr, hrun, hended, hW, hsame⟩ := X3.leave (v := none) (fun _ => rfl)
  refine ⟨_, _, (pre0 _ ?_), hrun, hended, _, _, rfl, ?_, ⟨_, rfl⟩, hW, hsame.mono (by decide) (by decide)⟩
  · show Steps p.tables e below (s₁.setTop (mkF m 0 #[.val (.ref xo0_), .val (.int (10 : Int32)), .unset] [])) _
    refine XS.aloadN X0.here hx rfl (hb hby dA18_0) rfl rfl ?_
    show Steps p.tables e below (s₁.setTop (mkF m 1 #[.val (.ref xo0_), .val (.int (10 : Int32)), .unset] [(.ref xo0_)])) _
    refine st1 _ ?_
    show Steps p.tables e below (T1.setTop (mkF m 4 #[.val (.ref xo0_), .val (.int (10 : Int32)), .unset] [(.ref uo1_)])) _
    refine X1.arraylength hx (by rw [e1]; exact Ar2.1) (State.isArrayOf_alike hZ.alike Ar2.2.1) (g := (mkF m 4 #[.val (.ref xo0_), .val (.int (10 : Int32)), .unset] [(.ref uo1_)])) rfl rfl (hb hby dA18_4) _ ?_
    rw [len_of S2 M2]
    show Steps p.tables e below (T1.setTop (mkF m 5 #[.val (.ref xo0_), .val (.int (10 : Int32)), .unset] [(.int (16 : Int32))])) _
    refine XS.aloadN X1.here hx rfl (hb hby dA18_5) rfl rfl ?_
    show Steps p.tables e below (T1.setTop (mkF m 6 #[.val (.ref xo0_), .val (.int (10 : Int32)), .unset] [(.ref xo0_), (.int (16 : Int32))])) _
    refine st3 _ ?_
    show Steps p.tables e below (T3.setTop (mkF m 9 #[.val (.ref xo0_), .val (.int (10 : Int32)), .unset] [(.int (0 : Int32)), (.int (16 : Int32))])) _
    refine XS.ishr X3.here hx rfl (hb hby dA18_9) rfl ?_
    rw [show ((16 : Int32) >>> ((0 : Int32) &&& 31)) = (16 : Int32) from by decide]
    show Steps p.tables e below (T3.setTop (mkF m 10 #[.val (.ref xo0_), .val (.int (10 : Int32)), .unset] [(.int (16 : Int32))])) _
    refine XS.istoreN X3.here hx rfl (hb hby dA18_10) rfl (l' := #[.val (.ref xo0_), .val (.int (10 : Int32)), .val (.int (16 : Int32))]) rfl ?_
    show Steps p.tables e below (T3.setTop (mkF m 11 #[.val (.ref xo0_), .val (.int (10 : Int32)), .val (.int (16 : Int32))] [])) _
    refine XS.iloadN X3.here hx rfl (hb hby dA18_11) rfl ?_
    show Steps p.tables e below (T3.setTop (mkF m 12 #[.val (.ref xo0_), .val (.int (10 : Int32)), .val (.int (16 : Int32))] [(.int (10 : Int32))])) _
    refine XS.iloadN X3.here hx rfl (hb hby dA18_12) rfl ?_
    show Steps p.tables e below (T3.setTop (mkF m 13 #[.val (.ref xo0_), .val (.int (10 : Int32)), .val (.int (16 : Int32))] [(.int (16 : Int32)), (.int (10 : Int32))])) _
    refine XS.isub X3.here hx rfl (hb hby dA18_13) rfl ?_
    show Steps p.tables e below (T3.setTop (mkF m 14 #[.val (.ref xo0_), .val (.int (10 : Int32)), .val (.int (16 : Int32))] [(.int (-6 : Int32))])) _
    refine XS.ifYes X3.here hx rfl (pc0 := 14) (pc' := 38) rfl (hb hby dA18_14) rfl ((if0 _ _).trans (flt (by decide : ¬ ((0 : Int32) < (-6 : Int32)))).2.2.2) (by decide) (by decide) ?_
    show Steps p.tables e below (T3.setTop (mkF m 38 #[.val (.ref xo0_), .val (.int (10 : Int32)), .val (.int (16 : Int32))] [])) _
    exact X3.returnOut hx Bd.returns (hb hby dA18_38) hr
  · show QA18 Z xo0_ uo1_ ui2_ k_uo1_ h0 n0 _ T3.heap _
    rw [e3]
    exact ⟨rfl, N0, rfl⟩
theorem dA19_0 : decode jdk_68_method_68_code 0 = .ok (.getstatic 18, 3) := by decide +kernel
theorem dA19_3 : decode jdk_68_method_68_code 3 = .ok (.ifCond .eq 14, 3) := by decide +kernel
theorem dA19_6 : decode jdk_68_method_68_code 6 = .ok (.aload_n 0, 1) := by decide +kernel
theorem dA19_7 : decode jdk_68_method_68_code 7 = .ok (.getfield 22, 3) := by decide +kernel
theorem dA19_10 : decode jdk_68_method_68_code 10 = .ok (.ifCond .ne 7, 3) := by decide +kernel
theorem dA19_13 : decode jdk_68_method_68_code 13 = .ok (.iconst 1, 1) := by decide +kernel
theorem dA19_14 : decode jdk_68_method_68_code 14 = .ok (.goto 4, 3) := by decide +kernel
theorem dA19_18 : decode jdk_68_method_68_code 18 = .ok (.ireturn, 1) := by decide +kernel
theorem efA19 (m : MethodId) (xo0_ : Addr) : entryFrame m #[(.ref xo0_)] 1 = mkF m 0 #[.val (.ref xo0_)] [] := by first | (simp [entryFrame, mkF, argsToLocals, Value.category]; done) | rfl
def QA19 (Z : State) (xo0_ : Addr) (uo1_ : Addr) (ui2_ : Int32) (h0 : Heap) (n0 : Nat) (v : Option Value) (h : Heap) (L : List Loc) : Prop := v = some (.int (1 : Int32)) ∧ Fr n0 L ∧ h = h0
set_option maxRecDepth 65536 in
set_option maxHeartbeats 40000000 in
theorem rmA19 (l : Launch) (Z : State) (a0 : Array Value) (hw : ∀ d ∈ tables_1, d.before a0 Z = true) (ws : List Jvm.Cond) (xo0_ : Addr) (uo1_ : Addr) (ui2_ : Int32) (h0 : Heap) (n0 : Nat) (Z0 : n0 ≤ h0.size) (E_xo0_ : Exa Z h0 xo0_ "java/lang/StringBuilder") (F_value_xo0_ : Fld Z h0 xo0_ "java/lang/AbstractStringBuilder" "value" "[B" (.ref uo1_)) (F_coder_xo0_ : Fld Z h0 xo0_ "java/lang/AbstractStringBuilder" "coder" "B" (.int (0 : Int32))) (F_count_xo0_ : Fld Z h0 xo0_ "java/lang/AbstractStringBuilder" "count" "I" (.int (9 : Int32))) (X00 : Old Z n0 h0) (S_COMPACT_STRINGS : Sta Z Z.heap "java/lang/String" "COMPACT_STRINGS" "Z" (.int ui2_)) (hp0_ : ¬ (ui2_ = (0 : Int32))) :
    MetFree l (⟨"java/lang/AbstractStringBuilder", "isLatin1", "()Z"⟩ : MethodName) (head1 (Jvm.Cond.code (⟨"java/lang/AbstractStringBuilder", "isLatin1", "()Z"⟩ : MethodName) jdk_68_method_68_code 1 (some .boolean) :: ws) ({ frames := 0, cells := 0, slots := 0, locals := 0 } : Room)) (fun av_ U => av_ = #[(.ref xo0_)] ∧ Z.Warmed39 U.vm ∧ U.heap = h0) (fun _ _ _ _ _ => True) (fun _ U o U' => ∃ v L, o = .returned v ∧ QA19 Z xo0_ uo1_ ui2_ h0 n0 v U'.heap L ∧ FrameEnd U o U' L ({ frames := 0, cells := 0, slots := 0, locals := 0 } : Room).cells ({ frames := 0, cells := 0, slots := 0, locals := 0 } : Room).slots) := by
  refine MetFree.of_bodySF (plainFor_of_name own_pn1) hisR ?_
  intro p e s m args below meth c s₁ Bd hml0 hP hK
  obtain ⟨rfl, hZ, hh⟩ := hP
  have hx := Bd.exec
  have hby := Bd.bytes
  have hml : c.maxLocals = 1 := hml0
  have hown : s.vm.findClass "java/lang/AbstractStringBuilder" = some m.cls := findClass_of_methodNamed Bd.named
  have hnm := (name_of_methodNamed Bd.named Bd.method).1
  have X0 : Stand p l e ({ frames := 0, cells := 0, slots := 0, locals := 0 } : Room) s m #[(.ref xo0_)] below meth c s₁ [] 0 0 := Stand.of_body Bd
  have e0 : s₁.heap = h0 := by rw [← hh, Bd.state]; rfl
  have N0 := Fr.nil n0
  have pre0 : ∀ t, Steps p.tables e below (s₁.setTop (mkF m 0 #[.val (.ref xo0_)] [])) t → Steps p.tables e below (s₁.setTop (entryFrame m #[(.ref xo0_)] 1)) t := fun t k => castTop (efA19 m xo0_) k
  obtain ⟨T1, X1, e1, st1⟩ := getS2 X0 hx hZ hown (host := "") (Or.inl (hw _ (List.mem_of_getElem? (i := 36) rfl))) Via.refl e0 (S_COMPACT_STRINGS.ext X00.2) (g := (mkF m 0 #[.val (.ref xo0_)] [])) rfl (hb hby dA19_0)
  obtain ⟨T2, X2, e2, st2⟩ := getF X1 hx hZ hown (host := "") (Or.inl (hw _ (List.mem_of_getElem? (i := 41) rfl))) Via.refl e1 F_coder_xo0_ (g := (mkF m 7 #[.val (.ref xo0_)] [(.ref xo0_)])) rfl rfl (hb hby dA19_7)
  obtain ⟨fs, hr, hrun, hended, hW, hsame⟩ := X2.leave (v := some (.int (1 : Int32))) (fun h => by rw [Bd.returns] at h; cases h)
  refine ⟨_, _, (pre0 _ ?_), hrun, hended, _, _, rfl, ?_, ⟨_, rfl⟩, hW, hsame.mono (by decide) (by decide)⟩
  · show Steps p.tables e below (s₁.setTop (mkF m 0 #[.val (.ref xo0_)] [])) _
    refine st1 _ ?_
    show Steps p.tables e below (T1.setTop (mkF m 3 #[.val (.ref xo0_)] [(.int ui2_)])) _
    refine XS.ifNo X1.here hx rfl (hb hby dA19_3) rfl ((if0 _ _).trans (feq hp0_).1) ?_
    show Steps p.tables e below (T1.setTop (mkF m 6 #[.val (.ref xo0_)] [])) _
    refine XS.aloadN X1.here hx rfl (hb hby dA19_6) rfl rfl ?_
    show Steps p.tables e below (T1.setTop (mkF m 7 #[.val (.ref xo0_)] [(.ref xo0_)])) _
    refine st2 _ ?_
    show Steps p.tables e below (T2.setTop (mkF m 10 #[.val (.ref xo0_)] [(.int (0 : Int32))])) _
    refine XS.ifNo X2.here hx rfl (hb hby dA19_10) rfl ((if0 _ _).trans (teq (by decide : (0 : Int32) = (0 : Int32))).2) ?_
    show Steps p.tables e below (T2.setTop (mkF m 13 #[.val (.ref xo0_)] [])) _
    refine XS.iconst X2.here hx rfl (hb hby dA19_13) ?_
    show Steps p.tables e below (T2.setTop (mkF m 14 #[.val (.ref xo0_)] [(.int (1 : Int32))])) _
    refine XS.goto X2.here hx rfl (pc0 := 14) (pc' := 18) rfl (hb hby dA19_14) (by decide) (by decide) ?_
    show Steps p.tables e below (T2.setTop (mkF m 18 #[.val (.ref xo0_)] [(.int (1 : Int32))])) _
    exact retN X2 hx (t := .boolean) Bd.returns (by simp) (hb hby dA19_18) hr
  · show QA19 Z xo0_ uo1_ ui2_ h0 n0 _ T2.heap _
    rw [e2]
    exact ⟨rfl, N0, rfl⟩
theorem dA20_0 : decode jdk_35_method_14_code 0 = .ok (.iload_n 2, 1) := by decide +kernel
theorem dA20_1 : decode jdk_35_method_14_code 1 = .ok (.istore 7, 2) := by decide +kernel
theorem dA20_3 : decode jdk_35_method_14_code 3 = .ok (.lload_n 0, 1) := by decide +kernel
theorem dA20_4 : decode jdk_35_method_14_code 4 = .ok (.lconst 0, 1) := by decide +kernel
theorem dA20_5 : decode jdk_35_method_14_code 5 = .ok (.lcmp, 1) := by decide +kernel
theorem dA20_6 : decode jdk_35_method_14_code 6 = .ok (.ifCond .ge 7, 3) := by decide +kernel
theorem dA20_13 : decode jdk_35_method_14_code 13 = .ok (.iconst 0, 1) := by decide +kernel
theorem dA20_14 : decode jdk_35_method_14_code 14 = .ok (.istore 8, 2) := by decide +kernel
theorem dA20_16 : decode jdk_35_method_14_code 16 = .ok (.iload 8, 2) := by decide +kernel
theorem dA20_18 : decode jdk_35_method_14_code 18 = .ok (.ifCond .ne 6, 3) := by decide +kernel
theorem dA20_21 : decode jdk_35_method_14_code 21 = .ok (.lload_n 0, 1) := by decide +kernel
theorem dA20_22 : decode jdk_35_method_14_code 22 = .ok (.lneg, 1) := by decide +kernel
theorem dA20_23 : decode jdk_35_method_14_code 23 = .ok (.lstore_n 0, 1) := by decide +kernel
theorem dA20_24 : decode jdk_35_method_14_code 24 = .ok (.lload_n 0, 1) := by decide +kernel
theorem dA20_25 : decode jdk_35_method_14_code 25 = .ok (.ldc2_w 129, 3) := by decide +kernel
theorem dA20_28 : decode jdk_35_method_14_code 28 = .ok (.lcmp, 1) := by decide +kernel
theorem dA20_29 : decode jdk_35_method_14_code 29 = .ok (.ifCond .gt 53, 3) := by decide +kernel
theorem dA20_82 : decode jdk_35_method_14_code 82 = .ok (.lload_n 0, 1) := by decide +kernel
theorem dA20_83 : decode jdk_35_method_14_code 83 = .ok (.l2i, 1) := by decide +kernel
theorem dA20_84 : decode jdk_35_method_14_code 84 = .ok (.istore 10, 2) := by decide +kernel
theorem dA20_86 : decode jdk_35_method_14_code 86 = .ok (.iload 10, 2) := by decide +kernel
theorem dA20_88 : decode jdk_35_method_14_code 88 = .ok (.bipush (-100), 2) := by decide +kernel
theorem dA20_90 : decode jdk_35_method_14_code 90 = .ok (.if_icmp .gt 53, 3) := by decide +kernel
theorem dA20_143 : decode jdk_35_method_14_code 143 = .ok (.aload_n 3, 1) := by decide +kernel
theorem dA20_144 : decode jdk_35_method_14_code 144 = .ok (.iinc 7 (-1), 3) := by decide +kernel
theorem dA20_147 : decode jdk_35_method_14_code 147 = .ok (.iload 7, 2) := by decide +kernel
theorem dA20_149 : decode jdk_35_method_14_code 149 = .ok (.getstatic 133, 3) := by decide +kernel
theorem dA20_152 : decode jdk_35_method_14_code 152 = .ok (.iload 10, 2) := by decide +kernel
theorem dA20_154 : decode jdk_35_method_14_code 154 = .ok (.ineg, 1) := by decide +kernel
theorem dA20_155 : decode jdk_35_method_14_code 155 = .ok (.baload, 1) := by decide +kernel
theorem dA20_156 : decode jdk_35_method_14_code 156 = .ok (.bastore, 1) := by decide +kernel
theorem dA20_157 : decode jdk_35_method_14_code 157 = .ok (.iload 10, 2) := by decide +kernel
theorem dA20_159 : decode jdk_35_method_14_code 159 = .ok (.bipush (-9), 2) := by decide +kernel
theorem dA20_161 : decode jdk_35_method_14_code 161 = .ok (.if_icmp .ge 17, 3) := by decide +kernel
theorem dA20_178 : decode jdk_35_method_14_code 178 = .ok (.iload 8, 2) := by decide +kernel
theorem dA20_180 : decode jdk_35_method_14_code 180 = .ok (.ifCond .eq 12, 3) := by decide +kernel
theorem dA20_192 : decode jdk_35_method_14_code 192 = .ok (.iload 7, 2) := by decide +kernel
theorem dA20_194 : decode jdk_35_method_14_code 194 = .ok (.ireturn, 1) := by decide +kernel
theorem efA20 (m : MethodId) (xj0_ : Int64) (xo2_ : Addr) : entryFrame m #[(.long xj0_), (.int (10 : Int32)), (.ref xo2_)] 11 = mkF m 0 #[.val (.long xj0_), .second, .val (.int (10 : Int32)), .val (.ref xo2_), .unset, .unset, .unset, .unset, .unset, .unset, .unset] [] := by first | (simp [entryFrame, mkF, argsToLocals, Value.category]; done) | rfl
def QA20 (Z : State) (xj0_ : Int64) (xo2_ : Addr) (uo1_ : Addr) (k_uo1_ : ClassId) (ui2_ : Int32) (k_xo2_ : ClassId) (h0 : Heap) (n0 : Nat) (v : Option Value) (h : Heap) (L : List Loc) : Prop := v = some (.int (9 : Int32)) ∧ Fr n0 L ∧ Keep h0 h [xo2_] ∧ Arv Z h xo2_ k_xo2_ .byte (16 : Int32) [(.int ui2_), (.int (32 : Int32)), (.int (102 : Int32)), (.int (105 : Int32)), (.int (108 : Int32)), (.int (101 : Int32)), (.int (115 : Int32)), (.int (44 : Int32)), (.int (32 : Int32)), (.int ((own_get own_ones (-((-xj0_).toInt32)))).toInt8.toInt32), (.int (0 : Int32)), (.int (0 : Int32)), (.int (0 : Int32)), (.int (0 : Int32)), (.int (0 : Int32)), (.int (0 : Int32))] (.int (0 : Int32))
set_option maxRecDepth 65536 in
set_option maxHeartbeats 40000000 in
theorem rmA20 (l : Launch) (Z : State) (a0 : Array Value) (hw : ∀ d ∈ tables_1, d.before a0 Z = true) (ws : List Jvm.Cond) (xj0_ : Int64) (xo2_ : Addr) (uo1_ : Addr) (k_uo1_ : ClassId) (ui2_ : Int32) (k_xo2_ : ClassId) (h0 : Heap) (n0 : Nat) (Z0 : n0 ≤ h0.size) (hp0_ : ¬ (xj0_ < (0 : Int64))) (hp1_ : (-2147483648 : Int64) < (-xj0_)) (hp2_ : (-100 : Int32) < ((-xj0_).toInt32)) (X00 : Old Z n0 h0) (S_DigitOnes : Sta Z Z.heap "java/lang/Integer" "DigitOnes" "[B" (.ref uo1_)) (V_uo1_ : Arv Z Z.heap uo1_ k_uo1_ .byte (100 : Int32) (own_ones.map Value.int) (.int (0 : Int32))) (hp3_ : own_inb xj0_) (V_xo2_ : Arv Z h0 xo2_ k_xo2_ .byte (16 : Int32) [(.int ui2_), (.int (32 : Int32)), (.int (102 : Int32)), (.int (105 : Int32)), (.int (108 : Int32)), (.int (101 : Int32)), (.int (115 : Int32)), (.int (44 : Int32)), (.int (32 : Int32)), (.int (0 : Int32)), (.int (0 : Int32)), (.int (0 : Int32)), (.int (0 : Int32)), (.int (0 : Int32)), (.int (0 : Int32)), (.int (0 : Int32))] (.int (0 : Int32))) (g_xo2_ : n0 ≤ xo2_) (hp4_ : ¬ (((-xj0_).toInt32) < (-9 : Int32))) :
    MetFree l (⟨"java/lang/Long", "getChars", "(JI[B)I"⟩ : MethodName) (head1 (Jvm.Cond.code (⟨"java/lang/Long", "getChars", "(JI[B)I"⟩ : MethodName) jdk_35_method_14_code 11 (some .int) :: ws) ({ frames := 0, cells := 0, slots := 0, locals := 0 } : Room)) (fun av_ U => av_ = #[(.long xj0_), (.int (10 : Int32)), (.ref xo2_)] ∧ Z.Warmed39 U.vm ∧ U.heap = h0) (fun _ _ _ _ _ => True) (fun _ U o U' => ∃ v L, o = .returned v ∧ QA20 Z xj0_ xo2_ uo1_ k_uo1_ ui2_ k_xo2_ h0 n0 v U'.heap L ∧ FrameEnd U o U' L ({ frames := 0, cells := 0, slots := 0, locals := 0 } : Room).cells ({ frames := 0, cells := 0, slots := 0, locals := 0 } : Room).slots) := by
  refine MetFree.of_bodySF (plainFor_of_name own_pn3) hisR ?_
  intro p e s m args below meth c s₁ Bd hml0 hP hK
  obtain ⟨rfl, hZ, hh⟩ := hP
  have hx := Bd.exec
  have hby := Bd.bytes
  have hml : c.maxLocals = 11 := hml0
  have hown : s.vm.findClass "java/lang/Long" = some m.cls := findClass_of_methodNamed Bd.named
  have hnm := (name_of_methodNamed Bd.named Bd.method).1
  have X0 : Stand p l e ({ frames := 0, cells := 0, slots := 0, locals := 0 } : Room) s m #[(.long xj0_), (.int (10 : Int32)), (.ref xo2_)] below meth c s₁ [] 0 0 := Stand.of_body Bd
  have e0 : s₁.heap = h0 := by rw [← hh, Bd.state]; rfl
  have N0 := Fr.nil n0
  have pre0 : ∀ t, Steps p.tables e below (s₁.setTop (mkF m 0 #[.val (.long xj0_), .second, .val (.int (10 : Int32)), .val (.ref xo2_), .unset, .unset, .unset, .unset, .unset, .unset, .unset] [])) t → Steps p.tables e below (s₁.setTop (entryFrame m #[(.long xj0_), (.int (10 : Int32)), (.ref xo2_)] 11)) t := fun t k => castTop (efA20 m xj0_ xo2_) k
  obtain ⟨T1, X1, e1, st1⟩ := getS2 X0 hx hZ hown (host := "") (Or.inl (hw _ (List.mem_of_getElem? (i := 74) rfl))) Via.refl e0 (S_DigitOnes.ext X00.2) (g := (mkF m 149 #[.val (.long (-xj0_)), .second, .val (.int (10 : Int32)), .val (.ref xo2_), .unset, .unset, .unset, .val (.int (9 : Int32)), .val (.int (0 : Int32)), .unset, .val (.int ((-xj0_).toInt32))] [(.int (9 : Int32)), (.ref xo2_)])) rfl (hb hby dA20_149)
  obtain ⟨cl2, Ar2, q2, S2, M2, Hs2, G2⟩ := (V_uo1_.ext X00.2)
  have hin2 : ¬ ((-((-xj0_).toInt32)) < 0 ∨ cl2.slots.size ≤ ((-((-xj0_).toInt32))).toNatClampNeg) := inb_of S2 hp3_
  have hat2 : cl2.slots[((-((-xj0_).toInt32))).toNatClampNeg]? = some (.int (own_get own_ones (-((-xj0_).toInt32)))) := Hs2.at hin2 (own_getV own_ones (-((-xj0_).toInt32)))
  obtain ⟨cl3, Ar3, q3, S3, M3, Hs3, G3⟩ := (id V_xo2_)
  have hin3 : ¬ ((9 : Int32) < 0 ∨ cl3.slots.size ≤ ((9 : Int32)).toNatClampNeg) := inb_of S3 ⟨by decide, by decide⟩
  obtain ⟨T4, h4, X4, e4, W4, st4⟩ := stB X1 hx hZ e1 Ar3 (j := (9 : Int32)) hin3 (g := (mkF m 156 #[.val (.long (-xj0_)), .second, .val (.int (10 : Int32)), .val (.ref xo2_), .unset, .unset, .unset, .val (.int (9 : Int32)), .val (.int (0 : Int32)), .unset, .val (.int ((-xj0_).toInt32))] [(.int (own_get own_ones (-((-xj0_).toInt32)))), (.int (9 : Int32)), (.ref xo2_)])) rfl rfl (hb hby dA20_156)
  have V4 : Arv Z h4 xo2_ k_xo2_ .byte (16 : Int32) [(.int ui2_), (.int (32 : Int32)), (.int (102 : Int32)), (.int (105 : Int32)), (.int (108 : Int32)), (.int (101 : Int32)), (.int (115 : Int32)), (.int (44 : Int32)), (.int (32 : Int32)), (.int ((own_get own_ones (-((-xj0_).toInt32)))).toInt8.toInt32), (.int (0 : Int32)), (.int (0 : Int32)), (.int (0 : Int32)), (.int (0 : Int32)), (.int (0 : Int32)), (.int (0 : Int32))] (.int (0 : Int32)) := Arv.set Ar3 q3 S3 M3 Hs3 G3 (fits_nar_byte _) W4 9 rfl (Nat.le_of_ble_eq_true rfl)
  have K4 : Keep h0 h4 [xo2_] := (Keep.refl h0 [xo2_]).wr W4 (Or.inl (List.mem_of_getElem? (i := 0) rfl))
  have Zs4 : n0 ≤ h4.size := Nat.le_trans Z0 (Keep.of_wr W4).1
  have N4 := Fr.snoc X4 N0 g_xo2_
  obtain ⟨fs, hr, hrun, hended, hW, hsame⟩ := X4.leave (v := some (.int (9 : Int32))) (fun h => by rw [Bd.returns] at h; cases h)
  refine ⟨_, _, (pre0 _ ?_), hrun, hended, _, _, rfl, ?_, ⟨_, rfl⟩, hW, hsame.mono (by decide) (by decide)⟩
  · show Steps p.tables e below (s₁.setTop (mkF m 0 #[.val (.long xj0_), .second, .val (.int (10 : Int32)), .val (.ref xo2_), .unset, .unset, .unset, .unset, .unset, .unset, .unset] [])) _
    refine XS.iloadN X0.here hx rfl (hb hby dA20_0) rfl ?_
    show Steps p.tables e below (s₁.setTop (mkF m 1 #[.val (.long xj0_), .second, .val (.int (10 : Int32)), .val (.ref xo2_), .unset, .unset, .unset, .unset, .unset, .unset, .unset] [(.int (10 : Int32))])) _
    refine XS.istore X0.here hx rfl (hb hby dA20_1) rfl (l' := #[.val (.long xj0_), .second, .val (.int (10 : Int32)), .val (.ref xo2_), .unset, .unset, .unset, .val (.int (10 : Int32)), .unset, .unset, .unset]) rfl ?_
    show Steps p.tables e below (s₁.setTop (mkF m 3 #[.val (.long xj0_), .second, .val (.int (10 : Int32)), .val (.ref xo2_), .unset, .unset, .unset, .val (.int (10 : Int32)), .unset, .unset, .unset] [])) _
    refine XS.lloadN X0.here hx rfl (hb hby dA20_3) rfl ?_
    show Steps p.tables e below (s₁.setTop (mkF m 4 #[.val (.long xj0_), .second, .val (.int (10 : Int32)), .val (.ref xo2_), .unset, .unset, .unset, .val (.int (10 : Int32)), .unset, .unset, .unset] [(.long xj0_)])) _
    refine XS.lconst X0.here hx rfl (hb hby dA20_4) ?_
    show Steps p.tables e below (s₁.setTop (mkF m 5 #[.val (.long xj0_), .second, .val (.int (10 : Int32)), .val (.ref xo2_), .unset, .unset, .unset, .val (.int (10 : Int32)), .unset, .unset, .unset] [(.long (0 : Int64)), (.long xj0_)])) _
    refine XS.lcmp X0.here hx rfl (hb hby dA20_5) rfl ?_
    show Steps p.tables e below (s₁.setTop (mkF m 6 #[.val (.long xj0_), .second, .val (.int (10 : Int32)), .val (.ref xo2_), .unset, .unset, .unset, .val (.int (10 : Int32)), .unset, .unset, .unset] [(.int (lcmpW xj0_ (0 : Int64)))])) _
    refine XS.ifYes X0.here hx rfl (pc0 := 6) (pc' := 13) rfl (hb hby dA20_6) rfl ((if0 _ _).trans (flt (fun q => hp0_ ((lw_lt _ _).mp q))).2.1) (by decide) (by decide) ?_
    show Steps p.tables e below (s₁.setTop (mkF m 13 #[.val (.long xj0_), .second, .val (.int (10 : Int32)), .val (.ref xo2_), .unset, .unset, .unset, .val (.int (10 : Int32)), .unset, .unset, .unset] [])) _
    refine XS.iconst X0.here hx rfl (hb hby dA20_13) ?_
    show Steps p.tables e below (s₁.setTop (mkF m 14 #[.val (.long xj0_), .second, .val (.int (10 : Int32)), .val (.ref xo2_), .unset, .unset, .unset, .val (.int (10 : Int32)), .unset, .unset, .unset] [(.int (0 : Int32))])) _
    refine XS.istore X0.here hx rfl (hb hby dA20_14) rfl (l' := #[.val (.long xj0_), .second, .val (.int (10 : Int32)), .val (.ref xo2_), .unset, .unset, .unset, .val (.int (10 : Int32)), .val (.int (0 : Int32)), .unset, .unset]) rfl ?_
    show Steps p.tables e below (s₁.setTop (mkF m 16 #[.val (.long xj0_), .second, .val (.int (10 : Int32)), .val (.ref xo2_), .unset, .unset, .unset, .val (.int (10 : Int32)), .val (.int (0 : Int32)), .unset, .unset] [])) _
    refine XS.iload X0.here hx rfl (hb hby dA20_16) rfl ?_
    show Steps p.tables e below (s₁.setTop (mkF m 18 #[.val (.long xj0_), .second, .val (.int (10 : Int32)), .val (.ref xo2_), .unset, .unset, .unset, .val (.int (10 : Int32)), .val (.int (0 : Int32)), .unset, .unset] [(.int (0 : Int32))])) _
    refine XS.ifNo X0.here hx rfl (hb hby dA20_18) rfl ((if0 _ _).trans (teq (by decide : (0 : Int32) = (0 : Int32))).2) ?_
    show Steps p.tables e below (s₁.setTop (mkF m 21 #[.val (.long xj0_), .second, .val (.int (10 : Int32)), .val (.ref xo2_), .unset, .unset, .unset, .val (.int (10 : Int32)), .val (.int (0 : Int32)), .unset, .unset] [])) _
    refine XS.lloadN X0.here hx rfl (hb hby dA20_21) rfl ?_
    show Steps p.tables e below (s₁.setTop (mkF m 22 #[.val (.long xj0_), .second, .val (.int (10 : Int32)), .val (.ref xo2_), .unset, .unset, .unset, .val (.int (10 : Int32)), .val (.int (0 : Int32)), .unset, .unset] [(.long xj0_)])) _
    refine XS.lneg X0.here hx rfl (hb hby dA20_22) rfl ?_
    show Steps p.tables e below (s₁.setTop (mkF m 23 #[.val (.long xj0_), .second, .val (.int (10 : Int32)), .val (.ref xo2_), .unset, .unset, .unset, .val (.int (10 : Int32)), .val (.int (0 : Int32)), .unset, .unset] [(.long (-xj0_))])) _
    refine XS.lstoreN X0.here hx rfl (hb hby dA20_23) rfl (l' := #[.val (.long (-xj0_)), .second, .val (.int (10 : Int32)), .val (.ref xo2_), .unset, .unset, .unset, .val (.int (10 : Int32)), .val (.int (0 : Int32)), .unset, .unset]) rfl ?_
    show Steps p.tables e below (s₁.setTop (mkF m 24 #[.val (.long (-xj0_)), .second, .val (.int (10 : Int32)), .val (.ref xo2_), .unset, .unset, .unset, .val (.int (10 : Int32)), .val (.int (0 : Int32)), .unset, .unset] [])) _
    refine XS.lloadN X0.here hx rfl (hb hby dA20_24) rfl ?_
    show Steps p.tables e below (s₁.setTop (mkF m 25 #[.val (.long (-xj0_)), .second, .val (.int (10 : Int32)), .val (.ref xo2_), .unset, .unset, .unset, .val (.int (10 : Int32)), .val (.int (0 : Int32)), .unset, .unset] [(.long (-xj0_))])) _
    refine X0.ldc2Long hx hown (mvT hZ (hw _ (List.mem_of_getElem? (i := 73) rfl))) (g := (mkF m 25 #[.val (.long (-xj0_)), .second, .val (.int (10 : Int32)), .val (.ref xo2_), .unset, .unset, .unset, .val (.int (10 : Int32)), .val (.int (0 : Int32)), .unset, .unset] [(.long (-xj0_))])) rfl (hb hby dA20_25) _ ?_
    show Steps p.tables e below (s₁.setTop (mkF m 28 #[.val (.long (-xj0_)), .second, .val (.int (10 : Int32)), .val (.ref xo2_), .unset, .unset, .unset, .val (.int (10 : Int32)), .val (.int (0 : Int32)), .unset, .unset] [(.long (-2147483648 : Int64)), (.long (-xj0_))])) _
    refine XS.lcmp X0.here hx rfl (hb hby dA20_28) rfl ?_
    show Steps p.tables e below (s₁.setTop (mkF m 29 #[.val (.long (-xj0_)), .second, .val (.int (10 : Int32)), .val (.ref xo2_), .unset, .unset, .unset, .val (.int (10 : Int32)), .val (.int (0 : Int32)), .unset, .unset] [(.int (lcmpW (-xj0_) (-2147483648 : Int64)))])) _
    refine XS.ifYes X0.here hx rfl (pc0 := 29) (pc' := 82) rfl (hb hby dA20_29) rfl ((if0 _ _).trans (tlt ((lw_gt _ _).mpr hp1_)).2.2.1) (by decide) (by decide) ?_
    show Steps p.tables e below (s₁.setTop (mkF m 82 #[.val (.long (-xj0_)), .second, .val (.int (10 : Int32)), .val (.ref xo2_), .unset, .unset, .unset, .val (.int (10 : Int32)), .val (.int (0 : Int32)), .unset, .unset] [])) _
    refine XS.lloadN X0.here hx rfl (hb hby dA20_82) rfl ?_
    show Steps p.tables e below (s₁.setTop (mkF m 83 #[.val (.long (-xj0_)), .second, .val (.int (10 : Int32)), .val (.ref xo2_), .unset, .unset, .unset, .val (.int (10 : Int32)), .val (.int (0 : Int32)), .unset, .unset] [(.long (-xj0_))])) _
    refine XS.l2i X0.here hx rfl (hb hby dA20_83) rfl ?_
    show Steps p.tables e below (s₁.setTop (mkF m 84 #[.val (.long (-xj0_)), .second, .val (.int (10 : Int32)), .val (.ref xo2_), .unset, .unset, .unset, .val (.int (10 : Int32)), .val (.int (0 : Int32)), .unset, .unset] [(.int ((-xj0_).toInt32))])) _
    refine XS.istore X0.here hx rfl (hb hby dA20_84) rfl (l' := #[.val (.long (-xj0_)), .second, .val (.int (10 : Int32)), .val (.ref xo2_), .unset, .unset, .unset, .val (.int (10 : Int32)), .val (.int (0 : Int32)), .unset, .val (.int ((-xj0_).toInt32))]) rfl ?_
    show Steps p.tables e below (s₁.setTop (mkF m 86 #[.val (.long (-xj0_)), .second, .val (.int (10 : Int32)), .val (.ref xo2_), .unset, .unset, .unset, .val (.int (10 : Int32)), .val (.int (0 : Int32)), .unset, .val (.int ((-xj0_).toInt32))] [])) _
    refine XS.iload X0.here hx rfl (hb hby dA20_86) rfl ?_
    show Steps p.tables e below (s₁.setTop (mkF m 88 #[.val (.long (-xj0_)), .second, .val (.int (10 : Int32)), .val (.ref xo2_), .unset, .unset, .unset, .val (.int (10 : Int32)), .val (.int (0 : Int32)), .unset, .val (.int ((-xj0_).toInt32))] [(.int ((-xj0_).toInt32))])) _
    refine XS.bipush X0.here hx rfl (hb hby dA20_88) ?_
    show Steps p.tables e below (s₁.setTop (mkF m 90 #[.val (.long (-xj0_)), .second, .val (.int (10 : Int32)), .val (.ref xo2_), .unset, .unset, .unset, .val (.int (10 : Int32)), .val (.int (0 : Int32)), .unset, .val (.int ((-xj0_).toInt32))] [(.int (-100 : Int32)), (.int ((-xj0_).toInt32))])) _
    refine XS.icmpYes X0.here hx rfl (pc0 := 90) (pc' := 143) rfl (hb hby dA20_90) rfl (tlt hp2_).2.2.1 (by decide) (by decide) ?_
    show Steps p.tables e below (s₁.setTop (mkF m 143 #[.val (.long (-xj0_)), .second, .val (.int (10 : Int32)), .val (.ref xo2_), .unset, .unset, .unset, .val (.int (10 : Int32)), .val (.int (0 : Int32)), .unset, .val (.int ((-xj0_).toInt32))] [])) _
    refine XS.aloadN X0.here hx rfl (hb hby dA20_143) rfl rfl ?_
    show Steps p.tables e below (s₁.setTop (mkF m 144 #[.val (.long (-xj0_)), .second, .val (.int (10 : Int32)), .val (.ref xo2_), .unset, .unset, .unset, .val (.int (10 : Int32)), .val (.int (0 : Int32)), .unset, .val (.int ((-xj0_).toInt32))] [(.ref xo2_)])) _
    refine XS.iinc X0.here hx rfl (hb hby dA20_144) rfl (l' := #[.val (.long (-xj0_)), .second, .val (.int (10 : Int32)), .val (.ref xo2_), .unset, .unset, .unset, .val (.int (9 : Int32)), .val (.int (0 : Int32)), .unset, .val (.int ((-xj0_).toInt32))]) rfl ?_
    show Steps p.tables e below (s₁.setTop (mkF m 147 #[.val (.long (-xj0_)), .second, .val (.int (10 : Int32)), .val (.ref xo2_), .unset, .unset, .unset, .val (.int (9 : Int32)), .val (.int (0 : Int32)), .unset, .val (.int ((-xj0_).toInt32))] [(.ref xo2_)])) _
    refine XS.iload X0.here hx rfl (hb hby dA20_147) rfl ?_
    show Steps p.tables e below (s₁.setTop (mkF m 149 #[.val (.long (-xj0_)), .second, .val (.int (10 : Int32)), .val (.ref xo2_), .unset, .unset, .unset, .val (.int (9 : Int32)), .val (.int (0 : Int32)), .unset, .val (.int ((-xj0_).toInt32))] [(.int (9 : Int32)), (.ref xo2_)])) _
    refine st1 _ ?_
    show Steps p.tables e below (T1.setTop (mkF m 152 #[.val (.long (-xj0_)), .second, .val (.int (10 : Int32)), .val (.ref xo2_), .unset, .unset, .unset, .val (.int (9 : Int32)), .val (.int (0 : Int32)), .unset, .val (.int ((-xj0_).toInt32))] [(.ref uo1_), (.int (9 : Int32)), (.ref xo2_)])) _
    refine XS.iload X1.here hx rfl (hb hby dA20_152) rfl ?_
    show Steps p.tables e below (T1.setTop (mkF m 154 #[.val (.long (-xj0_)), .second, .val (.int (10 : Int32)), .val (.ref xo2_), .unset, .unset, .unset, .val (.int (9 : Int32)), .val (.int (0 : Int32)), .unset, .val (.int ((-xj0_).toInt32))] [(.int ((-xj0_).toInt32)), (.ref uo1_), (.int (9 : Int32)), (.ref xo2_)])) _
    refine XS.ineg X1.here hx rfl (hb hby dA20_154) rfl ?_
    show Steps p.tables e below (T1.setTop (mkF m 155 #[.val (.long (-xj0_)), .second, .val (.int (10 : Int32)), .val (.ref xo2_), .unset, .unset, .unset, .val (.int (9 : Int32)), .val (.int (0 : Int32)), .unset, .val (.int ((-xj0_).toInt32))] [(.int (-((-xj0_).toInt32))), (.ref uo1_), (.int (9 : Int32)), (.ref xo2_)])) _
    refine X1.baloadBytes hx (j := (-((-xj0_).toInt32))) (v := (.int (own_get own_ones (-((-xj0_).toInt32))))) (by rw [e1]; exact Ar2.1) (State.isArrayOf_alike hZ.alike Ar2.2.1) Ar2.2.2 hin2 hat2 (g := (mkF m 155 #[.val (.long (-xj0_)), .second, .val (.int (10 : Int32)), .val (.ref xo2_), .unset, .unset, .unset, .val (.int (9 : Int32)), .val (.int (0 : Int32)), .unset, .val (.int ((-xj0_).toInt32))] [(.int (-((-xj0_).toInt32))), (.ref uo1_), (.int (9 : Int32)), (.ref xo2_)])) rfl rfl (hb hby dA20_155) _ ?_
    show Steps p.tables e below (T1.setTop (mkF m 156 #[.val (.long (-xj0_)), .second, .val (.int (10 : Int32)), .val (.ref xo2_), .unset, .unset, .unset, .val (.int (9 : Int32)), .val (.int (0 : Int32)), .unset, .val (.int ((-xj0_).toInt32))] [(.int (own_get own_ones (-((-xj0_).toInt32)))), (.int (9 : Int32)), (.ref xo2_)])) _
    refine st4 _ ?_
    show Steps p.tables e below (T4.setTop (mkF m 157 #[.val (.long (-xj0_)), .second, .val (.int (10 : Int32)), .val (.ref xo2_), .unset, .unset, .unset, .val (.int (9 : Int32)), .val (.int (0 : Int32)), .unset, .val (.int ((-xj0_).toInt32))] [])) _
    refine XS.iload X4.here hx rfl (hb hby dA20_157) rfl ?_
    show Steps p.tables e below (T4.setTop (mkF m 159 #[.val (.long (-xj0_)), .second, .val (.int (10 : Int32)), .val (.ref xo2_), .unset, .unset, .unset, .val (.int (9 : Int32)), .val (.int (0 : Int32)), .unset, .val (.int ((-xj0_).toInt32))] [(.int ((-xj0_).toInt32))])) _
    refine XS.bipush X4.here hx rfl (hb hby dA20_159) ?_
    show Steps p.tables e below (T4.setTop (mkF m 161 #[.val (.long (-xj0_)), .second, .val (.int (10 : Int32)), .val (.ref xo2_), .unset, .unset, .unset, .val (.int (9 : Int32)), .val (.int (0 : Int32)), .unset, .val (.int ((-xj0_).toInt32))] [(.int (-9 : Int32)), (.int ((-xj0_).toInt32))])) _
    refine XS.icmpYes X4.here hx rfl (pc0 := 161) (pc' := 178) rfl (hb hby dA20_161) rfl (flt hp4_).2.1 (by decide) (by decide) ?_
    show Steps p.tables e below (T4.setTop (mkF m 178 #[.val (.long (-xj0_)), .second, .val (.int (10 : Int32)), .val (.ref xo2_), .unset, .unset, .unset, .val (.int (9 : Int32)), .val (.int (0 : Int32)), .unset, .val (.int ((-xj0_).toInt32))] [])) _
    refine XS.iload X4.here hx rfl (hb hby dA20_178) rfl ?_
    show Steps p.tables e below (T4.setTop (mkF m 180 #[.val (.long (-xj0_)), .second, .val (.int (10 : Int32)), .val (.ref xo2_), .unset, .unset, .unset, .val (.int (9 : Int32)), .val (.int (0 : Int32)), .unset, .val (.int ((-xj0_).toInt32))] [(.int (0 : Int32))])) _
    refine XS.ifYes X4.here hx rfl (pc0 := 180) (pc' := 192) rfl (hb hby dA20_180) rfl ((if0 _ _).trans (teq (by decide : (0 : Int32) = (0 : Int32))).1) (by decide) (by decide) ?_
    show Steps p.tables e below (T4.setTop (mkF m 192 #[.val (.long (-xj0_)), .second, .val (.int (10 : Int32)), .val (.ref xo2_), .unset, .unset, .unset, .val (.int (9 : Int32)), .val (.int (0 : Int32)), .unset, .val (.int ((-xj0_).toInt32))] [])) _
    refine XS.iload X4.here hx rfl (hb hby dA20_192) rfl ?_
    show Steps p.tables e below (T4.setTop (mkF m 194 #[.val (.long (-xj0_)), .second, .val (.int (10 : Int32)), .val (.ref xo2_), .unset, .unset, .unset, .val (.int (9 : Int32)), .val (.int (0 : Int32)), .unset, .val (.int ((-xj0_).toInt32))] [(.int (9 : Int32))])) _
    exact retI X4 hx Bd.returns (hb hby dA20_194) hr
  · show QA20 Z xj0_ xo2_ uo1_ k_uo1_ ui2_ k_xo2_ h0 n0 _ T4.heap _
    rw [e4]
    exact ⟨rfl, N4, K4, V4⟩
theorem dA17_0 : decode jdk_68_method_33_code 0 = .ok (.aload_n 0, 1) := by decide +kernel
theorem dA17_1 : decode jdk_68_method_33_code 1 = .ok (.getfield 79, 3) := by decide +kernel
theorem dA17_4 : decode jdk_68_method_33_code 4 = .ok (.istore_n 3, 1) := by decide +kernel
theorem dA17_5 : decode jdk_68_method_33_code 5 = .ok (.iload_n 3, 1) := by decide +kernel
theorem dA17_6 : decode jdk_68_method_33_code 6 = .ok (.lload_n 1, 1) := by decide +kernel
theorem dA17_7 : decode jdk_68_method_33_code 7 = .ok (.invokestatic 254, 3) := by decide +kernel
theorem dA17_10 : decode jdk_68_method_33_code 10 = .ok (.iadd, 1) := by decide +kernel
theorem dA17_11 : decode jdk_68_method_33_code 11 = .ok (.istore 4, 2) := by decide +kernel
theorem dA17_13 : decode jdk_68_method_33_code 13 = .ok (.aload_n 0, 1) := by decide +kernel
theorem dA17_14 : decode jdk_68_method_33_code 14 = .ok (.iload 4, 2) := by decide +kernel
theorem dA17_16 : decode jdk_68_method_33_code 16 = .ok (.invokevirtual 100, 3) := by decide +kernel
theorem dA17_19 : decode jdk_68_method_33_code 19 = .ok (.aload_n 0, 1) := by decide +kernel
theorem dA17_20 : decode jdk_68_method_33_code 20 = .ok (.invokevirtual 83, 3) := by decide +kernel
theorem dA17_23 : decode jdk_68_method_33_code 23 = .ok (.ifCond .eq 17, 3) := by decide +kernel
theorem dA17_26 : decode jdk_68_method_33_code 26 = .ok (.lload_n 1, 1) := by decide +kernel
theorem dA17_27 : decode jdk_68_method_33_code 27 = .ok (.iload 4, 2) := by decide +kernel
theorem dA17_29 : decode jdk_68_method_33_code 29 = .ok (.aload_n 0, 1) := by decide +kernel
theorem dA17_30 : decode jdk_68_method_33_code 30 = .ok (.getfield 15, 3) := by decide +kernel
theorem dA17_33 : decode jdk_68_method_33_code 33 = .ok (.invokestatic 259, 3) := by decide +kernel
theorem dA17_36 : decode jdk_68_method_33_code 36 = .ok (.pop, 1) := by decide +kernel
theorem dA17_37 : decode jdk_68_method_33_code 37 = .ok (.goto 15, 3) := by decide +kernel
theorem dA17_52 : decode jdk_68_method_33_code 52 = .ok (.aload_n 0, 1) := by decide +kernel
theorem dA17_53 : decode jdk_68_method_33_code 53 = .ok (.iload 4, 2) := by decide +kernel
theorem dA17_55 : decode jdk_68_method_33_code 55 = .ok (.putfield 79, 3) := by decide +kernel
theorem dA17_58 : decode jdk_68_method_33_code 58 = .ok (.aload_n 0, 1) := by decide +kernel
theorem dA17_59 : decode jdk_68_method_33_code 59 = .ok (.areturn, 1) := by decide +kernel
theorem efA17 (m : MethodId) (xo0_ : Addr) (xj1_ : Int64) : entryFrame m #[(.ref xo0_), (.long xj1_)] 5 = mkF m 0 #[.val (.ref xo0_), .val (.long xj1_), .second, .unset, .unset] [] := by first | (simp [entryFrame, mkF, argsToLocals, Value.category]; done) | rfl
def QA17 (Z : State) (xo0_ : Addr) (xj1_ : Int64) (uo1_ : Addr) (ui2_ : Int32) (k_uo1_ : ClassId) (ui3_ : Int32) (uo4_ : Addr) (k_uo4_ : ClassId) (h0 : Heap) (n0 : Nat) (v : Option Value) (h : Heap) (L : List Loc) : Prop := v = some (.ref xo0_) ∧ Fr n0 L ∧ Keep h0 h [uo1_, xo0_] ∧ Arv Z h uo1_ k_uo1_ .byte (16 : Int32) [(.int ui2_), (.int (32 : Int32)), (.int (102 : Int32)), (.int (105 : Int32)), (.int (108 : Int32)), (.int (101 : Int32)), (.int (115 : Int32)), (.int (44 : Int32)), (.int (32 : Int32)), (.int ((own_get own_ones (-((-xj1_).toInt32)))).toInt8.toInt32), (.int (0 : Int32)), (.int (0 : Int32)), (.int (0 : Int32)), (.int (0 : Int32)), (.int (0 : Int32)), (.int (0 : Int32))] (.int (0 : Int32)) ∧ Exa Z h xo0_ "java/lang/StringBuilder" ∧ Fld Z h xo0_ "java/lang/AbstractStringBuilder" "value" "[B" (.ref uo1_) ∧ Fld Z h xo0_ "java/lang/AbstractStringBuilder" "coder" "B" (.int (0 : Int32)) ∧ Fld Z h xo0_ "java/lang/AbstractStringBuilder" "count" "I" (.int (10 : Int32))
set_option maxRecDepth 65536 in
set_option maxHeartbeats 40000000 in
theorem rmA17 (l : Launch) (Z : State) (a0 : Array Value) (hw : ∀ d ∈ tables_1, d.before a0 Z = true) (ws : List Jvm.Cond) (xo0_ : Addr) (xj1_ : Int64) (uo1_ : Addr) (ui2_ : Int32) (k_uo1_ : ClassId) (ui3_ : Int32) (uo4_ : Addr) (k_uo4_ : ClassId) (h0 : Heap) (n0 : Nat) (Z0 : n0 ≤ h0.size) (E_xo0_ : Exa Z h0 xo0_ "java/lang/StringBuilder") (F_value_xo0_ : Fld Z h0 xo0_ "java/lang/AbstractStringBuilder" "value" "[B" (.ref uo1_)) (F_coder_xo0_ : Fld Z h0 xo0_ "java/lang/AbstractStringBuilder" "coder" "B" (.int (0 : Int32))) (F_count_xo0_ : Fld Z h0 xo0_ "java/lang/AbstractStringBuilder" "count" "I" (.int (9 : Int32))) (hp0_ : ¬ (xj1_ < (0 : Int64))) (hp1_ : (-10 : Int64) < (-xj1_)) (V_uo1_ : Arv Z h0 uo1_ k_uo1_ .byte (16 : Int32) [(.int ui2_), (.int (32 : Int32)), (.int (102 : Int32)), (.int (105 : Int32)), (.int (108 : Int32)), (.int (101 : Int32)), (.int (115 : Int32)), (.int (44 : Int32)), (.int (32 : Int32)), (.int (0 : Int32)), (.int (0 : Int32)), (.int (0 : Int32)), (.int (0 : Int32)), (.int (0 : Int32)), (.int (0 : Int32)), (.int (0 : Int32))] (.int (0 : Int32))) (X00 : Old Z n0 h0) (S_COMPACT_STRINGS : Sta Z Z.heap "java/lang/String" "COMPACT_STRINGS" "Z" (.int ui3_)) (hp2_ : ¬ (ui3_ = (0 : Int32))) (hp3_ : (-2147483648 : Int64) < (-xj1_)) (hp4_ : (-100 : Int32) < ((-xj1_).toInt32)) (S_DigitOnes : Sta Z Z.heap "java/lang/Integer" "DigitOnes" "[B" (.ref uo4_)) (V_uo4_ : Arv Z Z.heap uo4_ k_uo4_ .byte (100 : Int32) (own_ones.map Value.int) (.int (0 : Int32))) (hp5_ : own_inb xj1_) (hp6_ : ¬ (((-xj1_).toInt32) < (-9 : Int32))) (g_uo1_ : n0 ≤ uo1_) (g_xo0_ : n0 ≤ xo0_) :
    MetFree l (⟨"java/lang/AbstractStringBuilder", "append", "(J)Ljava/lang/AbstractStringBuilder;"⟩ : MethodName) (head1 (Jvm.Cond.code (⟨"java/lang/AbstractStringBuilder", "append", "(J)Ljava/lang/AbstractStringBuilder;"⟩ : MethodName) jdk_68_method_33_code 5 (some (.object "java/lang/AbstractStringBuilder")) :: ws) ({ frames := 1, cells := 0, slots := 0, locals := 22 } : Room)) (fun av_ U => av_ = #[(.ref xo0_), (.long xj1_)] ∧ Z.Warmed39 U.vm ∧ U.heap = h0) (fun _ _ _ _ _ => True) (fun _ U o U' => ∃ v L, o = .returned v ∧ QA17 Z xo0_ xj1_ uo1_ ui2_ k_uo1_ ui3_ uo4_ k_uo4_ h0 n0 v U'.heap L ∧ FrameEnd U o U' L ({ frames := 1, cells := 0, slots := 0, locals := 22 } : Room).cells ({ frames := 1, cells := 0, slots := 0, locals := 22 } : Room).slots) := by
  refine MetFree.of_bodySF (plainFor_of_name own_pn1) hisR ?_
  intro p e s m args below meth c s₁ Bd hml0 hP hK
  obtain ⟨rfl, hZ, hh⟩ := hP
  have hx := Bd.exec
  have hby := Bd.bytes
  have hml : c.maxLocals = 5 := hml0
  have hown : s.vm.findClass "java/lang/AbstractStringBuilder" = some m.cls := findClass_of_methodNamed Bd.named
  have hnm := (name_of_methodNamed Bd.named Bd.method).1
  have X0 : Stand p l e ({ frames := 1, cells := 0, slots := 0, locals := 22 } : Room) s m #[(.ref xo0_), (.long xj1_)] below meth c s₁ [] 0 0 := Stand.of_body Bd
  have e0 : s₁.heap = h0 := by rw [← hh, Bd.state]; rfl
  have N0 := Fr.nil n0
  have pre0 : ∀ t, Steps p.tables e below (s₁.setTop (mkF m 0 #[.val (.ref xo0_), .val (.long xj1_), .second, .unset, .unset] [])) t → Steps p.tables e below (s₁.setTop (entryFrame m #[(.ref xo0_), (.long xj1_)] 5)) t := fun t k => castTop (efA17 m xo0_ xj1_) k
  obtain ⟨T1, X1, e1, st1⟩ := getF X0 hx hZ hown (host := "") (Or.inl (hw _ (List.mem_of_getElem? (i := 53) rfl))) Via.refl e0 F_count_xo0_ (g := (mkF m 1 #[.val (.ref xo0_), .val (.long xj1_), .second, .unset, .unset] [(.ref xo0_)])) rfl rfl (hb hby dA17_1)
  obtain ⟨_, _, ⟨T2, L2, k2, n2⟩, -, X2, ⟨Lc2, hQ2, l2, y2, z2⟩, st2⟩ := Jvm.LawKit.callS X1 hx (y := (⟨"java/lang/Long", "stringSize", "(J)I"⟩ : MethodName)) hown (mvT hZ (hw _ (List.mem_of_getElem? (i := 55) rfl))) (mvT hZ (hw _ (List.mem_of_getElem? (i := 56) rfl))) (mvT hZ (hw _ (List.mem_of_getElem? (i := 57) rfl))) (mvT hZ (hw _ (List.mem_of_getElem? (i := 58) rfl))) (by decide) (backOf (W := 1) (rmA4 l Z a0 hw [] xj1_ h0 n0 Z0 hp0_ hp1_) hZ (hw _ (List.mem_of_getElem? (i := 58) rfl)) (hw _ (List.mem_of_getElem? (i := 57) rfl)) (by decide) (by decide)) (g := (mkF m 7 #[.val (.ref xo0_), .val (.long xj1_), .second, .val (.int (9 : Int32)), .unset] [(.long xj1_), (.int (9 : Int32))])) rfl (by rw [hml]; rfl) (argsL := [(.long xj1_)]) (rest := [(.int (9 : Int32))]) (lenOf own_pd2 rfl) rfl (by show 2 * 0 + _ ≤ _; exact Nat.le_of_eq rfl) (hb hby dA17_7) (fun _ _ => ⟨rfl, e1, (by decide : 0 + 0 ≤ _), (by decide : 0 + 0 ≤ _)⟩)
  dsimp only [Pt.U, Pt.locs, Pt.cells, Pt.slots] at X2 l2 y2 z2 st2 hQ2
  subst l2 y2 z2
  obtain ⟨rfl, Nq2, e2⟩ := hQ2
  have N2 := Fr.app N0 Nq2
  obtain ⟨cq3, qa3, qb3⟩ := E_xo0_.cell
  obtain ⟨_, _, ⟨T3, L3, k3, n3⟩, -, X3, ⟨Lc3, hQ3, l3, y3, z3⟩, st3⟩ := X2.privateBack hx (y := (⟨"java/lang/AbstractStringBuilder", "ensureCapacityInternal", "(I)V"⟩ : MethodName)) hown (mvT hZ (hw _ (List.mem_of_getElem? (i := 60) rfl))) (mvT hZ (hw _ (List.mem_of_getElem? (i := 61) rfl))) (selfSel hZ (hw _ (List.mem_of_getElem? (i := 63) rfl)) (hw _ (List.mem_of_getElem? (i := 61) rfl)) (hw _ (List.mem_of_getElem? (i := 62) rfl)) (by decide)) (Cond.privateMethod_at (mvP hZ (hw _ (List.mem_of_getElem? (i := 62) rfl)) (args := #[]))) (mvT hZ (hw _ (List.mem_of_getElem? (i := 64) rfl))) (by decide) (backOf (W := 0) (rmA18 l Z a0 hw [] xo0_ uo1_ ui2_ k_uo1_ h0 n0 Z0 E_xo0_ F_value_xo0_ F_coder_xo0_ F_count_xo0_ V_uo1_) hZ (hw _ (List.mem_of_getElem? (i := 64) rfl)) (hw _ (List.mem_of_getElem? (i := 33) rfl)) (by decide) (by decide)) (g := (mkF m 16 #[.val (.ref xo0_), .val (.long xj1_), .second, .val (.int (9 : Int32)), .val (.int (10 : Int32))] [(.int (10 : Int32)), (.ref xo0_)])) rfl (by rw [hml]; rfl) (Steps.refl _) (a := xo0_) (by rw [e2]; exact qa3) qb3 (argsL := [(.int (10 : Int32))]) (rest := []) (lenOf own_pd0 rfl) rfl (by show 2 * 0 + _ ≤ _; exact Nat.le_of_eq rfl) (hb hby dA17_16) (fun _ _ => ⟨rfl, e2, (by decide : 0 + 0 ≤ _), (by decide : 0 + 0 ≤ _)⟩)
  dsimp only [Pt.U, Pt.locs, Pt.cells, Pt.slots] at X3 l3 y3 z3 st3 hQ3
  subst l3 y3 z3
  obtain ⟨rfl, Nq3, e3⟩ := hQ3
  have N3 := Fr.app N2 Nq3
  obtain ⟨cq4, kq4, q4a, q4b, q4c⟩ := isOf hZ e3 E_xo0_
  obtain ⟨_, _, ⟨T4, L4, k4, n4⟩, -, X4, ⟨Lc4, hQ4, l4, y4, z4⟩, st4⟩ := X3.virtualBack hx (y := (⟨"java/lang/AbstractStringBuilder", "isLatin1", "()Z"⟩ : MethodName)) (z := (⟨"java/lang/AbstractStringBuilder", "isLatin1", "()Z"⟩ : MethodName)) hown (mvT hZ (hw _ (List.mem_of_getElem? (i := 65) rfl))) (mvT hZ (hw _ (List.mem_of_getElem? (i := 66) rfl))) (notFace_of_selects (args := #[]) (mvT hZ (hw _ (List.mem_of_getElem? (i := 68) rfl)))) (mvT hZ (hw _ (List.mem_of_getElem? (i := 68) rfl))) (mvT hZ (hw _ (List.mem_of_getElem? (i := 67) rfl))) (by decide) (backOf (W := 0) (rmA19 l Z a0 hw [] xo0_ uo1_ ui3_ h0 n0 Z0 E_xo0_ F_value_xo0_ F_coder_xo0_ F_count_xo0_ X00 S_COMPACT_STRINGS hp2_) hZ (hw _ (List.mem_of_getElem? (i := 69) rfl)) (hw _ (List.mem_of_getElem? (i := 33) rfl)) (by decide) (by decide)) q4a q4c (g := (mkF m 20 #[.val (.ref xo0_), .val (.long xj1_), .second, .val (.int (9 : Int32)), .val (.int (10 : Int32))] [(.ref xo0_)])) rfl (by rw [hml]; rfl) (Steps.refl _) (argsL := []) (rest := []) (lenOf own_pd3 rfl) rfl (by show 2 * 0 + _ ≤ _; exact Nat.le_of_eq rfl) (hb hby dA17_20) (fun _ _ => ⟨rfl, e3, (by decide : 0 + 0 ≤ _), (by decide : 0 + 0 ≤ _)⟩)
  dsimp only [Pt.U, Pt.locs, Pt.cells, Pt.slots] at X4 l4 y4 z4 st4 hQ4
  subst l4 y4 z4
  obtain ⟨rfl, Nq4, e4⟩ := hQ4
  have N4 := Fr.app N3 Nq4
  obtain ⟨T5, X5, e5, st5⟩ := getF X4 hx hZ hown (host := "") (Or.inl (hw _ (List.mem_of_getElem? (i := 39) rfl))) Via.refl e4 F_value_xo0_ (g := (mkF m 30 #[.val (.ref xo0_), .val (.long xj1_), .second, .val (.int (9 : Int32)), .val (.int (10 : Int32))] [(.ref xo0_), (.int (10 : Int32)), (.long xj1_)])) rfl rfl (hb hby dA17_30)
  obtain ⟨_, _, ⟨T6, L6, k6, n6⟩, -, X6, ⟨Lc6, hQ6, l6, y6, z6⟩, st6⟩ := Jvm.LawKit.callS X5 hx (y := (⟨"java/lang/Long", "getChars", "(JI[B)I"⟩ : MethodName)) hown (mvT hZ (hw _ (List.mem_of_getElem? (i := 70) rfl))) (mvT hZ (hw _ (List.mem_of_getElem? (i := 71) rfl))) (mvT hZ (hw _ (List.mem_of_getElem? (i := 57) rfl))) (mvT hZ (hw _ (List.mem_of_getElem? (i := 72) rfl))) (by decide) (backOf (W := 0) (rmA20 l Z a0 hw [] xj1_ uo1_ uo4_ k_uo4_ ui2_ k_uo1_ h0 n0 Z0 hp0_ hp3_ hp4_ X00 S_DigitOnes V_uo4_ hp5_ V_uo1_ g_uo1_ hp6_) hZ (hw _ (List.mem_of_getElem? (i := 72) rfl)) (hw _ (List.mem_of_getElem? (i := 57) rfl)) (by decide) (by decide)) (g := (mkF m 33 #[.val (.ref xo0_), .val (.long xj1_), .second, .val (.int (9 : Int32)), .val (.int (10 : Int32))] [(.ref uo1_), (.int (10 : Int32)), (.long xj1_)])) rfl (by rw [hml]; rfl) (argsL := [(.long xj1_), (.int (10 : Int32)), (.ref uo1_)]) (rest := []) (lenOf own_pd4 rfl) rfl (by show 2 * 0 + _ ≤ _; exact Nat.le_of_eq rfl) (hb hby dA17_33) (fun _ _ => ⟨rfl, e5, (by decide : 0 + 0 ≤ _), (by decide : 0 + 0 ≤ _)⟩)
  dsimp only [Pt.U, Pt.locs, Pt.cells, Pt.slots] at X6 l6 y6 z6 st6 hQ6
  subst l6 y6 z6
  obtain ⟨rfl, Nq6, Kc6, q6_0⟩ := hQ6
  have K6 : Keep h0 T6.heap [uo1_, xo0_] := Keep.trans (Keep.refl h0 [uo1_, xo0_]) Kc6 (allS (Or.inl (List.mem_of_getElem? (i := 0) rfl)) all0)
  have Zs6 : n0 ≤ T6.heap.size := Nat.le_trans Z0 Kc6.1
  have N6 := Fr.app N4 Nq6
  have no7 : xo0_ ≠ uo1_ := Exa.neArv (E_xo0_.keep Kc6) q6_0 (hw _ (List.mem_of_getElem? (i := 24) rfl))
  obtain ⟨T8, h8, X8, e8, W8, st8⟩ := putF X6 hx hZ hown (host := "") (Or.inl (hw _ (List.mem_of_getElem? (i := 53) rfl))) Via.refl rfl (F_count_xo0_.keep Kc6 (ninS no7 nin0)) (E_xo0_.keep Kc6) (Or.inl (hw _ (List.mem_of_getElem? (i := 54) rfl))) (hw _ (List.mem_of_getElem? (i := 24) rfl)) (ty := .int) (by decide) rfl rfl (g := (mkF m 55 #[.val (.ref xo0_), .val (.long xj1_), .second, .val (.int (9 : Int32)), .val (.int (10 : Int32))] [(.int (10 : Int32)), (.ref xo0_)])) rfl rfl (hb hby dA17_55)
  have F8 : Fld Z h8 xo0_ "java/lang/AbstractStringBuilder" "count" "I" (.int (10 : Int32)) := Fld.same W8 (F_count_xo0_.keep Kc6 (ninS no7 nin0))
  have K8 : Keep h0 h8 [uo1_, xo0_] := K6.wr W8 (Or.inl (List.mem_of_getElem? (i := 1) rfl))
  have Zs8 : n0 ≤ h8.size := Nat.le_trans Zs6 (Keep.of_wr W8).1
  have N8 := Fr.snoc X8 N6 g_xo0_
  obtain ⟨fs, hr, hrun, hended, hW, hsame⟩ := X8.leave (v := some (.ref xo0_)) (fun h => by rw [Bd.returns] at h; cases h)
  refine ⟨_, _, (pre0 _ ?_), hrun, hended, _, _, rfl, ?_, ⟨_, rfl⟩, hW, hsame.mono (by decide) (by decide)⟩
  · show Steps p.tables e below (s₁.setTop (mkF m 0 #[.val (.ref xo0_), .val (.long xj1_), .second, .unset, .unset] [])) _
    refine XS.aloadN X0.here hx rfl (hb hby dA17_0) rfl rfl ?_
    show Steps p.tables e below (s₁.setTop (mkF m 1 #[.val (.ref xo0_), .val (.long xj1_), .second, .unset, .unset] [(.ref xo0_)])) _
    refine st1 _ ?_
    show Steps p.tables e below (T1.setTop (mkF m 4 #[.val (.ref xo0_), .val (.long xj1_), .second, .unset, .unset] [(.int (9 : Int32))])) _
    refine XS.istoreN X1.here hx rfl (hb hby dA17_4) rfl (l' := #[.val (.ref xo0_), .val (.long xj1_), .second, .val (.int (9 : Int32)), .unset]) rfl ?_
    show Steps p.tables e below (T1.setTop (mkF m 5 #[.val (.ref xo0_), .val (.long xj1_), .second, .val (.int (9 : Int32)), .unset] [])) _
    refine XS.iloadN X1.here hx rfl (hb hby dA17_5) rfl ?_
    show Steps p.tables e below (T1.setTop (mkF m 6 #[.val (.ref xo0_), .val (.long xj1_), .second, .val (.int (9 : Int32)), .unset] [(.int (9 : Int32))])) _
    refine XS.lloadN X1.here hx rfl (hb hby dA17_6) rfl ?_
    show Steps p.tables e below (T1.setTop (mkF m 7 #[.val (.ref xo0_), .val (.long xj1_), .second, .val (.int (9 : Int32)), .unset] [(.long xj1_), (.int (9 : Int32))])) _
    refine st2 _ ?_
    show Steps p.tables e below (T2.setTop (mkF m 10 #[.val (.ref xo0_), .val (.long xj1_), .second, .val (.int (9 : Int32)), .unset] [(.int (1 : Int32)), (.int (9 : Int32))])) _
    refine XS.iadd X2.here hx rfl (hb hby dA17_10) rfl ?_
    show Steps p.tables e below (T2.setTop (mkF m 11 #[.val (.ref xo0_), .val (.long xj1_), .second, .val (.int (9 : Int32)), .unset] [(.int (10 : Int32))])) _
    refine XS.istore X2.here hx rfl (hb hby dA17_11) rfl (l' := #[.val (.ref xo0_), .val (.long xj1_), .second, .val (.int (9 : Int32)), .val (.int (10 : Int32))]) rfl ?_
    show Steps p.tables e below (T2.setTop (mkF m 13 #[.val (.ref xo0_), .val (.long xj1_), .second, .val (.int (9 : Int32)), .val (.int (10 : Int32))] [])) _
    refine XS.aloadN X2.here hx rfl (hb hby dA17_13) rfl rfl ?_
    show Steps p.tables e below (T2.setTop (mkF m 14 #[.val (.ref xo0_), .val (.long xj1_), .second, .val (.int (9 : Int32)), .val (.int (10 : Int32))] [(.ref xo0_)])) _
    refine XS.iload X2.here hx rfl (hb hby dA17_14) rfl ?_
    show Steps p.tables e below (T2.setTop (mkF m 16 #[.val (.ref xo0_), .val (.long xj1_), .second, .val (.int (9 : Int32)), .val (.int (10 : Int32))] [(.int (10 : Int32)), (.ref xo0_)])) _
    refine st3.trans ?_
    show Steps p.tables e below (T3.setTop (mkF m 19 #[.val (.ref xo0_), .val (.long xj1_), .second, .val (.int (9 : Int32)), .val (.int (10 : Int32))] [])) _
    refine XS.aloadN X3.here hx rfl (hb hby dA17_19) rfl rfl ?_
    show Steps p.tables e below (T3.setTop (mkF m 20 #[.val (.ref xo0_), .val (.long xj1_), .second, .val (.int (9 : Int32)), .val (.int (10 : Int32))] [(.ref xo0_)])) _
    refine st4.trans ?_
    show Steps p.tables e below (T4.setTop (mkF m 23 #[.val (.ref xo0_), .val (.long xj1_), .second, .val (.int (9 : Int32)), .val (.int (10 : Int32))] [(.int (1 : Int32))])) _
    refine XS.ifNo X4.here hx rfl (hb hby dA17_23) rfl ((if0 _ _).trans (feq (by decide : ¬ ((1 : Int32) = (0 : Int32)))).1) ?_
    show Steps p.tables e below (T4.setTop (mkF m 26 #[.val (.ref xo0_), .val (.long xj1_), .second, .val (.int (9 : Int32)), .val (.int (10 : Int32))] [])) _
    refine XS.lloadN X4.here hx rfl (hb hby dA17_26) rfl ?_
    show Steps p.tables e below (T4.setTop (mkF m 27 #[.val (.ref xo0_), .val (.long xj1_), .second, .val (.int (9 : Int32)), .val (.int (10 : Int32))] [(.long xj1_)])) _
    refine XS.iload X4.here hx rfl (hb hby dA17_27) rfl ?_
    show Steps p.tables e below (T4.setTop (mkF m 29 #[.val (.ref xo0_), .val (.long xj1_), .second, .val (.int (9 : Int32)), .val (.int (10 : Int32))] [(.int (10 : Int32)), (.long xj1_)])) _
    refine XS.aloadN X4.here hx rfl (hb hby dA17_29) rfl rfl ?_
    show Steps p.tables e below (T4.setTop (mkF m 30 #[.val (.ref xo0_), .val (.long xj1_), .second, .val (.int (9 : Int32)), .val (.int (10 : Int32))] [(.ref xo0_), (.int (10 : Int32)), (.long xj1_)])) _
    refine st5 _ ?_
    show Steps p.tables e below (T5.setTop (mkF m 33 #[.val (.ref xo0_), .val (.long xj1_), .second, .val (.int (9 : Int32)), .val (.int (10 : Int32))] [(.ref uo1_), (.int (10 : Int32)), (.long xj1_)])) _
    refine st6 _ ?_
    show Steps p.tables e below (T6.setTop (mkF m 36 #[.val (.ref xo0_), .val (.long xj1_), .second, .val (.int (9 : Int32)), .val (.int (10 : Int32))] [(.int (9 : Int32))])) _
    refine XS.pop X6.here hx rfl (hb hby dA17_36) rfl rfl ?_
    show Steps p.tables e below (T6.setTop (mkF m 37 #[.val (.ref xo0_), .val (.long xj1_), .second, .val (.int (9 : Int32)), .val (.int (10 : Int32))] [])) _
    refine XS.goto X6.here hx rfl (pc0 := 37) (pc' := 52) rfl (hb hby dA17_37) (by decide) (by decide) ?_
    show Steps p.tables e below (T6.setTop (mkF m 52 #[.val (.ref xo0_), .val (.long xj1_), .second, .val (.int (9 : Int32)), .val (.int (10 : Int32))] [])) _
    refine XS.aloadN X6.here hx rfl (hb hby dA17_52) rfl rfl ?_
    show Steps p.tables e below (T6.setTop (mkF m 53 #[.val (.ref xo0_), .val (.long xj1_), .second, .val (.int (9 : Int32)), .val (.int (10 : Int32))] [(.ref xo0_)])) _
    refine XS.iload X6.here hx rfl (hb hby dA17_53) rfl ?_
    show Steps p.tables e below (T6.setTop (mkF m 55 #[.val (.ref xo0_), .val (.long xj1_), .second, .val (.int (9 : Int32)), .val (.int (10 : Int32))] [(.int (10 : Int32)), (.ref xo0_)])) _
    refine st8 _ ?_
    show Steps p.tables e below (T8.setTop (mkF m 58 #[.val (.ref xo0_), .val (.long xj1_), .second, .val (.int (9 : Int32)), .val (.int (10 : Int32))] [])) _
    refine XS.aloadN X8.here hx rfl (hb hby dA17_58) rfl rfl ?_
    show Steps p.tables e below (T8.setTop (mkF m 59 #[.val (.ref xo0_), .val (.long xj1_), .second, .val (.int (9 : Int32)), .val (.int (10 : Int32))] [(.ref xo0_)])) _
    jvm_step X8.here [X8.here.top, hx, (hb hby dA17_59), X8.method', Bd.returns, Value.isRef, FieldType.isReference]
    first | (intro acts; rw [hr _ acts rfl rfl rfl]) | rw [hr _ _ rfl rfl rfl]
    exact Steps.refl _
  · show QA17 Z xo0_ xj1_ uo1_ ui2_ k_uo1_ ui3_ uo4_ k_uo4_ h0 n0 _ T8.heap _
    rw [e8]
    exact ⟨rfl, N8, K8, (q6_0.other W8 (Ne.symm no7)), ((E_xo0_.keep Kc6).wr W8), (Fld.other W8 (F_value_xo0_.keep Kc6 (ninS no7 nin0)) (Or.inr (slot_ne (Or.inl (hw _ (List.mem_of_getElem? (i := 40) rfl))) (Or.inl (hw _ (List.mem_of_getElem? (i := 54) rfl))) (by decide) (t := (.array .byte)) (t' := .int) (by decide) (by decide)))), (Fld.other W8 (F_coder_xo0_.keep Kc6 (ninS no7 nin0)) (Or.inr (slot_ne (Or.inl (hw _ (List.mem_of_getElem? (i := 42) rfl))) (Or.inl (hw _ (List.mem_of_getElem? (i := 54) rfl))) (by decide) (t := .byte) (t' := .int) (by decide) (by decide)))), F8⟩
theorem dA16_0 : decode jdk_67_method_16_code 0 = .ok (.aload_n 0, 1) := by decide +kernel
theorem dA16_1 : decode jdk_67_method_16_code 1 = .ok (.lload_n 1, 1) := by decide +kernel
theorem dA16_2 : decode jdk_67_method_16_code 2 = .ok (.invokespecial 56, 3) := by decide +kernel
theorem dA16_5 : decode jdk_67_method_16_code 5 = .ok (.pop, 1) := by decide +kernel
theorem dA16_6 : decode jdk_67_method_16_code 6 = .ok (.aload_n 0, 1) := by decide +kernel
theorem dA16_7 : decode jdk_67_method_16_code 7 = .ok (.areturn, 1) := by decide +kernel
theorem efA16 (m : MethodId) (xo0_ : Addr) (xj1_ : Int64) : entryFrame m #[(.ref xo0_), (.long xj1_)] 3 = mkF m 0 #[.val (.ref xo0_), .val (.long xj1_), .second] [] := by first | (simp [entryFrame, mkF, argsToLocals, Value.category]; done) | rfl
def QA16 (Z : State) (xo0_ : Addr) (xj1_ : Int64) (uo1_ : Addr) (ui2_ : Int32) (k_uo1_ : ClassId) (ui3_ : Int32) (uo4_ : Addr) (k_uo4_ : ClassId) (h0 : Heap) (n0 : Nat) (v : Option Value) (h : Heap) (L : List Loc) : Prop := v = some (.ref xo0_) ∧ Fr n0 L ∧ Keep h0 h [xo0_, uo1_] ∧ Exa Z h xo0_ "java/lang/StringBuilder" ∧ Fld Z h xo0_ "java/lang/AbstractStringBuilder" "value" "[B" (.ref uo1_) ∧ Fld Z h xo0_ "java/lang/AbstractStringBuilder" "coder" "B" (.int (0 : Int32)) ∧ Fld Z h xo0_ "java/lang/AbstractStringBuilder" "count" "I" (.int (10 : Int32)) ∧ Arv Z h uo1_ k_uo1_ .byte (16 : Int32) [(.int ui2_), (.int (32 : Int32)), (.int (102 : Int32)), (.int (105 : Int32)), (.int (108 : Int32)), (.int (101 : Int32)), (.int (115 : Int32)), (.int (44 : Int32)), (.int (32 : Int32)), (.int ((own_get own_ones (-((-xj1_).toInt32)))).toInt8.toInt32), (.int (0 : Int32)), (.int (0 : Int32)), (.int (0 : Int32)), (.int (0 : Int32)), (.int (0 : Int32)), (.int (0 : Int32))] (.int (0 : Int32))
set_option maxRecDepth 65536 in
set_option maxHeartbeats 40000000 in
theorem rmA16 (l : Launch) (Z : State) (a0 : Array Value) (hw : ∀ d ∈ tables_1, d.before a0 Z = true) (ws : List Jvm.Cond) (xo0_ : Addr) (xj1_ : Int64) (uo1_ : Addr) (ui2_ : Int32) (k_uo1_ : ClassId) (ui3_ : Int32) (uo4_ : Addr) (k_uo4_ : ClassId) (h0 : Heap) (n0 : Nat) (Z0 : n0 ≤ h0.size) (E_xo0_ : Exa Z h0 xo0_ "java/lang/StringBuilder") (F_value_xo0_ : Fld Z h0 xo0_ "java/lang/AbstractStringBuilder" "value" "[B" (.ref uo1_)) (F_coder_xo0_ : Fld Z h0 xo0_ "java/lang/AbstractStringBuilder" "coder" "B" (.int (0 : Int32))) (F_count_xo0_ : Fld Z h0 xo0_ "java/lang/AbstractStringBuilder" "count" "I" (.int (9 : Int32))) (V_uo1_ : Arv Z h0 uo1_ k_uo1_ .byte (16 : Int32) [(.int ui2_), (.int (32 : Int32)), (.int (102 : Int32)), (.int (105 : Int32)), (.int (108 : Int32)), (.int (101 : Int32)), (.int (115 : Int32)), (.int (44 : Int32)), (.int (32 : Int32)), (.int (0 : Int32)), (.int (0 : Int32)), (.int (0 : Int32)), (.int (0 : Int32)), (.int (0 : Int32)), (.int (0 : Int32)), (.int (0 : Int32))] (.int (0 : Int32))) (X00 : Old Z n0 h0) (S_COMPACT_STRINGS : Sta Z Z.heap "java/lang/String" "COMPACT_STRINGS" "Z" (.int ui3_)) (S_DigitOnes : Sta Z Z.heap "java/lang/Integer" "DigitOnes" "[B" (.ref uo4_)) (V_uo4_ : Arv Z Z.heap uo4_ k_uo4_ .byte (100 : Int32) (own_ones.map Value.int) (.int (0 : Int32))) (hp0_ : ¬ (xj1_ < (0 : Int64))) (hp1_ : (-10 : Int64) < (-xj1_)) (hp2_ : ¬ (ui3_ = (0 : Int32))) (hp3_ : (-2147483648 : Int64) < (-xj1_)) (hp4_ : (-100 : Int32) < ((-xj1_).toInt32)) (hp5_ : own_inb xj1_) (hp6_ : ¬ (((-xj1_).toInt32) < (-9 : Int32))) (g_uo1_ : n0 ≤ uo1_) (g_xo0_ : n0 ≤ xo0_) :
    MetFree l (⟨"java/lang/StringBuilder", "append", "(J)Ljava/lang/StringBuilder;"⟩ : MethodName) (head1 (Jvm.Cond.code (⟨"java/lang/StringBuilder", "append", "(J)Ljava/lang/StringBuilder;"⟩ : MethodName) jdk_67_method_16_code 3 (some (.object "java/lang/StringBuilder")) :: ws) ({ frames := 2, cells := 0, slots := 0, locals := 38 } : Room)) (fun av_ U => av_ = #[(.ref xo0_), (.long xj1_)] ∧ Z.Warmed39 U.vm ∧ U.heap = h0) (fun _ _ _ _ _ => True) (fun _ U o U' => ∃ v L, o = .returned v ∧ QA16 Z xo0_ xj1_ uo1_ ui2_ k_uo1_ ui3_ uo4_ k_uo4_ h0 n0 v U'.heap L ∧ FrameEnd U o U' L ({ frames := 2, cells := 0, slots := 0, locals := 38 } : Room).cells ({ frames := 2, cells := 0, slots := 0, locals := 38 } : Room).slots) := by
  refine MetFree.of_bodySF (plainFor_of_name own_pn2) hisR ?_
  intro p e s m args below meth c s₁ Bd hml0 hP hK
  obtain ⟨rfl, hZ, hh⟩ := hP
  have hx := Bd.exec
  have hby := Bd.bytes
  have hml : c.maxLocals = 3 := hml0
  have hown : s.vm.findClass "java/lang/StringBuilder" = some m.cls := findClass_of_methodNamed Bd.named
  have hnm := (name_of_methodNamed Bd.named Bd.method).1
  have X0 : Stand p l e ({ frames := 2, cells := 0, slots := 0, locals := 38 } : Room) s m #[(.ref xo0_), (.long xj1_)] below meth c s₁ [] 0 0 := Stand.of_body Bd
  have e0 : s₁.heap = h0 := by rw [← hh, Bd.state]; rfl
  have N0 := Fr.nil n0
  have pre0 : ∀ t, Steps p.tables e below (s₁.setTop (mkF m 0 #[.val (.ref xo0_), .val (.long xj1_), .second] [])) t → Steps p.tables e below (s₁.setTop (entryFrame m #[(.ref xo0_), (.long xj1_)] 3)) t := fun t k => castTop (efA16 m xo0_ xj1_) k
  obtain ⟨_, _, ⟨T1, L1, k1, n1⟩, -, X1, ⟨Lc1, hQ1, l1, y1, z1⟩, st1⟩ := superBack X0 hx hZ (y := (⟨"java/lang/AbstractStringBuilder", "append", "(J)Ljava/lang/AbstractStringBuilder;"⟩ : MethodName)) hown (hw _ (List.mem_of_getElem? (i := 48) rfl)) (sameSelf (hw _ (List.mem_of_getElem? (i := 63) rfl)) rfl (hw _ (List.mem_of_getElem? (i := 49) rfl)) (by decide)) (hw _ (List.mem_of_getElem? (i := 49) rfl)) (hw _ (List.mem_of_getElem? (i := 50) rfl)) (by decide) (backOf (W := 0) (rmA17 l Z a0 hw [] xo0_ xj1_ uo1_ ui2_ k_uo1_ ui3_ uo4_ k_uo4_ h0 n0 Z0 E_xo0_ F_value_xo0_ F_coder_xo0_ F_count_xo0_ hp0_ hp1_ V_uo1_ X00 S_COMPACT_STRINGS hp2_ hp3_ hp4_ S_DigitOnes V_uo4_ hp5_ hp6_ g_uo1_ g_xo0_) hZ (hw _ (List.mem_of_getElem? (i := 52) rfl)) (hw _ (List.mem_of_getElem? (i := 33) rfl)) (by decide) (by decide)) e0 (Ins.self E_xo0_) (g := (mkF m 2 #[.val (.ref xo0_), .val (.long xj1_), .second] [(.long xj1_), (.ref xo0_)])) rfl (by rw [hml]; rfl) (hw _ (List.mem_of_getElem? (i := 52) rfl)) (argsL := [(.long xj1_)]) (rest := []) (lenOf own_pd5 rfl) rfl (by show 2 * 0 + _ ≤ _; exact Nat.le_of_eq rfl) (hb hby dA16_2) (fun _ _ => ⟨rfl, e0, (by decide : 0 + 0 ≤ _), (by decide : 0 + 0 ≤ _)⟩)
  dsimp only [Pt.U, Pt.locs, Pt.cells, Pt.slots] at X1 l1 y1 z1 st1 hQ1
  subst l1 y1 z1
  obtain ⟨rfl, Nq1, Kc1, q1_0, q1_1, q1_2, q1_3, q1_4⟩ := hQ1
  have K1 : Keep h0 T1.heap [xo0_, uo1_] := Keep.trans (Keep.refl h0 [xo0_, uo1_]) Kc1 (allS (Or.inl (List.mem_of_getElem? (i := 1) rfl)) (allS (Or.inl (List.mem_of_getElem? (i := 0) rfl)) all0))
  have Zs1 : n0 ≤ T1.heap.size := Nat.le_trans Z0 Kc1.1
  have N1 := Fr.app N0 Nq1
  obtain ⟨fs, hr, hrun, hended, hW, hsame⟩ := X1.leave (v := some (.ref xo0_)) (fun h => by rw [Bd.returns] at h; cases h)
  refine ⟨_, _, (pre0 _ ?_), hrun, hended, _, _, rfl, ?_, ⟨_, rfl⟩, hW, hsame.mono (by decide) (by decide)⟩
  · show Steps p.tables e below (s₁.setTop (mkF m 0 #[.val (.ref xo0_), .val (.long xj1_), .second] [])) _
    refine XS.aloadN X0.here hx rfl (hb hby dA16_0) rfl rfl ?_
    show Steps p.tables e below (s₁.setTop (mkF m 1 #[.val (.ref xo0_), .val (.long xj1_), .second] [(.ref xo0_)])) _
    refine XS.lloadN X0.here hx rfl (hb hby dA16_1) rfl ?_
    show Steps p.tables e below (s₁.setTop (mkF m 2 #[.val (.ref xo0_), .val (.long xj1_), .second] [(.long xj1_), (.ref xo0_)])) _
    refine st1.trans ?_
    show Steps p.tables e below (T1.setTop (mkF m 5 #[.val (.ref xo0_), .val (.long xj1_), .second] [(.ref xo0_)])) _
    refine XS.pop X1.here hx rfl (hb hby dA16_5) rfl rfl ?_
    show Steps p.tables e below (T1.setTop (mkF m 6 #[.val (.ref xo0_), .val (.long xj1_), .second] [])) _
    refine XS.aloadN X1.here hx rfl (hb hby dA16_6) rfl rfl ?_
    show Steps p.tables e below (T1.setTop (mkF m 7 #[.val (.ref xo0_), .val (.long xj1_), .second] [(.ref xo0_)])) _
    jvm_step X1.here [X1.here.top, hx, (hb hby dA16_7), X1.method', Bd.returns, Value.isRef, FieldType.isReference]
    first | (intro acts; rw [hr _ acts rfl rfl rfl]) | rw [hr _ _ rfl rfl rfl]
    exact Steps.refl _
  · show QA16 Z xo0_ xj1_ uo1_ ui2_ k_uo1_ ui3_ uo4_ k_uo4_ h0 n0 _ T1.heap _
    exact ⟨rfl, N1, K1, q1_1, q1_2, q1_3, q1_4, q1_0⟩
theorem dA23_0 : decode jdk_42_method_54_code 0 = .ok (.aload_n 0, 1) := by decide +kernel
theorem dA23_1 : decode jdk_42_method_54_code 1 = .ok (.getfield 9, 3) := by decide +kernel
theorem dA23_4 : decode jdk_42_method_54_code 4 = .ok (.arraylength, 1) := by decide +kernel
theorem dA23_5 : decode jdk_42_method_54_code 5 = .ok (.aload_n 0, 1) := by decide +kernel
theorem dA23_6 : decode jdk_42_method_54_code 6 = .ok (.invokevirtual 335, 3) := by decide +kernel
theorem dA23_9 : decode jdk_42_method_54_code 9 = .ok (.ishr, 1) := by decide +kernel
theorem dA23_10 : decode jdk_42_method_54_code 10 = .ok (.ireturn, 1) := by decide +kernel
theorem efA23 (m : MethodId) (xo0_ : Addr) : entryFrame m #[(.ref xo0_)] 1 = mkF m 0 #[.val (.ref xo0_)] [] := by first | (simp [entryFrame, mkF, argsToLocals, Value.category]; done) | rfl
def QA23 (Z : State) (xo0_ : Addr) (uo1_ : Addr) (k_uo1_ : ClassId) (ui2_ : Int32) (h0 : Heap) (n0 : Nat) (v : Option Value) (h : Heap) (L : List Loc) : Prop := v = some (.int (10 : Int32)) ∧ Fr n0 L ∧ h = h0
set_option maxRecDepth 65536 in
set_option maxHeartbeats 40000000 in
theorem rmA23 (l : Launch) (Z : State) (a0 : Array Value) (hw : ∀ d ∈ tables_1, d.before a0 Z = true) (ws : List Jvm.Cond) (xo0_ : Addr) (uo1_ : Addr) (k_uo1_ : ClassId) (ui2_ : Int32) (h0 : Heap) (n0 : Nat) (Z0 : n0 ≤ h0.size) (E_xo0_ : Exa Z h0 xo0_ "java/lang/String") (F_coder_xo0_ : Fld Z h0 xo0_ "java/lang/String" "coder" "B" (.int (0 : Int32))) (F_value_xo0_ : Fld Z h0 xo0_ "java/lang/String" "value" "[B" (.ref uo1_)) (V_uo1_ : Arv Z h0 uo1_ k_uo1_ .byte (10 : Int32) [(.int (32 : Int32)), (.int (102 : Int32)), (.int (111 : Int32)), (.int (108 : Int32)), (.int (100 : Int32)), (.int (101 : Int32)), (.int (114 : Int32)), (.int (115 : Int32)), (.int (44 : Int32)), (.int (32 : Int32))] (.int 0)) (X00 : Old Z n0 h0) (S_COMPACT_STRINGS : Sta Z Z.heap "java/lang/String" "COMPACT_STRINGS" "Z" (.int ui2_)) (hp0_ : ¬ (ui2_ = (0 : Int32))) :
    MetFree l (⟨"java/lang/String", "length", "()I"⟩ : MethodName) (head1 (Jvm.Cond.code (⟨"java/lang/String", "length", "()I"⟩ : MethodName) jdk_42_method_54_code 1 (some .int) :: ws) ({ frames := 1, cells := 0, slots := 0, locals := 13 } : Room)) (fun av_ U => av_ = #[(.ref xo0_)] ∧ Z.Warmed39 U.vm ∧ U.heap = h0) (fun _ _ _ _ _ => True) (fun _ U o U' => ∃ v L, o = .returned v ∧ QA23 Z xo0_ uo1_ k_uo1_ ui2_ h0 n0 v U'.heap L ∧ FrameEnd U o U' L ({ frames := 1, cells := 0, slots := 0, locals := 13 } : Room).cells ({ frames := 1, cells := 0, slots := 0, locals := 13 } : Room).slots) := by
  refine MetFree.of_bodySF (plainFor_of_name own_pn4) hisR ?_
  intro p e s m args below meth c s₁ Bd hml0 hP hK
  obtain ⟨rfl, hZ, hh⟩ := hP
  have hx := Bd.exec
  have hby := Bd.bytes
  have hml : c.maxLocals = 1 := hml0
  have hown : s.vm.findClass "java/lang/String" = some m.cls := findClass_of_methodNamed Bd.named
  have hnm := (name_of_methodNamed Bd.named Bd.method).1
  have X0 : Stand p l e ({ frames := 1, cells := 0, slots := 0, locals := 13 } : Room) s m #[(.ref xo0_)] below meth c s₁ [] 0 0 := Stand.of_body Bd
  have e0 : s₁.heap = h0 := by rw [← hh, Bd.state]; rfl
  have N0 := Fr.nil n0
  have pre0 : ∀ t, Steps p.tables e below (s₁.setTop (mkF m 0 #[.val (.ref xo0_)] [])) t → Steps p.tables e below (s₁.setTop (entryFrame m #[(.ref xo0_)] 1)) t := fun t k => castTop (efA23 m xo0_) k
  obtain ⟨T1, X1, e1, st1⟩ := getF X0 hx hZ hown (host := "") (Or.inl (hw _ (List.mem_of_getElem? (i := 96) rfl))) Via.refl e0 F_value_xo0_ (g := (mkF m 1 #[.val (.ref xo0_)] [(.ref xo0_)])) rfl rfl (hb hby dA23_1)
  obtain ⟨cl2, Ar2, q2, S2, M2, Hs2, G2⟩ := (id V_uo1_)
  obtain ⟨cq3, kq3, q3a, q3b, q3c⟩ := isOf hZ e1 E_xo0_
  obtain ⟨_, _, ⟨T3, L3, k3, n3⟩, -, X3, ⟨Lc3, hQ3, l3, y3, z3⟩, st3⟩ := X1.virtualBack hx (y := (⟨"java/lang/String", "coder", "()B"⟩ : MethodName)) (z := (⟨"java/lang/String", "coder", "()B"⟩ : MethodName)) hown (mvT hZ (hw _ (List.mem_of_getElem? (i := 97) rfl))) (mvT hZ (hw _ (List.mem_of_getElem? (i := 98) rfl))) (notFace_of_selects (args := #[]) (mvT hZ (hw _ (List.mem_of_getElem? (i := 100) rfl)))) (mvT hZ (hw _ (List.mem_of_getElem? (i := 100) rfl))) (mvT hZ (hw _ (List.mem_of_getElem? (i := 99) rfl))) (by decide) (backOf (W := 1) (rmA11 l Z a0 hw [] xo0_ uo1_ ui2_ h0 n0 Z0 E_xo0_ F_coder_xo0_ F_value_xo0_ X00 S_COMPACT_STRINGS hp0_) hZ (hw _ (List.mem_of_getElem? (i := 101) rfl)) (hw _ (List.mem_of_getElem? (i := 37) rfl)) (by decide) (by decide)) q3a q3c (g := (mkF m 6 #[.val (.ref xo0_)] [(.ref xo0_), (.int (10 : Int32))])) rfl (by rw [hml]; rfl) (Steps.refl _) (argsL := []) (rest := [(.int (10 : Int32))]) (lenOf own_pd7 rfl) rfl (by show 2 * 0 + _ ≤ _; exact Nat.le_of_eq rfl) (hb hby dA23_6) (fun _ _ => ⟨rfl, e1, (by decide : 0 + 0 ≤ _), (by decide : 0 + 0 ≤ _)⟩)
  dsimp only [Pt.U, Pt.locs, Pt.cells, Pt.slots] at X3 l3 y3 z3 st3 hQ3
  subst l3 y3 z3
  obtain ⟨rfl, Nq3, e3⟩ := hQ3
  have N3 := Fr.app N0 Nq3
  obtain ⟨fs, hr, hrun, hended, hW, hsame⟩ := X3.leave (v := some (.int (10 : Int32))) (fun h => by rw [Bd.returns] at h; cases h)
  refine ⟨_, _, (pre0 _ ?_), hrun, hended, _, _, rfl, ?_, ⟨_, rfl⟩, hW, hsame.mono (by decide) (by decide)⟩
  · show Steps p.tables e below (s₁.setTop (mkF m 0 #[.val (.ref xo0_)] [])) _
    refine XS.aloadN X0.here hx rfl (hb hby dA23_0) rfl rfl ?_
    show Steps p.tables e below (s₁.setTop (mkF m 1 #[.val (.ref xo0_)] [(.ref xo0_)])) _
    refine st1 _ ?_
    show Steps p.tables e below (T1.setTop (mkF m 4 #[.val (.ref xo0_)] [(.ref uo1_)])) _
    refine X1.arraylength hx (by rw [e1]; exact Ar2.1) (State.isArrayOf_alike hZ.alike Ar2.2.1) (g := (mkF m 4 #[.val (.ref xo0_)] [(.ref uo1_)])) rfl rfl (hb hby dA23_4) _ ?_
    rw [len_of S2 M2]
    show Steps p.tables e below (T1.setTop (mkF m 5 #[.val (.ref xo0_)] [(.int (10 : Int32))])) _
    refine XS.aloadN X1.here hx rfl (hb hby dA23_5) rfl rfl ?_
    show Steps p.tables e below (T1.setTop (mkF m 6 #[.val (.ref xo0_)] [(.ref xo0_), (.int (10 : Int32))])) _
    refine st3.trans ?_
    show Steps p.tables e below (T3.setTop (mkF m 9 #[.val (.ref xo0_)] [(.int (0 : Int32)), (.int (10 : Int32))])) _
    refine XS.ishr X3.here hx rfl (hb hby dA23_9) rfl ?_
    rw [show ((10 : Int32) >>> ((0 : Int32) &&& 31)) = (10 : Int32) from by decide]
    show Steps p.tables e below (T3.setTop (mkF m 10 #[.val (.ref xo0_)] [(.int (10 : Int32))])) _
    exact retI X3 hx Bd.returns (hb hby dA23_10) hr
  · show QA23 Z xo0_ uo1_ k_uo1_ ui2_ h0 n0 _ T3.heap _
    rw [e3]
    exact ⟨rfl, N3, rfl⟩
theorem dA27_0 : decode jdk_29_method_65_code 0 = .ok (.iload_n 0, 1) := by decide +kernel
theorem dA27_1 : decode jdk_29_method_65_code 1 = .ok (.iload_n 1, 1) := by decide +kernel
theorem dA27_2 : decode jdk_29_method_65_code 2 = .ok (.if_icmp .lt 7, 3) := by decide +kernel
theorem dA27_9 : decode jdk_29_method_65_code 9 = .ok (.iload_n 1, 1) := by decide +kernel
theorem dA27_10 : decode jdk_29_method_65_code 10 = .ok (.ireturn, 1) := by decide +kernel
theorem efA27 (m : MethodId)  : entryFrame m #[(.int (4 : Int32)), (.int (18 : Int32))] 2 = mkF m 0 #[.val (.int (4 : Int32)), .val (.int (18 : Int32))] [] := by first | (simp [entryFrame, mkF, argsToLocals, Value.category]; done) | rfl
def QA27 (Z : State)  (h0 : Heap) (n0 : Nat) (v : Option Value) (h : Heap) (L : List Loc) : Prop := v = some (.int (18 : Int32)) ∧ Fr n0 L ∧ h = h0
set_option maxRecDepth 65536 in
set_option maxHeartbeats 40000000 in
theorem rmA27 (l : Launch) (Z : State) (a0 : Array Value) (hw : ∀ d ∈ tables_1, d.before a0 Z = true) (ws : List Jvm.Cond)  (h0 : Heap) (n0 : Nat) (Z0 : n0 ≤ h0.size) :
    MetFree l (⟨"java/lang/Math", "max", "(II)I"⟩ : MethodName) (head1 (Jvm.Cond.code (⟨"java/lang/Math", "max", "(II)I"⟩ : MethodName) jdk_29_method_65_code 2 (some .int) :: ws) ({ frames := 0, cells := 0, slots := 0, locals := 0 } : Room)) (fun av_ U => av_ = #[(.int (4 : Int32)), (.int (18 : Int32))] ∧ Z.Warmed39 U.vm ∧ U.heap = h0) (fun _ _ _ _ _ => True) (fun _ U o U' => ∃ v L, o = .returned v ∧ QA27 Z  h0 n0 v U'.heap L ∧ FrameEnd U o U' L ({ frames := 0, cells := 0, slots := 0, locals := 0 } : Room).cells ({ frames := 0, cells := 0, slots := 0, locals := 0 } : Room).slots) := by
  refine MetFree.of_bodySF (Jvm.Free.JP.mathPlain rfl (by decide +kernel)) hisR ?_
  intro p e s m args below meth c s₁ Bd hml0 hP hK
  obtain ⟨rfl, hZ, hh⟩ := hP
  have hx := Bd.exec
  have hby := Bd.bytes
  have hml : c.maxLocals = 2 := hml0
  have hown : s.vm.findClass "java/lang/Math" = some m.cls := findClass_of_methodNamed Bd.named
  have hnm := (name_of_methodNamed Bd.named Bd.method).1
  have X0 : Stand p l e ({ frames := 0, cells := 0, slots := 0, locals := 0 } : Room) s m #[(.int (4 : Int32)), (.int (18 : Int32))] below meth c s₁ [] 0 0 := Stand.of_body Bd
  have e0 : s₁.heap = h0 := by rw [← hh, Bd.state]; rfl
  have N0 := Fr.nil n0
  have pre0 : ∀ t, Steps p.tables e below (s₁.setTop (mkF m 0 #[.val (.int (4 : Int32)), .val (.int (18 : Int32))] [])) t → Steps p.tables e below (s₁.setTop (entryFrame m #[(.int (4 : Int32)), (.int (18 : Int32))] 2)) t := fun t k => castTop (efA27 m ) k
  obtain ⟨fs, hr, hrun, hended, hW, hsame⟩ := X0.leave (v := some (.int (18 : Int32))) (fun h => by rw [Bd.returns] at h; cases h)
  refine ⟨_, _, (pre0 _ ?_), hrun, hended, _, _, rfl, ?_, ⟨_, rfl⟩, hW, hsame.mono (by decide) (by decide)⟩
  · show Steps p.tables e below (s₁.setTop (mkF m 0 #[.val (.int (4 : Int32)), .val (.int (18 : Int32))] [])) _
    refine XS.iloadN X0.here hx rfl (hb hby dA27_0) rfl ?_
    show Steps p.tables e below (s₁.setTop (mkF m 1 #[.val (.int (4 : Int32)), .val (.int (18 : Int32))] [(.int (4 : Int32))])) _
    refine XS.iloadN X0.here hx rfl (hb hby dA27_1) rfl ?_
    show Steps p.tables e below (s₁.setTop (mkF m 2 #[.val (.int (4 : Int32)), .val (.int (18 : Int32))] [(.int (18 : Int32)), (.int (4 : Int32))])) _
    refine XS.icmpYes X0.here hx rfl (pc0 := 2) (pc' := 9) rfl (hb hby dA27_2) rfl (tlt (by decide : (4 : Int32) < (18 : Int32))).1 (by decide) (by decide) ?_
    show Steps p.tables e below (s₁.setTop (mkF m 9 #[.val (.int (4 : Int32)), .val (.int (18 : Int32))] [])) _
    refine XS.iloadN X0.here hx rfl (hb hby dA27_9) rfl ?_
    show Steps p.tables e below (s₁.setTop (mkF m 10 #[.val (.int (4 : Int32)), .val (.int (18 : Int32))] [(.int (18 : Int32))])) _
    exact retI X0 hx Bd.returns (hb hby dA27_10) hr
  · show QA27 Z  h0 n0 _ s₁.heap _
    rw [e0]
    exact ⟨rfl, N0, rfl⟩
theorem own_pd14 : parseMethodDescriptor "(II)I" = some ⟨[.int, .int], some .int⟩ := by decide +kernel
theorem own_pn5 : plainName "jdk/internal/util/ArraysSupport" = true := by first | (simp [plainName, overriddenIn]; done) | decide +kernel
theorem dA26_0 : decode jdk_48_method_27_code 0 = .ok (.iload_n 0, 1) := by decide +kernel
theorem dA26_1 : decode jdk_48_method_27_code 1 = .ok (.iload_n 1, 1) := by decide +kernel
theorem dA26_2 : decode jdk_48_method_27_code 2 = .ok (.iload_n 2, 1) := by decide +kernel
theorem dA26_3 : decode jdk_48_method_27_code 3 = .ok (.invokestatic 194, 3) := by decide +kernel
theorem dA26_6 : decode jdk_48_method_27_code 6 = .ok (.iadd, 1) := by decide +kernel
theorem dA26_7 : decode jdk_48_method_27_code 7 = .ok (.istore_n 3, 1) := by decide +kernel
theorem dA26_8 : decode jdk_48_method_27_code 8 = .ok (.iconst 0, 1) := by decide +kernel
theorem dA26_9 : decode jdk_48_method_27_code 9 = .ok (.iload_n 3, 1) := by decide +kernel
theorem dA26_10 : decode jdk_48_method_27_code 10 = .ok (.if_icmp .ge 11, 3) := by decide +kernel
theorem dA26_13 : decode jdk_48_method_27_code 13 = .ok (.iload_n 3, 1) := by decide +kernel
theorem dA26_14 : decode jdk_48_method_27_code 14 = .ok (.ldc 200, 2) := by decide +kernel
theorem dA26_16 : decode jdk_48_method_27_code 16 = .ok (.if_icmp .gt 5, 3) := by decide +kernel
theorem dA26_19 : decode jdk_48_method_27_code 19 = .ok (.iload_n 3, 1) := by decide +kernel
theorem dA26_20 : decode jdk_48_method_27_code 20 = .ok (.ireturn, 1) := by decide +kernel
theorem efA26 (m : MethodId)  : entryFrame m #[(.int (16 : Int32)), (.int (4 : Int32)), (.int (18 : Int32))] 4 = mkF m 0 #[.val (.int (16 : Int32)), .val (.int (4 : Int32)), .val (.int (18 : Int32)), .unset] [] := by first | (simp [entryFrame, mkF, argsToLocals, Value.category]; done) | rfl
def QA26 (Z : State)  (h0 : Heap) (n0 : Nat) (v : Option Value) (h : Heap) (L : List Loc) : Prop := v = some (.int (34 : Int32)) ∧ Fr n0 L ∧ h = h0
set_option maxRecDepth 65536 in
set_option maxHeartbeats 40000000 in
theorem rmA26 (l : Launch) (Z : State) (a0 : Array Value) (hw : ∀ d ∈ tables_1, d.before a0 Z = true) (ws : List Jvm.Cond)  (h0 : Heap) (n0 : Nat) (Z0 : n0 ≤ h0.size) :
    MetFree l (⟨"jdk/internal/util/ArraysSupport", "newLength", "(III)I"⟩ : MethodName) (head1 (Jvm.Cond.code (⟨"jdk/internal/util/ArraysSupport", "newLength", "(III)I"⟩ : MethodName) jdk_48_method_27_code 4 (some .int) :: ws) ({ frames := 1, cells := 0, slots := 0, locals := 14 } : Room)) (fun av_ U => av_ = #[(.int (16 : Int32)), (.int (4 : Int32)), (.int (18 : Int32))] ∧ Z.Warmed39 U.vm ∧ U.heap = h0) (fun _ _ _ _ _ => True) (fun _ U o U' => ∃ v L, o = .returned v ∧ QA26 Z  h0 n0 v U'.heap L ∧ FrameEnd U o U' L ({ frames := 1, cells := 0, slots := 0, locals := 14 } : Room).cells ({ frames := 1, cells := 0, slots := 0, locals := 14 } : Room).slots) := by
  refine MetFree.of_bodySF (plainFor_of_name own_pn5) hisR ?_
  intro p e s m args below meth c s₁ Bd hml0 hP hK
  obtain ⟨rfl, hZ, hh⟩ := hP
  have hx := Bd.exec
  have hby := Bd.bytes
  have hml : c.maxLocals = 4 := hml0
  have hown : s.vm.findClass "jdk/internal/util/ArraysSupport" = some m.cls := findClass_of_methodNamed Bd.named
  have hnm := (name_of_methodNamed Bd.named Bd.method).1
  have X0 : Stand p l e ({ frames := 1, cells := 0, slots := 0, locals := 14 } : Room) s m #[(.int (16 : Int32)), (.int (4 : Int32)), (.int (18 : Int32))] below meth c s₁ [] 0 0 := Stand.of_body Bd
  have e0 : s₁.heap = h0 := by rw [← hh, Bd.state]; rfl
  have N0 := Fr.nil n0
  have pre0 : ∀ t, Steps p.tables e below (s₁.setTop (mkF m 0 #[.val (.int (16 : Int32)), .val (.int (4 : Int32)), .val (.int (18 : Int32)), .unset] [])) t → Steps p.tables e below (s₁.setTop (entryFrame m #[(.int (16 : Int32)), (.int (4 : Int32)), (.int (18 : Int32))] 4)) t := fun t k => castTop (efA26 m ) k
  obtain ⟨_, _, ⟨T1, L1, k1, n1⟩, -, X1, ⟨Lc1, hQ1, l1, y1, z1⟩, st1⟩ := Jvm.LawKit.callS X0 hx (y := (⟨"java/lang/Math", "max", "(II)I"⟩ : MethodName)) hown (mvT hZ (hw _ (List.mem_of_getElem? (i := 136) rfl))) (mvT hZ (hw _ (List.mem_of_getElem? (i := 137) rfl))) (mvT hZ (hw _ (List.mem_of_getElem? (i := 138) rfl))) (mvT hZ (hw _ (List.mem_of_getElem? (i := 139) rfl))) (by decide) (backOf (W := 1) (rmA27 l Z a0 hw []  h0 n0 Z0 ) hZ (hw _ (List.mem_of_getElem? (i := 139) rfl)) (hw _ (List.mem_of_getElem? (i := 138) rfl)) (by decide) (by decide)) (g := (mkF m 3 #[.val (.int (16 : Int32)), .val (.int (4 : Int32)), .val (.int (18 : Int32)), .unset] [(.int (18 : Int32)), (.int (4 : Int32)), (.int (16 : Int32))])) rfl (by rw [hml]; rfl) (argsL := [(.int (4 : Int32)), (.int (18 : Int32))]) (rest := [(.int (16 : Int32))]) (lenOf own_pd14 rfl) rfl (by show 2 * 0 + _ ≤ _; exact Nat.le_of_eq rfl) (hb hby dA26_3) (fun _ _ => ⟨rfl, e0, (by decide : 0 + 0 ≤ _), (by decide : 0 + 0 ≤ _)⟩)
  dsimp only [Pt.U, Pt.locs, Pt.cells, Pt.slots] at X1 l1 y1 z1 st1 hQ1
  subst l1 y1 z1
  obtain ⟨rfl, Nq1, e1⟩ := hQ1
  have N1 := Fr.app N0 Nq1
  obtain ⟨fs, hr, hrun, hended, hW, hsame⟩ := X1.leave (v := some (.int (34 : Int32))) (fun h => by rw [Bd.returns] at h; cases h)
  refine ⟨_, _, (pre0 _ ?_), hrun, hended, _, _, rfl, ?_, ⟨_, rfl⟩, hW, hsame.mono (by decide) (by decide)⟩
  · show Steps p.tables e below (s₁.setTop (mkF m 0 #[.val (.int (16 : Int32)), .val (.int (4 : Int32)), .val (.int (18 : Int32)), .unset] [])) _
    refine XS.iloadN X0.here hx rfl (hb hby dA26_0) rfl ?_
    show Steps p.tables e below (s₁.setTop (mkF m 1 #[.val (.int (16 : Int32)), .val (.int (4 : Int32)), .val (.int (18 : Int32)), .unset] [(.int (16 : Int32))])) _
    refine XS.iloadN X0.here hx rfl (hb hby dA26_1) rfl ?_
    show Steps p.tables e below (s₁.setTop (mkF m 2 #[.val (.int (16 : Int32)), .val (.int (4 : Int32)), .val (.int (18 : Int32)), .unset] [(.int (4 : Int32)), (.int (16 : Int32))])) _
    refine XS.iloadN X0.here hx rfl (hb hby dA26_2) rfl ?_
    show Steps p.tables e below (s₁.setTop (mkF m 3 #[.val (.int (16 : Int32)), .val (.int (4 : Int32)), .val (.int (18 : Int32)), .unset] [(.int (18 : Int32)), (.int (4 : Int32)), (.int (16 : Int32))])) _
    refine st1 _ ?_
    show Steps p.tables e below (T1.setTop (mkF m 6 #[.val (.int (16 : Int32)), .val (.int (4 : Int32)), .val (.int (18 : Int32)), .unset] [(.int (18 : Int32)), (.int (16 : Int32))])) _
    refine XS.iadd X1.here hx rfl (hb hby dA26_6) rfl ?_
    show Steps p.tables e below (T1.setTop (mkF m 7 #[.val (.int (16 : Int32)), .val (.int (4 : Int32)), .val (.int (18 : Int32)), .unset] [(.int (34 : Int32))])) _
    refine XS.istoreN X1.here hx rfl (hb hby dA26_7) rfl (l' := #[.val (.int (16 : Int32)), .val (.int (4 : Int32)), .val (.int (18 : Int32)), .val (.int (34 : Int32))]) rfl ?_
    show Steps p.tables e below (T1.setTop (mkF m 8 #[.val (.int (16 : Int32)), .val (.int (4 : Int32)), .val (.int (18 : Int32)), .val (.int (34 : Int32))] [])) _
    refine XS.iconst X1.here hx rfl (hb hby dA26_8) ?_
    show Steps p.tables e below (T1.setTop (mkF m 9 #[.val (.int (16 : Int32)), .val (.int (4 : Int32)), .val (.int (18 : Int32)), .val (.int (34 : Int32))] [(.int (0 : Int32))])) _
    refine XS.iloadN X1.here hx rfl (hb hby dA26_9) rfl ?_
    show Steps p.tables e below (T1.setTop (mkF m 10 #[.val (.int (16 : Int32)), .val (.int (4 : Int32)), .val (.int (18 : Int32)), .val (.int (34 : Int32))] [(.int (34 : Int32)), (.int (0 : Int32))])) _
    refine XS.icmpNo X1.here hx rfl (hb hby dA26_10) rfl (tlt (by decide : (0 : Int32) < (34 : Int32))).2.1 ?_
    show Steps p.tables e below (T1.setTop (mkF m 13 #[.val (.int (16 : Int32)), .val (.int (4 : Int32)), .val (.int (18 : Int32)), .val (.int (34 : Int32))] [])) _
    refine XS.iloadN X1.here hx rfl (hb hby dA26_13) rfl ?_
    show Steps p.tables e below (T1.setTop (mkF m 14 #[.val (.int (16 : Int32)), .val (.int (4 : Int32)), .val (.int (18 : Int32)), .val (.int (34 : Int32))] [(.int (34 : Int32))])) _
    refine X1.ldcInt hx hown (mvT hZ (hw _ (List.mem_of_getElem? (i := 140) rfl))) (g := (mkF m 14 #[.val (.int (16 : Int32)), .val (.int (4 : Int32)), .val (.int (18 : Int32)), .val (.int (34 : Int32))] [(.int (34 : Int32))])) rfl (hb hby dA26_14) _ ?_
    show Steps p.tables e below (T1.setTop (mkF m 16 #[.val (.int (16 : Int32)), .val (.int (4 : Int32)), .val (.int (18 : Int32)), .val (.int (34 : Int32))] [(.int (2147483639 : Int32)), (.int (34 : Int32))])) _
    refine XS.icmpNo X1.here hx rfl (hb hby dA26_16) rfl (flt (by decide : ¬ ((2147483639 : Int32) < (34 : Int32)))).2.2.1 ?_
    show Steps p.tables e below (T1.setTop (mkF m 19 #[.val (.int (16 : Int32)), .val (.int (4 : Int32)), .val (.int (18 : Int32)), .val (.int (34 : Int32))] [])) _
    refine XS.iloadN X1.here hx rfl (hb hby dA26_19) rfl ?_
    show Steps p.tables e below (T1.setTop (mkF m 20 #[.val (.int (16 : Int32)), .val (.int (4 : Int32)), .val (.int (18 : Int32)), .val (.int (34 : Int32))] [(.int (34 : Int32))])) _
    exact retI X1 hx Bd.returns (hb hby dA26_20) hr
  · show QA26 Z  h0 n0 _ T1.heap _
    rw [e1]
    exact ⟨rfl, N1, rfl⟩
theorem own_pd15 : parseMethodDescriptor "(III)I" = some ⟨[.int, .int, .int], some .int⟩ := by decide +kernel
theorem dA25_0 : decode jdk_68_method_10_code 0 = .ok (.aload_n 0, 1) := by decide +kernel
theorem dA25_1 : decode jdk_68_method_10_code 1 = .ok (.getfield 15, 3) := by decide +kernel
theorem dA25_4 : decode jdk_68_method_10_code 4 = .ok (.arraylength, 1) := by decide +kernel
theorem dA25_5 : decode jdk_68_method_10_code 5 = .ok (.istore_n 2, 1) := by decide +kernel
theorem dA25_6 : decode jdk_68_method_10_code 6 = .ok (.iload_n 1, 1) := by decide +kernel
theorem dA25_7 : decode jdk_68_method_10_code 7 = .ok (.aload_n 0, 1) := by decide +kernel
theorem dA25_8 : decode jdk_68_method_10_code 8 = .ok (.getfield 22, 3) := by decide +kernel
theorem dA25_11 : decode jdk_68_method_10_code 11 = .ok (.ishl, 1) := by decide +kernel
theorem dA25_12 : decode jdk_68_method_10_code 12 = .ok (.istore_n 3, 1) := by decide +kernel
theorem dA25_13 : decode jdk_68_method_10_code 13 = .ok (.iload_n 3, 1) := by decide +kernel
theorem dA25_14 : decode jdk_68_method_10_code 14 = .ok (.iload_n 2, 1) := by decide +kernel
theorem dA25_15 : decode jdk_68_method_10_code 15 = .ok (.isub, 1) := by decide +kernel
theorem dA25_16 : decode jdk_68_method_10_code 16 = .ok (.istore 4, 2) := by decide +kernel
theorem dA25_18 : decode jdk_68_method_10_code 18 = .ok (.iload_n 2, 1) := by decide +kernel
theorem dA25_19 : decode jdk_68_method_10_code 19 = .ok (.iload 4, 2) := by decide +kernel
theorem dA25_21 : decode jdk_68_method_10_code 21 = .ok (.iload_n 2, 1) := by decide +kernel
theorem dA25_22 : decode jdk_68_method_10_code 22 = .ok (.iconst 2, 1) := by decide +kernel
theorem dA25_23 : decode jdk_68_method_10_code 23 = .ok (.aload_n 0, 1) := by decide +kernel
theorem dA25_24 : decode jdk_68_method_10_code 24 = .ok (.getfield 22, 3) := by decide +kernel
theorem dA25_27 : decode jdk_68_method_10_code 27 = .ok (.ishl, 1) := by decide +kernel
theorem dA25_28 : decode jdk_68_method_10_code 28 = .ok (.iadd, 1) := by decide +kernel
theorem dA25_29 : decode jdk_68_method_10_code 29 = .ok (.invokestatic 114, 3) := by decide +kernel
theorem dA25_32 : decode jdk_68_method_10_code 32 = .ok (.istore 5, 2) := by decide +kernel
theorem dA25_34 : decode jdk_68_method_10_code 34 = .ok (.iload 5, 2) := by decide +kernel
theorem dA25_36 : decode jdk_68_method_10_code 36 = .ok (.ldc 39, 2) := by decide +kernel
theorem dA25_38 : decode jdk_68_method_10_code 38 = .ok (.if_icmp .ne 13, 3) := by decide +kernel
theorem dA25_51 : decode jdk_68_method_10_code 51 = .ok (.iload 5, 2) := by decide +kernel
theorem dA25_53 : decode jdk_68_method_10_code 53 = .ok (.aload_n 0, 1) := by decide +kernel
theorem dA25_54 : decode jdk_68_method_10_code 54 = .ok (.getfield 22, 3) := by decide +kernel
theorem dA25_57 : decode jdk_68_method_10_code 57 = .ok (.ishr, 1) := by decide +kernel
theorem dA25_58 : decode jdk_68_method_10_code 58 = .ok (.ireturn, 1) := by decide +kernel
theorem efA25 (m : MethodId) (xo0_ : Addr) : entryFrame m #[(.ref xo0_), (.int (20 : Int32))] 6 = mkF m 0 #[.val (.ref xo0_), .val (.int (20 : Int32)), .unset, .unset, .unset, .unset] [] := by first | (simp [entryFrame, mkF, argsToLocals, Value.category]; done) | rfl
def QA25 (Z : State) (xo0_ : Addr) (uo1_ : Addr) (ui2_ : Int32) (ui3_ : Int32) (k_uo1_ : ClassId) (h0 : Heap) (n0 : Nat) (v : Option Value) (h : Heap) (L : List Loc) : Prop := v = some (.int (34 : Int32)) ∧ Fr n0 L ∧ h = h0
set_option maxRecDepth 65536 in
set_option maxHeartbeats 40000000 in
theorem rmA25 (l : Launch) (Z : State) (a0 : Array Value) (hw : ∀ d ∈ tables_1, d.before a0 Z = true) (ws : List Jvm.Cond) (xo0_ : Addr) (uo1_ : Addr) (ui2_ : Int32) (ui3_ : Int32) (k_uo1_ : ClassId) (h0 : Heap) (n0 : Nat) (Z0 : n0 ≤ h0.size) (E_xo0_ : Exa Z h0 xo0_ "java/lang/StringBuilder") (F_value_xo0_ : Fld Z h0 xo0_ "java/lang/AbstractStringBuilder" "value" "[B" (.ref uo1_)) (F_coder_xo0_ : Fld Z h0 xo0_ "java/lang/AbstractStringBuilder" "coder" "B" (.int (0 : Int32))) (F_count_xo0_ : Fld Z h0 xo0_ "java/lang/AbstractStringBuilder" "count" "I" (.int (10 : Int32))) (V_uo1_ : Arv Z h0 uo1_ k_uo1_ .byte (16 : Int32) [(.int ui2_), (.int (32 : Int32)), (.int (102 : Int32)), (.int (105 : Int32)), (.int (108 : Int32)), (.int (101 : Int32)), (.int (115 : Int32)), (.int (44 : Int32)), (.int (32 : Int32)), (.int ui3_), (.int (0 : Int32)), (.int (0 : Int32)), (.int (0 : Int32)), (.int (0 : Int32)), (.int (0 : Int32)), (.int (0 : Int32))] (.int (0 : Int32))) :
    MetFree l (⟨"java/lang/AbstractStringBuilder", "newCapacity", "(I)I"⟩ : MethodName) (head1 (Jvm.Cond.code (⟨"java/lang/AbstractStringBuilder", "newCapacity", "(I)I"⟩ : MethodName) jdk_68_method_10_code 6 (some .int) :: ws) ({ frames := 2, cells := 0, slots := 0, locals := 29 } : Room)) (fun av_ U => av_ = #[(.ref xo0_), (.int (20 : Int32))] ∧ Z.Warmed39 U.vm ∧ U.heap = h0) (fun _ _ _ _ _ => True) (fun _ U o U' => ∃ v L, o = .returned v ∧ QA25 Z xo0_ uo1_ ui2_ ui3_ k_uo1_ h0 n0 v U'.heap L ∧ FrameEnd U o U' L ({ frames := 2, cells := 0, slots := 0, locals := 29 } : Room).cells ({ frames := 2, cells := 0, slots := 0, locals := 29 } : Room).slots) := by
  refine MetFree.of_bodySF (plainFor_of_name own_pn1) hisR ?_
  intro p e s m args below meth c s₁ Bd hml0 hP hK
  obtain ⟨rfl, hZ, hh⟩ := hP
  have hx := Bd.exec
  have hby := Bd.bytes
  have hml : c.maxLocals = 6 := hml0
  have hown : s.vm.findClass "java/lang/AbstractStringBuilder" = some m.cls := findClass_of_methodNamed Bd.named
  have hnm := (name_of_methodNamed Bd.named Bd.method).1
  have X0 : Stand p l e ({ frames := 2, cells := 0, slots := 0, locals := 29 } : Room) s m #[(.ref xo0_), (.int (20 : Int32))] below meth c s₁ [] 0 0 := Stand.of_body Bd
  have e0 : s₁.heap = h0 := by rw [← hh, Bd.state]; rfl
  have N0 := Fr.nil n0
  have pre0 : ∀ t, Steps p.tables e below (s₁.setTop (mkF m 0 #[.val (.ref xo0_), .val (.int (20 : Int32)), .unset, .unset, .unset, .unset] [])) t → Steps p.tables e below (s₁.setTop (entryFrame m #[(.ref xo0_), (.int (20 : Int32))] 6)) t := fun t k => castTop (efA25 m xo0_) k
  obtain ⟨T1, X1, e1, st1⟩ := getF X0 hx hZ hown (host := "") (Or.inl (hw _ (List.mem_of_getElem? (i := 39) rfl))) Via.refl e0 F_value_xo0_ (g := (mkF m 1 #[.val (.ref xo0_), .val (.int (20 : Int32)), .unset, .unset, .unset, .unset] [(.ref xo0_)])) rfl rfl (hb hby dA25_1)
  obtain ⟨cl2, Ar2, q2, S2, M2, Hs2, G2⟩ := (id V_uo1_)
  obtain ⟨T3, X3, e3, st3⟩ := getF X1 hx hZ hown (host := "") (Or.inl (hw _ (List.mem_of_getElem? (i := 41) rfl))) Via.refl e1 F_coder_xo0_ (g := (mkF m 8 #[.val (.ref xo0_), .val (.int (20 : Int32)), .val (.int (16 : Int32)), .unset, .unset, .unset] [(.ref xo0_), (.int (20 : Int32))])) rfl rfl (hb hby dA25_8)
  obtain ⟨T4, X4, e4, st4⟩ := getF X3 hx hZ hown (host := "") (Or.inl (hw _ (List.mem_of_getElem? (i := 41) rfl))) Via.refl e3 F_coder_xo0_ (g := (mkF m 24 #[.val (.ref xo0_), .val (.int (20 : Int32)), .val (.int (16 : Int32)), .val (.int (20 : Int32)), .val (.int (4 : Int32)), .unset] [(.ref xo0_), (.int (2 : Int32)), (.int (16 : Int32)), (.int (4 : Int32)), (.int (16 : Int32))])) rfl rfl (hb hby dA25_24)
  obtain ⟨_, _, ⟨T5, L5, k5, n5⟩, -, X5, ⟨Lc5, hQ5, l5, y5, z5⟩, st5⟩ := Jvm.LawKit.callS X4 hx (y := (⟨"jdk/internal/util/ArraysSupport", "newLength", "(III)I"⟩ : MethodName)) hown (mvT hZ (hw _ (List.mem_of_getElem? (i := 132) rfl))) (mvT hZ (hw _ (List.mem_of_getElem? (i := 133) rfl))) (mvT hZ (hw _ (List.mem_of_getElem? (i := 134) rfl))) (mvT hZ (hw _ (List.mem_of_getElem? (i := 135) rfl))) (by decide) (backOf (W := 0) (rmA26 l Z a0 hw []  h0 n0 Z0 ) hZ (hw _ (List.mem_of_getElem? (i := 135) rfl)) (hw _ (List.mem_of_getElem? (i := 134) rfl)) (by decide) (by decide)) (g := (mkF m 29 #[.val (.ref xo0_), .val (.int (20 : Int32)), .val (.int (16 : Int32)), .val (.int (20 : Int32)), .val (.int (4 : Int32)), .unset] [(.int (18 : Int32)), (.int (4 : Int32)), (.int (16 : Int32))])) rfl (by rw [hml]; rfl) (argsL := [(.int (16 : Int32)), (.int (4 : Int32)), (.int (18 : Int32))]) (rest := []) (lenOf own_pd15 rfl) rfl (by show 2 * 0 + _ ≤ _; exact Nat.le_of_eq rfl) (hb hby dA25_29) (fun _ _ => ⟨rfl, e4, (by decide : 0 + 0 ≤ _), (by decide : 0 + 0 ≤ _)⟩)
  dsimp only [Pt.U, Pt.locs, Pt.cells, Pt.slots] at X5 l5 y5 z5 st5 hQ5
  subst l5 y5 z5
  obtain ⟨rfl, Nq5, e5⟩ := hQ5
  have N5 := Fr.app N0 Nq5
  obtain ⟨T6, X6, e6, st6⟩ := getF X5 hx hZ hown (host := "") (Or.inl (hw _ (List.mem_of_getElem? (i := 41) rfl))) Via.refl e5 F_coder_xo0_ (g := (mkF m 54 #[.val (.ref xo0_), .val (.int (20 : Int32)), .val (.int (16 : Int32)), .val (.int (20 : Int32)), .val (.int (4 : Int32)), .val (.int (34 : Int32))] [(.ref xo0_), (.int (34 : Int32))])) rfl rfl (hb hby dA25_54)
  obtain ⟨fs, hr, hrun, hended, hW, hsame⟩ := X6.leave (v := some (.int (34 : Int32))) (fun h => by rw [Bd.returns] at h; cases h)
  refine ⟨_, _, (pre0 _ ?_), hrun, hended, _, _, rfl, ?_, ⟨_, rfl⟩, hW, hsame.mono (by decide) (by decide)⟩
  · show Steps p.tables e below (s₁.setTop (mkF m 0 #[.val (.ref xo0_), .val (.int (20 : Int32)), .unset, .unset, .unset, .unset] [])) _
    refine XS.aloadN X0.here hx rfl (hb hby dA25_0) rfl rfl ?_
    show Steps p.tables e below (s₁.setTop (mkF m 1 #[.val (.ref xo0_), .val (.int (20 : Int32)), .unset, .unset, .unset, .unset] [(.ref xo0_)])) _
    refine st1 _ ?_
    show Steps p.tables e below (T1.setTop (mkF m 4 #[.val (.ref xo0_), .val (.int (20 : Int32)), .unset, .unset, .unset, .unset] [(.ref uo1_)])) _
    refine X1.arraylength hx (by rw [e1]; exact Ar2.1) (State.isArrayOf_alike hZ.alike Ar2.2.1) (g := (mkF m 4 #[.val (.ref xo0_), .val (.int (20 : Int32)), .unset, .unset, .unset, .unset] [(.ref uo1_)])) rfl rfl (hb hby dA25_4) _ ?_
    rw [len_of S2 M2]
    show Steps p.tables e below (T1.setTop (mkF m 5 #[.val (.ref xo0_), .val (.int (20 : Int32)), .unset, .unset, .unset, .unset] [(.int (16 : Int32))])) _
    refine XS.istoreN X1.here hx rfl (hb hby dA25_5) rfl (l' := #[.val (.ref xo0_), .val (.int (20 : Int32)), .val (.int (16 : Int32)), .unset, .unset, .unset]) rfl ?_
    show Steps p.tables e below (T1.setTop (mkF m 6 #[.val (.ref xo0_), .val (.int (20 : Int32)), .val (.int (16 : Int32)), .unset, .unset, .unset] [])) _
    refine XS.iloadN X1.here hx rfl (hb hby dA25_6) rfl ?_
    show Steps p.tables e below (T1.setTop (mkF m 7 #[.val (.ref xo0_), .val (.int (20 : Int32)), .val (.int (16 : Int32)), .unset, .unset, .unset] [(.int (20 : Int32))])) _
    refine XS.aloadN X1.here hx rfl (hb hby dA25_7) rfl rfl ?_
    show Steps p.tables e below (T1.setTop (mkF m 8 #[.val (.ref xo0_), .val (.int (20 : Int32)), .val (.int (16 : Int32)), .unset, .unset, .unset] [(.ref xo0_), (.int (20 : Int32))])) _
    refine st3 _ ?_
    show Steps p.tables e below (T3.setTop (mkF m 11 #[.val (.ref xo0_), .val (.int (20 : Int32)), .val (.int (16 : Int32)), .unset, .unset, .unset] [(.int (0 : Int32)), (.int (20 : Int32))])) _
    refine XS.ishl X3.here hx rfl (hb hby dA25_11) rfl ?_
    rw [show ((20 : Int32) <<< ((0 : Int32) &&& 31)) = (20 : Int32) from by decide]
    show Steps p.tables e below (T3.setTop (mkF m 12 #[.val (.ref xo0_), .val (.int (20 : Int32)), .val (.int (16 : Int32)), .unset, .unset, .unset] [(.int (20 : Int32))])) _
    refine XS.istoreN X3.here hx rfl (hb hby dA25_12) rfl (l' := #[.val (.ref xo0_), .val (.int (20 : Int32)), .val (.int (16 : Int32)), .val (.int (20 : Int32)), .unset, .unset]) rfl ?_
    show Steps p.tables e below (T3.setTop (mkF m 13 #[.val (.ref xo0_), .val (.int (20 : Int32)), .val (.int (16 : Int32)), .val (.int (20 : Int32)), .unset, .unset] [])) _
    refine XS.iloadN X3.here hx rfl (hb hby dA25_13) rfl ?_
    show Steps p.tables e below (T3.setTop (mkF m 14 #[.val (.ref xo0_), .val (.int (20 : Int32)), .val (.int (16 : Int32)), .val (.int (20 : Int32)), .unset, .unset] [(.int (20 : Int32))])) _
    refine XS.iloadN X3.here hx rfl (hb hby dA25_14) rfl ?_
    show Steps p.tables e below (T3.setTop (mkF m 15 #[.val (.ref xo0_), .val (.int (20 : Int32)), .val (.int (16 : Int32)), .val (.int (20 : Int32)), .unset, .unset] [(.int (16 : Int32)), (.int (20 : Int32))])) _
    refine XS.isub X3.here hx rfl (hb hby dA25_15) rfl ?_
    show Steps p.tables e below (T3.setTop (mkF m 16 #[.val (.ref xo0_), .val (.int (20 : Int32)), .val (.int (16 : Int32)), .val (.int (20 : Int32)), .unset, .unset] [(.int (4 : Int32))])) _
    refine XS.istore X3.here hx rfl (hb hby dA25_16) rfl (l' := #[.val (.ref xo0_), .val (.int (20 : Int32)), .val (.int (16 : Int32)), .val (.int (20 : Int32)), .val (.int (4 : Int32)), .unset]) rfl ?_
    show Steps p.tables e below (T3.setTop (mkF m 18 #[.val (.ref xo0_), .val (.int (20 : Int32)), .val (.int (16 : Int32)), .val (.int (20 : Int32)), .val (.int (4 : Int32)), .unset] [])) _
    refine XS.iloadN X3.here hx rfl (hb hby dA25_18) rfl ?_
    show Steps p.tables e below (T3.setTop (mkF m 19 #[.val (.ref xo0_), .val (.int (20 : Int32)), .val (.int (16 : Int32)), .val (.int (20 : Int32)), .val (.int (4 : Int32)), .unset] [(.int (16 : Int32))])) _
    refine XS.iload X3.here hx rfl (hb hby dA25_19) rfl ?_
    show Steps p.tables e below (T3.setTop (mkF m 21 #[.val (.ref xo0_), .val (.int (20 : Int32)), .val (.int (16 : Int32)), .val (.int (20 : Int32)), .val (.int (4 : Int32)), .unset] [(.int (4 : Int32)), (.int (16 : Int32))])) _
    refine XS.iloadN X3.here hx rfl (hb hby dA25_21) rfl ?_
    show Steps p.tables e below (T3.setTop (mkF m 22 #[.val (.ref xo0_), .val (.int (20 : Int32)), .val (.int (16 : Int32)), .val (.int (20 : Int32)), .val (.int (4 : Int32)), .unset] [(.int (16 : Int32)), (.int (4 : Int32)), (.int (16 : Int32))])) _
    refine XS.iconst X3.here hx rfl (hb hby dA25_22) ?_
    show Steps p.tables e below (T3.setTop (mkF m 23 #[.val (.ref xo0_), .val (.int (20 : Int32)), .val (.int (16 : Int32)), .val (.int (20 : Int32)), .val (.int (4 : Int32)), .unset] [(.int (2 : Int32)), (.int (16 : Int32)), (.int (4 : Int32)), (.int (16 : Int32))])) _
    refine XS.aloadN X3.here hx rfl (hb hby dA25_23) rfl rfl ?_
    show Steps p.tables e below (T3.setTop (mkF m 24 #[.val (.ref xo0_), .val (.int (20 : Int32)), .val (.int (16 : Int32)), .val (.int (20 : Int32)), .val (.int (4 : Int32)), .unset] [(.ref xo0_), (.int (2 : Int32)), (.int (16 : Int32)), (.int (4 : Int32)), (.int (16 : Int32))])) _
    refine st4 _ ?_
    show Steps p.tables e below (T4.setTop (mkF m 27 #[.val (.ref xo0_), .val (.int (20 : Int32)), .val (.int (16 : Int32)), .val (.int (20 : Int32)), .val (.int (4 : Int32)), .unset] [(.int (0 : Int32)), (.int (2 : Int32)), (.int (16 : Int32)), (.int (4 : Int32)), (.int (16 : Int32))])) _
    refine XS.ishl X4.here hx rfl (hb hby dA25_27) rfl ?_
    rw [show ((2 : Int32) <<< ((0 : Int32) &&& 31)) = (2 : Int32) from by decide]
    show Steps p.tables e below (T4.setTop (mkF m 28 #[.val (.ref xo0_), .val (.int (20 : Int32)), .val (.int (16 : Int32)), .val (.int (20 : Int32)), .val (.int (4 : Int32)), .unset] [(.int (2 : Int32)), (.int (16 : Int32)), (.int (4 : Int32)), (.int (16 : Int32))])) _
    refine XS.iadd X4.here hx rfl (hb hby dA25_28) rfl ?_
    show Steps p.tables e below (T4.setTop (mkF m 29 #[.val (.ref xo0_), .val (.int (20 : Int32)), .val (.int (16 : Int32)), .val (.int (20 : Int32)), .val (.int (4 : Int32)), .unset] [(.int (18 : Int32)), (.int (4 : Int32)), (.int (16 : Int32))])) _
    refine st5 _ ?_
    show Steps p.tables e below (T5.setTop (mkF m 32 #[.val (.ref xo0_), .val (.int (20 : Int32)), .val (.int (16 : Int32)), .val (.int (20 : Int32)), .val (.int (4 : Int32)), .unset] [(.int (34 : Int32))])) _
    refine XS.istore X5.here hx rfl (hb hby dA25_32) rfl (l' := #[.val (.ref xo0_), .val (.int (20 : Int32)), .val (.int (16 : Int32)), .val (.int (20 : Int32)), .val (.int (4 : Int32)), .val (.int (34 : Int32))]) rfl ?_
    show Steps p.tables e below (T5.setTop (mkF m 34 #[.val (.ref xo0_), .val (.int (20 : Int32)), .val (.int (16 : Int32)), .val (.int (20 : Int32)), .val (.int (4 : Int32)), .val (.int (34 : Int32))] [])) _
    refine XS.iload X5.here hx rfl (hb hby dA25_34) rfl ?_
    show Steps p.tables e below (T5.setTop (mkF m 36 #[.val (.ref xo0_), .val (.int (20 : Int32)), .val (.int (16 : Int32)), .val (.int (20 : Int32)), .val (.int (4 : Int32)), .val (.int (34 : Int32))] [(.int (34 : Int32))])) _
    refine X5.ldcInt hx hown (mvT hZ (hw _ (List.mem_of_getElem? (i := 141) rfl))) (g := (mkF m 36 #[.val (.ref xo0_), .val (.int (20 : Int32)), .val (.int (16 : Int32)), .val (.int (20 : Int32)), .val (.int (4 : Int32)), .val (.int (34 : Int32))] [(.int (34 : Int32))])) rfl (hb hby dA25_36) _ ?_
    show Steps p.tables e below (T5.setTop (mkF m 38 #[.val (.ref xo0_), .val (.int (20 : Int32)), .val (.int (16 : Int32)), .val (.int (20 : Int32)), .val (.int (4 : Int32)), .val (.int (34 : Int32))] [(.int (2147483647 : Int32)), (.int (34 : Int32))])) _
    refine XS.icmpYes X5.here hx rfl (pc0 := 38) (pc' := 51) rfl (hb hby dA25_38) rfl (feq (by decide : ¬ ((34 : Int32) = (2147483647 : Int32)))).2 (by decide) (by decide) ?_
    show Steps p.tables e below (T5.setTop (mkF m 51 #[.val (.ref xo0_), .val (.int (20 : Int32)), .val (.int (16 : Int32)), .val (.int (20 : Int32)), .val (.int (4 : Int32)), .val (.int (34 : Int32))] [])) _
    refine XS.iload X5.here hx rfl (hb hby dA25_51) rfl ?_
    show Steps p.tables e below (T5.setTop (mkF m 53 #[.val (.ref xo0_), .val (.int (20 : Int32)), .val (.int (16 : Int32)), .val (.int (20 : Int32)), .val (.int (4 : Int32)), .val (.int (34 : Int32))] [(.int (34 : Int32))])) _
    refine XS.aloadN X5.here hx rfl (hb hby dA25_53) rfl rfl ?_
    show Steps p.tables e below (T5.setTop (mkF m 54 #[.val (.ref xo0_), .val (.int (20 : Int32)), .val (.int (16 : Int32)), .val (.int (20 : Int32)), .val (.int (4 : Int32)), .val (.int (34 : Int32))] [(.ref xo0_), (.int (34 : Int32))])) _
    refine st6 _ ?_
    show Steps p.tables e below (T6.setTop (mkF m 57 #[.val (.ref xo0_), .val (.int (20 : Int32)), .val (.int (16 : Int32)), .val (.int (20 : Int32)), .val (.int (4 : Int32)), .val (.int (34 : Int32))] [(.int (0 : Int32)), (.int (34 : Int32))])) _
    refine XS.ishr X6.here hx rfl (hb hby dA25_57) rfl ?_
    rw [show ((34 : Int32) >>> ((0 : Int32) &&& 31)) = (34 : Int32) from by decide]
    show Steps p.tables e below (T6.setTop (mkF m 58 #[.val (.ref xo0_), .val (.int (20 : Int32)), .val (.int (16 : Int32)), .val (.int (20 : Int32)), .val (.int (4 : Int32)), .val (.int (34 : Int32))] [(.int (34 : Int32))])) _
    exact retI X6 hx Bd.returns (hb hby dA25_58) hr
  · show QA25 Z xo0_ uo1_ ui2_ ui3_ k_uo1_ h0 n0 _ T6.heap _
    rw [e6]
    exact ⟨rfl, N5, rfl⟩
theorem own_pd16 : parseMethodDescriptor "(I)I" = some ⟨[.int], some .int⟩ := by decide +kernel
theorem dA29_0 : decode jdk_29_method_69_code 0 = .ok (.iload_n 0, 1) := by decide +kernel
theorem dA29_1 : decode jdk_29_method_69_code 1 = .ok (.iload_n 1, 1) := by decide +kernel
theorem dA29_2 : decode jdk_29_method_69_code 2 = .ok (.if_icmp .gt 7, 3) := by decide +kernel
theorem dA29_5 : decode jdk_29_method_69_code 5 = .ok (.iload_n 0, 1) := by decide +kernel
theorem dA29_6 : decode jdk_29_method_69_code 6 = .ok (.goto 4, 3) := by decide +kernel
theorem dA29_10 : decode jdk_29_method_69_code 10 = .ok (.ireturn, 1) := by decide +kernel
theorem efA29 (m : MethodId)  : entryFrame m #[(.int (16 : Int32)), (.int (34 : Int32))] 2 = mkF m 0 #[.val (.int (16 : Int32)), .val (.int (34 : Int32))] [] := by first | (simp [entryFrame, mkF, argsToLocals, Value.category]; done) | rfl
def QA29 (Z : State)  (h0 : Heap) (n0 : Nat) (v : Option Value) (h : Heap) (L : List Loc) : Prop := v = some (.int (16 : Int32)) ∧ Fr n0 L ∧ h = h0
set_option maxRecDepth 65536 in
set_option maxHeartbeats 40000000 in
theorem rmA29 (l : Launch) (Z : State) (a0 : Array Value) (hw : ∀ d ∈ tables_1, d.before a0 Z = true) (ws : List Jvm.Cond)  (h0 : Heap) (n0 : Nat) (Z0 : n0 ≤ h0.size) :
    MetFree l (⟨"java/lang/Math", "min", "(II)I"⟩ : MethodName) (head1 (Jvm.Cond.code (⟨"java/lang/Math", "min", "(II)I"⟩ : MethodName) jdk_29_method_69_code 2 (some .int) :: ws) ({ frames := 0, cells := 0, slots := 0, locals := 0 } : Room)) (fun av_ U => av_ = #[(.int (16 : Int32)), (.int (34 : Int32))] ∧ Z.Warmed39 U.vm ∧ U.heap = h0) (fun _ _ _ _ _ => True) (fun _ U o U' => ∃ v L, o = .returned v ∧ QA29 Z  h0 n0 v U'.heap L ∧ FrameEnd U o U' L ({ frames := 0, cells := 0, slots := 0, locals := 0 } : Room).cells ({ frames := 0, cells := 0, slots := 0, locals := 0 } : Room).slots) := by
  refine MetFree.of_bodySF (Jvm.Free.JP.mathPlain rfl (by decide +kernel)) hisR ?_
  intro p e s m args below meth c s₁ Bd hml0 hP hK
  obtain ⟨rfl, hZ, hh⟩ := hP
  have hx := Bd.exec
  have hby := Bd.bytes
  have hml : c.maxLocals = 2 := hml0
  have hown : s.vm.findClass "java/lang/Math" = some m.cls := findClass_of_methodNamed Bd.named
  have hnm := (name_of_methodNamed Bd.named Bd.method).1
  have X0 : Stand p l e ({ frames := 0, cells := 0, slots := 0, locals := 0 } : Room) s m #[(.int (16 : Int32)), (.int (34 : Int32))] below meth c s₁ [] 0 0 := Stand.of_body Bd
  have e0 : s₁.heap = h0 := by rw [← hh, Bd.state]; rfl
  have N0 := Fr.nil n0
  have pre0 : ∀ t, Steps p.tables e below (s₁.setTop (mkF m 0 #[.val (.int (16 : Int32)), .val (.int (34 : Int32))] [])) t → Steps p.tables e below (s₁.setTop (entryFrame m #[(.int (16 : Int32)), (.int (34 : Int32))] 2)) t := fun t k => castTop (efA29 m ) k
  obtain ⟨fs, hr, hrun, hended, hW, hsame⟩ := X0.leave (v := some (.int (16 : Int32))) (fun h => by rw [Bd.returns] at h; cases h)
  refine ⟨_, _, (pre0 _ ?_), hrun, hended, _, _, rfl, ?_, ⟨_, rfl⟩, hW, hsame.mono (by decide) (by decide)⟩
  · show Steps p.tables e below (s₁.setTop (mkF m 0 #[.val (.int (16 : Int32)), .val (.int (34 : Int32))] [])) _
    refine XS.iloadN X0.here hx rfl (hb hby dA29_0) rfl ?_
    show Steps p.tables e below (s₁.setTop (mkF m 1 #[.val (.int (16 : Int32)), .val (.int (34 : Int32))] [(.int (16 : Int32))])) _
    refine XS.iloadN X0.here hx rfl (hb hby dA29_1) rfl ?_
    show Steps p.tables e below (s₁.setTop (mkF m 2 #[.val (.int (16 : Int32)), .val (.int (34 : Int32))] [(.int (34 : Int32)), (.int (16 : Int32))])) _
    refine XS.icmpNo X0.here hx rfl (hb hby dA29_2) rfl (flt (by decide : ¬ ((34 : Int32) < (16 : Int32)))).2.2.1 ?_
    show Steps p.tables e below (s₁.setTop (mkF m 5 #[.val (.int (16 : Int32)), .val (.int (34 : Int32))] [])) _
    refine XS.iloadN X0.here hx rfl (hb hby dA29_5) rfl ?_
    show Steps p.tables e below (s₁.setTop (mkF m 6 #[.val (.int (16 : Int32)), .val (.int (34 : Int32))] [(.int (16 : Int32))])) _
    refine XS.goto X0.here hx rfl (pc0 := 6) (pc' := 10) rfl (hb hby dA29_6) (by decide) (by decide) ?_
    show Steps p.tables e below (s₁.setTop (mkF m 10 #[.val (.int (16 : Int32)), .val (.int (34 : Int32))] [(.int (16 : Int32))])) _
    exact retI X0 hx Bd.returns (hb hby dA29_10) hr
  · show QA29 Z  h0 n0 _ s₁.heap _
    rw [e0]
    exact ⟨rfl, N0, rfl⟩
theorem own_pn6 : plainName "java/util/Arrays" = true := by first | (simp [plainName, overriddenIn]; done) | decide +kernel
theorem dA28_0 : decode jdk_65_method_121_code 0 = .ok (.iload_n 1, 1) := by decide +kernel
theorem dA28_1 : decode jdk_65_method_121_code 1 = .ok (.aload_n 0, 1) := by decide +kernel
theorem dA28_2 : decode jdk_65_method_121_code 2 = .ok (.arraylength, 1) := by decide +kernel
theorem dA28_3 : decode jdk_65_method_121_code 3 = .ok (.if_icmp .ne 11, 3) := by decide +kernel
theorem dA28_14 : decode jdk_65_method_121_code 14 = .ok (.iload_n 1, 1) := by decide +kernel
theorem dA28_15 : decode jdk_65_method_121_code 15 = .ok (.newarray .byte, 2) := by decide +kernel
theorem dA28_17 : decode jdk_65_method_121_code 17 = .ok (.astore_n 2, 1) := by decide +kernel
theorem dA28_18 : decode jdk_65_method_121_code 18 = .ok (.aload_n 0, 1) := by decide +kernel
theorem dA28_19 : decode jdk_65_method_121_code 19 = .ok (.iconst 0, 1) := by decide +kernel
theorem dA28_20 : decode jdk_65_method_121_code 20 = .ok (.aload_n 2, 1) := by decide +kernel
theorem dA28_21 : decode jdk_65_method_121_code 21 = .ok (.iconst 0, 1) := by decide +kernel
theorem dA28_22 : decode jdk_65_method_121_code 22 = .ok (.aload_n 0, 1) := by decide +kernel
theorem dA28_23 : decode jdk_65_method_121_code 23 = .ok (.arraylength, 1) := by decide +kernel
theorem dA28_24 : decode jdk_65_method_121_code 24 = .ok (.iload_n 1, 1) := by decide +kernel
theorem dA28_25 : decode jdk_65_method_121_code 25 = .ok (.invokestatic 304, 3) := by decide +kernel
theorem dA28_28 : decode jdk_65_method_121_code 28 = .ok (.invokestatic 150, 3) := by decide +kernel
theorem dA28_31 : decode jdk_65_method_121_code 31 = .ok (.aload_n 2, 1) := by decide +kernel
theorem dA28_32 : decode jdk_65_method_121_code 32 = .ok (.areturn, 1) := by decide +kernel
theorem efA28 (m : MethodId) (xo0_ : Addr) : entryFrame m #[(.ref xo0_), (.int (34 : Int32))] 3 = mkF m 0 #[.val (.ref xo0_), .val (.int (34 : Int32)), .unset] [] := by first | (simp [entryFrame, mkF, argsToLocals, Value.category]; done) | rfl
def QA28 (Z : State) (xo0_ : Addr) (ui1_ : Int32) (ui2_ : Int32) (k_xo0_ : ClassId) (h0 : Heap) (n0 : Nat) (v : Option Value) (h : Heap) (L : List Loc) : Prop := ∃ fb2 : Addr, ∃ k_fb2 : ClassId, v = some (.ref fb2) ∧ Fr n0 L ∧ Keep h0 h [] ∧ n0 ≤ fb2 ∧ h0.size ≤ fb2 ∧ Arv Z h fb2 k_fb2 .byte (34 : Int32) [(.int ui1_), (.int (32 : Int32)), (.int (102 : Int32)), (.int (105 : Int32)), (.int (108 : Int32)), (.int (101 : Int32)), (.int (115 : Int32)), (.int (44 : Int32)), (.int (32 : Int32)), (.int ui2_), (.int (0 : Int32)), (.int (0 : Int32)), (.int (0 : Int32)), (.int (0 : Int32)), (.int (0 : Int32)), (.int (0 : Int32)), (.int (0 : Int32)), (.int (0 : Int32)), (.int (0 : Int32)), (.int (0 : Int32)), (.int (0 : Int32)), (.int (0 : Int32)), (.int (0 : Int32)), (.int (0 : Int32)), (.int (0 : Int32)), (.int (0 : Int32)), (.int (0 : Int32)), (.int (0 : Int32)), (.int (0 : Int32)), (.int (0 : Int32)), (.int (0 : Int32)), (.int (0 : Int32)), (.int (0 : Int32)), (.int (0 : Int32))] (.int (0 : Int32))
set_option maxRecDepth 65536 in
set_option maxHeartbeats 40000000 in
theorem rmA28 (l : Launch) (Z : State) (a0 : Array Value) (hw : ∀ d ∈ tables_1, d.before a0 Z = true) (ws : List Jvm.Cond) (xo0_ : Addr) (ui1_ : Int32) (ui2_ : Int32) (k_xo0_ : ClassId) (h0 : Heap) (n0 : Nat) (Z0 : n0 ≤ h0.size) (V_xo0_ : Arv Z h0 xo0_ k_xo0_ .byte (16 : Int32) [(.int ui1_), (.int (32 : Int32)), (.int (102 : Int32)), (.int (105 : Int32)), (.int (108 : Int32)), (.int (101 : Int32)), (.int (115 : Int32)), (.int (44 : Int32)), (.int (32 : Int32)), (.int ui2_), (.int (0 : Int32)), (.int (0 : Int32)), (.int (0 : Int32)), (.int (0 : Int32)), (.int (0 : Int32)), (.int (0 : Int32))] (.int (0 : Int32))) :
    MetFree l (⟨"java/util/Arrays", "copyOf", "([BI)[B"⟩ : MethodName) (head1 (Jvm.Cond.code (⟨"java/util/Arrays", "copyOf", "([BI)[B"⟩ : MethodName) jdk_65_method_121_code 3 (some (.array .byte)) :: ws) ({ frames := 1, cells := 1, slots := 34, locals := 40 } : Room)) (fun av_ U => av_ = #[(.ref xo0_), (.int (34 : Int32))] ∧ Z.Warmed39 U.vm ∧ U.heap = h0) (fun _ _ _ _ _ => True) (fun _ U o U' => ∃ v L, o = .returned v ∧ QA28 Z xo0_ ui1_ ui2_ k_xo0_ h0 n0 v U'.heap L ∧ FrameEnd U o U' L ({ frames := 1, cells := 1, slots := 34, locals := 40 } : Room).cells ({ frames := 1, cells := 1, slots := 34, locals := 40 } : Room).slots) := by
  refine MetFree.of_bodySF (plainFor_of_name own_pn6) hisR ?_
  intro p e s m args below meth c s₁ Bd hml0 hP hK
  obtain ⟨rfl, hZ, hh⟩ := hP
  have hx := Bd.exec
  have hby := Bd.bytes
  have hml : c.maxLocals = 3 := hml0
  have hown : s.vm.findClass "java/util/Arrays" = some m.cls := findClass_of_methodNamed Bd.named
  have hnm := (name_of_methodNamed Bd.named Bd.method).1
  have X0 : Stand p l e ({ frames := 1, cells := 1, slots := 34, locals := 40 } : Room) s m #[(.ref xo0_), (.int (34 : Int32))] below meth c s₁ [] 0 0 := Stand.of_body Bd
  have e0 : s₁.heap = h0 := by rw [← hh, Bd.state]; rfl
  have N0 := Fr.nil n0
  have pre0 : ∀ t, Steps p.tables e below (s₁.setTop (mkF m 0 #[.val (.ref xo0_), .val (.int (34 : Int32)), .unset] [])) t → Steps p.tables e below (s₁.setTop (entryFrame m #[(.ref xo0_), (.int (34 : Int32))] 3)) t := fun t k => castTop (efA28 m xo0_) k
  obtain ⟨cl1, Ar1, q1, S1, M1, Hs1, G1⟩ := (id V_xo0_)
  obtain ⟨T2, h2, k2, X2, e2, E2, A2, st2⟩ := newP X0 hx hZ (hw _ (List.mem_of_getElem? (i := 38) rfl)) e0 (g := (mkF m 15 #[.val (.ref xo0_), .val (.int (34 : Int32)), .unset] [(.int (34 : Int32))])) rfl (hb hby dA28_15) rfl (by decide) (cap := 34) (by decide) (by decide) (by decide) (by decide)
  obtain ⟨b2, g2⟩ : ∃ z, z = h0.size := ⟨_, rfl⟩
  rw [← g2] at A2 st2
  have ne_xo0__b2 : xo0_ ≠ b2 := Nat.ne_of_lt (Nat.lt_of_lt_of_le V_xo0_.lt (Nat.le_of_eq g2.symm))
  have g_b2 : n0 ≤ b2 := Nat.le_trans Z0 (Nat.le_of_eq g2.symm)
  have sz_b2 : h0.size ≤ b2 := Nat.le_trans (Keep.refl h0 []).1 (Nat.le_of_eq g2.symm)
  have K2 : Keep h0 h2 [] := (Keep.refl h0 []).ext E2
  have Zs2 : n0 ≤ h2.size := Nat.le_trans Z0 E2.1
  have V2 : Arv Z h2 b2 k2 .byte (34 : Int32) [(.int (0 : Int32)), (.int (0 : Int32)), (.int (0 : Int32)), (.int (0 : Int32)), (.int (0 : Int32)), (.int (0 : Int32)), (.int (0 : Int32)), (.int (0 : Int32)), (.int (0 : Int32)), (.int (0 : Int32)), (.int (0 : Int32)), (.int (0 : Int32)), (.int (0 : Int32)), (.int (0 : Int32)), (.int (0 : Int32)), (.int (0 : Int32)), (.int (0 : Int32)), (.int (0 : Int32)), (.int (0 : Int32)), (.int (0 : Int32)), (.int (0 : Int32)), (.int (0 : Int32)), (.int (0 : Int32)), (.int (0 : Int32)), (.int (0 : Int32)), (.int (0 : Int32)), (.int (0 : Int32)), (.int (0 : Int32)), (.int (0 : Int32)), (.int (0 : Int32)), (.int (0 : Int32)), (.int (0 : Int32)), (.int (0 : Int32)), (.int (0 : Int32))] (.int (0 : Int32)) := (Arv.new A2 (by decide)).pad (pad_rep [] (.int (0 : Int32)) 34)
  obtain ⟨cl3, Ar3, q3, S3, M3, Hs3, G3⟩ := (V_xo0_.ext E2)
  obtain ⟨_, _, ⟨T4, L4, k4, n4⟩, -, X4, ⟨Lc4, hQ4, l4, y4, z4⟩, st4⟩ := Jvm.LawKit.callS X2 hx (y := (⟨"java/lang/Math", "min", "(II)I"⟩ : MethodName)) hown (mvT hZ (hw _ (List.mem_of_getElem? (i := 146) rfl))) (mvT hZ (hw _ (List.mem_of_getElem? (i := 147) rfl))) (mvT hZ (hw _ (List.mem_of_getElem? (i := 138) rfl))) (mvT hZ (hw _ (List.mem_of_getElem? (i := 148) rfl))) (by decide) (backOf (W := 4) (rmA29 l Z a0 hw []  h2 n0 Zs2 ) hZ (hw _ (List.mem_of_getElem? (i := 148) rfl)) (hw _ (List.mem_of_getElem? (i := 138) rfl)) (by decide) (by decide)) (g := (mkF m 25 #[.val (.ref xo0_), .val (.int (34 : Int32)), .val (.ref b2)] [(.int (34 : Int32)), (.int (16 : Int32)), (.int (0 : Int32)), (.ref b2), (.int (0 : Int32)), (.ref xo0_)])) rfl (by rw [hml]; rfl) (argsL := [(.int (16 : Int32)), (.int (34 : Int32))]) (rest := [(.int (0 : Int32)), (.ref b2), (.int (0 : Int32)), (.ref xo0_)]) (lenOf own_pd14 rfl) rfl (by show 2 * 0 + _ ≤ _; exact Nat.le_of_eq rfl) (hb hby dA28_25) (fun _ _ => ⟨rfl, e2, (by decide : 1 + 0 ≤ _), (by decide : 34 + 0 ≤ _)⟩)
  dsimp only [Pt.U, Pt.locs, Pt.cells, Pt.slots] at X4 l4 y4 z4 st4 hQ4
  subst l4 y4 z4
  obtain ⟨rfl, Nq4, e4⟩ := hQ4
  have N4 := Fr.app N0 Nq4
  obtain ⟨T5, h5, L5, X5, e5, N5, Kc5, V5', st5⟩ := cpA X4 hx hZ hown (hw _ (List.mem_of_getElem? (i := 149) rfl)) (hw _ (List.mem_of_getElem? (i := 123) rfl)) (hw _ (List.mem_of_getElem? (i := 121) rfl)) (hw _ (List.mem_of_getElem? (i := 122) rfl)) e4 (us := [(.int ui1_), (.int (32 : Int32)), (.int (102 : Int32)), (.int (105 : Int32)), (.int (108 : Int32)), (.int (101 : Int32)), (.int (115 : Int32)), (.int (44 : Int32)), (.int (32 : Int32)), (.int ui2_), (.int (0 : Int32)), (.int (0 : Int32)), (.int (0 : Int32)), (.int (0 : Int32)), (.int (0 : Int32)), (.int (0 : Int32))]) (V_xo0_.ext E2) V2 (Or.inl ⟨rfl, rfl⟩) (by decide) (by decide) (by decide) (by decide) (by decide) rfl (by first | decide | exact Nat.le_of_ble_eq_true rfl) N4 g_b2 (g := (mkF m 28 #[.val (.ref xo0_), .val (.int (34 : Int32)), .val (.ref b2)] [(.int (16 : Int32)), (.int (0 : Int32)), (.ref b2), (.int (0 : Int32)), (.ref xo0_)])) rfl (by rw [hml]; rfl) rfl (hb hby dA28_28) (by decide) (W := 0) (by show 2 * 0 + _ ≤ _; exact Nat.le_of_eq rfl) (by decide)
  have K5 : Keep h0 h5 [] := Keep.trans K2 Kc5 (allS (Or.inr sz_b2) all0)
  have Zs5 : n0 ≤ h5.size := Nat.le_trans Zs2 Kc5.1
  have V5 : Arv Z h5 b2 k2 .byte (34 : Int32) [(.int ui1_), (.int (32 : Int32)), (.int (102 : Int32)), (.int (105 : Int32)), (.int (108 : Int32)), (.int (101 : Int32)), (.int (115 : Int32)), (.int (44 : Int32)), (.int (32 : Int32)), (.int ui2_), (.int (0 : Int32)), (.int (0 : Int32)), (.int (0 : Int32)), (.int (0 : Int32)), (.int (0 : Int32)), (.int (0 : Int32)), (.int (0 : Int32)), (.int (0 : Int32)), (.int (0 : Int32)), (.int (0 : Int32)), (.int (0 : Int32)), (.int (0 : Int32)), (.int (0 : Int32)), (.int (0 : Int32)), (.int (0 : Int32)), (.int (0 : Int32)), (.int (0 : Int32)), (.int (0 : Int32)), (.int (0 : Int32)), (.int (0 : Int32)), (.int (0 : Int32)), (.int (0 : Int32)), (.int (0 : Int32)), (.int (0 : Int32))] (.int (0 : Int32)) := V5'
  obtain ⟨fs, hr, hrun, hended, hW, hsame⟩ := X5.leave (v := some (.ref b2)) (fun h => by rw [Bd.returns] at h; cases h)
  refine ⟨_, _, (pre0 _ ?_), hrun, hended, _, _, rfl, ?_, ⟨_, rfl⟩, hW, hsame.mono (by decide) (by decide)⟩
  · show Steps p.tables e below (s₁.setTop (mkF m 0 #[.val (.ref xo0_), .val (.int (34 : Int32)), .unset] [])) _
    refine XS.iloadN X0.here hx rfl (hb hby dA28_0) rfl ?_
    show Steps p.tables e below (s₁.setTop (mkF m 1 #[.val (.ref xo0_), .val (.int (34 : Int32)), .unset] [(.int (34 : Int32))])) _
    refine XS.aloadN X0.here hx rfl (hb hby dA28_1) rfl rfl ?_
    show Steps p.tables e below (s₁.setTop (mkF m 2 #[.val (.ref xo0_), .val (.int (34 : Int32)), .unset] [(.ref xo0_), (.int (34 : Int32))])) _
    refine X0.arraylength hx (by rw [e0]; exact Ar1.1) (State.isArrayOf_alike hZ.alike Ar1.2.1) (g := (mkF m 2 #[.val (.ref xo0_), .val (.int (34 : Int32)), .unset] [(.ref xo0_), (.int (34 : Int32))])) rfl rfl (hb hby dA28_2) _ ?_
    rw [len_of S1 M1]
    show Steps p.tables e below (s₁.setTop (mkF m 3 #[.val (.ref xo0_), .val (.int (34 : Int32)), .unset] [(.int (16 : Int32)), (.int (34 : Int32))])) _
    refine XS.icmpYes X0.here hx rfl (pc0 := 3) (pc' := 14) rfl (hb hby dA28_3) rfl (feq (by decide : ¬ ((34 : Int32) = (16 : Int32)))).2 (by decide) (by decide) ?_
    show Steps p.tables e below (s₁.setTop (mkF m 14 #[.val (.ref xo0_), .val (.int (34 : Int32)), .unset] [])) _
    refine XS.iloadN X0.here hx rfl (hb hby dA28_14) rfl ?_
    show Steps p.tables e below (s₁.setTop (mkF m 15 #[.val (.ref xo0_), .val (.int (34 : Int32)), .unset] [(.int (34 : Int32))])) _
    refine st2 _ ?_
    show Steps p.tables e below (T2.setTop (mkF m 17 #[.val (.ref xo0_), .val (.int (34 : Int32)), .unset] [(.ref b2)])) _
    refine XS.astoreN X2.here hx rfl (hb hby dA28_17) rfl rfl (l' := #[.val (.ref xo0_), .val (.int (34 : Int32)), .val (.ref b2)]) rfl ?_
    show Steps p.tables e below (T2.setTop (mkF m 18 #[.val (.ref xo0_), .val (.int (34 : Int32)), .val (.ref b2)] [])) _
    refine XS.aloadN X2.here hx rfl (hb hby dA28_18) rfl rfl ?_
    show Steps p.tables e below (T2.setTop (mkF m 19 #[.val (.ref xo0_), .val (.int (34 : Int32)), .val (.ref b2)] [(.ref xo0_)])) _
    refine XS.iconst X2.here hx rfl (hb hby dA28_19) ?_
    show Steps p.tables e below (T2.setTop (mkF m 20 #[.val (.ref xo0_), .val (.int (34 : Int32)), .val (.ref b2)] [(.int (0 : Int32)), (.ref xo0_)])) _
    refine XS.aloadN X2.here hx rfl (hb hby dA28_20) rfl rfl ?_
    show Steps p.tables e below (T2.setTop (mkF m 21 #[.val (.ref xo0_), .val (.int (34 : Int32)), .val (.ref b2)] [(.ref b2), (.int (0 : Int32)), (.ref xo0_)])) _
    refine XS.iconst X2.here hx rfl (hb hby dA28_21) ?_
    show Steps p.tables e below (T2.setTop (mkF m 22 #[.val (.ref xo0_), .val (.int (34 : Int32)), .val (.ref b2)] [(.int (0 : Int32)), (.ref b2), (.int (0 : Int32)), (.ref xo0_)])) _
    refine XS.aloadN X2.here hx rfl (hb hby dA28_22) rfl rfl ?_
    show Steps p.tables e below (T2.setTop (mkF m 23 #[.val (.ref xo0_), .val (.int (34 : Int32)), .val (.ref b2)] [(.ref xo0_), (.int (0 : Int32)), (.ref b2), (.int (0 : Int32)), (.ref xo0_)])) _
    refine X2.arraylength hx (by rw [e2]; exact Ar3.1) (State.isArrayOf_alike hZ.alike Ar3.2.1) (g := (mkF m 23 #[.val (.ref xo0_), .val (.int (34 : Int32)), .val (.ref b2)] [(.ref xo0_), (.int (0 : Int32)), (.ref b2), (.int (0 : Int32)), (.ref xo0_)])) rfl rfl (hb hby dA28_23) _ ?_
    rw [len_of S3 M3]
    show Steps p.tables e below (T2.setTop (mkF m 24 #[.val (.ref xo0_), .val (.int (34 : Int32)), .val (.ref b2)] [(.int (16 : Int32)), (.int (0 : Int32)), (.ref b2), (.int (0 : Int32)), (.ref xo0_)])) _
    refine XS.iloadN X2.here hx rfl (hb hby dA28_24) rfl ?_
    show Steps p.tables e below (T2.setTop (mkF m 25 #[.val (.ref xo0_), .val (.int (34 : Int32)), .val (.ref b2)] [(.int (34 : Int32)), (.int (16 : Int32)), (.int (0 : Int32)), (.ref b2), (.int (0 : Int32)), (.ref xo0_)])) _
    refine st4 _ ?_
    show Steps p.tables e below (T4.setTop (mkF m 28 #[.val (.ref xo0_), .val (.int (34 : Int32)), .val (.ref b2)] [(.int (16 : Int32)), (.int (0 : Int32)), (.ref b2), (.int (0 : Int32)), (.ref xo0_)])) _
    refine st5 _ ?_
    show Steps p.tables e below (T5.setTop (mkF m 31 #[.val (.ref xo0_), .val (.int (34 : Int32)), .val (.ref b2)] [])) _
    refine XS.aloadN X5.here hx rfl (hb hby dA28_31) rfl rfl ?_
    show Steps p.tables e below (T5.setTop (mkF m 32 #[.val (.ref xo0_), .val (.int (34 : Int32)), .val (.ref b2)] [(.ref b2)])) _
    jvm_step X5.here [X5.here.top, hx, (hb hby dA28_32), X5.method', Bd.returns, Value.isRef, FieldType.isReference]
    first | (intro acts; rw [hr _ acts rfl rfl rfl]) | rw [hr _ _ rfl rfl rfl]
    exact Steps.refl _
  · show QA28 Z xo0_ ui1_ ui2_ k_xo0_ h0 n0 _ T5.heap _
    rw [e5]
    exact ⟨b2, k2, rfl, N5, K5, g_b2, sz_b2, V5⟩
theorem own_pd17 : parseMethodDescriptor "([BI)[B" = some ⟨[(.array .byte), .int], some (.array .byte)⟩ := by decide +kernel
theorem dA24_0 : decode jdk_68_method_9_code 0 = .ok (.aload_n 0, 1) := by decide +kernel
theorem dA24_1 : decode jdk_68_method_9_code 1 = .ok (.getfield 15, 3) := by decide +kernel
theorem dA24_4 : decode jdk_68_method_9_code 4 = .ok (.arraylength, 1) := by decide +kernel
theorem dA24_5 : decode jdk_68_method_9_code 5 = .ok (.aload_n 0, 1) := by decide +kernel
theorem dA24_6 : decode jdk_68_method_9_code 6 = .ok (.getfield 22, 3) := by decide +kernel
theorem dA24_9 : decode jdk_68_method_9_code 9 = .ok (.ishr, 1) := by decide +kernel
theorem dA24_10 : decode jdk_68_method_9_code 10 = .ok (.istore_n 2, 1) := by decide +kernel
theorem dA24_11 : decode jdk_68_method_9_code 11 = .ok (.iload_n 1, 1) := by decide +kernel
theorem dA24_12 : decode jdk_68_method_9_code 12 = .ok (.iload_n 2, 1) := by decide +kernel
theorem dA24_13 : decode jdk_68_method_9_code 13 = .ok (.isub, 1) := by decide +kernel
theorem dA24_14 : decode jdk_68_method_9_code 14 = .ok (.ifCond .le 24, 3) := by decide +kernel
theorem dA24_17 : decode jdk_68_method_9_code 17 = .ok (.aload_n 0, 1) := by decide +kernel
theorem dA24_18 : decode jdk_68_method_9_code 18 = .ok (.aload_n 0, 1) := by decide +kernel
theorem dA24_19 : decode jdk_68_method_9_code 19 = .ok (.getfield 15, 3) := by decide +kernel
theorem dA24_22 : decode jdk_68_method_9_code 22 = .ok (.aload_n 0, 1) := by decide +kernel
theorem dA24_23 : decode jdk_68_method_9_code 23 = .ok (.iload_n 1, 1) := by decide +kernel
theorem dA24_24 : decode jdk_68_method_9_code 24 = .ok (.invokevirtual 104, 3) := by decide +kernel
theorem dA24_27 : decode jdk_68_method_9_code 27 = .ok (.aload_n 0, 1) := by decide +kernel
theorem dA24_28 : decode jdk_68_method_9_code 28 = .ok (.getfield 22, 3) := by decide +kernel
theorem dA24_31 : decode jdk_68_method_9_code 31 = .ok (.ishl, 1) := by decide +kernel
theorem dA24_32 : decode jdk_68_method_9_code 32 = .ok (.invokestatic 108, 3) := by decide +kernel
theorem dA24_35 : decode jdk_68_method_9_code 35 = .ok (.putfield 15, 3) := by decide +kernel
theorem dA24_38 : decode jdk_68_method_9_code 38 = .ok (.return_, 1) := by decide +kernel
theorem efA24 (m : MethodId) (xo0_ : Addr) : entryFrame m #[(.ref xo0_), (.int (20 : Int32))] 3 = mkF m 0 #[.val (.ref xo0_), .val (.int (20 : Int32)), .unset] [] := by first | (simp [entryFrame, mkF, argsToLocals, Value.category]; done) | rfl
def QA24 (Z : State) (xo0_ : Addr) (uo1_ : Addr) (ui2_ : Int32) (ui3_ : Int32) (k_uo1_ : ClassId) (h0 : Heap) (n0 : Nat) (v : Option Value) (h : Heap) (L : List Loc) : Prop := ∃ ffb2_7 : Addr, ∃ k_ffb2_7 : ClassId, v = none ∧ Fr n0 L ∧ Keep h0 h [xo0_] ∧ n0 ≤ ffb2_7 ∧ h0.size ≤ ffb2_7 ∧ Exa Z h xo0_ "java/lang/StringBuilder" ∧ Fld Z h xo0_ "java/lang/AbstractStringBuilder" "value" "[B" (.ref ffb2_7) ∧ Fld Z h xo0_ "java/lang/AbstractStringBuilder" "coder" "B" (.int (0 : Int32)) ∧ Fld Z h xo0_ "java/lang/AbstractStringBuilder" "count" "I" (.int (10 : Int32)) ∧ Arv Z h ffb2_7 k_ffb2_7 .byte (34 : Int32) [(.int ui2_), (.int (32 : Int32)), (.int (102 : Int32)), (.int (105 : Int32)), (.int (108 : Int32)), (.int (101 : Int32)), (.int (115 : Int32)), (.int (44 : Int32)), (.int (32 : Int32)), (.int ui3_), (.int (0 : Int32)), (.int (0 : Int32)), (.int (0 : Int32)), (.int (0 : Int32)), (.int (0 : Int32)), (.int (0 : Int32)), (.int (0 : Int32)), (.int (0 : Int32)), (.int (0 : Int32)), (.int (0 : Int32)), (.int (0 : Int32)), (.int (0 : Int32)), (.int (0 : Int32)), (.int (0 : Int32)), (.int (0 : Int32)), (.int (0 : Int32)), (.int (0 : Int32)), (.int (0 : Int32)), (.int (0 : Int32)), (.int (0 : Int32)), (.int (0 : Int32)), (.int (0 : Int32)), (.int (0 : Int32)), (.int (0 : Int32))] (.int (0 : Int32))
set_option maxRecDepth 65536 in
set_option maxHeartbeats 40000000 in
theorem rmA24 (l : Launch) (Z : State) (a0 : Array Value) (hw : ∀ d ∈ tables_1, d.before a0 Z = true) (ws : List Jvm.Cond) (xo0_ : Addr) (uo1_ : Addr) (ui2_ : Int32) (ui3_ : Int32) (k_uo1_ : ClassId) (h0 : Heap) (n0 : Nat) (Z0 : n0 ≤ h0.size) (E_xo0_ : Exa Z h0 xo0_ "java/lang/StringBuilder") (F_value_xo0_ : Fld Z h0 xo0_ "java/lang/AbstractStringBuilder" "value" "[B" (.ref uo1_)) (F_coder_xo0_ : Fld Z h0 xo0_ "java/lang/AbstractStringBuilder" "coder" "B" (.int (0 : Int32))) (F_count_xo0_ : Fld Z h0 xo0_ "java/lang/AbstractStringBuilder" "count" "I" (.int (10 : Int32))) (V_uo1_ : Arv Z h0 uo1_ k_uo1_ .byte (16 : Int32) [(.int ui2_), (.int (32 : Int32)), (.int (102 : Int32)), (.int (105 : Int32)), (.int (108 : Int32)), (.int (101 : Int32)), (.int (115 : Int32)), (.int (44 : Int32)), (.int (32 : Int32)), (.int ui3_), (.int (0 : Int32)), (.int (0 : Int32)), (.int (0 : Int32)), (.int (0 : Int32)), (.int (0 : Int32)), (.int (0 : Int32))] (.int (0 : Int32))) (g_xo0_ : n0 ≤ xo0_) :
    MetFree l (⟨"java/lang/AbstractStringBuilder", "ensureCapacityInternal", "(I)V"⟩ : MethodName) (head1 (Jvm.Cond.code (⟨"java/lang/AbstractStringBuilder", "ensureCapacityInternal", "(I)V"⟩ : MethodName) jdk_68_method_9_code 3 none :: ws) ({ frames := 3, cells := 1, slots := 34, locals := 55 } : Room)) (fun av_ U => av_ = #[(.ref xo0_), (.int (20 : Int32))] ∧ Z.Warmed39 U.vm ∧ U.heap = h0) (fun _ _ _ _ _ => True) (fun _ U o U' => ∃ v L, o = .returned v ∧ QA24 Z xo0_ uo1_ ui2_ ui3_ k_uo1_ h0 n0 v U'.heap L ∧ FrameEnd U o U' L ({ frames := 3, cells := 1, slots := 34, locals := 55 } : Room).cells ({ frames := 3, cells := 1, slots := 34, locals := 55 } : Room).slots) := by
  refine MetFree.of_bodySF (plainFor_of_name own_pn1) hisR ?_
  intro p e s m args below meth c s₁ Bd hml0 hP hK
  obtain ⟨rfl, hZ, hh⟩ := hP
  have hx := Bd.exec
  have hby := Bd.bytes
  have hml : c.maxLocals = 3 := hml0
  have hown : s.vm.findClass "java/lang/AbstractStringBuilder" = some m.cls := findClass_of_methodNamed Bd.named
  have hnm := (name_of_methodNamed Bd.named Bd.method).1
  have X0 : Stand p l e ({ frames := 3, cells := 1, slots := 34, locals := 55 } : Room) s m #[(.ref xo0_), (.int (20 : Int32))] below meth c s₁ [] 0 0 := Stand.of_body Bd
  have e0 : s₁.heap = h0 := by rw [← hh, Bd.state]; rfl
  have N0 := Fr.nil n0
  have pre0 : ∀ t, Steps p.tables e below (s₁.setTop (mkF m 0 #[.val (.ref xo0_), .val (.int (20 : Int32)), .unset] [])) t → Steps p.tables e below (s₁.setTop (entryFrame m #[(.ref xo0_), (.int (20 : Int32))] 3)) t := fun t k => castTop (efA24 m xo0_) k
  obtain ⟨T1, X1, e1, st1⟩ := getF X0 hx hZ hown (host := "") (Or.inl (hw _ (List.mem_of_getElem? (i := 39) rfl))) Via.refl e0 F_value_xo0_ (g := (mkF m 1 #[.val (.ref xo0_), .val (.int (20 : Int32)), .unset] [(.ref xo0_)])) rfl rfl (hb hby dA24_1)
  obtain ⟨cl2, Ar2, q2, S2, M2, Hs2, G2⟩ := (id V_uo1_)
  obtain ⟨T3, X3, e3, st3⟩ := getF X1 hx hZ hown (host := "") (Or.inl (hw _ (List.mem_of_getElem? (i := 41) rfl))) Via.refl e1 F_coder_xo0_ (g := (mkF m 6 #[.val (.ref xo0_), .val (.int (20 : Int32)), .unset] [(.ref xo0_), (.int (16 : Int32))])) rfl rfl (hb hby dA24_6)
  obtain ⟨T4, X4, e4, st4⟩ := getF X3 hx hZ hown (host := "") (Or.inl (hw _ (List.mem_of_getElem? (i := 39) rfl))) Via.refl e3 F_value_xo0_ (g := (mkF m 19 #[.val (.ref xo0_), .val (.int (20 : Int32)), .val (.int (16 : Int32))] [(.ref xo0_), (.ref xo0_)])) rfl rfl (hb hby dA24_19)
  obtain ⟨cq5, qa5, qb5⟩ := E_xo0_.cell
  obtain ⟨_, _, ⟨T5, L5, k5, n5⟩, -, X5, ⟨Lc5, hQ5, l5, y5, z5⟩, st5⟩ := X4.privateBack hx (y := (⟨"java/lang/AbstractStringBuilder", "newCapacity", "(I)I"⟩ : MethodName)) hown (mvT hZ (hw _ (List.mem_of_getElem? (i := 127) rfl))) (mvT hZ (hw _ (List.mem_of_getElem? (i := 128) rfl))) (selfSel hZ (hw _ (List.mem_of_getElem? (i := 130) rfl)) (hw _ (List.mem_of_getElem? (i := 128) rfl)) (hw _ (List.mem_of_getElem? (i := 129) rfl)) (by decide)) (Cond.privateMethod_at (mvP hZ (hw _ (List.mem_of_getElem? (i := 129) rfl)) (args := #[]))) (mvT hZ (hw _ (List.mem_of_getElem? (i := 131) rfl))) (by decide) (backOf (W := 2) (rmA25 l Z a0 hw [] xo0_ uo1_ ui2_ ui3_ k_uo1_ h0 n0 Z0 E_xo0_ F_value_xo0_ F_coder_xo0_ F_count_xo0_ V_uo1_) hZ (hw _ (List.mem_of_getElem? (i := 131) rfl)) (hw _ (List.mem_of_getElem? (i := 33) rfl)) (by decide) (by decide)) (g := (mkF m 24 #[.val (.ref xo0_), .val (.int (20 : Int32)), .val (.int (16 : Int32))] [(.int (20 : Int32)), (.ref xo0_), (.ref uo1_), (.ref xo0_)])) rfl (by rw [hml]; rfl) (Steps.refl _) (a := xo0_) (by rw [e4]; exact qa5) qb5 (argsL := [(.int (20 : Int32))]) (rest := [(.ref uo1_), (.ref xo0_)]) (lenOf own_pd16 rfl) rfl (by show 2 * 0 + _ ≤ _; exact Nat.le_of_eq rfl) (hb hby dA24_24) (fun _ _ => ⟨rfl, e4, (by decide : 0 + 0 ≤ _), (by decide : 0 + 0 ≤ _)⟩)
  dsimp only [Pt.U, Pt.locs, Pt.cells, Pt.slots] at X5 l5 y5 z5 st5 hQ5
  subst l5 y5 z5
  obtain ⟨rfl, Nq5, e5⟩ := hQ5
  have N5 := Fr.app N0 Nq5
  obtain ⟨T6, X6, e6, st6⟩ := getF X5 hx hZ hown (host := "") (Or.inl (hw _ (List.mem_of_getElem? (i := 41) rfl))) Via.refl e5 F_coder_xo0_ (g := (mkF m 28 #[.val (.ref xo0_), .val (.int (20 : Int32)), .val (.int (16 : Int32))] [(.ref xo0_), (.int (34 : Int32)), (.ref uo1_), (.ref xo0_)])) rfl rfl (hb hby dA24_28)
  obtain ⟨_, _, ⟨T7, L7, k7, n7⟩, -, X7, ⟨Lc7, hQ7, l7, y7, z7⟩, st7⟩ := Jvm.LawKit.callS X6 hx (y := (⟨"java/util/Arrays", "copyOf", "([BI)[B"⟩ : MethodName)) hown (mvT hZ (hw _ (List.mem_of_getElem? (i := 142) rfl))) (mvT hZ (hw _ (List.mem_of_getElem? (i := 143) rfl))) (mvT hZ (hw _ (List.mem_of_getElem? (i := 144) rfl))) (mvT hZ (hw _ (List.mem_of_getElem? (i := 145) rfl))) (by decide) (backOf (W := 1) (rmA28 l Z a0 hw [] uo1_ ui2_ ui3_ k_uo1_ h0 n0 Z0 V_uo1_) hZ (hw _ (List.mem_of_getElem? (i := 145) rfl)) (hw _ (List.mem_of_getElem? (i := 144) rfl)) (by decide) (by decide)) (g := (mkF m 32 #[.val (.ref xo0_), .val (.int (20 : Int32)), .val (.int (16 : Int32))] [(.int (34 : Int32)), (.ref uo1_), (.ref xo0_)])) rfl (by rw [hml]; rfl) (argsL := [(.ref uo1_), (.int (34 : Int32))]) (rest := [(.ref xo0_)]) (lenOf own_pd17 rfl) rfl (by show 2 * 0 + _ ≤ _; exact Nat.le_of_eq rfl) (hb hby dA24_32) (fun _ _ => ⟨rfl, e6, (by decide : 0 + 1 ≤ _), (by decide : 0 + 34 ≤ _)⟩)
  dsimp only [Pt.U, Pt.locs, Pt.cells, Pt.slots] at X7 l7 y7 z7 st7 hQ7
  subst l7 y7 z7
  obtain ⟨fb2_7, k_fb2_7, rfl, Nq7, Kc7, g_fb2_7, zq_fb2_7, q7_0⟩ := hQ7
  have sz_fb2_7 : h0.size ≤ fb2_7 := Nat.le_trans (Keep.refl h0 [xo0_]).1 zq_fb2_7
  have ne_xo0__fb2_7 : xo0_ ≠ fb2_7 := Nat.ne_of_lt (Nat.lt_of_lt_of_le E_xo0_.lt zq_fb2_7)
  have ne_uo1__fb2_7 : uo1_ ≠ fb2_7 := Nat.ne_of_lt (Nat.lt_of_lt_of_le V_uo1_.lt zq_fb2_7)
  have K7 : Keep h0 T7.heap [xo0_] := Keep.trans (Keep.refl h0 [xo0_]) Kc7 all0
  have Zs7 : n0 ≤ T7.heap.size := Nat.le_trans Z0 Kc7.1
  have N7 := Fr.app N5 Nq7
  obtain ⟨T8, h8, X8, e8, W8, st8⟩ := putF X7 hx hZ hown (host := "") (Or.inl (hw _ (List.mem_of_getElem? (i := 39) rfl))) Via.refl rfl (F_value_xo0_.keep Kc7 nin0) (E_xo0_.keep Kc7) (Or.inl (hw _ (List.mem_of_getElem? (i := 40) rfl))) (hw _ (List.mem_of_getElem? (i := 24) rfl)) (ty := (.array .byte)) (by decide) rfl rfl (g := (mkF m 35 #[.val (.ref xo0_), .val (.int (20 : Int32)), .val (.int (16 : Int32))] [(.ref fb2_7), (.ref xo0_)])) rfl rfl (hb hby dA24_35)
  have F8 : Fld Z h8 xo0_ "java/lang/AbstractStringBuilder" "value" "[B" (.ref fb2_7) := Fld.same W8 (F_value_xo0_.keep Kc7 nin0)
  have K8 : Keep h0 h8 [xo0_] := K7.wr W8 (Or.inl (List.mem_of_getElem? (i := 0) rfl))
  have Zs8 : n0 ≤ h8.size := Nat.le_trans Zs7 (Keep.of_wr W8).1
  have N8 := Fr.snoc X8 N7 g_xo0_
  obtain ⟨fs, hr, hrun, hended, hW, hsame⟩ := X8.leave (v := none) (fun _ => rfl)
  refine ⟨_, _, (pre0 _ ?_), hrun, hended, _, _, rfl, ?_, ⟨_, rfl⟩, hW, hsame.mono (by decide) (by decide)⟩
  · show Steps p.tables e below (s₁.setTop (mkF m 0 #[.val (.ref xo0_), .val (.int (20 : Int32)), .unset] [])) _
    refine XS.aloadN X0.here hx rfl (hb hby dA24_0) rfl rfl ?_
    show Steps p.tables e below (s₁.setTop (mkF m 1 #[.val (.ref xo0_), .val (.int (20 : Int32)), .unset] [(.ref xo0_)])) _
    refine st1 _ ?_
    show Steps p.tables e below (T1.setTop (mkF m 4 #[.val (.ref xo0_), .val (.int (20 : Int32)), .unset] [(.ref uo1_)])) _
    refine X1.arraylength hx (by rw [e1]; exact Ar2.1) (State.isArrayOf_alike hZ.alike Ar2.2.1) (g := (mkF m 4 #[.val (.ref xo0_), .val (.int (20 : Int32)), .unset] [(.ref uo1_)])) rfl rfl (hb hby dA24_4) _ ?_
    rw [len_of S2 M2]
    show Steps p.tables e below (T1.setTop (mkF m 5 #[.val (.ref xo0_), .val (.int (20 : Int32)), .unset] [(.int (16 : Int32))])) _
    refine XS.aloadN X1.here hx rfl (hb hby dA24_5) rfl rfl ?_
    show Steps p.tables e below (T1.setTop (mkF m 6 #[.val (.ref xo0_), .val (.int (20 : Int32)), .unset] [(.ref xo0_), (.int (16 : Int32))])) _
    refine st3 _ ?_
    show Steps p.tables e below (T3.setTop (mkF m 9 #[.val (.ref xo0_), .val (.int (20 : Int32)), .unset] [(.int (0 : Int32)), (.int (16 : Int32))])) _
    refine XS.ishr X3.here hx rfl (hb hby dA24_9) rfl ?_
    rw [show ((16 : Int32) >>> ((0 : Int32) &&& 31)) = (16 : Int32) from by decide]
    show Steps p.tables e below (T3.setTop (mkF m 10 #[.val (.ref xo0_), .val (.int (20 : Int32)), .unset] [(.int (16 : Int32))])) _
    refine XS.istoreN X3.here hx rfl (hb hby dA24_10) rfl (l' := #[.val (.ref xo0_), .val (.int (20 : Int32)), .val (.int (16 : Int32))]) rfl ?_
    show Steps p.tables e below (T3.setTop (mkF m 11 #[.val (.ref xo0_), .val (.int (20 : Int32)), .val (.int (16 : Int32))] [])) _
    refine XS.iloadN X3.here hx rfl (hb hby dA24_11) rfl ?_
    show Steps p.tables e below (T3.setTop (mkF m 12 #[.val (.ref xo0_), .val (.int (20 : Int32)), .val (.int (16 : Int32))] [(.int (20 : Int32))])) _
    refine XS.iloadN X3.here hx rfl (hb hby dA24_12) rfl ?_
    show Steps p.tables e below (T3.setTop (mkF m 13 #[.val (.ref xo0_), .val (.int (20 : Int32)), .val (.int (16 : Int32))] [(.int (16 : Int32)), (.int (20 : Int32))])) _
    refine XS.isub X3.here hx rfl (hb hby dA24_13) rfl ?_
    show Steps p.tables e below (T3.setTop (mkF m 14 #[.val (.ref xo0_), .val (.int (20 : Int32)), .val (.int (16 : Int32))] [(.int (4 : Int32))])) _
    refine XS.ifNo X3.here hx rfl (hb hby dA24_14) rfl ((if0 _ _).trans (tlt (by decide : (0 : Int32) < (4 : Int32))).2.2.2) ?_
    show Steps p.tables e below (T3.setTop (mkF m 17 #[.val (.ref xo0_), .val (.int (20 : Int32)), .val (.int (16 : Int32))] [])) _
    refine XS.aloadN X3.here hx rfl (hb hby dA24_17) rfl rfl ?_
    show Steps p.tables e below (T3.setTop (mkF m 18 #[.val (.ref xo0_), .val (.int (20 : Int32)), .val (.int (16 : Int32))] [(.ref xo0_)])) _
    refine XS.aloadN X3.here hx rfl (hb hby dA24_18) rfl rfl ?_
    show Steps p.tables e below (T3.setTop (mkF m 19 #[.val (.ref xo0_), .val (.int (20 : Int32)), .val (.int (16 : Int32))] [(.ref xo0_), (.ref xo0_)])) _
    refine st4 _ ?_
    show Steps p.tables e below (T4.setTop (mkF m 22 #[.val (.ref xo0_), .val (.int (20 : Int32)), .val (.int (16 : Int32))] [(.ref uo1_), (.ref xo0_)])) _
    refine XS.aloadN X4.here hx rfl (hb hby dA24_22) rfl rfl ?_
    show Steps p.tables e below (T4.setTop (mkF m 23 #[.val (.ref xo0_), .val (.int (20 : Int32)), .val (.int (16 : Int32))] [(.ref xo0_), (.ref uo1_), (.ref xo0_)])) _
    refine XS.iloadN X4.here hx rfl (hb hby dA24_23) rfl ?_
    show Steps p.tables e below (T4.setTop (mkF m 24 #[.val (.ref xo0_), .val (.int (20 : Int32)), .val (.int (16 : Int32))] [(.int (20 : Int32)), (.ref xo0_), (.ref uo1_), (.ref xo0_)])) _
    refine st5.trans ?_
    show Steps p.tables e below (T5.setTop (mkF m 27 #[.val (.ref xo0_), .val (.int (20 : Int32)), .val (.int (16 : Int32))] [(.int (34 : Int32)), (.ref uo1_), (.ref xo0_)])) _
    refine XS.aloadN X5.here hx rfl (hb hby dA24_27) rfl rfl ?_
    show Steps p.tables e below (T5.setTop (mkF m 28 #[.val (.ref xo0_), .val (.int (20 : Int32)), .val (.int (16 : Int32))] [(.ref xo0_), (.int (34 : Int32)), (.ref uo1_), (.ref xo0_)])) _
    refine st6 _ ?_
    show Steps p.tables e below (T6.setTop (mkF m 31 #[.val (.ref xo0_), .val (.int (20 : Int32)), .val (.int (16 : Int32))] [(.int (0 : Int32)), (.int (34 : Int32)), (.ref uo1_), (.ref xo0_)])) _
    refine XS.ishl X6.here hx rfl (hb hby dA24_31) rfl ?_
    rw [show ((34 : Int32) <<< ((0 : Int32) &&& 31)) = (34 : Int32) from by decide]
    show Steps p.tables e below (T6.setTop (mkF m 32 #[.val (.ref xo0_), .val (.int (20 : Int32)), .val (.int (16 : Int32))] [(.int (34 : Int32)), (.ref uo1_), (.ref xo0_)])) _
    refine st7 _ ?_
    show Steps p.tables e below (T7.setTop (mkF m 35 #[.val (.ref xo0_), .val (.int (20 : Int32)), .val (.int (16 : Int32))] [(.ref fb2_7), (.ref xo0_)])) _
    refine st8 _ ?_
    show Steps p.tables e below (T8.setTop (mkF m 38 #[.val (.ref xo0_), .val (.int (20 : Int32)), .val (.int (16 : Int32))] [])) _
    exact X8.returnOut hx Bd.returns (hb hby dA24_38) hr
  · show QA24 Z xo0_ uo1_ ui2_ ui3_ k_uo1_ h0 n0 _ T8.heap _
    rw [e8]
    exact ⟨fb2_7, k_fb2_7, rfl, N8, K8, g_fb2_7, sz_fb2_7, ((E_xo0_.keep Kc7).wr W8), F8, (Fld.other W8 (F_coder_xo0_.keep Kc7 nin0) (Or.inr (slot_ne (Or.inl (hw _ (List.mem_of_getElem? (i := 42) rfl))) (Or.inl (hw _ (List.mem_of_getElem? (i := 40) rfl))) (by decide) (t := .byte) (t' := (.array .byte)) (by decide) (by decide)))), (Fld.other W8 (F_count_xo0_.keep Kc7 nin0) (Or.inr (slot_ne (Or.inl (hw _ (List.mem_of_getElem? (i := 54) rfl))) (Or.inl (hw _ (List.mem_of_getElem? (i := 40) rfl))) (by decide) (t := .int) (t' := (.array .byte)) (by decide) (by decide)))), (q7_0.other W8 (Ne.symm ne_xo0__fb2_7))⟩
theorem dA31_0 : decode jdk_68_method_71_code 0 = .ok (.getstatic 18, 3) := by decide +kernel
theorem dA31_3 : decode jdk_68_method_71_code 3 = .ok (.ifCond .eq 18, 3) := by decide +kernel
theorem dA31_6 : decode jdk_68_method_71_code 6 = .ok (.aload_n 0, 1) := by decide +kernel
theorem dA31_7 : decode jdk_68_method_71_code 7 = .ok (.getfield 22, 3) := by decide +kernel
theorem dA31_10 : decode jdk_68_method_71_code 10 = .ok (.aload_n 1, 1) := by decide +kernel
theorem dA31_11 : decode jdk_68_method_71_code 11 = .ok (.invokevirtual 40, 3) := by decide +kernel
theorem dA31_14 : decode jdk_68_method_71_code 14 = .ok (.if_icmp .eq 7, 3) := by decide +kernel
theorem dA31_21 : decode jdk_68_method_71_code 21 = .ok (.return_, 1) := by decide +kernel
theorem efA31 (m : MethodId) (xo0_ : Addr) (xo1_ : Addr) : entryFrame m #[(.ref xo0_), (.ref xo1_)] 2 = mkF m 0 #[.val (.ref xo0_), .val (.ref xo1_)] [] := by first | (simp [entryFrame, mkF, argsToLocals, Value.category]; done) | rfl
def QA31 (Z : State) (xo0_ : Addr) (xo1_ : Addr) (uo1_ : Addr) (uo2_ : Addr) (ui3_ : Int32) (h0 : Heap) (n0 : Nat) (v : Option Value) (h : Heap) (L : List Loc) : Prop := v = none ∧ Fr n0 L ∧ h = h0
set_option maxRecDepth 65536 in
set_option maxHeartbeats 40000000 in
theorem rmA31 (l : Launch) (Z : State) (a0 : Array Value) (hw : ∀ d ∈ tables_1, d.before a0 Z = true) (ws : List Jvm.Cond) (xo0_ : Addr) (xo1_ : Addr) (uo1_ : Addr) (uo2_ : Addr) (ui3_ : Int32) (h0 : Heap) (n0 : Nat) (Z0 : n0 ≤ h0.size) (E_xo0_ : Exa Z h0 xo0_ "java/lang/StringBuilder") (F_value_xo0_ : Fld Z h0 xo0_ "java/lang/AbstractStringBuilder" "value" "[B" (.ref uo1_)) (F_coder_xo0_ : Fld Z h0 xo0_ "java/lang/AbstractStringBuilder" "coder" "B" (.int (0 : Int32))) (F_count_xo0_ : Fld Z h0 xo0_ "java/lang/AbstractStringBuilder" "count" "I" (.int (10 : Int32))) (E_xo1_ : Exa Z h0 xo1_ "java/lang/String") (F_coder_xo1_ : Fld Z h0 xo1_ "java/lang/String" "coder" "B" (.int (0 : Int32))) (F_value_xo1_ : Fld Z h0 xo1_ "java/lang/String" "value" "[B" (.ref uo2_)) (X00 : Old Z n0 h0) (S_COMPACT_STRINGS : Sta Z Z.heap "java/lang/String" "COMPACT_STRINGS" "Z" (.int ui3_)) (hp0_ : ¬ (ui3_ = (0 : Int32))) :
    MetFree l (⟨"java/lang/AbstractStringBuilder", "inflateIfNeededFor", "(Ljava/lang/String;)V"⟩ : MethodName) (head1 (Jvm.Cond.code (⟨"java/lang/AbstractStringBuilder", "inflateIfNeededFor", "(Ljava/lang/String;)V"⟩ : MethodName) jdk_68_method_71_code 2 none :: ws) ({ frames := 1, cells := 0, slots := 0, locals := 13 } : Room)) (fun av_ U => av_ = #[(.ref xo0_), (.ref xo1_)] ∧ Z.Warmed39 U.vm ∧ U.heap = h0) (fun _ _ _ _ _ => True) (fun _ U o U' => ∃ v L, o = .returned v ∧ QA31 Z xo0_ xo1_ uo1_ uo2_ ui3_ h0 n0 v U'.heap L ∧ FrameEnd U o U' L ({ frames := 1, cells := 0, slots := 0, locals := 13 } : Room).cells ({ frames := 1, cells := 0, slots := 0, locals := 13 } : Room).slots) := by
  refine MetFree.of_bodySF (plainFor_of_name own_pn1) hisR ?_
  intro p e s m args below meth c s₁ Bd hml0 hP hK
  obtain ⟨rfl, hZ, hh⟩ := hP
  have hx := Bd.exec
  have hby := Bd.bytes
  have hml : c.maxLocals = 2 := hml0
  have hown : s.vm.findClass "java/lang/AbstractStringBuilder" = some m.cls := findClass_of_methodNamed Bd.named
  have hnm := (name_of_methodNamed Bd.named Bd.method).1
  have X0 : Stand p l e ({ frames := 1, cells := 0, slots := 0, locals := 13 } : Room) s m #[(.ref xo0_), (.ref xo1_)] below meth c s₁ [] 0 0 := Stand.of_body Bd
  have e0 : s₁.heap = h0 := by rw [← hh, Bd.state]; rfl
  have N0 := Fr.nil n0
  have pre0 : ∀ t, Steps p.tables e below (s₁.setTop (mkF m 0 #[.val (.ref xo0_), .val (.ref xo1_)] [])) t → Steps p.tables e below (s₁.setTop (entryFrame m #[(.ref xo0_), (.ref xo1_)] 2)) t := fun t k => castTop (efA31 m xo0_ xo1_) k
  obtain ⟨T1, X1, e1, st1⟩ := getS2 X0 hx hZ hown (host := "") (Or.inl (hw _ (List.mem_of_getElem? (i := 36) rfl))) Via.refl e0 (S_COMPACT_STRINGS.ext X00.2) (g := (mkF m 0 #[.val (.ref xo0_), .val (.ref xo1_)] [])) rfl (hb hby dA31_0)
  obtain ⟨T2, X2, e2, st2⟩ := getF X1 hx hZ hown (host := "") (Or.inl (hw _ (List.mem_of_getElem? (i := 41) rfl))) Via.refl e1 F_coder_xo0_ (g := (mkF m 7 #[.val (.ref xo0_), .val (.ref xo1_)] [(.ref xo0_)])) rfl rfl (hb hby dA31_7)
  obtain ⟨cq3, kq3, q3a, q3b, q3c⟩ := isOf hZ e2 E_xo1_
  obtain ⟨_, _, ⟨T3, L3, k3, n3⟩, -, X3, ⟨Lc3, hQ3, l3, y3, z3⟩, st3⟩ := X2.virtualBack hx (y := (⟨"java/lang/String", "coder", "()B"⟩ : MethodName)) (z := (⟨"java/lang/String", "coder", "()B"⟩ : MethodName)) hown (mvT hZ (hw _ (List.mem_of_getElem? (i := 114) rfl))) (mvT hZ (hw _ (List.mem_of_getElem? (i := 98) rfl))) (notFace_of_selects (args := #[]) (mvT hZ (hw _ (List.mem_of_getElem? (i := 100) rfl)))) (mvT hZ (hw _ (List.mem_of_getElem? (i := 100) rfl))) (mvT hZ (hw _ (List.mem_of_getElem? (i := 99) rfl))) (by decide) (backOf (W := 1) (rmA11 l Z a0 hw [] xo1_ uo2_ ui3_ h0 n0 Z0 E_xo1_ F_coder_xo1_ F_value_xo1_ X00 S_COMPACT_STRINGS hp0_) hZ (hw _ (List.mem_of_getElem? (i := 101) rfl)) (hw _ (List.mem_of_getElem? (i := 37) rfl)) (by decide) (by decide)) q3a q3c (g := (mkF m 11 #[.val (.ref xo0_), .val (.ref xo1_)] [(.ref xo1_), (.int (0 : Int32))])) rfl (by rw [hml]; rfl) (Steps.refl _) (argsL := []) (rest := [(.int (0 : Int32))]) (lenOf own_pd7 rfl) rfl (by show 2 * 0 + _ ≤ _; exact Nat.le_of_eq rfl) (hb hby dA31_11) (fun _ _ => ⟨rfl, e2, (by decide : 0 + 0 ≤ _), (by decide : 0 + 0 ≤ _)⟩)
  dsimp only [Pt.U, Pt.locs, Pt.cells, Pt.slots] at X3 l3 y3 z3 st3 hQ3
  subst l3 y3 z3
  obtain ⟨rfl, Nq3, e3⟩ := hQ3
  have N3 := Fr.app N0 Nq3
  obtain ⟨fs, hr, hrun, hended, hW, hsame⟩ := X3.leave (v := none) (fun _ => rfl)
  refine ⟨_, _, (pre0 _ ?_), hrun, hended, _, _, rfl, ?_, ⟨_, rfl⟩, hW, hsame.mono (by decide) (by decide)⟩
  · show Steps p.tables e below (s₁.setTop (mkF m 0 #[.val (.ref xo0_), .val (.ref xo1_)] [])) _
    refine st1 _ ?_
    show Steps p.tables e below (T1.setTop (mkF m 3 #[.val (.ref xo0_), .val (.ref xo1_)] [(.int ui3_)])) _
    refine XS.ifNo X1.here hx rfl (hb hby dA31_3) rfl ((if0 _ _).trans (feq hp0_).1) ?_
    show Steps p.tables e below (T1.setTop (mkF m 6 #[.val (.ref xo0_), .val (.ref xo1_)] [])) _
    refine XS.aloadN X1.here hx rfl (hb hby dA31_6) rfl rfl ?_
    show Steps p.tables e below (T1.setTop (mkF m 7 #[.val (.ref xo0_), .val (.ref xo1_)] [(.ref xo0_)])) _
    refine st2 _ ?_
    show Steps p.tables e below (T2.setTop (mkF m 10 #[.val (.ref xo0_), .val (.ref xo1_)] [(.int (0 : Int32))])) _
    refine XS.aloadN X2.here hx rfl (hb hby dA31_10) rfl rfl ?_
    show Steps p.tables e below (T2.setTop (mkF m 11 #[.val (.ref xo0_), .val (.ref xo1_)] [(.ref xo1_), (.int (0 : Int32))])) _
    refine st3.trans ?_
    show Steps p.tables e below (T3.setTop (mkF m 14 #[.val (.ref xo0_), .val (.ref xo1_)] [(.int (0 : Int32)), (.int (0 : Int32))])) _
    refine XS.icmpYes X3.here hx rfl (pc0 := 14) (pc' := 21) rfl (hb hby dA31_14) rfl (teq (by decide : (0 : Int32) = (0 : Int32))).1 (by decide) (by decide) ?_
    show Steps p.tables e below (T3.setTop (mkF m 21 #[.val (.ref xo0_), .val (.ref xo1_)] [])) _
    exact X3.returnOut hx Bd.returns (hb hby dA31_21) hr
  · show QA31 Z xo0_ xo1_ uo1_ uo2_ ui3_ h0 n0 _ T3.heap _
    rw [e3]
    exact ⟨rfl, N3, rfl⟩
theorem dA32_0 : decode jdk_42_method_147_code 0 = .ok (.aload_n 0, 1) := by decide +kernel
theorem dA32_1 : decode jdk_42_method_147_code 1 = .ok (.invokevirtual 335, 3) := by decide +kernel
theorem dA32_4 : decode jdk_42_method_147_code 4 = .ok (.iload_n 3, 1) := by decide +kernel
theorem dA32_5 : decode jdk_42_method_147_code 5 = .ok (.if_icmp .ne 23, 3) := by decide +kernel
theorem dA32_8 : decode jdk_42_method_147_code 8 = .ok (.aload_n 0, 1) := by decide +kernel
theorem dA32_9 : decode jdk_42_method_147_code 9 = .ok (.getfield 9, 3) := by decide +kernel
theorem dA32_12 : decode jdk_42_method_147_code 12 = .ok (.iconst 0, 1) := by decide +kernel
theorem dA32_13 : decode jdk_42_method_147_code 13 = .ok (.aload_n 1, 1) := by decide +kernel
theorem dA32_14 : decode jdk_42_method_147_code 14 = .ok (.iload_n 2, 1) := by decide +kernel
theorem dA32_15 : decode jdk_42_method_147_code 15 = .ok (.iload_n 3, 1) := by decide +kernel
theorem dA32_16 : decode jdk_42_method_147_code 16 = .ok (.ishl, 1) := by decide +kernel
theorem dA32_17 : decode jdk_42_method_147_code 17 = .ok (.aload_n 0, 1) := by decide +kernel
theorem dA32_18 : decode jdk_42_method_147_code 18 = .ok (.getfield 9, 3) := by decide +kernel
theorem dA32_21 : decode jdk_42_method_147_code 21 = .ok (.arraylength, 1) := by decide +kernel
theorem dA32_22 : decode jdk_42_method_147_code 22 = .ok (.invokestatic 212, 3) := by decide +kernel
theorem dA32_25 : decode jdk_42_method_147_code 25 = .ok (.goto 18, 3) := by decide +kernel
theorem dA32_43 : decode jdk_42_method_147_code 43 = .ok (.return_, 1) := by decide +kernel
theorem efA32 (m : MethodId) (xo0_ : Addr) (xo1_ : Addr) : entryFrame m #[(.ref xo0_), (.ref xo1_), (.int (10 : Int32)), (.int (0 : Int32))] 4 = mkF m 0 #[.val (.ref xo0_), .val (.ref xo1_), .val (.int (10 : Int32)), .val (.int (0 : Int32))] [] := by first | (simp [entryFrame, mkF, argsToLocals, Value.category]; done) | rfl
def QA32 (Z : State) (xo0_ : Addr) (xo1_ : Addr) (uo1_ : Addr) (ui2_ : Int32) (k_uo1_ : ClassId) (ui3_ : Int32) (ui4_ : Int32) (k_xo1_ : ClassId) (h0 : Heap) (n0 : Nat) (v : Option Value) (h : Heap) (L : List Loc) : Prop := v = none ∧ Fr n0 L ∧ Keep h0 h [xo1_] ∧ Arv Z h xo1_ k_xo1_ .byte (34 : Int32) [(.int ui3_), (.int (32 : Int32)), (.int (102 : Int32)), (.int (105 : Int32)), (.int (108 : Int32)), (.int (101 : Int32)), (.int (115 : Int32)), (.int (44 : Int32)), (.int (32 : Int32)), (.int ui4_), (.int (32 : Int32)), (.int (102 : Int32)), (.int (111 : Int32)), (.int (108 : Int32)), (.int (100 : Int32)), (.int (101 : Int32)), (.int (114 : Int32)), (.int (115 : Int32)), (.int (44 : Int32)), (.int (32 : Int32)), (.int (0 : Int32)), (.int (0 : Int32)), (.int (0 : Int32)), (.int (0 : Int32)), (.int (0 : Int32)), (.int (0 : Int32)), (.int (0 : Int32)), (.int (0 : Int32)), (.int (0 : Int32)), (.int (0 : Int32)), (.int (0 : Int32)), (.int (0 : Int32)), (.int (0 : Int32)), (.int (0 : Int32))] (.int (0 : Int32))
set_option maxRecDepth 65536 in
set_option maxHeartbeats 40000000 in
theorem rmA32 (l : Launch) (Z : State) (a0 : Array Value) (hw : ∀ d ∈ tables_1, d.before a0 Z = true) (ws : List Jvm.Cond) (xo0_ : Addr) (xo1_ : Addr) (uo1_ : Addr) (ui2_ : Int32) (k_uo1_ : ClassId) (ui3_ : Int32) (ui4_ : Int32) (k_xo1_ : ClassId) (h0 : Heap) (n0 : Nat) (Z0 : n0 ≤ h0.size) (E_xo0_ : Exa Z h0 xo0_ "java/lang/String") (F_coder_xo0_ : Fld Z h0 xo0_ "java/lang/String" "coder" "B" (.int (0 : Int32))) (F_value_xo0_ : Fld Z h0 xo0_ "java/lang/String" "value" "[B" (.ref uo1_)) (X00 : Old Z n0 h0) (S_COMPACT_STRINGS : Sta Z Z.heap "java/lang/String" "COMPACT_STRINGS" "Z" (.int ui2_)) (hp0_ : ¬ (ui2_ = (0 : Int32))) (V_uo1_ : Arv Z h0 uo1_ k_uo1_ .byte (10 : Int32) [(.int (32 : Int32)), (.int (102 : Int32)), (.int (111 : Int32)), (.int (108 : Int32)), (.int (100 : Int32)), (.int (101 : Int32)), (.int (114 : Int32)), (.int (115 : Int32)), (.int (44 : Int32)), (.int (32 : Int32))] (.int 0)) (V_xo1_ : Arv Z h0 xo1_ k_xo1_ .byte (34 : Int32) [(.int ui3_), (.int (32 : Int32)), (.int (102 : Int32)), (.int (105 : Int32)), (.int (108 : Int32)), (.int (101 : Int32)), (.int (115 : Int32)), (.int (44 : Int32)), (.int (32 : Int32)), (.int ui4_), (.int (0 : Int32)), (.int (0 : Int32)), (.int (0 : Int32)), (.int (0 : Int32)), (.int (0 : Int32)), (.int (0 : Int32)), (.int (0 : Int32)), (.int (0 : Int32)), (.int (0 : Int32)), (.int (0 : Int32)), (.int (0 : Int32)), (.int (0 : Int32)), (.int (0 : Int32)), (.int (0 : Int32)), (.int (0 : Int32)), (.int (0 : Int32)), (.int (0 : Int32)), (.int (0 : Int32)), (.int (0 : Int32)), (.int (0 : Int32)), (.int (0 : Int32)), (.int (0 : Int32)), (.int (0 : Int32)), (.int (0 : Int32))] (.int (0 : Int32))) (g_xo1_ : n0 ≤ xo1_) :
    MetFree l (⟨"java/lang/String", "getBytes", "([BIB)V"⟩ : MethodName) (head1 (Jvm.Cond.code (⟨"java/lang/String", "getBytes", "([BIB)V"⟩ : MethodName) jdk_42_method_147_code 4 none :: ws) ({ frames := 1, cells := 0, slots := 0, locals := 40 } : Room)) (fun av_ U => av_ = #[(.ref xo0_), (.ref xo1_), (.int (10 : Int32)), (.int (0 : Int32))] ∧ Z.Warmed39 U.vm ∧ U.heap = h0) (fun _ _ _ _ _ => True) (fun _ U o U' => ∃ v L, o = .returned v ∧ QA32 Z xo0_ xo1_ uo1_ ui2_ k_uo1_ ui3_ ui4_ k_xo1_ h0 n0 v U'.heap L ∧ FrameEnd U o U' L ({ frames := 1, cells := 0, slots := 0, locals := 40 } : Room).cells ({ frames := 1, cells := 0, slots := 0, locals := 40 } : Room).slots) := by
  refine MetFree.of_bodySF (plainFor_of_name own_pn4) hisR ?_
  intro p e s m args below meth c s₁ Bd hml0 hP hK
  obtain ⟨rfl, hZ, hh⟩ := hP
  have hx := Bd.exec
  have hby := Bd.bytes
  have hml : c.maxLocals = 4 := hml0
  have hown : s.vm.findClass "java/lang/String" = some m.cls := findClass_of_methodNamed Bd.named
  have hnm := (name_of_methodNamed Bd.named Bd.method).1
  have X0 : Stand p l e ({ frames := 1, cells := 0, slots := 0, locals := 40 } : Room) s m #[(.ref xo0_), (.ref xo1_), (.int (10 : Int32)), (.int (0 : Int32))] below meth c s₁ [] 0 0 := Stand.of_body Bd
  have e0 : s₁.heap = h0 := by rw [← hh, Bd.state]; rfl
  have N0 := Fr.nil n0
  have pre0 : ∀ t, Steps p.tables e below (s₁.setTop (mkF m 0 #[.val (.ref xo0_), .val (.ref xo1_), .val (.int (10 : Int32)), .val (.int (0 : Int32))] [])) t → Steps p.tables e below (s₁.setTop (entryFrame m #[(.ref xo0_), (.ref xo1_), (.int (10 : Int32)), (.int (0 : Int32))] 4)) t := fun t k => castTop (efA32 m xo0_ xo1_) k
  obtain ⟨cq1, kq1, q1a, q1b, q1c⟩ := isOf hZ e0 E_xo0_
  obtain ⟨_, _, ⟨T1, L1, k1, n1⟩, -, X1, ⟨Lc1, hQ1, l1, y1, z1⟩, st1⟩ := X0.virtualBack hx (y := (⟨"java/lang/String", "coder", "()B"⟩ : MethodName)) (z := (⟨"java/lang/String", "coder", "()B"⟩ : MethodName)) hown (mvT hZ (hw _ (List.mem_of_getElem? (i := 97) rfl))) (mvT hZ (hw _ (List.mem_of_getElem? (i := 98) rfl))) (notFace_of_selects (args := #[]) (mvT hZ (hw _ (List.mem_of_getElem? (i := 100) rfl)))) (mvT hZ (hw _ (List.mem_of_getElem? (i := 100) rfl))) (mvT hZ (hw _ (List.mem_of_getElem? (i := 99) rfl))) (by decide) (backOf (W := 0) (rmA11 l Z a0 hw [] xo0_ uo1_ ui2_ h0 n0 Z0 E_xo0_ F_coder_xo0_ F_value_xo0_ X00 S_COMPACT_STRINGS hp0_) hZ (hw _ (List.mem_of_getElem? (i := 101) rfl)) (hw _ (List.mem_of_getElem? (i := 37) rfl)) (by decide) (by decide)) q1a q1c (g := (mkF m 1 #[.val (.ref xo0_), .val (.ref xo1_), .val (.int (10 : Int32)), .val (.int (0 : Int32))] [(.ref xo0_)])) rfl (by rw [hml]; rfl) (Steps.refl _) (argsL := []) (rest := []) (lenOf own_pd7 rfl) rfl (by show 2 * 0 + _ ≤ _; exact Nat.le_of_eq rfl) (hb hby dA32_1) (fun _ _ => ⟨rfl, e0, (by decide : 0 + 0 ≤ _), (by decide : 0 + 0 ≤ _)⟩)
  dsimp only [Pt.U, Pt.locs, Pt.cells, Pt.slots] at X1 l1 y1 z1 st1 hQ1
  subst l1 y1 z1
  obtain ⟨rfl, Nq1, e1⟩ := hQ1
  have N1 := Fr.app N0 Nq1
  obtain ⟨T2, X2, e2, st2⟩ := getF X1 hx hZ hown (host := "") (Or.inl (hw _ (List.mem_of_getElem? (i := 96) rfl))) Via.refl e1 F_value_xo0_ (g := (mkF m 9 #[.val (.ref xo0_), .val (.ref xo1_), .val (.int (10 : Int32)), .val (.int (0 : Int32))] [(.ref xo0_)])) rfl rfl (hb hby dA32_9)
  obtain ⟨T3, X3, e3, st3⟩ := getF X2 hx hZ hown (host := "") (Or.inl (hw _ (List.mem_of_getElem? (i := 96) rfl))) Via.refl e2 F_value_xo0_ (g := (mkF m 18 #[.val (.ref xo0_), .val (.ref xo1_), .val (.int (10 : Int32)), .val (.int (0 : Int32))] [(.ref xo0_), (.int (10 : Int32)), (.ref xo1_), (.int (0 : Int32)), (.ref uo1_)])) rfl rfl (hb hby dA32_18)
  obtain ⟨cl4, Ar4, q4, S4, M4, Hs4, G4⟩ := (id V_uo1_)
  obtain ⟨T5, h5, L5, X5, e5, N5, Kc5, V5', st5⟩ := cpA X3 hx hZ hown (hw _ (List.mem_of_getElem? (i := 120) rfl)) (hw _ (List.mem_of_getElem? (i := 123) rfl)) (hw _ (List.mem_of_getElem? (i := 121) rfl)) (hw _ (List.mem_of_getElem? (i := 122) rfl)) e3 (us := [(.int (32 : Int32)), (.int (102 : Int32)), (.int (111 : Int32)), (.int (108 : Int32)), (.int (100 : Int32)), (.int (101 : Int32)), (.int (114 : Int32)), (.int (115 : Int32)), (.int (44 : Int32)), (.int (32 : Int32))]) V_uo1_ V_xo1_ (Or.inl ⟨rfl, rfl⟩) (by decide) (by decide) (by decide) (by decide) (by decide) rfl (by first | decide | exact Nat.le_of_ble_eq_true rfl) N1 g_xo1_ (g := (mkF m 22 #[.val (.ref xo0_), .val (.ref xo1_), .val (.int (10 : Int32)), .val (.int (0 : Int32))] [(.int (10 : Int32)), (.int (10 : Int32)), (.ref xo1_), (.int (0 : Int32)), (.ref uo1_)])) rfl (by rw [hml]; rfl) rfl (hb hby dA32_22) (by decide) (W := 0) (by show 2 * 0 + _ ≤ _; exact Nat.le_of_eq rfl) (by decide)
  have K5 : Keep h0 h5 [xo1_] := Keep.trans (Keep.refl h0 [xo1_]) Kc5 (allS (Or.inl (List.mem_of_getElem? (i := 0) rfl)) all0)
  have Zs5 : n0 ≤ h5.size := Nat.le_trans Z0 Kc5.1
  have V5 : Arv Z h5 xo1_ k_xo1_ .byte (34 : Int32) [(.int ui3_), (.int (32 : Int32)), (.int (102 : Int32)), (.int (105 : Int32)), (.int (108 : Int32)), (.int (101 : Int32)), (.int (115 : Int32)), (.int (44 : Int32)), (.int (32 : Int32)), (.int ui4_), (.int (32 : Int32)), (.int (102 : Int32)), (.int (111 : Int32)), (.int (108 : Int32)), (.int (100 : Int32)), (.int (101 : Int32)), (.int (114 : Int32)), (.int (115 : Int32)), (.int (44 : Int32)), (.int (32 : Int32)), (.int (0 : Int32)), (.int (0 : Int32)), (.int (0 : Int32)), (.int (0 : Int32)), (.int (0 : Int32)), (.int (0 : Int32)), (.int (0 : Int32)), (.int (0 : Int32)), (.int (0 : Int32)), (.int (0 : Int32)), (.int (0 : Int32)), (.int (0 : Int32)), (.int (0 : Int32)), (.int (0 : Int32))] (.int (0 : Int32)) := V5'
  obtain ⟨fs, hr, hrun, hended, hW, hsame⟩ := X5.leave (v := none) (fun _ => rfl)
  refine ⟨_, _, (pre0 _ ?_), hrun, hended, _, _, rfl, ?_, ⟨_, rfl⟩, hW, hsame.mono (by decide) (by decide)⟩
  · show Steps p.tables e below (s₁.setTop (mkF m 0 #[.val (.ref xo0_), .val (.ref xo1_), .val (.int (10 : Int32)), .val (.int (0 : Int32))] [])) _
    refine XS.aloadN X0.here hx rfl (hb hby dA32_0) rfl rfl ?_
    show Steps p.tables e below (s₁.setTop (mkF m 1 #[.val (.ref xo0_), .val (.ref xo1_), .val (.int (10 : Int32)), .val (.int (0 : Int32))] [(.ref xo0_)])) _
    refine st1.trans ?_
    show Steps p.tables e below (T1.setTop (mkF m 4 #[.val (.ref xo0_), .val (.ref xo1_), .val (.int (10 : Int32)), .val (.int (0 : Int32))] [(.int (0 : Int32))])) _
    refine XS.iloadN X1.here hx rfl (hb hby dA32_4) rfl ?_
    show Steps p.tables e below (T1.setTop (mkF m 5 #[.val (.ref xo0_), .val (.ref xo1_), .val (.int (10 : Int32)), .val (.int (0 : Int32))] [(.int (0 : Int32)), (.int (0 : Int32))])) _
    refine XS.icmpNo X1.here hx rfl (hb hby dA32_5) rfl (teq (by decide : (0 : Int32) = (0 : Int32))).2 ?_
    show Steps p.tables e below (T1.setTop (mkF m 8 #[.val (.ref xo0_), .val (.ref xo1_), .val (.int (10 : Int32)), .val (.int (0 : Int32))] [])) _
    refine XS.aloadN X1.here hx rfl (hb hby dA32_8) rfl rfl ?_
    show Steps p.tables e below (T1.setTop (mkF m 9 #[.val (.ref xo0_), .val (.ref xo1_), .val (.int (10 : Int32)), .val (.int (0 : Int32))] [(.ref xo0_)])) _
    refine st2 _ ?_
    show Steps p.tables e below (T2.setTop (mkF m 12 #[.val (.ref xo0_), .val (.ref xo1_), .val (.int (10 : Int32)), .val (.int (0 : Int32))] [(.ref uo1_)])) _
    refine XS.iconst X2.here hx rfl (hb hby dA32_12) ?_
    show Steps p.tables e below (T2.setTop (mkF m 13 #[.val (.ref xo0_), .val (.ref xo1_), .val (.int (10 : Int32)), .val (.int (0 : Int32))] [(.int (0 : Int32)), (.ref uo1_)])) _
    refine XS.aloadN X2.here hx rfl (hb hby dA32_13) rfl rfl ?_
    show Steps p.tables e below (T2.setTop (mkF m 14 #[.val (.ref xo0_), .val (.ref xo1_), .val (.int (10 : Int32)), .val (.int (0 : Int32))] [(.ref xo1_), (.int (0 : Int32)), (.ref uo1_)])) _
    refine XS.iloadN X2.here hx rfl (hb hby dA32_14) rfl ?_
    show Steps p.tables e below (T2.setTop (mkF m 15 #[.val (.ref xo0_), .val (.ref xo1_), .val (.int (10 : Int32)), .val (.int (0 : Int32))] [(.int (10 : Int32)), (.ref xo1_), (.int (0 : Int32)), (.ref uo1_)])) _
    refine XS.iloadN X2.here hx rfl (hb hby dA32_15) rfl ?_
    show Steps p.tables e below (T2.setTop (mkF m 16 #[.val (.ref xo0_), .val (.ref xo1_), .val (.int (10 : Int32)), .val (.int (0 : Int32))] [(.int (0 : Int32)), (.int (10 : Int32)), (.ref xo1_), (.int (0 : Int32)), (.ref uo1_)])) _
    refine XS.ishl X2.here hx rfl (hb hby dA32_16) rfl ?_
    rw [show ((10 : Int32) <<< ((0 : Int32) &&& 31)) = (10 : Int32) from by decide]
    show Steps p.tables e below (T2.setTop (mkF m 17 #[.val (.ref xo0_), .val (.ref xo1_), .val (.int (10 : Int32)), .val (.int (0 : Int32))] [(.int (10 : Int32)), (.ref xo1_), (.int (0 : Int32)), (.ref uo1_)])) _
    refine XS.aloadN X2.here hx rfl (hb hby dA32_17) rfl rfl ?_
    show Steps p.tables e below (T2.setTop (mkF m 18 #[.val (.ref xo0_), .val (.ref xo1_), .val (.int (10 : Int32)), .val (.int (0 : Int32))] [(.ref xo0_), (.int (10 : Int32)), (.ref xo1_), (.int (0 : Int32)), (.ref uo1_)])) _
    refine st3 _ ?_
    show Steps p.tables e below (T3.setTop (mkF m 21 #[.val (.ref xo0_), .val (.ref xo1_), .val (.int (10 : Int32)), .val (.int (0 : Int32))] [(.ref uo1_), (.int (10 : Int32)), (.ref xo1_), (.int (0 : Int32)), (.ref uo1_)])) _
    refine X3.arraylength hx (by rw [e3]; exact Ar4.1) (State.isArrayOf_alike hZ.alike Ar4.2.1) (g := (mkF m 21 #[.val (.ref xo0_), .val (.ref xo1_), .val (.int (10 : Int32)), .val (.int (0 : Int32))] [(.ref uo1_), (.int (10 : Int32)), (.ref xo1_), (.int (0 : Int32)), (.ref uo1_)])) rfl rfl (hb hby dA32_21) _ ?_
    rw [len_of S4 M4]
    show Steps p.tables e below (T3.setTop (mkF m 22 #[.val (.ref xo0_), .val (.ref xo1_), .val (.int (10 : Int32)), .val (.int (0 : Int32))] [(.int (10 : Int32)), (.int (10 : Int32)), (.ref xo1_), (.int (0 : Int32)), (.ref uo1_)])) _
    refine st5 _ ?_
    show Steps p.tables e below (T5.setTop (mkF m 25 #[.val (.ref xo0_), .val (.ref xo1_), .val (.int (10 : Int32)), .val (.int (0 : Int32))] [])) _
    refine XS.goto X5.here hx rfl (pc0 := 25) (pc' := 43) rfl (hb hby dA32_25) (by decide) (by decide) ?_
    show Steps p.tables e below (T5.setTop (mkF m 43 #[.val (.ref xo0_), .val (.ref xo1_), .val (.int (10 : Int32)), .val (.int (0 : Int32))] [])) _
    exact X5.returnOut hx Bd.returns (hb hby dA32_43) hr
  · show QA32 Z xo0_ xo1_ uo1_ ui2_ k_uo1_ ui3_ ui4_ k_xo1_ h0 n0 _ T5.heap _
    rw [e5]
    exact ⟨rfl, N5, K5, V5⟩
theorem dA30_0 : decode jdk_68_method_73_code 0 = .ok (.aload_n 0, 1) := by decide +kernel
theorem dA30_1 : decode jdk_68_method_73_code 1 = .ok (.aload_n 2, 1) := by decide +kernel
theorem dA30_2 : decode jdk_68_method_73_code 2 = .ok (.invokevirtual 397, 3) := by decide +kernel
theorem dA30_5 : decode jdk_68_method_73_code 5 = .ok (.aload_n 2, 1) := by decide +kernel
theorem dA30_6 : decode jdk_68_method_73_code 6 = .ok (.aload_n 0, 1) := by decide +kernel
theorem dA30_7 : decode jdk_68_method_73_code 7 = .ok (.getfield 15, 3) := by decide +kernel
theorem dA30_10 : decode jdk_68_method_73_code 10 = .ok (.iload_n 1, 1) := by decide +kernel
theorem dA30_11 : decode jdk_68_method_73_code 11 = .ok (.aload_n 0, 1) := by decide +kernel
theorem dA30_12 : decode jdk_68_method_73_code 12 = .ok (.getfield 22, 3) := by decide +kernel
theorem dA30_15 : decode jdk_68_method_73_code 15 = .ok (.invokevirtual 399, 3) := by decide +kernel
theorem dA30_18 : decode jdk_68_method_73_code 18 = .ok (.return_, 1) := by decide +kernel
theorem efA30 (m : MethodId) (xo0_ : Addr) (xo2_ : Addr) : entryFrame m #[(.ref xo0_), (.int (10 : Int32)), (.ref xo2_)] 3 = mkF m 0 #[.val (.ref xo0_), .val (.int (10 : Int32)), .val (.ref xo2_)] [] := by first | (simp [entryFrame, mkF, argsToLocals, Value.category]; done) | rfl
def QA30 (Z : State) (xo0_ : Addr) (xo2_ : Addr) (uo1_ : Addr) (uo2_ : Addr) (ui3_ : Int32) (k_uo2_ : ClassId) (ui4_ : Int32) (ui5_ : Int32) (k_uo1_ : ClassId) (h0 : Heap) (n0 : Nat) (v : Option Value) (h : Heap) (L : List Loc) : Prop := v = none ∧ Fr n0 L ∧ Keep h0 h [uo1_] ∧ Arv Z h uo1_ k_uo1_ .byte (34 : Int32) [(.int ui4_), (.int (32 : Int32)), (.int (102 : Int32)), (.int (105 : Int32)), (.int (108 : Int32)), (.int (101 : Int32)), (.int (115 : Int32)), (.int (44 : Int32)), (.int (32 : Int32)), (.int ui5_), (.int (32 : Int32)), (.int (102 : Int32)), (.int (111 : Int32)), (.int (108 : Int32)), (.int (100 : Int32)), (.int (101 : Int32)), (.int (114 : Int32)), (.int (115 : Int32)), (.int (44 : Int32)), (.int (32 : Int32)), (.int (0 : Int32)), (.int (0 : Int32)), (.int (0 : Int32)), (.int (0 : Int32)), (.int (0 : Int32)), (.int (0 : Int32)), (.int (0 : Int32)), (.int (0 : Int32)), (.int (0 : Int32)), (.int (0 : Int32)), (.int (0 : Int32)), (.int (0 : Int32)), (.int (0 : Int32)), (.int (0 : Int32))] (.int (0 : Int32))
set_option maxRecDepth 65536 in
set_option maxHeartbeats 40000000 in
theorem rmA30 (l : Launch) (Z : State) (a0 : Array Value) (hw : ∀ d ∈ tables_1, d.before a0 Z = true) (ws : List Jvm.Cond) (xo0_ : Addr) (xo2_ : Addr) (uo1_ : Addr) (uo2_ : Addr) (ui3_ : Int32) (k_uo2_ : ClassId) (ui4_ : Int32) (ui5_ : Int32) (k_uo1_ : ClassId) (h0 : Heap) (n0 : Nat) (Z0 : n0 ≤ h0.size) (E_xo0_ : Exa Z h0 xo0_ "java/lang/StringBuilder") (F_value_xo0_ : Fld Z h0 xo0_ "java/lang/AbstractStringBuilder" "value" "[B" (.ref uo1_)) (F_coder_xo0_ : Fld Z h0 xo0_ "java/lang/AbstractStringBuilder" "coder" "B" (.int (0 : Int32))) (F_count_xo0_ : Fld Z h0 xo0_ "java/lang/AbstractStringBuilder" "count" "I" (.int (10 : Int32))) (E_xo2_ : Exa Z h0 xo2_ "java/lang/String") (F_coder_xo2_ : Fld Z h0 xo2_ "java/lang/String" "coder" "B" (.int (0 : Int32))) (F_value_xo2_ : Fld Z h0 xo2_ "java/lang/String" "value" "[B" (.ref uo2_)) (X00 : Old Z n0 h0) (S_COMPACT_STRINGS : Sta Z Z.heap "java/lang/String" "COMPACT_STRINGS" "Z" (.int ui3_)) (hp0_ : ¬ (ui3_ = (0 : Int32))) (V_uo2_ : Arv Z h0 uo2_ k_uo2_ .byte (10 : Int32) [(.int (32 : Int32)), (.int (102 : Int32)), (.int (111 : Int32)), (.int (108 : Int32)), (.int (100 : Int32)), (.int (101 : Int32)), (.int (114 : Int32)), (.int (115 : Int32)), (.int (44 : Int32)), (.int (32 : Int32))] (.int 0)) (V_uo1_ : Arv Z h0 uo1_ k_uo1_ .byte (34 : Int32) [(.int ui4_), (.int (32 : Int32)), (.int (102 : Int32)), (.int (105 : Int32)), (.int (108 : Int32)), (.int (101 : Int32)), (.int (115 : Int32)), (.int (44 : Int32)), (.int (32 : Int32)), (.int ui5_), (.int (0 : Int32)), (.int (0 : Int32)), (.int (0 : Int32)), (.int (0 : Int32)), (.int (0 : Int32)), (.int (0 : Int32)), (.int (0 : Int32)), (.int (0 : Int32)), (.int (0 : Int32)), (.int (0 : Int32)), (.int (0 : Int32)), (.int (0 : Int32)), (.int (0 : Int32)), (.int (0 : Int32)), (.int (0 : Int32)), (.int (0 : Int32)), (.int (0 : Int32)), (.int (0 : Int32)), (.int (0 : Int32)), (.int (0 : Int32)), (.int (0 : Int32)), (.int (0 : Int32)), (.int (0 : Int32)), (.int (0 : Int32))] (.int (0 : Int32))) (g_uo1_ : n0 ≤ uo1_) :
    MetFree l (⟨"java/lang/AbstractStringBuilder", "putStringAt", "(ILjava/lang/String;)V"⟩ : MethodName) (head1 (Jvm.Cond.code (⟨"java/lang/AbstractStringBuilder", "putStringAt", "(ILjava/lang/String;)V"⟩ : MethodName) jdk_68_method_73_code 3 none :: ws) ({ frames := 2, cells := 0, slots := 0, locals := 55 } : Room)) (fun av_ U => av_ = #[(.ref xo0_), (.int (10 : Int32)), (.ref xo2_)] ∧ Z.Warmed39 U.vm ∧ U.heap = h0) (fun _ _ _ _ _ => True) (fun _ U o U' => ∃ v L, o = .returned v ∧ QA30 Z xo0_ xo2_ uo1_ uo2_ ui3_ k_uo2_ ui4_ ui5_ k_uo1_ h0 n0 v U'.heap L ∧ FrameEnd U o U' L ({ frames := 2, cells := 0, slots := 0, locals := 55 } : Room).cells ({ frames := 2, cells := 0, slots := 0, locals := 55 } : Room).slots) := by
  refine MetFree.of_bodySF (plainFor_of_name own_pn1) hisR ?_
  intro p e s m args below meth c s₁ Bd hml0 hP hK
  obtain ⟨rfl, hZ, hh⟩ := hP
  have hx := Bd.exec
  have hby := Bd.bytes
  have hml : c.maxLocals = 3 := hml0
  have hown : s.vm.findClass "java/lang/AbstractStringBuilder" = some m.cls := findClass_of_methodNamed Bd.named
  have hnm := (name_of_methodNamed Bd.named Bd.method).1
  have X0 : Stand p l e ({ frames := 2, cells := 0, slots := 0, locals := 55 } : Room) s m #[(.ref xo0_), (.int (10 : Int32)), (.ref xo2_)] below meth c s₁ [] 0 0 := Stand.of_body Bd
  have e0 : s₁.heap = h0 := by rw [← hh, Bd.state]; rfl
  have N0 := Fr.nil n0
  have pre0 : ∀ t, Steps p.tables e below (s₁.setTop (mkF m 0 #[.val (.ref xo0_), .val (.int (10 : Int32)), .val (.ref xo2_)] [])) t → Steps p.tables e below (s₁.setTop (entryFrame m #[(.ref xo0_), (.int (10 : Int32)), (.ref xo2_)] 3)) t := fun t k => castTop (efA30 m xo0_ xo2_) k
  obtain ⟨cq1, qa1, qb1⟩ := E_xo0_.cell
  obtain ⟨_, _, ⟨T1, L1, k1, n1⟩, -, X1, ⟨Lc1, hQ1, l1, y1, z1⟩, st1⟩ := X0.privateBack hx (y := (⟨"java/lang/AbstractStringBuilder", "inflateIfNeededFor", "(Ljava/lang/String;)V"⟩ : MethodName)) hown (mvT hZ (hw _ (List.mem_of_getElem? (i := 109) rfl))) (mvT hZ (hw _ (List.mem_of_getElem? (i := 110) rfl))) (selfSel hZ (hw _ (List.mem_of_getElem? (i := 112) rfl)) (hw _ (List.mem_of_getElem? (i := 110) rfl)) (hw _ (List.mem_of_getElem? (i := 111) rfl)) (by decide)) (Cond.privateMethod_at (mvP hZ (hw _ (List.mem_of_getElem? (i := 111) rfl)) (args := #[]))) (mvT hZ (hw _ (List.mem_of_getElem? (i := 113) rfl))) (by decide) (backOf (W := 0) (rmA31 l Z a0 hw [] xo0_ xo2_ uo1_ uo2_ ui3_ h0 n0 Z0 E_xo0_ F_value_xo0_ F_coder_xo0_ F_count_xo0_ E_xo2_ F_coder_xo2_ F_value_xo2_ X00 S_COMPACT_STRINGS hp0_) hZ (hw _ (List.mem_of_getElem? (i := 113) rfl)) (hw _ (List.mem_of_getElem? (i := 33) rfl)) (by decide) (by decide)) (g := (mkF m 2 #[.val (.ref xo0_), .val (.int (10 : Int32)), .val (.ref xo2_)] [(.ref xo2_), (.ref xo0_)])) rfl (by rw [hml]; rfl) (Steps.refl _) (a := xo0_) (by rw [e0]; exact qa1) qb1 (argsL := [(.ref xo2_)]) (rest := []) (lenOf own_pd9 rfl) rfl (by show 2 * 0 + _ ≤ _; exact Nat.le_of_eq rfl) (hb hby dA30_2) (fun _ _ => ⟨rfl, e0, (by decide : 0 + 0 ≤ _), (by decide : 0 + 0 ≤ _)⟩)
  dsimp only [Pt.U, Pt.locs, Pt.cells, Pt.slots] at X1 l1 y1 z1 st1 hQ1
  subst l1 y1 z1
  obtain ⟨rfl, Nq1, e1⟩ := hQ1
  have N1 := Fr.app N0 Nq1
  obtain ⟨T2, X2, e2, st2⟩ := getF X1 hx hZ hown (host := "") (Or.inl (hw _ (List.mem_of_getElem? (i := 39) rfl))) Via.refl e1 F_value_xo0_ (g := (mkF m 7 #[.val (.ref xo0_), .val (.int (10 : Int32)), .val (.ref xo2_)] [(.ref xo0_), (.ref xo2_)])) rfl rfl (hb hby dA30_7)
  obtain ⟨T3, X3, e3, st3⟩ := getF X2 hx hZ hown (host := "") (Or.inl (hw _ (List.mem_of_getElem? (i := 41) rfl))) Via.refl e2 F_coder_xo0_ (g := (mkF m 12 #[.val (.ref xo0_), .val (.int (10 : Int32)), .val (.ref xo2_)] [(.ref xo0_), (.int (10 : Int32)), (.ref uo1_), (.ref xo2_)])) rfl rfl (hb hby dA30_12)
  obtain ⟨cq4, kq4, q4a, q4b, q4c⟩ := isOf hZ e3 E_xo2_
  obtain ⟨_, _, ⟨T4, L4, k4, n4⟩, -, X4, ⟨Lc4, hQ4, l4, y4, z4⟩, st4⟩ := X3.virtualBack hx (y := (⟨"java/lang/String", "getBytes", "([BIB)V"⟩ : MethodName)) (z := (⟨"java/lang/String", "getBytes", "([BIB)V"⟩ : MethodName)) hown (mvT hZ (hw _ (List.mem_of_getElem? (i := 115) rfl))) (mvT hZ (hw _ (List.mem_of_getElem? (i := 116) rfl))) (notFace_of_selects (args := #[]) (mvT hZ (hw _ (List.mem_of_getElem? (i := 118) rfl)))) (mvT hZ (hw _ (List.mem_of_getElem? (i := 118) rfl))) (mvT hZ (hw _ (List.mem_of_getElem? (i := 117) rfl))) (by decide) (backOf (W := 0) (rmA32 l Z a0 hw [] xo2_ uo1_ uo2_ ui3_ k_uo2_ ui4_ ui5_ k_uo1_ h0 n0 Z0 E_xo2_ F_coder_xo2_ F_value_xo2_ X00 S_COMPACT_STRINGS hp0_ V_uo2_ V_uo1_ g_uo1_) hZ (hw _ (List.mem_of_getElem? (i := 119) rfl)) (hw _ (List.mem_of_getElem? (i := 37) rfl)) (by decide) (by decide)) q4a q4c (g := (mkF m 15 #[.val (.ref xo0_), .val (.int (10 : Int32)), .val (.ref xo2_)] [(.int (0 : Int32)), (.int (10 : Int32)), (.ref uo1_), (.ref xo2_)])) rfl (by rw [hml]; rfl) (Steps.refl _) (argsL := [(.ref uo1_), (.int (10 : Int32)), (.int (0 : Int32))]) (rest := []) (lenOf own_pd10 rfl) rfl (by show 2 * 0 + _ ≤ _; exact Nat.le_of_eq rfl) (hb hby dA30_15) (fun _ _ => ⟨rfl, e3, (by decide : 0 + 0 ≤ _), (by decide : 0 + 0 ≤ _)⟩)
  dsimp only [Pt.U, Pt.locs, Pt.cells, Pt.slots] at X4 l4 y4 z4 st4 hQ4
  subst l4 y4 z4
  obtain ⟨rfl, Nq4, Kc4, q4_0⟩ := hQ4
  have K4 : Keep h0 T4.heap [uo1_] := Keep.trans (Keep.refl h0 [uo1_]) Kc4 (allS (Or.inl (List.mem_of_getElem? (i := 0) rfl)) all0)
  have Zs4 : n0 ≤ T4.heap.size := Nat.le_trans Z0 Kc4.1
  have N4 := Fr.app N1 Nq4
  obtain ⟨fs, hr, hrun, hended, hW, hsame⟩ := X4.leave (v := none) (fun _ => rfl)
  refine ⟨_, _, (pre0 _ ?_), hrun, hended, _, _, rfl, ?_, ⟨_, rfl⟩, hW, hsame.mono (by decide) (by decide)⟩
  · show Steps p.tables e below (s₁.setTop (mkF m 0 #[.val (.ref xo0_), .val (.int (10 : Int32)), .val (.ref xo2_)] [])) _
    refine XS.aloadN X0.here hx rfl (hb hby dA30_0) rfl rfl ?_
    show Steps p.tables e below (s₁.setTop (mkF m 1 #[.val (.ref xo0_), .val (.int (10 : Int32)), .val (.ref xo2_)] [(.ref xo0_)])) _
    refine XS.aloadN X0.here hx rfl (hb hby dA30_1) rfl rfl ?_
    show Steps p.tables e below (s₁.setTop (mkF m 2 #[.val (.ref xo0_), .val (.int (10 : Int32)), .val (.ref xo2_)] [(.ref xo2_), (.ref xo0_)])) _
    refine st1.trans ?_
    show Steps p.tables e below (T1.setTop (mkF m 5 #[.val (.ref xo0_), .val (.int (10 : Int32)), .val (.ref xo2_)] [])) _
    refine XS.aloadN X1.here hx rfl (hb hby dA30_5) rfl rfl ?_
    show Steps p.tables e below (T1.setTop (mkF m 6 #[.val (.ref xo0_), .val (.int (10 : Int32)), .val (.ref xo2_)] [(.ref xo2_)])) _
    refine XS.aloadN X1.here hx rfl (hb hby dA30_6) rfl rfl ?_
    show Steps p.tables e below (T1.setTop (mkF m 7 #[.val (.ref xo0_), .val (.int (10 : Int32)), .val (.ref xo2_)] [(.ref xo0_), (.ref xo2_)])) _
    refine st2 _ ?_
    show Steps p.tables e below (T2.setTop (mkF m 10 #[.val (.ref xo0_), .val (.int (10 : Int32)), .val (.ref xo2_)] [(.ref uo1_), (.ref xo2_)])) _
    refine XS.iloadN X2.here hx rfl (hb hby dA30_10) rfl ?_
    show Steps p.tables e below (T2.setTop (mkF m 11 #[.val (.ref xo0_), .val (.int (10 : Int32)), .val (.ref xo2_)] [(.int (10 : Int32)), (.ref uo1_), (.ref xo2_)])) _
    refine XS.aloadN X2.here hx rfl (hb hby dA30_11) rfl rfl ?_
    show Steps p.tables e below (T2.setTop (mkF m 12 #[.val (.ref xo0_), .val (.int (10 : Int32)), .val (.ref xo2_)] [(.ref xo0_), (.int (10 : Int32)), (.ref uo1_), (.ref xo2_)])) _
    refine st3 _ ?_
    show Steps p.tables e below (T3.setTop (mkF m 15 #[.val (.ref xo0_), .val (.int (10 : Int32)), .val (.ref xo2_)] [(.int (0 : Int32)), (.int (10 : Int32)), (.ref uo1_), (.ref xo2_)])) _
    refine st4.trans ?_
    show Steps p.tables e below (T4.setTop (mkF m 18 #[.val (.ref xo0_), .val (.int (10 : Int32)), .val (.ref xo2_)] [])) _
    exact X4.returnOut hx Bd.returns (hb hby dA30_18) hr
  · show QA30 Z xo0_ xo2_ uo1_ uo2_ ui3_ k_uo2_ ui4_ ui5_ k_uo1_ h0 n0 _ T4.heap _
    exact ⟨rfl, N4, K4, q4_0⟩
theorem dA22_0 : decode jdk_68_method_22_code 0 = .ok (.aload_n 1, 1) := by decide +kernel
theorem dA22_1 : decode jdk_68_method_22_code 1 = .ok (.ifnonnull 8, 3) := by decide +kernel
theorem dA22_9 : decode jdk_68_method_22_code 9 = .ok (.aload_n 1, 1) := by decide +kernel
theorem dA22_10 : decode jdk_68_method_22_code 10 = .ok (.invokevirtual 32, 3) := by decide +kernel
theorem dA22_13 : decode jdk_68_method_22_code 13 = .ok (.istore_n 2, 1) := by decide +kernel
theorem dA22_14 : decode jdk_68_method_22_code 14 = .ok (.aload_n 0, 1) := by decide +kernel
theorem dA22_15 : decode jdk_68_method_22_code 15 = .ok (.aload_n 0, 1) := by decide +kernel
theorem dA22_16 : decode jdk_68_method_22_code 16 = .ok (.getfield 79, 3) := by decide +kernel
theorem dA22_19 : decode jdk_68_method_22_code 19 = .ok (.iload_n 2, 1) := by decide +kernel
theorem dA22_20 : decode jdk_68_method_22_code 20 = .ok (.iadd, 1) := by decide +kernel
theorem dA22_21 : decode jdk_68_method_22_code 21 = .ok (.invokevirtual 100, 3) := by decide +kernel
theorem dA22_24 : decode jdk_68_method_22_code 24 = .ok (.aload_n 0, 1) := by decide +kernel
theorem dA22_25 : decode jdk_68_method_22_code 25 = .ok (.aload_n 0, 1) := by decide +kernel
theorem dA22_26 : decode jdk_68_method_22_code 26 = .ok (.getfield 79, 3) := by decide +kernel
theorem dA22_29 : decode jdk_68_method_22_code 29 = .ok (.aload_n 1, 1) := by decide +kernel
theorem dA22_30 : decode jdk_68_method_22_code 30 = .ok (.invokevirtual 208, 3) := by decide +kernel
theorem dA22_33 : decode jdk_68_method_22_code 33 = .ok (.aload_n 0, 1) := by decide +kernel
theorem dA22_34 : decode jdk_68_method_22_code 34 = .ok (.dup, 1) := by decide +kernel
theorem dA22_35 : decode jdk_68_method_22_code 35 = .ok (.getfield 79, 3) := by decide +kernel
theorem dA22_38 : decode jdk_68_method_22_code 38 = .ok (.iload_n 2, 1) := by decide +kernel
theorem dA22_39 : decode jdk_68_method_22_code 39 = .ok (.iadd, 1) := by decide +kernel
theorem dA22_40 : decode jdk_68_method_22_code 40 = .ok (.putfield 79, 3) := by decide +kernel
theorem dA22_43 : decode jdk_68_method_22_code 43 = .ok (.aload_n 0, 1) := by decide +kernel
theorem dA22_44 : decode jdk_68_method_22_code 44 = .ok (.areturn, 1) := by decide +kernel
theorem efA22 (m : MethodId) (xo0_ : Addr) (xo1_ : Addr) : entryFrame m #[(.ref xo0_), (.ref xo1_)] 3 = mkF m 0 #[.val (.ref xo0_), .val (.ref xo1_), .unset] [] := by first | (simp [entryFrame, mkF, argsToLocals, Value.category]; done) | rfl
def QA22 (Z : State) (xo0_ : Addr) (xo1_ : Addr) (uo1_ : Addr) (uo2_ : Addr) (k_uo2_ : ClassId) (ui3_ : Int32) (ui4_ : Int32) (ui5_ : Int32) (k_uo1_ : ClassId) (h0 : Heap) (n0 : Nat) (v : Option Value) (h : Heap) (L : List Loc) : Prop := ∃ fffb2_7_3 : Addr, ∃ k_fffb2_7_3 : ClassId, v = some (.ref xo0_) ∧ Fr n0 L ∧ Keep h0 h [xo0_] ∧ n0 ≤ fffb2_7_3 ∧ h0.size ≤ fffb2_7_3 ∧ Exa Z h xo0_ "java/lang/StringBuilder" ∧ Fld Z h xo0_ "java/lang/AbstractStringBuilder" "value" "[B" (.ref fffb2_7_3) ∧ Fld Z h xo0_ "java/lang/AbstractStringBuilder" "coder" "B" (.int (0 : Int32)) ∧ Fld Z h xo0_ "java/lang/AbstractStringBuilder" "count" "I" (.int (20 : Int32)) ∧ Arv Z h fffb2_7_3 k_fffb2_7_3 .byte (34 : Int32) [(.int ui4_), (.int (32 : Int32)), (.int (102 : Int32)), (.int (105 : Int32)), (.int (108 : Int32)), (.int (101 : Int32)), (.int (115 : Int32)), (.int (44 : Int32)), (.int (32 : Int32)), (.int ui5_), (.int (32 : Int32)), (.int (102 : Int32)), (.int (111 : Int32)), (.int (108 : Int32)), (.int (100 : Int32)), (.int (101 : Int32)), (.int (114 : Int32)), (.int (115 : Int32)), (.int (44 : Int32)), (.int (32 : Int32)), (.int (0 : Int32)), (.int (0 : Int32)), (.int (0 : Int32)), (.int (0 : Int32)), (.int (0 : Int32)), (.int (0 : Int32)), (.int (0 : Int32)), (.int (0 : Int32)), (.int (0 : Int32)), (.int (0 : Int32)), (.int (0 : Int32)), (.int (0 : Int32)), (.int (0 : Int32)), (.int (0 : Int32))] (.int (0 : Int32))
set_option maxRecDepth 65536 in
set_option maxHeartbeats 40000000 in
theorem rmA22 (l : Launch) (Z : State) (a0 : Array Value) (hw : ∀ d ∈ tables_1, d.before a0 Z = true) (ws : List Jvm.Cond) (xo0_ : Addr) (xo1_ : Addr) (uo1_ : Addr) (uo2_ : Addr) (k_uo2_ : ClassId) (ui3_ : Int32) (ui4_ : Int32) (ui5_ : Int32) (k_uo1_ : ClassId) (h0 : Heap) (n0 : Nat) (Z0 : n0 ≤ h0.size) (E_xo0_ : Exa Z h0 xo0_ "java/lang/StringBuilder") (F_value_xo0_ : Fld Z h0 xo0_ "java/lang/AbstractStringBuilder" "value" "[B" (.ref uo1_)) (F_coder_xo0_ : Fld Z h0 xo0_ "java/lang/AbstractStringBuilder" "coder" "B" (.int (0 : Int32))) (F_count_xo0_ : Fld Z h0 xo0_ "java/lang/AbstractStringBuilder" "count" "I" (.int (10 : Int32))) (E_xo1_ : Exa Z h0 xo1_ "java/lang/String") (F_coder_xo1_ : Fld Z h0 xo1_ "java/lang/String" "coder" "B" (.int (0 : Int32))) (F_value_xo1_ : Fld Z h0 xo1_ "java/lang/String" "value" "[B" (.ref uo2_)) (V_uo2_ : Arv Z h0 uo2_ k_uo2_ .byte (10 : Int32) [(.int (32 : Int32)), (.int (102 : Int32)), (.int (111 : Int32)), (.int (108 : Int32)), (.int (100 : Int32)), (.int (101 : Int32)), (.int (114 : Int32)), (.int (115 : Int32)), (.int (44 : Int32)), (.int (32 : Int32))] (.int 0)) (X00 : Old Z n0 h0) (S_COMPACT_STRINGS : Sta Z Z.heap "java/lang/String" "COMPACT_STRINGS" "Z" (.int ui3_)) (hp0_ : ¬ (ui3_ = (0 : Int32))) (V_uo1_ : Arv Z h0 uo1_ k_uo1_ .byte (16 : Int32) [(.int ui4_), (.int (32 : Int32)), (.int (102 : Int32)), (.int (105 : Int32)), (.int (108 : Int32)), (.int (101 : Int32)), (.int (115 : Int32)), (.int (44 : Int32)), (.int (32 : Int32)), (.int ui5_), (.int (0 : Int32)), (.int (0 : Int32)), (.int (0 : Int32)), (.int (0 : Int32)), (.int (0 : Int32)), (.int (0 : Int32))] (.int (0 : Int32))) (g_xo0_ : n0 ≤ xo0_) :
    MetFree l (⟨"java/lang/AbstractStringBuilder", "append", "(Ljava/lang/String;)Ljava/lang/AbstractStringBuilder;"⟩ : MethodName) (head1 (Jvm.Cond.code (⟨"java/lang/AbstractStringBuilder", "append", "(Ljava/lang/String;)Ljava/lang/AbstractStringBuilder;"⟩ : MethodName) jdk_68_method_22_code 3 (some (.object "java/lang/AbstractStringBuilder")) :: ws) ({ frames := 4, cells := 1, slots := 34, locals := 69 } : Room)) (fun av_ U => av_ = #[(.ref xo0_), (.ref xo1_)] ∧ Z.Warmed39 U.vm ∧ U.heap = h0) (fun _ _ _ _ _ => True) (fun _ U o U' => ∃ v L, o = .returned v ∧ QA22 Z xo0_ xo1_ uo1_ uo2_ k_uo2_ ui3_ ui4_ ui5_ k_uo1_ h0 n0 v U'.heap L ∧ FrameEnd U o U' L ({ frames := 4, cells := 1, slots := 34, locals := 69 } : Room).cells ({ frames := 4, cells := 1, slots := 34, locals := 69 } : Room).slots) := by
  refine MetFree.of_bodySF (plainFor_of_name own_pn1) hisR ?_
  intro p e s m args below meth c s₁ Bd hml0 hP hK
  obtain ⟨rfl, hZ, hh⟩ := hP
  have hx := Bd.exec
  have hby := Bd.bytes
  have hml : c.maxLocals = 3 := hml0
  have hown : s.vm.findClass "java/lang/AbstractStringBuilder" = some m.cls := findClass_of_methodNamed Bd.named
  have hnm := (name_of_methodNamed Bd.named Bd.method).1
  have X0 : Stand p l e ({ frames := 4, cells := 1, slots := 34, locals := 69 } : Room) s m #[(.ref xo0_), (.ref xo1_)] below meth c s₁ [] 0 0 := Stand.of_body Bd
  have e0 : s₁.heap = h0 := by rw [← hh, Bd.state]; rfl
  have N0 := Fr.nil n0
  have pre0 : ∀ t, Steps p.tables e below (s₁.setTop (mkF m 0 #[.val (.ref xo0_), .val (.ref xo1_), .unset] [])) t → Steps p.tables e below (s₁.setTop (entryFrame m #[(.ref xo0_), (.ref xo1_)] 3)) t := fun t k => castTop (efA22 m xo0_ xo1_) k
  obtain ⟨cq1, kq1, q1a, q1b, q1c⟩ := isOf hZ e0 E_xo1_
  obtain ⟨_, _, ⟨T1, L1, k1, n1⟩, -, X1, ⟨Lc1, hQ1, l1, y1, z1⟩, st1⟩ := X0.virtualBack hx (y := (⟨"java/lang/String", "length", "()I"⟩ : MethodName)) (z := (⟨"java/lang/String", "length", "()I"⟩ : MethodName)) hown (mvT hZ (hw _ (List.mem_of_getElem? (i := 91) rfl))) (mvT hZ (hw _ (List.mem_of_getElem? (i := 92) rfl))) (notFace_of_selects (args := #[]) (mvT hZ (hw _ (List.mem_of_getElem? (i := 94) rfl)))) (mvT hZ (hw _ (List.mem_of_getElem? (i := 94) rfl))) (mvT hZ (hw _ (List.mem_of_getElem? (i := 93) rfl))) (by decide) (backOf (W := 0) (rmA23 l Z a0 hw [] xo1_ uo2_ k_uo2_ ui3_ h0 n0 Z0 E_xo1_ F_coder_xo1_ F_value_xo1_ V_uo2_ X00 S_COMPACT_STRINGS hp0_) hZ (hw _ (List.mem_of_getElem? (i := 95) rfl)) (hw _ (List.mem_of_getElem? (i := 37) rfl)) (by decide) (by decide)) q1a q1c (g := (mkF m 10 #[.val (.ref xo0_), .val (.ref xo1_), .unset] [(.ref xo1_)])) rfl (by rw [hml]; rfl) (Steps.refl _) (argsL := []) (rest := []) (lenOf own_pd8 rfl) rfl (by show 2 * 0 + _ ≤ _; exact Nat.le_of_eq rfl) (hb hby dA22_10) (fun _ _ => ⟨rfl, e0, (by decide : 0 + 0 ≤ _), (by decide : 0 + 0 ≤ _)⟩)
  dsimp only [Pt.U, Pt.locs, Pt.cells, Pt.slots] at X1 l1 y1 z1 st1 hQ1
  subst l1 y1 z1
  obtain ⟨rfl, Nq1, e1⟩ := hQ1
  have N1 := Fr.app N0 Nq1
  obtain ⟨T2, X2, e2, st2⟩ := getF X1 hx hZ hown (host := "") (Or.inl (hw _ (List.mem_of_getElem? (i := 53) rfl))) Via.refl e1 F_count_xo0_ (g := (mkF m 16 #[.val (.ref xo0_), .val (.ref xo1_), .val (.int (10 : Int32))] [(.ref xo0_), (.ref xo0_)])) rfl rfl (hb hby dA22_16)
  obtain ⟨cq3, qa3, qb3⟩ := E_xo0_.cell
  obtain ⟨_, _, ⟨T3, L3, k3, n3⟩, -, X3, ⟨Lc3, hQ3, l3, y3, z3⟩, st3⟩ := X2.privateBack hx (y := (⟨"java/lang/AbstractStringBuilder", "ensureCapacityInternal", "(I)V"⟩ : MethodName)) hown (mvT hZ (hw _ (List.mem_of_getElem? (i := 60) rfl))) (mvT hZ (hw _ (List.mem_of_getElem? (i := 61) rfl))) (selfSel hZ (hw _ (List.mem_of_getElem? (i := 63) rfl)) (hw _ (List.mem_of_getElem? (i := 61) rfl)) (hw _ (List.mem_of_getElem? (i := 62) rfl)) (by decide)) (Cond.privateMethod_at (mvP hZ (hw _ (List.mem_of_getElem? (i := 62) rfl)) (args := #[]))) (mvT hZ (hw _ (List.mem_of_getElem? (i := 64) rfl))) (by decide) (backOf (W := 0) (rmA24 l Z a0 hw [] xo0_ uo1_ ui4_ ui5_ k_uo1_ h0 n0 Z0 E_xo0_ F_value_xo0_ F_coder_xo0_ F_count_xo0_ V_uo1_ g_xo0_) hZ (hw _ (List.mem_of_getElem? (i := 64) rfl)) (hw _ (List.mem_of_getElem? (i := 33) rfl)) (by decide) (by decide)) (g := (mkF m 21 #[.val (.ref xo0_), .val (.ref xo1_), .val (.int (10 : Int32))] [(.int (20 : Int32)), (.ref xo0_)])) rfl (by rw [hml]; rfl) (Steps.refl _) (a := xo0_) (by rw [e2]; exact qa3) qb3 (argsL := [(.int (20 : Int32))]) (rest := []) (lenOf own_pd0 rfl) rfl (by show 2 * 0 + _ ≤ _; exact Nat.le_of_eq rfl) (hb hby dA22_21) (fun _ _ => ⟨rfl, e2, (by decide : 0 + 1 ≤ _), (by decide : 0 + 34 ≤ _)⟩)
  dsimp only [Pt.U, Pt.locs, Pt.cells, Pt.slots] at X3 l3 y3 z3 st3 hQ3
  subst l3 y3 z3
  obtain ⟨ffb2_7_3, k_ffb2_7_3, rfl, Nq3, Kc3, g_ffb2_7_3, zq_ffb2_7_3, q3_0, q3_1, q3_2, q3_3, q3_4⟩ := hQ3
  have sz_ffb2_7_3 : h0.size ≤ ffb2_7_3 := Nat.le_trans (Keep.refl h0 [xo0_]).1 zq_ffb2_7_3
  have ne_xo0__ffb2_7_3 : xo0_ ≠ ffb2_7_3 := Nat.ne_of_lt (Nat.lt_of_lt_of_le E_xo0_.lt zq_ffb2_7_3)
  have ne_xo1__ffb2_7_3 : xo1_ ≠ ffb2_7_3 := Nat.ne_of_lt (Nat.lt_of_lt_of_le E_xo1_.lt zq_ffb2_7_3)
  have ne_uo2__ffb2_7_3 : uo2_ ≠ ffb2_7_3 := Nat.ne_of_lt (Nat.lt_of_lt_of_le V_uo2_.lt zq_ffb2_7_3)
  have ne_uo1__ffb2_7_3 : uo1_ ≠ ffb2_7_3 := Nat.ne_of_lt (Nat.lt_of_lt_of_le V_uo1_.lt zq_ffb2_7_3)
  have K3 : Keep h0 T3.heap [xo0_] := Keep.trans (Keep.refl h0 [xo0_]) Kc3 (allS (Or.inl (List.mem_of_getElem? (i := 0) rfl)) all0)
  have Zs3 : n0 ≤ T3.heap.size := Nat.le_trans Z0 Kc3.1
  have N3 := Fr.app N1 Nq3
  obtain ⟨T4, X4, e4, st4⟩ := getF X3 hx hZ hown (host := "") (Or.inl (hw _ (List.mem_of_getElem? (i := 53) rfl))) Via.refl rfl q3_3 (g := (mkF m 26 #[.val (.ref xo0_), .val (.ref xo1_), .val (.int (10 : Int32))] [(.ref xo0_), (.ref xo0_)])) rfl rfl (hb hby dA22_26)
  have no6 : xo0_ ≠ uo2_ := Exa.neArv E_xo0_ V_uo2_ (hw _ (List.mem_of_getElem? (i := 24) rfl))
  obtain ⟨cq5, qa5, qb5⟩ := q3_0.cell
  obtain ⟨_, _, ⟨T5, L5, k5, n5⟩, -, X5, ⟨Lc5, hQ5, l5, y5, z5⟩, st5⟩ := X4.privateBack hx (y := (⟨"java/lang/AbstractStringBuilder", "putStringAt", "(ILjava/lang/String;)V"⟩ : MethodName)) hown (mvT hZ (hw _ (List.mem_of_getElem? (i := 104) rfl))) (mvT hZ (hw _ (List.mem_of_getElem? (i := 105) rfl))) (selfSel hZ (hw _ (List.mem_of_getElem? (i := 107) rfl)) (hw _ (List.mem_of_getElem? (i := 105) rfl)) (hw _ (List.mem_of_getElem? (i := 106) rfl)) (by decide)) (Cond.privateMethod_at (mvP hZ (hw _ (List.mem_of_getElem? (i := 106) rfl)) (args := #[]))) (mvT hZ (hw _ (List.mem_of_getElem? (i := 108) rfl))) (by decide) (backOf (W := 0) (rmA30 l Z a0 hw [] xo0_ xo1_ ffb2_7_3 uo2_ ui3_ k_uo2_ ui4_ ui5_ k_ffb2_7_3 T3.heap n0 Zs3 q3_0 q3_1 q3_2 q3_3 (E_xo1_.keep Kc3) (F_coder_xo1_.keep Kc3 (ninS (Exa.ne (E_xo1_.keep Kc3) q3_0 (by decide)) nin0)) (F_value_xo1_.keep Kc3 (ninS (Exa.ne (E_xo1_.keep Kc3) q3_0 (by decide)) nin0)) (X00.keep K3 (allS g_xo0_ all0)) S_COMPACT_STRINGS hp0_ (V_uo2_.keep Kc3 (ninS (Ne.symm no6) nin0)) q3_4 g_ffb2_7_3) hZ (hw _ (List.mem_of_getElem? (i := 108) rfl)) (hw _ (List.mem_of_getElem? (i := 33) rfl)) (by decide) (by decide)) (g := (mkF m 30 #[.val (.ref xo0_), .val (.ref xo1_), .val (.int (10 : Int32))] [(.ref xo1_), (.int (10 : Int32)), (.ref xo0_)])) rfl (by rw [hml]; rfl) (Steps.refl _) (a := xo0_) (by rw [e4]; exact qa5) qb5 (argsL := [(.int (10 : Int32)), (.ref xo1_)]) (rest := []) (lenOf own_pd11 rfl) rfl (by show 2 * 0 + _ ≤ _; exact Nat.le_of_eq rfl) (hb hby dA22_30) (fun _ _ => ⟨rfl, e4, (by decide : 1 + 0 ≤ _), (by decide : 34 + 0 ≤ _)⟩)
  dsimp only [Pt.U, Pt.locs, Pt.cells, Pt.slots] at X5 l5 y5 z5 st5 hQ5
  subst l5 y5 z5
  have no7 : xo0_ ≠ uo1_ := Exa.neArv E_xo0_ V_uo1_ (hw _ (List.mem_of_getElem? (i := 24) rfl))
  obtain ⟨rfl, Nq5, Kc5, q5_0⟩ := hQ5
  have K5 : Keep h0 T5.heap [xo0_] := Keep.trans K3 Kc5 (allS (Or.inr sz_ffb2_7_3) all0)
  have Zs5 : n0 ≤ T5.heap.size := Nat.le_trans Zs3 Kc5.1
  have N5 := Fr.app N3 Nq5
  obtain ⟨T8, X8, e8, st8⟩ := getF X5 hx hZ hown (host := "") (Or.inl (hw _ (List.mem_of_getElem? (i := 53) rfl))) Via.refl rfl (q3_3.keep Kc5 (ninS ne_xo0__ffb2_7_3 nin0)) (g := (mkF m 35 #[.val (.ref xo0_), .val (.ref xo1_), .val (.int (10 : Int32))] [(.ref xo0_), (.ref xo0_)])) rfl rfl (hb hby dA22_35)
  obtain ⟨T9, h9, X9, e9, W9, st9⟩ := putF X8 hx hZ hown (host := "") (Or.inl (hw _ (List.mem_of_getElem? (i := 53) rfl))) Via.refl e8 (q3_3.keep Kc5 (ninS ne_xo0__ffb2_7_3 nin0)) (q3_0.keep Kc5) (Or.inl (hw _ (List.mem_of_getElem? (i := 54) rfl))) (hw _ (List.mem_of_getElem? (i := 24) rfl)) (ty := .int) (by decide) rfl rfl (g := (mkF m 40 #[.val (.ref xo0_), .val (.ref xo1_), .val (.int (10 : Int32))] [(.int (20 : Int32)), (.ref xo0_)])) rfl rfl (hb hby dA22_40)
  have F9 : Fld Z h9 xo0_ "java/lang/AbstractStringBuilder" "count" "I" (.int (20 : Int32)) := Fld.same W9 (q3_3.keep Kc5 (ninS ne_xo0__ffb2_7_3 nin0))
  have K9 : Keep h0 h9 [xo0_] := K5.wr W9 (Or.inl (List.mem_of_getElem? (i := 0) rfl))
  have Zs9 : n0 ≤ h9.size := Nat.le_trans Zs5 (Keep.of_wr W9).1
  have N9 := Fr.snoc X9 N5 g_xo0_
  obtain ⟨fs, hr, hrun, hended, hW, hsame⟩ := X9.leave (v := some (.ref xo0_)) (fun h => by rw [Bd.returns] at h; cases h)
  refine ⟨_, _, (pre0 _ ?_), hrun, hended, _, _, rfl, ?_, ⟨_, rfl⟩, hW, hsame.mono (by decide) (by decide)⟩
  · show Steps p.tables e below (s₁.setTop (mkF m 0 #[.val (.ref xo0_), .val (.ref xo1_), .unset] [])) _
    refine XS.aloadN X0.here hx rfl (hb hby dA22_0) rfl rfl ?_
    show Steps p.tables e below (s₁.setTop (mkF m 1 #[.val (.ref xo0_), .val (.ref xo1_), .unset] [(.ref xo1_)])) _
    refine XS.ifnonnullYes X0.here hx rfl (pc0 := 1) (pc' := 9) rfl (hb hby dA22_1) rfl (by decide) (by decide) ?_
    show Steps p.tables e below (s₁.setTop (mkF m 9 #[.val (.ref xo0_), .val (.ref xo1_), .unset] [])) _
    refine XS.aloadN X0.here hx rfl (hb hby dA22_9) rfl rfl ?_
    show Steps p.tables e below (s₁.setTop (mkF m 10 #[.val (.ref xo0_), .val (.ref xo1_), .unset] [(.ref xo1_)])) _
    refine st1.trans ?_
    show Steps p.tables e below (T1.setTop (mkF m 13 #[.val (.ref xo0_), .val (.ref xo1_), .unset] [(.int (10 : Int32))])) _
    refine XS.istoreN X1.here hx rfl (hb hby dA22_13) rfl (l' := #[.val (.ref xo0_), .val (.ref xo1_), .val (.int (10 : Int32))]) rfl ?_
    show Steps p.tables e below (T1.setTop (mkF m 14 #[.val (.ref xo0_), .val (.ref xo1_), .val (.int (10 : Int32))] [])) _
    refine XS.aloadN X1.here hx rfl (hb hby dA22_14) rfl rfl ?_
    show Steps p.tables e below (T1.setTop (mkF m 15 #[.val (.ref xo0_), .val (.ref xo1_), .val (.int (10 : Int32))] [(.ref xo0_)])) _
    refine XS.aloadN X1.here hx rfl (hb hby dA22_15) rfl rfl ?_
    show Steps p.tables e below (T1.setTop (mkF m 16 #[.val (.ref xo0_), .val (.ref xo1_), .val (.int (10 : Int32))] [(.ref xo0_), (.ref xo0_)])) _
    refine st2 _ ?_
    show Steps p.tables e below (T2.setTop (mkF m 19 #[.val (.ref xo0_), .val (.ref xo1_), .val (.int (10 : Int32))] [(.int (10 : Int32)), (.ref xo0_)])) _
    refine XS.iloadN X2.here hx rfl (hb hby dA22_19) rfl ?_
    show Steps p.tables e below (T2.setTop (mkF m 20 #[.val (.ref xo0_), .val (.ref xo1_), .val (.int (10 : Int32))] [(.int (10 : Int32)), (.int (10 : Int32)), (.ref xo0_)])) _
    refine XS.iadd X2.here hx rfl (hb hby dA22_20) rfl ?_
    show Steps p.tables e below (T2.setTop (mkF m 21 #[.val (.ref xo0_), .val (.ref xo1_), .val (.int (10 : Int32))] [(.int (20 : Int32)), (.ref xo0_)])) _
    refine st3.trans ?_
    show Steps p.tables e below (T3.setTop (mkF m 24 #[.val (.ref xo0_), .val (.ref xo1_), .val (.int (10 : Int32))] [])) _
    refine XS.aloadN X3.here hx rfl (hb hby dA22_24) rfl rfl ?_
    show Steps p.tables e below (T3.setTop (mkF m 25 #[.val (.ref xo0_), .val (.ref xo1_), .val (.int (10 : Int32))] [(.ref xo0_)])) _
    refine XS.aloadN X3.here hx rfl (hb hby dA22_25) rfl rfl ?_
    show Steps p.tables e below (T3.setTop (mkF m 26 #[.val (.ref xo0_), .val (.ref xo1_), .val (.int (10 : Int32))] [(.ref xo0_), (.ref xo0_)])) _
    refine st4 _ ?_
    show Steps p.tables e below (T4.setTop (mkF m 29 #[.val (.ref xo0_), .val (.ref xo1_), .val (.int (10 : Int32))] [(.int (10 : Int32)), (.ref xo0_)])) _
    refine XS.aloadN X4.here hx rfl (hb hby dA22_29) rfl rfl ?_
    show Steps p.tables e below (T4.setTop (mkF m 30 #[.val (.ref xo0_), .val (.ref xo1_), .val (.int (10 : Int32))] [(.ref xo1_), (.int (10 : Int32)), (.ref xo0_)])) _
    refine st5.trans ?_
    show Steps p.tables e below (T5.setTop (mkF m 33 #[.val (.ref xo0_), .val (.ref xo1_), .val (.int (10 : Int32))] [])) _
    refine XS.aloadN X5.here hx rfl (hb hby dA22_33) rfl rfl ?_
    show Steps p.tables e below (T5.setTop (mkF m 34 #[.val (.ref xo0_), .val (.ref xo1_), .val (.int (10 : Int32))] [(.ref xo0_)])) _
    refine XS.dup X5.here hx rfl (hb hby dA22_34) rfl rfl ?_
    show Steps p.tables e below (T5.setTop (mkF m 35 #[.val (.ref xo0_), .val (.ref xo1_), .val (.int (10 : Int32))] [(.ref xo0_), (.ref xo0_)])) _
    refine st8 _ ?_
    show Steps p.tables e below (T8.setTop (mkF m 38 #[.val (.ref xo0_), .val (.ref xo1_), .val (.int (10 : Int32))] [(.int (10 : Int32)), (.ref xo0_)])) _
    refine XS.iloadN X8.here hx rfl (hb hby dA22_38) rfl ?_
    show Steps p.tables e below (T8.setTop (mkF m 39 #[.val (.ref xo0_), .val (.ref xo1_), .val (.int (10 : Int32))] [(.int (10 : Int32)), (.int (10 : Int32)), (.ref xo0_)])) _
    refine XS.iadd X8.here hx rfl (hb hby dA22_39) rfl ?_
    show Steps p.tables e below (T8.setTop (mkF m 40 #[.val (.ref xo0_), .val (.ref xo1_), .val (.int (10 : Int32))] [(.int (20 : Int32)), (.ref xo0_)])) _
    refine st9 _ ?_
    show Steps p.tables e below (T9.setTop (mkF m 43 #[.val (.ref xo0_), .val (.ref xo1_), .val (.int (10 : Int32))] [])) _
    refine XS.aloadN X9.here hx rfl (hb hby dA22_43) rfl rfl ?_
    show Steps p.tables e below (T9.setTop (mkF m 44 #[.val (.ref xo0_), .val (.ref xo1_), .val (.int (10 : Int32))] [(.ref xo0_)])) _
    jvm_step X9.here [X9.here.top, hx, (hb hby dA22_44), X9.method', Bd.returns, Value.isRef, FieldType.isReference]
    first | (intro acts; rw [hr _ acts rfl rfl rfl]) | rw [hr _ _ rfl rfl rfl]
    exact Steps.refl _
  · show QA22 Z xo0_ xo1_ uo1_ uo2_ k_uo2_ ui3_ ui4_ ui5_ k_uo1_ h0 n0 _ T9.heap _
    rw [e9]
    exact ⟨ffb2_7_3, k_ffb2_7_3, rfl, N9, K9, g_ffb2_7_3, sz_ffb2_7_3, ((q3_0.keep Kc5).wr W9), (Fld.other W9 (q3_1.keep Kc5 (ninS ne_xo0__ffb2_7_3 nin0)) (Or.inr (slot_ne (Or.inl (hw _ (List.mem_of_getElem? (i := 40) rfl))) (Or.inl (hw _ (List.mem_of_getElem? (i := 54) rfl))) (by decide) (t := (.array .byte)) (t' := .int) (by decide) (by decide)))), (Fld.other W9 (q3_2.keep Kc5 (ninS ne_xo0__ffb2_7_3 nin0)) (Or.inr (slot_ne (Or.inl (hw _ (List.mem_of_getElem? (i := 42) rfl))) (Or.inl (hw _ (List.mem_of_getElem? (i := 54) rfl))) (by decide) (t := .byte) (t' := .int) (by decide) (by decide)))), F9, (q5_0.other W9 (Ne.symm ne_xo0__ffb2_7_3))⟩
theorem dA21_0 : decode jdk_67_method_7_code 0 = .ok (.aload_n 0, 1) := by decide +kernel
theorem dA21_1 : decode jdk_67_method_7_code 1 = .ok (.aload_n 1, 1) := by decide +kernel
theorem dA21_2 : decode jdk_67_method_7_code 2 = .ok (.invokespecial 29, 3) := by decide +kernel
theorem dA21_5 : decode jdk_67_method_7_code 5 = .ok (.pop, 1) := by decide +kernel
theorem dA21_6 : decode jdk_67_method_7_code 6 = .ok (.aload_n 0, 1) := by decide +kernel
theorem dA21_7 : decode jdk_67_method_7_code 7 = .ok (.areturn, 1) := by decide +kernel
theorem efA21 (m : MethodId) (xo0_ : Addr) (xo1_ : Addr) : entryFrame m #[(.ref xo0_), (.ref xo1_)] 2 = mkF m 0 #[.val (.ref xo0_), .val (.ref xo1_)] [] := by first | (simp [entryFrame, mkF, argsToLocals, Value.category]; done) | rfl
def QA21 (Z : State) (xo0_ : Addr) (xo1_ : Addr) (uo1_ : Addr) (uo2_ : Addr) (k_uo2_ : ClassId) (ui3_ : Int32) (ui4_ : Int32) (ui5_ : Int32) (k_uo1_ : ClassId) (h0 : Heap) (n0 : Nat) (v : Option Value) (h : Heap) (L : List Loc) : Prop := ∃ ffffb2_7_3_1 : Addr, ∃ k_ffffb2_7_3_1 : ClassId, v = some (.ref xo0_) ∧ Fr n0 L ∧ Keep h0 h [xo0_] ∧ n0 ≤ ffffb2_7_3_1 ∧ h0.size ≤ ffffb2_7_3_1 ∧ Exa Z h xo0_ "java/lang/StringBuilder" ∧ Fld Z h xo0_ "java/lang/AbstractStringBuilder" "value" "[B" (.ref ffffb2_7_3_1) ∧ Fld Z h xo0_ "java/lang/AbstractStringBuilder" "coder" "B" (.int (0 : Int32)) ∧ Fld Z h xo0_ "java/lang/AbstractStringBuilder" "count" "I" (.int (20 : Int32)) ∧ Arv Z h ffffb2_7_3_1 k_ffffb2_7_3_1 .byte (34 : Int32) [(.int ui4_), (.int (32 : Int32)), (.int (102 : Int32)), (.int (105 : Int32)), (.int (108 : Int32)), (.int (101 : Int32)), (.int (115 : Int32)), (.int (44 : Int32)), (.int (32 : Int32)), (.int ui5_), (.int (32 : Int32)), (.int (102 : Int32)), (.int (111 : Int32)), (.int (108 : Int32)), (.int (100 : Int32)), (.int (101 : Int32)), (.int (114 : Int32)), (.int (115 : Int32)), (.int (44 : Int32)), (.int (32 : Int32)), (.int (0 : Int32)), (.int (0 : Int32)), (.int (0 : Int32)), (.int (0 : Int32)), (.int (0 : Int32)), (.int (0 : Int32)), (.int (0 : Int32)), (.int (0 : Int32)), (.int (0 : Int32)), (.int (0 : Int32)), (.int (0 : Int32)), (.int (0 : Int32)), (.int (0 : Int32)), (.int (0 : Int32))] (.int (0 : Int32))
set_option maxRecDepth 65536 in
set_option maxHeartbeats 40000000 in
theorem rmA21 (l : Launch) (Z : State) (a0 : Array Value) (hw : ∀ d ∈ tables_1, d.before a0 Z = true) (ws : List Jvm.Cond) (xo0_ : Addr) (xo1_ : Addr) (uo1_ : Addr) (uo2_ : Addr) (k_uo2_ : ClassId) (ui3_ : Int32) (ui4_ : Int32) (ui5_ : Int32) (k_uo1_ : ClassId) (h0 : Heap) (n0 : Nat) (Z0 : n0 ≤ h0.size) (E_xo0_ : Exa Z h0 xo0_ "java/lang/StringBuilder") (F_value_xo0_ : Fld Z h0 xo0_ "java/lang/AbstractStringBuilder" "value" "[B" (.ref uo1_)) (F_coder_xo0_ : Fld Z h0 xo0_ "java/lang/AbstractStringBuilder" "coder" "B" (.int (0 : Int32))) (F_count_xo0_ : Fld Z h0 xo0_ "java/lang/AbstractStringBuilder" "count" "I" (.int (10 : Int32))) (E_xo1_ : Exa Z h0 xo1_ "java/lang/String") (F_coder_xo1_ : Fld Z h0 xo1_ "java/lang/String" "coder" "B" (.int (0 : Int32))) (F_value_xo1_ : Fld Z h0 xo1_ "java/lang/String" "value" "[B" (.ref uo2_)) (V_uo2_ : Arv Z h0 uo2_ k_uo2_ .byte (10 : Int32) [(.int (32 : Int32)), (.int (102 : Int32)), (.int (111 : Int32)), (.int (108 : Int32)), (.int (100 : Int32)), (.int (101 : Int32)), (.int (114 : Int32)), (.int (115 : Int32)), (.int (44 : Int32)), (.int (32 : Int32))] (.int 0)) (X00 : Old Z n0 h0) (S_COMPACT_STRINGS : Sta Z Z.heap "java/lang/String" "COMPACT_STRINGS" "Z" (.int ui3_)) (V_uo1_ : Arv Z h0 uo1_ k_uo1_ .byte (16 : Int32) [(.int ui4_), (.int (32 : Int32)), (.int (102 : Int32)), (.int (105 : Int32)), (.int (108 : Int32)), (.int (101 : Int32)), (.int (115 : Int32)), (.int (44 : Int32)), (.int (32 : Int32)), (.int ui5_), (.int (0 : Int32)), (.int (0 : Int32)), (.int (0 : Int32)), (.int (0 : Int32)), (.int (0 : Int32)), (.int (0 : Int32))] (.int (0 : Int32))) (hp0_ : ¬ (ui3_ = (0 : Int32))) (g_xo0_ : n0 ≤ xo0_) :
    MetFree l (⟨"java/lang/StringBuilder", "append", "(Ljava/lang/String;)Ljava/lang/StringBuilder;"⟩ : MethodName) (head1 (Jvm.Cond.code (⟨"java/lang/StringBuilder", "append", "(Ljava/lang/String;)Ljava/lang/StringBuilder;"⟩ : MethodName) jdk_67_method_7_code 2 (some (.object "java/lang/StringBuilder")) :: ws) ({ frames := 5, cells := 1, slots := 34, locals := 83 } : Room)) (fun av_ U => av_ = #[(.ref xo0_), (.ref xo1_)] ∧ Z.Warmed39 U.vm ∧ U.heap = h0) (fun _ _ _ _ _ => True) (fun _ U o U' => ∃ v L, o = .returned v ∧ QA21 Z xo0_ xo1_ uo1_ uo2_ k_uo2_ ui3_ ui4_ ui5_ k_uo1_ h0 n0 v U'.heap L ∧ FrameEnd U o U' L ({ frames := 5, cells := 1, slots := 34, locals := 83 } : Room).cells ({ frames := 5, cells := 1, slots := 34, locals := 83 } : Room).slots) := by
  refine MetFree.of_bodySF (plainFor_of_name own_pn2) hisR ?_
  intro p e s m args below meth c s₁ Bd hml0 hP hK
  obtain ⟨rfl, hZ, hh⟩ := hP
  have hx := Bd.exec
  have hby := Bd.bytes
  have hml : c.maxLocals = 2 := hml0
  have hown : s.vm.findClass "java/lang/StringBuilder" = some m.cls := findClass_of_methodNamed Bd.named
  have hnm := (name_of_methodNamed Bd.named Bd.method).1
  have X0 : Stand p l e ({ frames := 5, cells := 1, slots := 34, locals := 83 } : Room) s m #[(.ref xo0_), (.ref xo1_)] below meth c s₁ [] 0 0 := Stand.of_body Bd
  have e0 : s₁.heap = h0 := by rw [← hh, Bd.state]; rfl
  have N0 := Fr.nil n0
  have pre0 : ∀ t, Steps p.tables e below (s₁.setTop (mkF m 0 #[.val (.ref xo0_), .val (.ref xo1_)] [])) t → Steps p.tables e below (s₁.setTop (entryFrame m #[(.ref xo0_), (.ref xo1_)] 2)) t := fun t k => castTop (efA21 m xo0_ xo1_) k
  obtain ⟨_, _, ⟨T1, L1, k1, n1⟩, -, X1, ⟨Lc1, hQ1, l1, y1, z1⟩, st1⟩ := superBack X0 hx hZ (y := (⟨"java/lang/AbstractStringBuilder", "append", "(Ljava/lang/String;)Ljava/lang/AbstractStringBuilder;"⟩ : MethodName)) hown (hw _ (List.mem_of_getElem? (i := 87) rfl)) (sameSelf (hw _ (List.mem_of_getElem? (i := 63) rfl)) rfl (hw _ (List.mem_of_getElem? (i := 88) rfl)) (by decide)) (hw _ (List.mem_of_getElem? (i := 88) rfl)) (hw _ (List.mem_of_getElem? (i := 50) rfl)) (by decide) (backOf (W := 0) (rmA22 l Z a0 hw [] xo0_ xo1_ uo1_ uo2_ k_uo2_ ui3_ ui4_ ui5_ k_uo1_ h0 n0 Z0 E_xo0_ F_value_xo0_ F_coder_xo0_ F_count_xo0_ E_xo1_ F_coder_xo1_ F_value_xo1_ V_uo2_ X00 S_COMPACT_STRINGS hp0_ V_uo1_ g_xo0_) hZ (hw _ (List.mem_of_getElem? (i := 90) rfl)) (hw _ (List.mem_of_getElem? (i := 33) rfl)) (by decide) (by decide)) e0 (Ins.self E_xo0_) (g := (mkF m 2 #[.val (.ref xo0_), .val (.ref xo1_)] [(.ref xo1_), (.ref xo0_)])) rfl (by rw [hml]; rfl) (hw _ (List.mem_of_getElem? (i := 90) rfl)) (argsL := [(.ref xo1_)]) (rest := []) (lenOf own_pd12 rfl) rfl (by show 2 * 0 + _ ≤ _; exact Nat.le_of_eq rfl) (hb hby dA21_2) (fun _ _ => ⟨rfl, e0, (by decide : 0 + 1 ≤ _), (by decide : 0 + 34 ≤ _)⟩)
  dsimp only [Pt.U, Pt.locs, Pt.cells, Pt.slots] at X1 l1 y1 z1 st1 hQ1
  subst l1 y1 z1
  obtain ⟨fffb2_7_3_1, k_fffb2_7_3_1, rfl, Nq1, Kc1, g_fffb2_7_3_1, zq_fffb2_7_3_1, q1_0, q1_1, q1_2, q1_3, q1_4⟩ := hQ1
  have sz_fffb2_7_3_1 : h0.size ≤ fffb2_7_3_1 := Nat.le_trans (Keep.refl h0 [xo0_]).1 zq_fffb2_7_3_1
  have ne_xo0__fffb2_7_3_1 : xo0_ ≠ fffb2_7_3_1 := Nat.ne_of_lt (Nat.lt_of_lt_of_le E_xo0_.lt zq_fffb2_7_3_1)
  have ne_xo1__fffb2_7_3_1 : xo1_ ≠ fffb2_7_3_1 := Nat.ne_of_lt (Nat.lt_of_lt_of_le E_xo1_.lt zq_fffb2_7_3_1)
  have ne_uo2__fffb2_7_3_1 : uo2_ ≠ fffb2_7_3_1 := Nat.ne_of_lt (Nat.lt_of_lt_of_le V_uo2_.lt zq_fffb2_7_3_1)
  have ne_uo1__fffb2_7_3_1 : uo1_ ≠ fffb2_7_3_1 := Nat.ne_of_lt (Nat.lt_of_lt_of_le V_uo1_.lt zq_fffb2_7_3_1)
  have K1 : Keep h0 T1.heap [xo0_] := Keep.trans (Keep.refl h0 [xo0_]) Kc1 (allS (Or.inl (List.mem_of_getElem? (i := 0) rfl)) all0)
  have Zs1 : n0 ≤ T1.heap.size := Nat.le_trans Z0 Kc1.1
  have N1 := Fr.app N0 Nq1
  obtain ⟨fs, hr, hrun, hended, hW, hsame⟩ := X1.leave (v := some (.ref xo0_)) (fun h => by rw [Bd.returns] at h; cases h)
  refine ⟨_, _, (pre0 _ ?_), hrun, hended, _, _, rfl, ?_, ⟨_, rfl⟩, hW, hsame.mono (by decide) (by decide)⟩
  · show Steps p.tables e below (s₁.setTop (mkF m 0 #[.val (.ref xo0_), .val (.ref xo1_)] [])) _
    refine XS.aloadN X0.here hx rfl (hb hby dA21_0) rfl rfl ?_
    show Steps p.tables e below (s₁.setTop (mkF m 1 #[.val (.ref xo0_), .val (.ref xo1_)] [(.ref xo0_)])) _
    refine XS.aloadN X0.here hx rfl (hb hby dA21_1) rfl rfl ?_
    show Steps p.tables e below (s₁.setTop (mkF m 2 #[.val (.ref xo0_), .val (.ref xo1_)] [(.ref xo1_), (.ref xo0_)])) _
    refine st1.trans ?_
    show Steps p.tables e below (T1.setTop (mkF m 5 #[.val (.ref xo0_), .val (.ref xo1_)] [(.ref xo0_)])) _
    refine XS.pop X1.here hx rfl (hb hby dA21_5) rfl rfl ?_
    show Steps p.tables e below (T1.setTop (mkF m 6 #[.val (.ref xo0_), .val (.ref xo1_)] [])) _
    refine XS.aloadN X1.here hx rfl (hb hby dA21_6) rfl rfl ?_
    show Steps p.tables e below (T1.setTop (mkF m 7 #[.val (.ref xo0_), .val (.ref xo1_)] [(.ref xo0_)])) _
    jvm_step X1.here [X1.here.top, hx, (hb hby dA21_7), X1.method', Bd.returns, Value.isRef, FieldType.isReference]
    first | (intro acts; rw [hr _ acts rfl rfl rfl]) | rw [hr _ _ rfl rfl rfl]
    exact Steps.refl _
  · show QA21 Z xo0_ xo1_ uo1_ uo2_ k_uo2_ ui3_ ui4_ ui5_ k_uo1_ h0 n0 _ T1.heap _
    exact ⟨fffb2_7_3_1, k_fffb2_7_3_1, rfl, N1, K1, g_fffb2_7_3_1, sz_fffb2_7_3_1, q1_0, q1_1, q1_2, q1_3, q1_4⟩
theorem dA35_0 : decode jdk_68_method_9_code 0 = .ok (.aload_n 0, 1) := by decide +kernel
theorem dA35_1 : decode jdk_68_method_9_code 1 = .ok (.getfield 15, 3) := by decide +kernel
theorem dA35_4 : decode jdk_68_method_9_code 4 = .ok (.arraylength, 1) := by decide +kernel
theorem dA35_5 : decode jdk_68_method_9_code 5 = .ok (.aload_n 0, 1) := by decide +kernel
theorem dA35_6 : decode jdk_68_method_9_code 6 = .ok (.getfield 22, 3) := by decide +kernel
theorem dA35_9 : decode jdk_68_method_9_code 9 = .ok (.ishr, 1) := by decide +kernel
theorem dA35_10 : decode jdk_68_method_9_code 10 = .ok (.istore_n 2, 1) := by decide +kernel
theorem dA35_11 : decode jdk_68_method_9_code 11 = .ok (.iload_n 1, 1) := by decide +kernel
theorem dA35_12 : decode jdk_68_method_9_code 12 = .ok (.iload_n 2, 1) := by decide +kernel
theorem dA35_13 : decode jdk_68_method_9_code 13 = .ok (.isub, 1) := by decide +kernel
theorem dA35_14 : decode jdk_68_method_9_code 14 = .ok (.ifCond .le 24, 3) := by decide +kernel
theorem dA35_38 : decode jdk_68_method_9_code 38 = .ok (.return_, 1) := by decide +kernel
theorem efA35 (m : MethodId) (xo0_ : Addr) : entryFrame m #[(.ref xo0_), (.int (21 : Int32))] 3 = mkF m 0 #[.val (.ref xo0_), .val (.int (21 : Int32)), .unset] [] := by first | (simp [entryFrame, mkF, argsToLocals, Value.category]; done) | rfl
def QA35 (Z : State) (xo0_ : Addr) (uo1_ : Addr) (ui2_ : Int32) (ui3_ : Int32) (k_uo1_ : ClassId) (h0 : Heap) (n0 : Nat) (v : Option Value) (h : Heap) (L : List Loc) : Prop := v = none ∧ Fr n0 L ∧ h = h0
set_option maxRecDepth 65536 in
set_option maxHeartbeats 40000000 in
theorem rmA35 (l : Launch) (Z : State) (a0 : Array Value) (hw : ∀ d ∈ tables_1, d.before a0 Z = true) (ws : List Jvm.Cond) (xo0_ : Addr) (uo1_ : Addr) (ui2_ : Int32) (ui3_ : Int32) (k_uo1_ : ClassId) (h0 : Heap) (n0 : Nat) (Z0 : n0 ≤ h0.size) (E_xo0_ : Exa Z h0 xo0_ "java/lang/StringBuilder") (F_value_xo0_ : Fld Z h0 xo0_ "java/lang/AbstractStringBuilder" "value" "[B" (.ref uo1_)) (F_coder_xo0_ : Fld Z h0 xo0_ "java/lang/AbstractStringBuilder" "coder" "B" (.int (0 : Int32))) (F_count_xo0_ : Fld Z h0 xo0_ "java/lang/AbstractStringBuilder" "count" "I" (.int (20 : Int32))) (V_uo1_ : Arv Z h0 uo1_ k_uo1_ .byte (34 : Int32) [(.int ui2_), (.int (32 : Int32)), (.int (102 : Int32)), (.int (105 : Int32)), (.int (108 : Int32)), (.int (101 : Int32)), (.int (115 : Int32)), (.int (44 : Int32)), (.int (32 : Int32)), (.int ui3_), (.int (32 : Int32)), (.int (102 : Int32)), (.int (111 : Int32)), (.int (108 : Int32)), (.int (100 : Int32)), (.int (101 : Int32)), (.int (114 : Int32)), (.int (115 : Int32)), (.int (44 : Int32)), (.int (32 : Int32)), (.int (0 : Int32)), (.int (0 : Int32)), (.int (0 : Int32)), (.int (0 : Int32)), (.int (0 : Int32)), (.int (0 : Int32)), (.int (0 : Int32)), (.int (0 : Int32)), (.int (0 : Int32)), (.int (0 : Int32)), (.int (0 : Int32)), (.int (0 : Int32)), (.int (0 : Int32)), (.int (0 : Int32))] (.int (0 : Int32))) :
    MetFree l (⟨"java/lang/AbstractStringBuilder", "ensureCapacityInternal", "(I)V"⟩ : MethodName) (head1 (Jvm.Cond.code (⟨"java/lang/AbstractStringBuilder", "ensureCapacityInternal", "(I)V"⟩ : MethodName) jdk_68_method_9_code 3 none :: ws) ({ frames := 0, cells := 0, slots := 0, locals := 0 } : Room)) (fun av_ U => av_ = #[(.ref xo0_), (.int (21 : Int32))] ∧ Z.Warmed39 U.vm ∧ U.heap = h0) (fun _ _ _ _ _ => True) (fun _ U o U' => ∃ v L, o = .returned v ∧ QA35 Z xo0_ uo1_ ui2_ ui3_ k_uo1_ h0 n0 v U'.heap L ∧ FrameEnd U o U' L ({ frames := 0, cells := 0, slots := 0, locals := 0 } : Room).cells ({ frames := 0, cells := 0, slots := 0, locals := 0 } : Room).slots) := by
  refine MetFree.of_bodySF (plainFor_of_name own_pn1) hisR ?_
  intro p e s m args below meth c s₁ Bd hml0 hP hK
  obtain ⟨rfl, hZ, hh⟩ := hP
  have hx := Bd.exec
  have hby := Bd.bytes
  have hml : c.maxLocals = 3 := hml0
  have hown : s.vm.findClass "java/lang/AbstractStringBuilder" = some m.cls := findClass_of_methodNamed Bd.named
  have hnm := (name_of_methodNamed Bd.named Bd.method).1
  have X0 : Stand p l e ({ frames := 0, cells := 0, slots := 0, locals := 0 } : Room) s m #[(.ref xo0_), (.int (21 : Int32))] below meth c s₁ [] 0 0 := Stand.of_body Bd
  have e0 : s₁.heap = h0 := by rw [← hh, Bd.state]; rfl
  have N0 := Fr.nil n0
  have pre0 : ∀ t, Steps p.tables e below (s₁.setTop (mkF m 0 #[.val (.ref xo0_), .val (.int (21 : Int32)), .unset] [])) t → Steps p.tables e below (s₁.setTop (entryFrame m #[(.ref xo0_), (.int (21 : Int32))] 3)) t := fun t k => castTop (efA35 m xo0_) k
  obtain ⟨T1, X1, e1, st1⟩ := getF X0 hx hZ hown (host := "") (Or.inl (hw _ (List.mem_of_getElem? (i := 39) rfl))) Via.refl e0 F_value_xo0_ (g := (mkF m 1 #[.val (.ref xo0_), .val (.int (21 : Int32)), .unset] [(.ref xo0_)])) rfl rfl (hb hby dA35_1)
  obtain ⟨cl2, Ar2, q2, S2, M2, Hs2, G2⟩ := (id V_uo1_)
  obtain ⟨T3, X3, e3, st3⟩ := getF X1 hx hZ hown (host := "") (Or.inl (hw _ (List.mem_of_getElem? (i := 41) rfl))) Via.refl e1 F_coder_xo0_ (g := (mkF m 6 #[.val (.ref xo0_), .val (.int (21 : Int32)), .unset] [(.ref xo0_), (.int (34 : Int32))])) rfl rfl (hb hby dA35_6)
  obtain ⟨fs, hr, hrun, hended, hW, hsame⟩ := X3.leave (v := none) (fun _ => rfl)
  refine ⟨_, _, (pre0 _ ?_), hrun, hended, _, _, rfl, ?_, ⟨_, rfl⟩, hW, hsame.mono (by decide) (by decide)⟩
  · show Steps p.tables e below (s₁.setTop (mkF m 0 #[.val (.ref xo0_), .val (.int (21 : Int32)), .unset] [])) _
    refine XS.aloadN X0.here hx rfl (hb hby dA35_0) rfl rfl ?_
    show Steps p.tables e below (s₁.setTop (mkF m 1 #[.val (.ref xo0_), .val (.int (21 : Int32)), .unset] [(.ref xo0_)])) _
    refine st1 _ ?_
    show Steps p.tables e below (T1.setTop (mkF m 4 #[.val (.ref xo0_), .val (.int (21 : Int32)), .unset] [(.ref uo1_)])) _
    refine X1.arraylength hx (by rw [e1]; exact Ar2.1) (State.isArrayOf_alike hZ.alike Ar2.2.1) (g := (mkF m 4 #[.val (.ref xo0_), .val (.int (21 : Int32)), .unset] [(.ref uo1_)])) rfl rfl (hb hby dA35_4) _ ?_
    rw [len_of S2 M2]
    show Steps p.tables e below (T1.setTop (mkF m 5 #[.val (.ref xo0_), .val (.int (21 : Int32)), .unset] [(.int (34 : Int32))])) _
    refine XS.aloadN X1.here hx rfl (hb hby dA35_5) rfl rfl ?_
    show Steps p.tables e below (T1.setTop (mkF m 6 #[.val (.ref xo0_), .val (.int (21 : Int32)), .unset] [(.ref xo0_), (.int (34 : Int32))])) _
    refine st3 _ ?_
    show Steps p.tables e below (T3.setTop (mkF m 9 #[.val (.ref xo0_), .val (.int (21 : Int32)), .unset] [(.int (0 : Int32)), (.int (34 : Int32))])) _
    refine XS.ishr X3.here hx rfl (hb hby dA35_9) rfl ?_
    rw [show ((34 : Int32) >>> ((0 : Int32) &&& 31)) = (34 : Int32) from by decide]
    show Steps p.tables e below (T3.setTop (mkF m 10 #[.val (.ref xo0_), .val (.int (21 : Int32)), .unset] [(.int (34 : Int32))])) _
    refine XS.istoreN X3.here hx rfl (hb hby dA35_10) rfl (l' := #[.val (.ref xo0_), .val (.int (21 : Int32)), .val (.int (34 : Int32))]) rfl ?_
    show Steps p.tables e below (T3.setTop (mkF m 11 #[.val (.ref xo0_), .val (.int (21 : Int32)), .val (.int (34 : Int32))] [])) _
    refine XS.iloadN X3.here hx rfl (hb hby dA35_11) rfl ?_
    show Steps p.tables e below (T3.setTop (mkF m 12 #[.val (.ref xo0_), .val (.int (21 : Int32)), .val (.int (34 : Int32))] [(.int (21 : Int32))])) _
    refine XS.iloadN X3.here hx rfl (hb hby dA35_12) rfl ?_
    show Steps p.tables e below (T3.setTop (mkF m 13 #[.val (.ref xo0_), .val (.int (21 : Int32)), .val (.int (34 : Int32))] [(.int (34 : Int32)), (.int (21 : Int32))])) _
    refine XS.isub X3.here hx rfl (hb hby dA35_13) rfl ?_
    show Steps p.tables e below (T3.setTop (mkF m 14 #[.val (.ref xo0_), .val (.int (21 : Int32)), .val (.int (34 : Int32))] [(.int (-13 : Int32))])) _
    refine XS.ifYes X3.here hx rfl (pc0 := 14) (pc' := 38) rfl (hb hby dA35_14) rfl ((if0 _ _).trans (flt (by decide : ¬ ((0 : Int32) < (-13 : Int32)))).2.2.2) (by decide) (by decide) ?_
    show Steps p.tables e below (T3.setTop (mkF m 38 #[.val (.ref xo0_), .val (.int (21 : Int32)), .val (.int (34 : Int32))] [])) _
    exact X3.returnOut hx Bd.returns (hb hby dA35_38) hr
  · show QA35 Z xo0_ uo1_ ui2_ ui3_ k_uo1_ h0 n0 _ T3.heap _
    rw [e3]
    exact ⟨rfl, N0, rfl⟩
theorem dA36_0 : decode jdk_68_method_68_code 0 = .ok (.getstatic 18, 3) := by decide +kernel
theorem dA36_3 : decode jdk_68_method_68_code 3 = .ok (.ifCond .eq 14, 3) := by decide +kernel
theorem dA36_6 : decode jdk_68_method_68_code 6 = .ok (.aload_n 0, 1) := by decide +kernel
theorem dA36_7 : decode jdk_68_method_68_code 7 = .ok (.getfield 22, 3) := by decide +kernel
theorem dA36_10 : decode jdk_68_method_68_code 10 = .ok (.ifCond .ne 7, 3) := by decide +kernel
theorem dA36_13 : decode jdk_68_method_68_code 13 = .ok (.iconst 1, 1) := by decide +kernel
theorem dA36_14 : decode jdk_68_method_68_code 14 = .ok (.goto 4, 3) := by decide +kernel
theorem dA36_18 : decode jdk_68_method_68_code 18 = .ok (.ireturn, 1) := by decide +kernel
theorem efA36 (m : MethodId) (xo0_ : Addr) : entryFrame m #[(.ref xo0_)] 1 = mkF m 0 #[.val (.ref xo0_)] [] := by first | (simp [entryFrame, mkF, argsToLocals, Value.category]; done) | rfl
def QA36 (Z : State) (xo0_ : Addr) (uo1_ : Addr) (ui2_ : Int32) (h0 : Heap) (n0 : Nat) (v : Option Value) (h : Heap) (L : List Loc) : Prop := v = some (.int (1 : Int32)) ∧ Fr n0 L ∧ h = h0
set_option maxRecDepth 65536 in
set_option maxHeartbeats 40000000 in
theorem rmA36 (l : Launch) (Z : State) (a0 : Array Value) (hw : ∀ d ∈ tables_1, d.before a0 Z = true) (ws : List Jvm.Cond) (xo0_ : Addr) (uo1_ : Addr) (ui2_ : Int32) (h0 : Heap) (n0 : Nat) (Z0 : n0 ≤ h0.size) (E_xo0_ : Exa Z h0 xo0_ "java/lang/StringBuilder") (F_value_xo0_ : Fld Z h0 xo0_ "java/lang/AbstractStringBuilder" "value" "[B" (.ref uo1_)) (F_coder_xo0_ : Fld Z h0 xo0_ "java/lang/AbstractStringBuilder" "coder" "B" (.int (0 : Int32))) (F_count_xo0_ : Fld Z h0 xo0_ "java/lang/AbstractStringBuilder" "count" "I" (.int (20 : Int32))) (X00 : Old Z n0 h0) (S_COMPACT_STRINGS : Sta Z Z.heap "java/lang/String" "COMPACT_STRINGS" "Z" (.int ui2_)) (hp0_ : ¬ (ui2_ = (0 : Int32))) :
    MetFree l (⟨"java/lang/AbstractStringBuilder", "isLatin1", "()Z"⟩ : MethodName) (head1 (Jvm.Cond.code (⟨"java/lang/AbstractStringBuilder", "isLatin1", "()Z"⟩ : MethodName) jdk_68_method_68_code 1 (some .boolean) :: ws) ({ frames := 0, cells := 0, slots := 0, locals := 0 } : Room)) (fun av_ U => av_ = #[(.ref xo0_)] ∧ Z.Warmed39 U.vm ∧ U.heap = h0) (fun _ _ _ _ _ => True) (fun _ U o U' => ∃ v L, o = .returned v ∧ QA36 Z xo0_ uo1_ ui2_ h0 n0 v U'.heap L ∧ FrameEnd U o U' L ({ frames := 0, cells := 0, slots := 0, locals := 0 } : Room).cells ({ frames := 0, cells := 0, slots := 0, locals := 0 } : Room).slots) := by
  refine MetFree.of_bodySF (plainFor_of_name own_pn1) hisR ?_
  intro p e s m args below meth c s₁ Bd hml0 hP hK
  obtain ⟨rfl, hZ, hh⟩ := hP
  have hx := Bd.exec
  have hby := Bd.bytes
  have hml : c.maxLocals = 1 := hml0
  have hown : s.vm.findClass "java/lang/AbstractStringBuilder" = some m.cls := findClass_of_methodNamed Bd.named
  have hnm := (name_of_methodNamed Bd.named Bd.method).1
  have X0 : Stand p l e ({ frames := 0, cells := 0, slots := 0, locals := 0 } : Room) s m #[(.ref xo0_)] below meth c s₁ [] 0 0 := Stand.of_body Bd
  have e0 : s₁.heap = h0 := by rw [← hh, Bd.state]; rfl
  have N0 := Fr.nil n0
  have pre0 : ∀ t, Steps p.tables e below (s₁.setTop (mkF m 0 #[.val (.ref xo0_)] [])) t → Steps p.tables e below (s₁.setTop (entryFrame m #[(.ref xo0_)] 1)) t := fun t k => castTop (efA36 m xo0_) k
  obtain ⟨T1, X1, e1, st1⟩ := getS2 X0 hx hZ hown (host := "") (Or.inl (hw _ (List.mem_of_getElem? (i := 36) rfl))) Via.refl e0 (S_COMPACT_STRINGS.ext X00.2) (g := (mkF m 0 #[.val (.ref xo0_)] [])) rfl (hb hby dA36_0)
  obtain ⟨T2, X2, e2, st2⟩ := getF X1 hx hZ hown (host := "") (Or.inl (hw _ (List.mem_of_getElem? (i := 41) rfl))) Via.refl e1 F_coder_xo0_ (g := (mkF m 7 #[.val (.ref xo0_)] [(.ref xo0_)])) rfl rfl (hb hby dA36_7)
  obtain ⟨fs, hr, hrun, hended, hW, hsame⟩ := X2.leave (v := some (.int (1 : Int32))) (fun h => by rw [Bd.returns] at h; cases h)
  refine ⟨_, _, (pre0 _ ?_), hrun, hended, _, _, rfl, ?_, ⟨_, rfl⟩, hW, hsame.mono (by decide) (by decide)⟩
  · show Steps p.tables e below (s₁.setTop (mkF m 0 #[.val (.ref xo0_)] [])) _
    refine st1 _ ?_
    show Steps p.tables e below (T1.setTop (mkF m 3 #[.val (.ref xo0_)] [(.int ui2_)])) _
    refine XS.ifNo X1.here hx rfl (hb hby dA36_3) rfl ((if0 _ _).trans (feq hp0_).1) ?_
    show Steps p.tables e below (T1.setTop (mkF m 6 #[.val (.ref xo0_)] [])) _
    refine XS.aloadN X1.here hx rfl (hb hby dA36_6) rfl rfl ?_
    show Steps p.tables e below (T1.setTop (mkF m 7 #[.val (.ref xo0_)] [(.ref xo0_)])) _
    refine st2 _ ?_
    show Steps p.tables e below (T2.setTop (mkF m 10 #[.val (.ref xo0_)] [(.int (0 : Int32))])) _
    refine XS.ifNo X2.here hx rfl (hb hby dA36_10) rfl ((if0 _ _).trans (teq (by decide : (0 : Int32) = (0 : Int32))).2) ?_
    show Steps p.tables e below (T2.setTop (mkF m 13 #[.val (.ref xo0_)] [])) _
    refine XS.iconst X2.here hx rfl (hb hby dA36_13) ?_
    show Steps p.tables e below (T2.setTop (mkF m 14 #[.val (.ref xo0_)] [(.int (1 : Int32))])) _
    refine XS.goto X2.here hx rfl (pc0 := 14) (pc' := 18) rfl (hb hby dA36_14) (by decide) (by decide) ?_
    show Steps p.tables e below (T2.setTop (mkF m 18 #[.val (.ref xo0_)] [(.int (1 : Int32))])) _
    exact retN X2 hx (t := .boolean) Bd.returns (by simp) (hb hby dA36_18) hr
  · show QA36 Z xo0_ uo1_ ui2_ h0 n0 _ T2.heap _
    rw [e2]
    exact ⟨rfl, N0, rfl⟩
theorem dA37_0 : decode jdk_35_method_14_code 0 = .ok (.iload_n 2, 1) := by decide +kernel
theorem dA37_1 : decode jdk_35_method_14_code 1 = .ok (.istore 7, 2) := by decide +kernel
theorem dA37_3 : decode jdk_35_method_14_code 3 = .ok (.lload_n 0, 1) := by decide +kernel
theorem dA37_4 : decode jdk_35_method_14_code 4 = .ok (.lconst 0, 1) := by decide +kernel
theorem dA37_5 : decode jdk_35_method_14_code 5 = .ok (.lcmp, 1) := by decide +kernel
theorem dA37_6 : decode jdk_35_method_14_code 6 = .ok (.ifCond .ge 7, 3) := by decide +kernel
theorem dA37_13 : decode jdk_35_method_14_code 13 = .ok (.iconst 0, 1) := by decide +kernel
theorem dA37_14 : decode jdk_35_method_14_code 14 = .ok (.istore 8, 2) := by decide +kernel
theorem dA37_16 : decode jdk_35_method_14_code 16 = .ok (.iload 8, 2) := by decide +kernel
theorem dA37_18 : decode jdk_35_method_14_code 18 = .ok (.ifCond .ne 6, 3) := by decide +kernel
theorem dA37_21 : decode jdk_35_method_14_code 21 = .ok (.lload_n 0, 1) := by decide +kernel
theorem dA37_22 : decode jdk_35_method_14_code 22 = .ok (.lneg, 1) := by decide +kernel
theorem dA37_23 : decode jdk_35_method_14_code 23 = .ok (.lstore_n 0, 1) := by decide +kernel
theorem dA37_24 : decode jdk_35_method_14_code 24 = .ok (.lload_n 0, 1) := by decide +kernel
theorem dA37_25 : decode jdk_35_method_14_code 25 = .ok (.ldc2_w 129, 3) := by decide +kernel
theorem dA37_28 : decode jdk_35_method_14_code 28 = .ok (.lcmp, 1) := by decide +kernel
theorem dA37_29 : decode jdk_35_method_14_code 29 = .ok (.ifCond .gt 53, 3) := by decide +kernel
theorem dA37_82 : decode jdk_35_method_14_code 82 = .ok (.lload_n 0, 1) := by decide +kernel
theorem dA37_83 : decode jdk_35_method_14_code 83 = .ok (.l2i, 1) := by decide +kernel
theorem dA37_84 : decode jdk_35_method_14_code 84 = .ok (.istore 10, 2) := by decide +kernel
theorem dA37_86 : decode jdk_35_method_14_code 86 = .ok (.iload 10, 2) := by decide +kernel
theorem dA37_88 : decode jdk_35_method_14_code 88 = .ok (.bipush (-100), 2) := by decide +kernel
theorem dA37_90 : decode jdk_35_method_14_code 90 = .ok (.if_icmp .gt 53, 3) := by decide +kernel
theorem dA37_143 : decode jdk_35_method_14_code 143 = .ok (.aload_n 3, 1) := by decide +kernel
theorem dA37_144 : decode jdk_35_method_14_code 144 = .ok (.iinc 7 (-1), 3) := by decide +kernel
theorem dA37_147 : decode jdk_35_method_14_code 147 = .ok (.iload 7, 2) := by decide +kernel
theorem dA37_149 : decode jdk_35_method_14_code 149 = .ok (.getstatic 133, 3) := by decide +kernel
theorem dA37_152 : decode jdk_35_method_14_code 152 = .ok (.iload 10, 2) := by decide +kernel
theorem dA37_154 : decode jdk_35_method_14_code 154 = .ok (.ineg, 1) := by decide +kernel
theorem dA37_155 : decode jdk_35_method_14_code 155 = .ok (.baload, 1) := by decide +kernel
theorem dA37_156 : decode jdk_35_method_14_code 156 = .ok (.bastore, 1) := by decide +kernel
theorem dA37_157 : decode jdk_35_method_14_code 157 = .ok (.iload 10, 2) := by decide +kernel
theorem dA37_159 : decode jdk_35_method_14_code 159 = .ok (.bipush (-9), 2) := by decide +kernel
theorem dA37_161 : decode jdk_35_method_14_code 161 = .ok (.if_icmp .ge 17, 3) := by decide +kernel
theorem dA37_178 : decode jdk_35_method_14_code 178 = .ok (.iload 8, 2) := by decide +kernel
theorem dA37_180 : decode jdk_35_method_14_code 180 = .ok (.ifCond .eq 12, 3) := by decide +kernel
theorem dA37_192 : decode jdk_35_method_14_code 192 = .ok (.iload 7, 2) := by decide +kernel
theorem dA37_194 : decode jdk_35_method_14_code 194 = .ok (.ireturn, 1) := by decide +kernel
theorem efA37 (m : MethodId) (xj0_ : Int64) (xo2_ : Addr) : entryFrame m #[(.long xj0_), (.int (21 : Int32)), (.ref xo2_)] 11 = mkF m 0 #[.val (.long xj0_), .second, .val (.int (21 : Int32)), .val (.ref xo2_), .unset, .unset, .unset, .unset, .unset, .unset, .unset] [] := by first | (simp [entryFrame, mkF, argsToLocals, Value.category]; done) | rfl
def QA37 (Z : State) (xj0_ : Int64) (xo2_ : Addr) (uo1_ : Addr) (k_uo1_ : ClassId) (ui2_ : Int32) (ui3_ : Int32) (k_xo2_ : ClassId) (h0 : Heap) (n0 : Nat) (v : Option Value) (h : Heap) (L : List Loc) : Prop := v = some (.int (20 : Int32)) ∧ Fr n0 L ∧ Keep h0 h [xo2_] ∧ Arv Z h xo2_ k_xo2_ .byte (34 : Int32) [(.int ui2_), (.int (32 : Int32)), (.int (102 : Int32)), (.int (105 : Int32)), (.int (108 : Int32)), (.int (101 : Int32)), (.int (115 : Int32)), (.int (44 : Int32)), (.int (32 : Int32)), (.int ui3_), (.int (32 : Int32)), (.int (102 : Int32)), (.int (111 : Int32)), (.int (108 : Int32)), (.int (100 : Int32)), (.int (101 : Int32)), (.int (114 : Int32)), (.int (115 : Int32)), (.int (44 : Int32)), (.int (32 : Int32)), (.int ((own_get own_ones (-((-xj0_).toInt32)))).toInt8.toInt32), (.int (0 : Int32)), (.int (0 : Int32)), (.int (0 : Int32)), (.int (0 : Int32)), (.int (0 : Int32)), (.int (0 : Int32)), (.int (0 : Int32)), (.int (0 : Int32)), (.int (0 : Int32)), (.int (0 : Int32)), (.int (0 : Int32)), (.int (0 : Int32)), (.int (0 : Int32))] (.int (0 : Int32))
set_option maxRecDepth 65536 in
set_option maxHeartbeats 40000000 in
theorem rmA37 (l : Launch) (Z : State) (a0 : Array Value) (hw : ∀ d ∈ tables_1, d.before a0 Z = true) (ws : List Jvm.Cond) (xj0_ : Int64) (xo2_ : Addr) (uo1_ : Addr) (k_uo1_ : ClassId) (ui2_ : Int32) (ui3_ : Int32) (k_xo2_ : ClassId) (h0 : Heap) (n0 : Nat) (Z0 : n0 ≤ h0.size) (hp0_ : ¬ (xj0_ < (0 : Int64))) (hp1_ : (-2147483648 : Int64) < (-xj0_)) (hp2_ : (-100 : Int32) < ((-xj0_).toInt32)) (X00 : Old Z n0 h0) (S_DigitOnes : Sta Z Z.heap "java/lang/Integer" "DigitOnes" "[B" (.ref uo1_)) (V_uo1_ : Arv Z Z.heap uo1_ k_uo1_ .byte (100 : Int32) (own_ones.map Value.int) (.int (0 : Int32))) (hp3_ : own_inb xj0_) (V_xo2_ : Arv Z h0 xo2_ k_xo2_ .byte (34 : Int32) [(.int ui2_), (.int (32 : Int32)), (.int (102 : Int32)), (.int (105 : Int32)), (.int (108 : Int32)), (.int (101 : Int32)), (.int (115 : Int32)), (.int (44 : Int32)), (.int (32 : Int32)), (.int ui3_), (.int (32 : Int32)), (.int (102 : Int32)), (.int (111 : Int32)), (.int (108 : Int32)), (.int (100 : Int32)), (.int (101 : Int32)), (.int (114 : Int32)), (.int (115 : Int32)), (.int (44 : Int32)), (.int (32 : Int32)), (.int (0 : Int32)), (.int (0 : Int32)), (.int (0 : Int32)), (.int (0 : Int32)), (.int (0 : Int32)), (.int (0 : Int32)), (.int (0 : Int32)), (.int (0 : Int32)), (.int (0 : Int32)), (.int (0 : Int32)), (.int (0 : Int32)), (.int (0 : Int32)), (.int (0 : Int32)), (.int (0 : Int32))] (.int (0 : Int32))) (g_xo2_ : n0 ≤ xo2_) (hp4_ : ¬ (((-xj0_).toInt32) < (-9 : Int32))) :
    MetFree l (⟨"java/lang/Long", "getChars", "(JI[B)I"⟩ : MethodName) (head1 (Jvm.Cond.code (⟨"java/lang/Long", "getChars", "(JI[B)I"⟩ : MethodName) jdk_35_method_14_code 11 (some .int) :: ws) ({ frames := 0, cells := 0, slots := 0, locals := 0 } : Room)) (fun av_ U => av_ = #[(.long xj0_), (.int (21 : Int32)), (.ref xo2_)] ∧ Z.Warmed39 U.vm ∧ U.heap = h0) (fun _ _ _ _ _ => True) (fun _ U o U' => ∃ v L, o = .returned v ∧ QA37 Z xj0_ xo2_ uo1_ k_uo1_ ui2_ ui3_ k_xo2_ h0 n0 v U'.heap L ∧ FrameEnd U o U' L ({ frames := 0, cells := 0, slots := 0, locals := 0 } : Room).cells ({ frames := 0, cells := 0, slots := 0, locals := 0 } : Room).slots) := by
  refine MetFree.of_bodySF (plainFor_of_name own_pn3) hisR ?_
  intro p e s m args below meth c s₁ Bd hml0 hP hK
  obtain ⟨rfl, hZ, hh⟩ := hP
  have hx := Bd.exec
  have hby := Bd.bytes
  have hml : c.maxLocals = 11 := hml0
  have hown : s.vm.findClass "java/lang/Long" = some m.cls := findClass_of_methodNamed Bd.named
  have hnm := (name_of_methodNamed Bd.named Bd.method).1
  have X0 : Stand p l e ({ frames := 0, cells := 0, slots := 0, locals := 0 } : Room) s m #[(.long xj0_), (.int (21 : Int32)), (.ref xo2_)] below meth c s₁ [] 0 0 := Stand.of_body Bd
  have e0 : s₁.heap = h0 := by rw [← hh, Bd.state]; rfl
  have N0 := Fr.nil n0
  have pre0 : ∀ t, Steps p.tables e below (s₁.setTop (mkF m 0 #[.val (.long xj0_), .second, .val (.int (21 : Int32)), .val (.ref xo2_), .unset, .unset, .unset, .unset, .unset, .unset, .unset] [])) t → Steps p.tables e below (s₁.setTop (entryFrame m #[(.long xj0_), (.int (21 : Int32)), (.ref xo2_)] 11)) t := fun t k => castTop (efA37 m xj0_ xo2_) k
  obtain ⟨T1, X1, e1, st1⟩ := getS2 X0 hx hZ hown (host := "") (Or.inl (hw _ (List.mem_of_getElem? (i := 74) rfl))) Via.refl e0 (S_DigitOnes.ext X00.2) (g := (mkF m 149 #[.val (.long (-xj0_)), .second, .val (.int (21 : Int32)), .val (.ref xo2_), .unset, .unset, .unset, .val (.int (20 : Int32)), .val (.int (0 : Int32)), .unset, .val (.int ((-xj0_).toInt32))] [(.int (20 : Int32)), (.ref xo2_)])) rfl (hb hby dA37_149)
  obtain ⟨cl2, Ar2, q2, S2, M2, Hs2, G2⟩ := (V_uo1_.ext X00.2)
  have hin2 : ¬ ((-((-xj0_).toInt32)) < 0 ∨ cl2.slots.size ≤ ((-((-xj0_).toInt32))).toNatClampNeg) := inb_of S2 hp3_
  have hat2 : cl2.slots[((-((-xj0_).toInt32))).toNatClampNeg]? = some (.int (own_get own_ones (-((-xj0_).toInt32)))) := Hs2.at hin2 (own_getV own_ones (-((-xj0_).toInt32)))
  obtain ⟨cl3, Ar3, q3, S3, M3, Hs3, G3⟩ := (id V_xo2_)
  have hin3 : ¬ ((20 : Int32) < 0 ∨ cl3.slots.size ≤ ((20 : Int32)).toNatClampNeg) := inb_of S3 ⟨by decide, by decide⟩
  obtain ⟨T4, h4, X4, e4, W4, st4⟩ := stB X1 hx hZ e1 Ar3 (j := (20 : Int32)) hin3 (g := (mkF m 156 #[.val (.long (-xj0_)), .second, .val (.int (21 : Int32)), .val (.ref xo2_), .unset, .unset, .unset, .val (.int (20 : Int32)), .val (.int (0 : Int32)), .unset, .val (.int ((-xj0_).toInt32))] [(.int (own_get own_ones (-((-xj0_).toInt32)))), (.int (20 : Int32)), (.ref xo2_)])) rfl rfl (hb hby dA37_156)
  have V4 : Arv Z h4 xo2_ k_xo2_ .byte (34 : Int32) [(.int ui2_), (.int (32 : Int32)), (.int (102 : Int32)), (.int (105 : Int32)), (.int (108 : Int32)), (.int (101 : Int32)), (.int (115 : Int32)), (.int (44 : Int32)), (.int (32 : Int32)), (.int ui3_), (.int (32 : Int32)), (.int (102 : Int32)), (.int (111 : Int32)), (.int (108 : Int32)), (.int (100 : Int32)), (.int (101 : Int32)), (.int (114 : Int32)), (.int (115 : Int32)), (.int (44 : Int32)), (.int (32 : Int32)), (.int ((own_get own_ones (-((-xj0_).toInt32)))).toInt8.toInt32), (.int (0 : Int32)), (.int (0 : Int32)), (.int (0 : Int32)), (.int (0 : Int32)), (.int (0 : Int32)), (.int (0 : Int32)), (.int (0 : Int32)), (.int (0 : Int32)), (.int (0 : Int32)), (.int (0 : Int32)), (.int (0 : Int32)), (.int (0 : Int32)), (.int (0 : Int32))] (.int (0 : Int32)) := Arv.set Ar3 q3 S3 M3 Hs3 G3 (fits_nar_byte _) W4 20 rfl (Nat.le_of_ble_eq_true rfl)
  have K4 : Keep h0 h4 [xo2_] := (Keep.refl h0 [xo2_]).wr W4 (Or.inl (List.mem_of_getElem? (i := 0) rfl))
  have Zs4 : n0 ≤ h4.size := Nat.le_trans Z0 (Keep.of_wr W4).1
  have N4 := Fr.snoc X4 N0 g_xo2_
  obtain ⟨fs, hr, hrun, hended, hW, hsame⟩ := X4.leave (v := some (.int (20 : Int32))) (fun h => by rw [Bd.returns] at h; cases h)
  refine ⟨_, _, (pre0 _ ?_), hrun, hended, _, _, rfl, ?_, ⟨_, rfl⟩, hW, hsame.mono (by decide) (by decide)⟩
  · show Steps p.tables e below (s₁.setTop (mkF m 0 #[.val (.long xj0_), .second, .val (.int (21 : Int32)), .val (.ref xo2_), .unset, .unset, .unset, .unset, .unset, .unset, .unset] [])) _
    refine XS.iloadN X0.here hx rfl (hb hby dA37_0) rfl ?_
    show Steps p.tables e below (s₁.setTop (mkF m 1 #[.val (.long xj0_), .second, .val (.int (21 : Int32)), .val (.ref xo2_), .unset, .unset, .unset, .unset, .unset, .unset, .unset] [(.int (21 : Int32))])) _
    refine XS.istore X0.here hx rfl (hb hby dA37_1) rfl (l' := #[.val (.long xj0_), .second, .val (.int (21 : Int32)), .val (.ref xo2_), .unset, .unset, .unset, .val (.int (21 : Int32)), .unset, .unset, .unset]) rfl ?_
    show Steps p.tables e below (s₁.setTop (mkF m 3 #[.val (.long xj0_), .second, .val (.int (21 : Int32)), .val (.ref xo2_), .unset, .unset, .unset, .val (.int (21 : Int32)), .unset, .unset, .unset] [])) _
    refine XS.lloadN X0.here hx rfl (hb hby dA37_3) rfl ?_
    show Steps p.tables e below (s₁.setTop (mkF m 4 #[.val (.long xj0_), .second, .val (.int (21 : Int32)), .val (.ref xo2_), .unset, .unset, .unset, .val (.int (21 : Int32)), .unset, .unset, .unset] [(.long xj0_)])) _
    refine XS.lconst X0.here hx rfl (hb hby dA37_4) ?_
    show Steps p.tables e below (s₁.setTop (mkF m 5 #[.val (.long xj0_), .second, .val (.int (21 : Int32)), .val (.ref xo2_), .unset, .unset, .unset, .val (.int (21 : Int32)), .unset, .unset, .unset] [(.long (0 : Int64)), (.long xj0_)])) _
    refine XS.lcmp X0.here hx rfl (hb hby dA37_5) rfl ?_
    show Steps p.tables e below (s₁.setTop (mkF m 6 #[.val (.long xj0_), .second, .val (.int (21 : Int32)), .val (.ref xo2_), .unset, .unset, .unset, .val (.int (21 : Int32)), .unset, .unset, .unset] [(.int (lcmpW xj0_ (0 : Int64)))])) _
    refine XS.ifYes X0.here hx rfl (pc0 := 6) (pc' := 13) rfl (hb hby dA37_6) rfl ((if0 _ _).trans (flt (fun q => hp0_ ((lw_lt _ _).mp q))).2.1) (by decide) (by decide) ?_
    show Steps p.tables e below (s₁.setTop (mkF m 13 #[.val (.long xj0_), .second, .val (.int (21 : Int32)), .val (.ref xo2_), .unset, .unset, .unset, .val (.int (21 : Int32)), .unset, .unset, .unset] [])) _
    refine XS.iconst X0.here hx rfl (hb hby dA37_13) ?_
    show Steps p.tables e below (s₁.setTop (mkF m 14 #[.val (.long xj0_), .second, .val (.int (21 : Int32)), .val (.ref xo2_), .unset, .unset, .unset, .val (.int (21 : Int32)), .unset, .unset, .unset] [(.int (0 : Int32))])) _
    refine XS.istore X0.here hx rfl (hb hby dA37_14) rfl (l' := #[.val (.long xj0_), .second, .val (.int (21 : Int32)), .val (.ref xo2_), .unset, .unset, .unset, .val (.int (21 : Int32)), .val (.int (0 : Int32)), .unset, .unset]) rfl ?_
    show Steps p.tables e below (s₁.setTop (mkF m 16 #[.val (.long xj0_), .second, .val (.int (21 : Int32)), .val (.ref xo2_), .unset, .unset, .unset, .val (.int (21 : Int32)), .val (.int (0 : Int32)), .unset, .unset] [])) _
    refine XS.iload X0.here hx rfl (hb hby dA37_16) rfl ?_
    show Steps p.tables e below (s₁.setTop (mkF m 18 #[.val (.long xj0_), .second, .val (.int (21 : Int32)), .val (.ref xo2_), .unset, .unset, .unset, .val (.int (21 : Int32)), .val (.int (0 : Int32)), .unset, .unset] [(.int (0 : Int32))])) _
    refine XS.ifNo X0.here hx rfl (hb hby dA37_18) rfl ((if0 _ _).trans (teq (by decide : (0 : Int32) = (0 : Int32))).2) ?_
    show Steps p.tables e below (s₁.setTop (mkF m 21 #[.val (.long xj0_), .second, .val (.int (21 : Int32)), .val (.ref xo2_), .unset, .unset, .unset, .val (.int (21 : Int32)), .val (.int (0 : Int32)), .unset, .unset] [])) _
    refine XS.lloadN X0.here hx rfl (hb hby dA37_21) rfl ?_
    show Steps p.tables e below (s₁.setTop (mkF m 22 #[.val (.long xj0_), .second, .val (.int (21 : Int32)), .val (.ref xo2_), .unset, .unset, .unset, .val (.int (21 : Int32)), .val (.int (0 : Int32)), .unset, .unset] [(.long xj0_)])) _
    refine XS.lneg X0.here hx rfl (hb hby dA37_22) rfl ?_
    show Steps p.tables e below (s₁.setTop (mkF m 23 #[.val (.long xj0_), .second, .val (.int (21 : Int32)), .val (.ref xo2_), .unset, .unset, .unset, .val (.int (21 : Int32)), .val (.int (0 : Int32)), .unset, .unset] [(.long (-xj0_))])) _
    refine XS.lstoreN X0.here hx rfl (hb hby dA37_23) rfl (l' := #[.val (.long (-xj0_)), .second, .val (.int (21 : Int32)), .val (.ref xo2_), .unset, .unset, .unset, .val (.int (21 : Int32)), .val (.int (0 : Int32)), .unset, .unset]) rfl ?_
    show Steps p.tables e below (s₁.setTop (mkF m 24 #[.val (.long (-xj0_)), .second, .val (.int (21 : Int32)), .val (.ref xo2_), .unset, .unset, .unset, .val (.int (21 : Int32)), .val (.int (0 : Int32)), .unset, .unset] [])) _
    refine XS.lloadN X0.here hx rfl (hb hby dA37_24) rfl ?_
    show Steps p.tables e below (s₁.setTop (mkF m 25 #[.val (.long (-xj0_)), .second, .val (.int (21 : Int32)), .val (.ref xo2_), .unset, .unset, .unset, .val (.int (21 : Int32)), .val (.int (0 : Int32)), .unset, .unset] [(.long (-xj0_))])) _
    refine X0.ldc2Long hx hown (mvT hZ (hw _ (List.mem_of_getElem? (i := 73) rfl))) (g := (mkF m 25 #[.val (.long (-xj0_)), .second, .val (.int (21 : Int32)), .val (.ref xo2_), .unset, .unset, .unset, .val (.int (21 : Int32)), .val (.int (0 : Int32)), .unset, .unset] [(.long (-xj0_))])) rfl (hb hby dA37_25) _ ?_
    show Steps p.tables e below (s₁.setTop (mkF m 28 #[.val (.long (-xj0_)), .second, .val (.int (21 : Int32)), .val (.ref xo2_), .unset, .unset, .unset, .val (.int (21 : Int32)), .val (.int (0 : Int32)), .unset, .unset] [(.long (-2147483648 : Int64)), (.long (-xj0_))])) _
    refine XS.lcmp X0.here hx rfl (hb hby dA37_28) rfl ?_
    show Steps p.tables e below (s₁.setTop (mkF m 29 #[.val (.long (-xj0_)), .second, .val (.int (21 : Int32)), .val (.ref xo2_), .unset, .unset, .unset, .val (.int (21 : Int32)), .val (.int (0 : Int32)), .unset, .unset] [(.int (lcmpW (-xj0_) (-2147483648 : Int64)))])) _
    refine XS.ifYes X0.here hx rfl (pc0 := 29) (pc' := 82) rfl (hb hby dA37_29) rfl ((if0 _ _).trans (tlt ((lw_gt _ _).mpr hp1_)).2.2.1) (by decide) (by decide) ?_
    show Steps p.tables e below (s₁.setTop (mkF m 82 #[.val (.long (-xj0_)), .second, .val (.int (21 : Int32)), .val (.ref xo2_), .unset, .unset, .unset, .val (.int (21 : Int32)), .val (.int (0 : Int32)), .unset, .unset] [])) _
    refine XS.lloadN X0.here hx rfl (hb hby dA37_82) rfl ?_
    show Steps p.tables e below (s₁.setTop (mkF m 83 #[.val (.long (-xj0_)), .second, .val (.int (21 : Int32)), .val (.ref xo2_), .unset, .unset, .unset, .val (.int (21 : Int32)), .val (.int (0 : Int32)), .unset, .unset] [(.long (-xj0_))])) _
    refine XS.l2i X0.here hx rfl (hb hby dA37_83) rfl ?_
    show Steps p.tables e below (s₁.setTop (mkF m 84 #[.val (.long (-xj0_)), .second, .val (.int (21 : Int32)), .val (.ref xo2_), .unset, .unset, .unset, .val (.int (21 : Int32)), .val (.int (0 : Int32)), .unset, .unset] [(.int ((-xj0_).toInt32))])) _
    refine XS.istore X0.here hx rfl (hb hby dA37_84) rfl (l' := #[.val (.long (-xj0_)), .second, .val (.int (21 : Int32)), .val (.ref xo2_), .unset, .unset, .unset, .val (.int (21 : Int32)), .val (.int (0 : Int32)), .unset, .val (.int ((-xj0_).toInt32))]) rfl ?_
    show Steps p.tables e below (s₁.setTop (mkF m 86 #[.val (.long (-xj0_)), .second, .val (.int (21 : Int32)), .val (.ref xo2_), .unset, .unset, .unset, .val (.int (21 : Int32)), .val (.int (0 : Int32)), .unset, .val (.int ((-xj0_).toInt32))] [])) _
    refine XS.iload X0.here hx rfl (hb hby dA37_86) rfl ?_
    show Steps p.tables e below (s₁.setTop (mkF m 88 #[.val (.long (-xj0_)), .second, .val (.int (21 : Int32)), .val (.ref xo2_), .unset, .unset, .unset, .val (.int (21 : Int32)), .val (.int (0 : Int32)), .unset, .val (.int ((-xj0_).toInt32))] [(.int ((-xj0_).toInt32))])) _
    refine XS.bipush X0.here hx rfl (hb hby dA37_88) ?_
    show Steps p.tables e below (s₁.setTop (mkF m 90 #[.val (.long (-xj0_)), .second, .val (.int (21 : Int32)), .val (.ref xo2_), .unset, .unset, .unset, .val (.int (21 : Int32)), .val (.int (0 : Int32)), .unset, .val (.int ((-xj0_).toInt32))] [(.int (-100 : Int32)), (.int ((-xj0_).toInt32))])) _
    refine XS.icmpYes X0.here hx rfl (pc0 := 90) (pc' := 143) rfl (hb hby dA37_90) rfl (tlt hp2_).2.2.1 (by decide) (by decide) ?_
    show Steps p.tables e below (s₁.setTop (mkF m 143 #[.val (.long (-xj0_)), .second, .val (.int (21 : Int32)), .val (.ref xo2_), .unset, .unset, .unset, .val (.int (21 : Int32)), .val (.int (0 : Int32)), .unset, .val (.int ((-xj0_).toInt32))] [])) _
    refine XS.aloadN X0.here hx rfl (hb hby dA37_143) rfl rfl ?_
    show Steps p.tables e below (s₁.setTop (mkF m 144 #[.val (.long (-xj0_)), .second, .val (.int (21 : Int32)), .val (.ref xo2_), .unset, .unset, .unset, .val (.int (21 : Int32)), .val (.int (0 : Int32)), .unset, .val (.int ((-xj0_).toInt32))] [(.ref xo2_)])) _
    refine XS.iinc X0.here hx rfl (hb hby dA37_144) rfl (l' := #[.val (.long (-xj0_)), .second, .val (.int (21 : Int32)), .val (.ref xo2_), .unset, .unset, .unset, .val (.int (20 : Int32)), .val (.int (0 : Int32)), .unset, .val (.int ((-xj0_).toInt32))]) rfl ?_
    show Steps p.tables e below (s₁.setTop (mkF m 147 #[.val (.long (-xj0_)), .second, .val (.int (21 : Int32)), .val (.ref xo2_), .unset, .unset, .unset, .val (.int (20 : Int32)), .val (.int (0 : Int32)), .unset, .val (.int ((-xj0_).toInt32))] [(.ref xo2_)])) _
    refine XS.iload X0.here hx rfl (hb hby dA37_147) rfl ?_
    show Steps p.tables e below (s₁.setTop (mkF m 149 #[.val (.long (-xj0_)), .second, .val (.int (21 : Int32)), .val (.ref xo2_), .unset, .unset, .unset, .val (.int (20 : Int32)), .val (.int (0 : Int32)), .unset, .val (.int ((-xj0_).toInt32))] [(.int (20 : Int32)), (.ref xo2_)])) _
    refine st1 _ ?_
    show Steps p.tables e below (T1.setTop (mkF m 152 #[.val (.long (-xj0_)), .second, .val (.int (21 : Int32)), .val (.ref xo2_), .unset, .unset, .unset, .val (.int (20 : Int32)), .val (.int (0 : Int32)), .unset, .val (.int ((-xj0_).toInt32))] [(.ref uo1_), (.int (20 : Int32)), (.ref xo2_)])) _
    refine XS.iload X1.here hx rfl (hb hby dA37_152) rfl ?_
    show Steps p.tables e below (T1.setTop (mkF m 154 #[.val (.long (-xj0_)), .second, .val (.int (21 : Int32)), .val (.ref xo2_), .unset, .unset, .unset, .val (.int (20 : Int32)), .val (.int (0 : Int32)), .unset, .val (.int ((-xj0_).toInt32))] [(.int ((-xj0_).toInt32)), (.ref uo1_), (.int (20 : Int32)), (.ref xo2_)])) _
    refine XS.ineg X1.here hx rfl (hb hby dA37_154) rfl ?_
    show Steps p.tables e below (T1.setTop (mkF m 155 #[.val (.long (-xj0_)), .second, .val (.int (21 : Int32)), .val (.ref xo2_), .unset, .unset, .unset, .val (.int (20 : Int32)), .val (.int (0 : Int32)), .unset, .val (.int ((-xj0_).toInt32))] [(.int (-((-xj0_).toInt32))), (.ref uo1_), (.int (20 : Int32)), (.ref xo2_)])) _
    refine X1.baloadBytes hx (j := (-((-xj0_).toInt32))) (v := (.int (own_get own_ones (-((-xj0_).toInt32))))) (by rw [e1]; exact Ar2.1) (State.isArrayOf_alike hZ.alike Ar2.2.1) Ar2.2.2 hin2 hat2 (g := (mkF m 155 #[.val (.long (-xj0_)), .second, .val (.int (21 : Int32)), .val (.ref xo2_), .unset, .unset, .unset, .val (.int (20 : Int32)), .val (.int (0 : Int32)), .unset, .val (.int ((-xj0_).toInt32))] [(.int (-((-xj0_).toInt32))), (.ref uo1_), (.int (20 : Int32)), (.ref xo2_)])) rfl rfl (hb hby dA37_155) _ ?_
    show Steps p.tables e below (T1.setTop (mkF m 156 #[.val (.long (-xj0_)), .second, .val (.int (21 : Int32)), .val (.ref xo2_), .unset, .unset, .unset, .val (.int (20 : Int32)), .val (.int (0 : Int32)), .unset, .val (.int ((-xj0_).toInt32))] [(.int (own_get own_ones (-((-xj0_).toInt32)))), (.int (20 : Int32)), (.ref xo2_)])) _
    refine st4 _ ?_
    show Steps p.tables e below (T4.setTop (mkF m 157 #[.val (.long (-xj0_)), .second, .val (.int (21 : Int32)), .val (.ref xo2_), .unset, .unset, .unset, .val (.int (20 : Int32)), .val (.int (0 : Int32)), .unset, .val (.int ((-xj0_).toInt32))] [])) _
    refine XS.iload X4.here hx rfl (hb hby dA37_157) rfl ?_
    show Steps p.tables e below (T4.setTop (mkF m 159 #[.val (.long (-xj0_)), .second, .val (.int (21 : Int32)), .val (.ref xo2_), .unset, .unset, .unset, .val (.int (20 : Int32)), .val (.int (0 : Int32)), .unset, .val (.int ((-xj0_).toInt32))] [(.int ((-xj0_).toInt32))])) _
    refine XS.bipush X4.here hx rfl (hb hby dA37_159) ?_
    show Steps p.tables e below (T4.setTop (mkF m 161 #[.val (.long (-xj0_)), .second, .val (.int (21 : Int32)), .val (.ref xo2_), .unset, .unset, .unset, .val (.int (20 : Int32)), .val (.int (0 : Int32)), .unset, .val (.int ((-xj0_).toInt32))] [(.int (-9 : Int32)), (.int ((-xj0_).toInt32))])) _
    refine XS.icmpYes X4.here hx rfl (pc0 := 161) (pc' := 178) rfl (hb hby dA37_161) rfl (flt hp4_).2.1 (by decide) (by decide) ?_
    show Steps p.tables e below (T4.setTop (mkF m 178 #[.val (.long (-xj0_)), .second, .val (.int (21 : Int32)), .val (.ref xo2_), .unset, .unset, .unset, .val (.int (20 : Int32)), .val (.int (0 : Int32)), .unset, .val (.int ((-xj0_).toInt32))] [])) _
    refine XS.iload X4.here hx rfl (hb hby dA37_178) rfl ?_
    show Steps p.tables e below (T4.setTop (mkF m 180 #[.val (.long (-xj0_)), .second, .val (.int (21 : Int32)), .val (.ref xo2_), .unset, .unset, .unset, .val (.int (20 : Int32)), .val (.int (0 : Int32)), .unset, .val (.int ((-xj0_).toInt32))] [(.int (0 : Int32))])) _
    refine XS.ifYes X4.here hx rfl (pc0 := 180) (pc' := 192) rfl (hb hby dA37_180) rfl ((if0 _ _).trans (teq (by decide : (0 : Int32) = (0 : Int32))).1) (by decide) (by decide) ?_
    show Steps p.tables e below (T4.setTop (mkF m 192 #[.val (.long (-xj0_)), .second, .val (.int (21 : Int32)), .val (.ref xo2_), .unset, .unset, .unset, .val (.int (20 : Int32)), .val (.int (0 : Int32)), .unset, .val (.int ((-xj0_).toInt32))] [])) _
    refine XS.iload X4.here hx rfl (hb hby dA37_192) rfl ?_
    show Steps p.tables e below (T4.setTop (mkF m 194 #[.val (.long (-xj0_)), .second, .val (.int (21 : Int32)), .val (.ref xo2_), .unset, .unset, .unset, .val (.int (20 : Int32)), .val (.int (0 : Int32)), .unset, .val (.int ((-xj0_).toInt32))] [(.int (20 : Int32))])) _
    exact retI X4 hx Bd.returns (hb hby dA37_194) hr
  · show QA37 Z xj0_ xo2_ uo1_ k_uo1_ ui2_ ui3_ k_xo2_ h0 n0 _ T4.heap _
    rw [e4]
    exact ⟨rfl, N4, K4, V4⟩
theorem dA34_0 : decode jdk_68_method_33_code 0 = .ok (.aload_n 0, 1) := by decide +kernel
theorem dA34_1 : decode jdk_68_method_33_code 1 = .ok (.getfield 79, 3) := by decide +kernel
theorem dA34_4 : decode jdk_68_method_33_code 4 = .ok (.istore_n 3, 1) := by decide +kernel
theorem dA34_5 : decode jdk_68_method_33_code 5 = .ok (.iload_n 3, 1) := by decide +kernel
theorem dA34_6 : decode jdk_68_method_33_code 6 = .ok (.lload_n 1, 1) := by decide +kernel
theorem dA34_7 : decode jdk_68_method_33_code 7 = .ok (.invokestatic 254, 3) := by decide +kernel
theorem dA34_10 : decode jdk_68_method_33_code 10 = .ok (.iadd, 1) := by decide +kernel
theorem dA34_11 : decode jdk_68_method_33_code 11 = .ok (.istore 4, 2) := by decide +kernel
theorem dA34_13 : decode jdk_68_method_33_code 13 = .ok (.aload_n 0, 1) := by decide +kernel
theorem dA34_14 : decode jdk_68_method_33_code 14 = .ok (.iload 4, 2) := by decide +kernel
theorem dA34_16 : decode jdk_68_method_33_code 16 = .ok (.invokevirtual 100, 3) := by decide +kernel
theorem dA34_19 : decode jdk_68_method_33_code 19 = .ok (.aload_n 0, 1) := by decide +kernel
theorem dA34_20 : decode jdk_68_method_33_code 20 = .ok (.invokevirtual 83, 3) := by decide +kernel
theorem dA34_23 : decode jdk_68_method_33_code 23 = .ok (.ifCond .eq 17, 3) := by decide +kernel
theorem dA34_26 : decode jdk_68_method_33_code 26 = .ok (.lload_n 1, 1) := by decide +kernel
theorem dA34_27 : decode jdk_68_method_33_code 27 = .ok (.iload 4, 2) := by decide +kernel
theorem dA34_29 : decode jdk_68_method_33_code 29 = .ok (.aload_n 0, 1) := by decide +kernel
theorem dA34_30 : decode jdk_68_method_33_code 30 = .ok (.getfield 15, 3) := by decide +kernel
theorem dA34_33 : decode jdk_68_method_33_code 33 = .ok (.invokestatic 259, 3) := by decide +kernel
theorem dA34_36 : decode jdk_68_method_33_code 36 = .ok (.pop, 1) := by decide +kernel
theorem dA34_37 : decode jdk_68_method_33_code 37 = .ok (.goto 15, 3) := by decide +kernel
theorem dA34_52 : decode jdk_68_method_33_code 52 = .ok (.aload_n 0, 1) := by decide +kernel
theorem dA34_53 : decode jdk_68_method_33_code 53 = .ok (.iload 4, 2) := by decide +kernel
theorem dA34_55 : decode jdk_68_method_33_code 55 = .ok (.putfield 79, 3) := by decide +kernel
theorem dA34_58 : decode jdk_68_method_33_code 58 = .ok (.aload_n 0, 1) := by decide +kernel
theorem dA34_59 : decode jdk_68_method_33_code 59 = .ok (.areturn, 1) := by decide +kernel
theorem efA34 (m : MethodId) (xo0_ : Addr) (xj1_ : Int64) : entryFrame m #[(.ref xo0_), (.long xj1_)] 5 = mkF m 0 #[.val (.ref xo0_), .val (.long xj1_), .second, .unset, .unset] [] := by first | (simp [entryFrame, mkF, argsToLocals, Value.category]; done) | rfl
def QA34 (Z : State) (xo0_ : Addr) (xj1_ : Int64) (uo1_ : Addr) (ui2_ : Int32) (ui3_ : Int32) (k_uo1_ : ClassId) (ui4_ : Int32) (uo5_ : Addr) (k_uo5_ : ClassId) (h0 : Heap) (n0 : Nat) (v : Option Value) (h : Heap) (L : List Loc) : Prop := v = some (.ref xo0_) ∧ Fr n0 L ∧ Keep h0 h [uo1_, xo0_] ∧ Arv Z h uo1_ k_uo1_ .byte (34 : Int32) [(.int ui2_), (.int (32 : Int32)), (.int (102 : Int32)), (.int (105 : Int32)), (.int (108 : Int32)), (.int (101 : Int32)), (.int (115 : Int32)), (.int (44 : Int32)), (.int (32 : Int32)), (.int ui3_), (.int (32 : Int32)), (.int (102 : Int32)), (.int (111 : Int32)), (.int (108 : Int32)), (.int (100 : Int32)), (.int (101 : Int32)), (.int (114 : Int32)), (.int (115 : Int32)), (.int (44 : Int32)), (.int (32 : Int32)), (.int ((own_get own_ones (-((-xj1_).toInt32)))).toInt8.toInt32), (.int (0 : Int32)), (.int (0 : Int32)), (.int (0 : Int32)), (.int (0 : Int32)), (.int (0 : Int32)), (.int (0 : Int32)), (.int (0 : Int32)), (.int (0 : Int32)), (.int (0 : Int32)), (.int (0 : Int32)), (.int (0 : Int32)), (.int (0 : Int32)), (.int (0 : Int32))] (.int (0 : Int32)) ∧ Exa Z h xo0_ "java/lang/StringBuilder" ∧ Fld Z h xo0_ "java/lang/AbstractStringBuilder" "value" "[B" (.ref uo1_) ∧ Fld Z h xo0_ "java/lang/AbstractStringBuilder" "coder" "B" (.int (0 : Int32)) ∧ Fld Z h xo0_ "java/lang/AbstractStringBuilder" "count" "I" (.int (21 : Int32))
set_option maxRecDepth 65536 in
set_option maxHeartbeats 40000000 in
theorem rmA34 (l : Launch) (Z : State) (a0 : Array Value) (hw : ∀ d ∈ tables_1, d.before a0 Z = true) (ws : List Jvm.Cond) (xo0_ : Addr) (xj1_ : Int64) (uo1_ : Addr) (ui2_ : Int32) (ui3_ : Int32) (k_uo1_ : ClassId) (ui4_ : Int32) (uo5_ : Addr) (k_uo5_ : ClassId) (h0 : Heap) (n0 : Nat) (Z0 : n0 ≤ h0.size) (E_xo0_ : Exa Z h0 xo0_ "java/lang/StringBuilder") (F_value_xo0_ : Fld Z h0 xo0_ "java/lang/AbstractStringBuilder" "value" "[B" (.ref uo1_)) (F_coder_xo0_ : Fld Z h0 xo0_ "java/lang/AbstractStringBuilder" "coder" "B" (.int (0 : Int32))) (F_count_xo0_ : Fld Z h0 xo0_ "java/lang/AbstractStringBuilder" "count" "I" (.int (20 : Int32))) (hp0_ : ¬ (xj1_ < (0 : Int64))) (hp1_ : (-10 : Int64) < (-xj1_)) (V_uo1_ : Arv Z h0 uo1_ k_uo1_ .byte (34 : Int32) [(.int ui2_), (.int (32 : Int32)), (.int (102 : Int32)), (.int (105 : Int32)), (.int (108 : Int32)), (.int (101 : Int32)), (.int (115 : Int32)), (.int (44 : Int32)), (.int (32 : Int32)), (.int ui3_), (.int (32 : Int32)), (.int (102 : Int32)), (.int (111 : Int32)), (.int (108 : Int32)), (.int (100 : Int32)), (.int (101 : Int32)), (.int (114 : Int32)), (.int (115 : Int32)), (.int (44 : Int32)), (.int (32 : Int32)), (.int (0 : Int32)), (.int (0 : Int32)), (.int (0 : Int32)), (.int (0 : Int32)), (.int (0 : Int32)), (.int (0 : Int32)), (.int (0 : Int32)), (.int (0 : Int32)), (.int (0 : Int32)), (.int (0 : Int32)), (.int (0 : Int32)), (.int (0 : Int32)), (.int (0 : Int32)), (.int (0 : Int32))] (.int (0 : Int32))) (X00 : Old Z n0 h0) (S_COMPACT_STRINGS : Sta Z Z.heap "java/lang/String" "COMPACT_STRINGS" "Z" (.int ui4_)) (hp2_ : ¬ (ui4_ = (0 : Int32))) (hp3_ : (-2147483648 : Int64) < (-xj1_)) (hp4_ : (-100 : Int32) < ((-xj1_).toInt32)) (S_DigitOnes : Sta Z Z.heap "java/lang/Integer" "DigitOnes" "[B" (.ref uo5_)) (V_uo5_ : Arv Z Z.heap uo5_ k_uo5_ .byte (100 : Int32) (own_ones.map Value.int) (.int (0 : Int32))) (hp5_ : own_inb xj1_) (hp6_ : ¬ (((-xj1_).toInt32) < (-9 : Int32))) (g_uo1_ : n0 ≤ uo1_) (g_xo0_ : n0 ≤ xo0_) :
    MetFree l (⟨"java/lang/AbstractStringBuilder", "append", "(J)Ljava/lang/AbstractStringBuilder;"⟩ : MethodName) (head1 (Jvm.Cond.code (⟨"java/lang/AbstractStringBuilder", "append", "(J)Ljava/lang/AbstractStringBuilder;"⟩ : MethodName) jdk_68_method_33_code 5 (some (.object "java/lang/AbstractStringBuilder")) :: ws) ({ frames := 1, cells := 0, slots := 0, locals := 22 } : Room)) (fun av_ U => av_ = #[(.ref xo0_), (.long xj1_)] ∧ Z.Warmed39 U.vm ∧ U.heap = h0) (fun _ _ _ _ _ => True) (fun _ U o U' => ∃ v L, o = .returned v ∧ QA34 Z xo0_ xj1_ uo1_ ui2_ ui3_ k_uo1_ ui4_ uo5_ k_uo5_ h0 n0 v U'.heap L ∧ FrameEnd U o U' L ({ frames := 1, cells := 0, slots := 0, locals := 22 } : Room).cells ({ frames := 1, cells := 0, slots := 0, locals := 22 } : Room).slots) := by
  refine MetFree.of_bodySF (plainFor_of_name own_pn1) hisR ?_
  intro p e s m args below meth c s₁ Bd hml0 hP hK
  obtain ⟨rfl, hZ, hh⟩ := hP
  have hx := Bd.exec
  have hby := Bd.bytes
  have hml : c.maxLocals = 5 := hml0
  have hown : s.vm.findClass "java/lang/AbstractStringBuilder" = some m.cls := findClass_of_methodNamed Bd.named
  have hnm := (name_of_methodNamed Bd.named Bd.method).1
  have X0 : Stand p l e ({ frames := 1, cells := 0, slots := 0, locals := 22 } : Room) s m #[(.ref xo0_), (.long xj1_)] below meth c s₁ [] 0 0 := Stand.of_body Bd
  have e0 : s₁.heap = h0 := by rw [← hh, Bd.state]; rfl
  have N0 := Fr.nil n0
  have pre0 : ∀ t, Steps p.tables e below (s₁.setTop (mkF m 0 #[.val (.ref xo0_), .val (.long xj1_), .second, .unset, .unset] [])) t → Steps p.tables e below (s₁.setTop (entryFrame m #[(.ref xo0_), (.long xj1_)] 5)) t := fun t k => castTop (efA34 m xo0_ xj1_) k
  obtain ⟨T1, X1, e1, st1⟩ := getF X0 hx hZ hown (host := "") (Or.inl (hw _ (List.mem_of_getElem? (i := 53) rfl))) Via.refl e0 F_count_xo0_ (g := (mkF m 1 #[.val (.ref xo0_), .val (.long xj1_), .second, .unset, .unset] [(.ref xo0_)])) rfl rfl (hb hby dA34_1)
  obtain ⟨_, _, ⟨T2, L2, k2, n2⟩, -, X2, ⟨Lc2, hQ2, l2, y2, z2⟩, st2⟩ := Jvm.LawKit.callS X1 hx (y := (⟨"java/lang/Long", "stringSize", "(J)I"⟩ : MethodName)) hown (mvT hZ (hw _ (List.mem_of_getElem? (i := 55) rfl))) (mvT hZ (hw _ (List.mem_of_getElem? (i := 56) rfl))) (mvT hZ (hw _ (List.mem_of_getElem? (i := 57) rfl))) (mvT hZ (hw _ (List.mem_of_getElem? (i := 58) rfl))) (by decide) (backOf (W := 1) (rmA4 l Z a0 hw [] xj1_ h0 n0 Z0 hp0_ hp1_) hZ (hw _ (List.mem_of_getElem? (i := 58) rfl)) (hw _ (List.mem_of_getElem? (i := 57) rfl)) (by decide) (by decide)) (g := (mkF m 7 #[.val (.ref xo0_), .val (.long xj1_), .second, .val (.int (20 : Int32)), .unset] [(.long xj1_), (.int (20 : Int32))])) rfl (by rw [hml]; rfl) (argsL := [(.long xj1_)]) (rest := [(.int (20 : Int32))]) (lenOf own_pd2 rfl) rfl (by show 2 * 0 + _ ≤ _; exact Nat.le_of_eq rfl) (hb hby dA34_7) (fun _ _ => ⟨rfl, e1, (by decide : 0 + 0 ≤ _), (by decide : 0 + 0 ≤ _)⟩)
  dsimp only [Pt.U, Pt.locs, Pt.cells, Pt.slots] at X2 l2 y2 z2 st2 hQ2
  subst l2 y2 z2
  obtain ⟨rfl, Nq2, e2⟩ := hQ2
  have N2 := Fr.app N0 Nq2
  obtain ⟨cq3, qa3, qb3⟩ := E_xo0_.cell
  obtain ⟨_, _, ⟨T3, L3, k3, n3⟩, -, X3, ⟨Lc3, hQ3, l3, y3, z3⟩, st3⟩ := X2.privateBack hx (y := (⟨"java/lang/AbstractStringBuilder", "ensureCapacityInternal", "(I)V"⟩ : MethodName)) hown (mvT hZ (hw _ (List.mem_of_getElem? (i := 60) rfl))) (mvT hZ (hw _ (List.mem_of_getElem? (i := 61) rfl))) (selfSel hZ (hw _ (List.mem_of_getElem? (i := 63) rfl)) (hw _ (List.mem_of_getElem? (i := 61) rfl)) (hw _ (List.mem_of_getElem? (i := 62) rfl)) (by decide)) (Cond.privateMethod_at (mvP hZ (hw _ (List.mem_of_getElem? (i := 62) rfl)) (args := #[]))) (mvT hZ (hw _ (List.mem_of_getElem? (i := 64) rfl))) (by decide) (backOf (W := 0) (rmA35 l Z a0 hw [] xo0_ uo1_ ui2_ ui3_ k_uo1_ h0 n0 Z0 E_xo0_ F_value_xo0_ F_coder_xo0_ F_count_xo0_ V_uo1_) hZ (hw _ (List.mem_of_getElem? (i := 64) rfl)) (hw _ (List.mem_of_getElem? (i := 33) rfl)) (by decide) (by decide)) (g := (mkF m 16 #[.val (.ref xo0_), .val (.long xj1_), .second, .val (.int (20 : Int32)), .val (.int (21 : Int32))] [(.int (21 : Int32)), (.ref xo0_)])) rfl (by rw [hml]; rfl) (Steps.refl _) (a := xo0_) (by rw [e2]; exact qa3) qb3 (argsL := [(.int (21 : Int32))]) (rest := []) (lenOf own_pd0 rfl) rfl (by show 2 * 0 + _ ≤ _; exact Nat.le_of_eq rfl) (hb hby dA34_16) (fun _ _ => ⟨rfl, e2, (by decide : 0 + 0 ≤ _), (by decide : 0 + 0 ≤ _)⟩)
  dsimp only [Pt.U, Pt.locs, Pt.cells, Pt.slots] at X3 l3 y3 z3 st3 hQ3
  subst l3 y3 z3
  obtain ⟨rfl, Nq3, e3⟩ := hQ3
  have N3 := Fr.app N2 Nq3
  obtain ⟨cq4, kq4, q4a, q4b, q4c⟩ := isOf hZ e3 E_xo0_
  obtain ⟨_, _, ⟨T4, L4, k4, n4⟩, -, X4, ⟨Lc4, hQ4, l4, y4, z4⟩, st4⟩ := X3.virtualBack hx (y := (⟨"java/lang/AbstractStringBuilder", "isLatin1", "()Z"⟩ : MethodName)) (z := (⟨"java/lang/AbstractStringBuilder", "isLatin1", "()Z"⟩ : MethodName)) hown (mvT hZ (hw _ (List.mem_of_getElem? (i := 65) rfl))) (mvT hZ (hw _ (List.mem_of_getElem? (i := 66) rfl))) (notFace_of_selects (args := #[]) (mvT hZ (hw _ (List.mem_of_getElem? (i := 68) rfl)))) (mvT hZ (hw _ (List.mem_of_getElem? (i := 68) rfl))) (mvT hZ (hw _ (List.mem_of_getElem? (i := 67) rfl))) (by decide) (backOf (W := 0) (rmA36 l Z a0 hw [] xo0_ uo1_ ui4_ h0 n0 Z0 E_xo0_ F_value_xo0_ F_coder_xo0_ F_count_xo0_ X00 S_COMPACT_STRINGS hp2_) hZ (hw _ (List.mem_of_getElem? (i := 69) rfl)) (hw _ (List.mem_of_getElem? (i := 33) rfl)) (by decide) (by decide)) q4a q4c (g := (mkF m 20 #[.val (.ref xo0_), .val (.long xj1_), .second, .val (.int (20 : Int32)), .val (.int (21 : Int32))] [(.ref xo0_)])) rfl (by rw [hml]; rfl) (Steps.refl _) (argsL := []) (rest := []) (lenOf own_pd3 rfl) rfl (by show 2 * 0 + _ ≤ _; exact Nat.le_of_eq rfl) (hb hby dA34_20) (fun _ _ => ⟨rfl, e3, (by decide : 0 + 0 ≤ _), (by decide : 0 + 0 ≤ _)⟩)
  dsimp only [Pt.U, Pt.locs, Pt.cells, Pt.slots] at X4 l4 y4 z4 st4 hQ4
  subst l4 y4 z4
  obtain ⟨rfl, Nq4, e4⟩ := hQ4
  have N4 := Fr.app N3 Nq4
  obtain ⟨T5, X5, e5, st5⟩ := getF X4 hx hZ hown (host := "") (Or.inl (hw _ (List.mem_of_getElem? (i := 39) rfl))) Via.refl e4 F_value_xo0_ (g := (mkF m 30 #[.val (.ref xo0_), .val (.long xj1_), .second, .val (.int (20 : Int32)), .val (.int (21 : Int32))] [(.ref xo0_), (.int (21 : Int32)), (.long xj1_)])) rfl rfl (hb hby dA34_30)
  obtain ⟨_, _, ⟨T6, L6, k6, n6⟩, -, X6, ⟨Lc6, hQ6, l6, y6, z6⟩, st6⟩ := Jvm.LawKit.callS X5 hx (y := (⟨"java/lang/Long", "getChars", "(JI[B)I"⟩ : MethodName)) hown (mvT hZ (hw _ (List.mem_of_getElem? (i := 70) rfl))) (mvT hZ (hw _ (List.mem_of_getElem? (i := 71) rfl))) (mvT hZ (hw _ (List.mem_of_getElem? (i := 57) rfl))) (mvT hZ (hw _ (List.mem_of_getElem? (i := 72) rfl))) (by decide) (backOf (W := 0) (rmA37 l Z a0 hw [] xj1_ uo1_ uo5_ k_uo5_ ui2_ ui3_ k_uo1_ h0 n0 Z0 hp0_ hp3_ hp4_ X00 S_DigitOnes V_uo5_ hp5_ V_uo1_ g_uo1_ hp6_) hZ (hw _ (List.mem_of_getElem? (i := 72) rfl)) (hw _ (List.mem_of_getElem? (i := 57) rfl)) (by decide) (by decide)) (g := (mkF m 33 #[.val (.ref xo0_), .val (.long xj1_), .second, .val (.int (20 : Int32)), .val (.int (21 : Int32))] [(.ref uo1_), (.int (21 : Int32)), (.long xj1_)])) rfl (by rw [hml]; rfl) (argsL := [(.long xj1_), (.int (21 : Int32)), (.ref uo1_)]) (rest := []) (lenOf own_pd4 rfl) rfl (by show 2 * 0 + _ ≤ _; exact Nat.le_of_eq rfl) (hb hby dA34_33) (fun _ _ => ⟨rfl, e5, (by decide : 0 + 0 ≤ _), (by decide : 0 + 0 ≤ _)⟩)
  dsimp only [Pt.U, Pt.locs, Pt.cells, Pt.slots] at X6 l6 y6 z6 st6 hQ6
  subst l6 y6 z6
  obtain ⟨rfl, Nq6, Kc6, q6_0⟩ := hQ6
  have K6 : Keep h0 T6.heap [uo1_, xo0_] := Keep.trans (Keep.refl h0 [uo1_, xo0_]) Kc6 (allS (Or.inl (List.mem_of_getElem? (i := 0) rfl)) all0)
  have Zs6 : n0 ≤ T6.heap.size := Nat.le_trans Z0 Kc6.1
  have N6 := Fr.app N4 Nq6
  have no7 : xo0_ ≠ uo1_ := Exa.neArv (E_xo0_.keep Kc6) q6_0 (hw _ (List.mem_of_getElem? (i := 24) rfl))
  obtain ⟨T8, h8, X8, e8, W8, st8⟩ := putF X6 hx hZ hown (host := "") (Or.inl (hw _ (List.mem_of_getElem? (i := 53) rfl))) Via.refl rfl (F_count_xo0_.keep Kc6 (ninS no7 nin0)) (E_xo0_.keep Kc6) (Or.inl (hw _ (List.mem_of_getElem? (i := 54) rfl))) (hw _ (List.mem_of_getElem? (i := 24) rfl)) (ty := .int) (by decide) rfl rfl (g := (mkF m 55 #[.val (.ref xo0_), .val (.long xj1_), .second, .val (.int (20 : Int32)), .val (.int (21 : Int32))] [(.int (21 : Int32)), (.ref xo0_)])) rfl rfl (hb hby dA34_55)
  have F8 : Fld Z h8 xo0_ "java/lang/AbstractStringBuilder" "count" "I" (.int (21 : Int32)) := Fld.same W8 (F_count_xo0_.keep Kc6 (ninS no7 nin0))
  have K8 : Keep h0 h8 [uo1_, xo0_] := K6.wr W8 (Or.inl (List.mem_of_getElem? (i := 1) rfl))
  have Zs8 : n0 ≤ h8.size := Nat.le_trans Zs6 (Keep.of_wr W8).1
  have N8 := Fr.snoc X8 N6 g_xo0_
  obtain ⟨fs, hr, hrun, hended, hW, hsame⟩ := X8.leave (v := some (.ref xo0_)) (fun h => by rw [Bd.returns] at h; cases h)
  refine ⟨_, _, (pre0 _ ?_), hrun, hended, _, _, rfl, ?_, ⟨_, rfl⟩, hW, hsame.mono (by decide) (by decide)⟩
  · show Steps p.tables e below (s₁.setTop (mkF m 0 #[.val (.ref xo0_), .val (.long xj1_), .second, .unset, .unset] [])) _
    refine XS.aloadN X0.here hx rfl (hb hby dA34_0) rfl rfl ?_
    show Steps p.tables e below (s₁.setTop (mkF m 1 #[.val (.ref xo0_), .val (.long xj1_), .second, .unset, .unset] [(.ref xo0_)])) _
    refine st1 _ ?_
    show Steps p.tables e below (T1.setTop (mkF m 4 #[.val (.ref xo0_), .val (.long xj1_), .second, .unset, .unset] [(.int (20 : Int32))])) _
    refine XS.istoreN X1.here hx rfl (hb hby dA34_4) rfl (l' := #[.val (.ref xo0_), .val (.long xj1_), .second, .val (.int (20 : Int32)), .unset]) rfl ?_
    show Steps p.tables e below (T1.setTop (mkF m 5 #[.val (.ref xo0_), .val (.long xj1_), .second, .val (.int (20 : Int32)), .unset] [])) _
    refine XS.iloadN X1.here hx rfl (hb hby dA34_5) rfl ?_
    show Steps p.tables e below (T1.setTop (mkF m 6 #[.val (.ref xo0_), .val (.long xj1_), .second, .val (.int (20 : Int32)), .unset] [(.int (20 : Int32))])) _
    refine XS.lloadN X1.here hx rfl (hb hby dA34_6) rfl ?_
    show Steps p.tables e below (T1.setTop (mkF m 7 #[.val (.ref xo0_), .val (.long xj1_), .second, .val (.int (20 : Int32)), .unset] [(.long xj1_), (.int (20 : Int32))])) _
    refine st2 _ ?_
    show Steps p.tables e below (T2.setTop (mkF m 10 #[.val (.ref xo0_), .val (.long xj1_), .second, .val (.int (20 : Int32)), .unset] [(.int (1 : Int32)), (.int (20 : Int32))])) _
    refine XS.iadd X2.here hx rfl (hb hby dA34_10) rfl ?_
    show Steps p.tables e below (T2.setTop (mkF m 11 #[.val (.ref xo0_), .val (.long xj1_), .second, .val (.int (20 : Int32)), .unset] [(.int (21 : Int32))])) _
    refine XS.istore X2.here hx rfl (hb hby dA34_11) rfl (l' := #[.val (.ref xo0_), .val (.long xj1_), .second, .val (.int (20 : Int32)), .val (.int (21 : Int32))]) rfl ?_
    show Steps p.tables e below (T2.setTop (mkF m 13 #[.val (.ref xo0_), .val (.long xj1_), .second, .val (.int (20 : Int32)), .val (.int (21 : Int32))] [])) _
    refine XS.aloadN X2.here hx rfl (hb hby dA34_13) rfl rfl ?_
    show Steps p.tables e below (T2.setTop (mkF m 14 #[.val (.ref xo0_), .val (.long xj1_), .second, .val (.int (20 : Int32)), .val (.int (21 : Int32))] [(.ref xo0_)])) _
    refine XS.iload X2.here hx rfl (hb hby dA34_14) rfl ?_
    show Steps p.tables e below (T2.setTop (mkF m 16 #[.val (.ref xo0_), .val (.long xj1_), .second, .val (.int (20 : Int32)), .val (.int (21 : Int32))] [(.int (21 : Int32)), (.ref xo0_)])) _
    refine st3.trans ?_
    show Steps p.tables e below (T3.setTop (mkF m 19 #[.val (.ref xo0_), .val (.long xj1_), .second, .val (.int (20 : Int32)), .val (.int (21 : Int32))] [])) _
    refine XS.aloadN X3.here hx rfl (hb hby dA34_19) rfl rfl ?_
    show Steps p.tables e below (T3.setTop (mkF m 20 #[.val (.ref xo0_), .val (.long xj1_), .second, .val (.int (20 : Int32)), .val (.int (21 : Int32))] [(.ref xo0_)])) _
    refine st4.trans ?_
    show Steps p.tables e below (T4.setTop (mkF m 23 #[.val (.ref xo0_), .val (.long xj1_), .second, .val (.int (20 : Int32)), .val (.int (21 : Int32))] [(.int (1 : Int32))])) _
    refine XS.ifNo X4.here hx rfl (hb hby dA34_23) rfl ((if0 _ _).trans (feq (by decide : ¬ ((1 : Int32) = (0 : Int32)))).1) ?_
    show Steps p.tables e below (T4.setTop (mkF m 26 #[.val (.ref xo0_), .val (.long xj1_), .second, .val (.int (20 : Int32)), .val (.int (21 : Int32))] [])) _
    refine XS.lloadN X4.here hx rfl (hb hby dA34_26) rfl ?_
    show Steps p.tables e below (T4.setTop (mkF m 27 #[.val (.ref xo0_), .val (.long xj1_), .second, .val (.int (20 : Int32)), .val (.int (21 : Int32))] [(.long xj1_)])) _
    refine XS.iload X4.here hx rfl (hb hby dA34_27) rfl ?_
    show Steps p.tables e below (T4.setTop (mkF m 29 #[.val (.ref xo0_), .val (.long xj1_), .second, .val (.int (20 : Int32)), .val (.int (21 : Int32))] [(.int (21 : Int32)), (.long xj1_)])) _
    refine XS.aloadN X4.here hx rfl (hb hby dA34_29) rfl rfl ?_
    show Steps p.tables e below (T4.setTop (mkF m 30 #[.val (.ref xo0_), .val (.long xj1_), .second, .val (.int (20 : Int32)), .val (.int (21 : Int32))] [(.ref xo0_), (.int (21 : Int32)), (.long xj1_)])) _
    refine st5 _ ?_
    show Steps p.tables e below (T5.setTop (mkF m 33 #[.val (.ref xo0_), .val (.long xj1_), .second, .val (.int (20 : Int32)), .val (.int (21 : Int32))] [(.ref uo1_), (.int (21 : Int32)), (.long xj1_)])) _
    refine st6 _ ?_
    show Steps p.tables e below (T6.setTop (mkF m 36 #[.val (.ref xo0_), .val (.long xj1_), .second, .val (.int (20 : Int32)), .val (.int (21 : Int32))] [(.int (20 : Int32))])) _
    refine XS.pop X6.here hx rfl (hb hby dA34_36) rfl rfl ?_
    show Steps p.tables e below (T6.setTop (mkF m 37 #[.val (.ref xo0_), .val (.long xj1_), .second, .val (.int (20 : Int32)), .val (.int (21 : Int32))] [])) _
    refine XS.goto X6.here hx rfl (pc0 := 37) (pc' := 52) rfl (hb hby dA34_37) (by decide) (by decide) ?_
    show Steps p.tables e below (T6.setTop (mkF m 52 #[.val (.ref xo0_), .val (.long xj1_), .second, .val (.int (20 : Int32)), .val (.int (21 : Int32))] [])) _
    refine XS.aloadN X6.here hx rfl (hb hby dA34_52) rfl rfl ?_
    show Steps p.tables e below (T6.setTop (mkF m 53 #[.val (.ref xo0_), .val (.long xj1_), .second, .val (.int (20 : Int32)), .val (.int (21 : Int32))] [(.ref xo0_)])) _
    refine XS.iload X6.here hx rfl (hb hby dA34_53) rfl ?_
    show Steps p.tables e below (T6.setTop (mkF m 55 #[.val (.ref xo0_), .val (.long xj1_), .second, .val (.int (20 : Int32)), .val (.int (21 : Int32))] [(.int (21 : Int32)), (.ref xo0_)])) _
    refine st8 _ ?_
    show Steps p.tables e below (T8.setTop (mkF m 58 #[.val (.ref xo0_), .val (.long xj1_), .second, .val (.int (20 : Int32)), .val (.int (21 : Int32))] [])) _
    refine XS.aloadN X8.here hx rfl (hb hby dA34_58) rfl rfl ?_
    show Steps p.tables e below (T8.setTop (mkF m 59 #[.val (.ref xo0_), .val (.long xj1_), .second, .val (.int (20 : Int32)), .val (.int (21 : Int32))] [(.ref xo0_)])) _
    jvm_step X8.here [X8.here.top, hx, (hb hby dA34_59), X8.method', Bd.returns, Value.isRef, FieldType.isReference]
    first | (intro acts; rw [hr _ acts rfl rfl rfl]) | rw [hr _ _ rfl rfl rfl]
    exact Steps.refl _
  · show QA34 Z xo0_ xj1_ uo1_ ui2_ ui3_ k_uo1_ ui4_ uo5_ k_uo5_ h0 n0 _ T8.heap _
    rw [e8]
    exact ⟨rfl, N8, K8, (q6_0.other W8 (Ne.symm no7)), ((E_xo0_.keep Kc6).wr W8), (Fld.other W8 (F_value_xo0_.keep Kc6 (ninS no7 nin0)) (Or.inr (slot_ne (Or.inl (hw _ (List.mem_of_getElem? (i := 40) rfl))) (Or.inl (hw _ (List.mem_of_getElem? (i := 54) rfl))) (by decide) (t := (.array .byte)) (t' := .int) (by decide) (by decide)))), (Fld.other W8 (F_coder_xo0_.keep Kc6 (ninS no7 nin0)) (Or.inr (slot_ne (Or.inl (hw _ (List.mem_of_getElem? (i := 42) rfl))) (Or.inl (hw _ (List.mem_of_getElem? (i := 54) rfl))) (by decide) (t := .byte) (t' := .int) (by decide) (by decide)))), F8⟩
theorem dA33_0 : decode jdk_67_method_16_code 0 = .ok (.aload_n 0, 1) := by decide +kernel
theorem dA33_1 : decode jdk_67_method_16_code 1 = .ok (.lload_n 1, 1) := by decide +kernel
theorem dA33_2 : decode jdk_67_method_16_code 2 = .ok (.invokespecial 56, 3) := by decide +kernel
theorem dA33_5 : decode jdk_67_method_16_code 5 = .ok (.pop, 1) := by decide +kernel
theorem dA33_6 : decode jdk_67_method_16_code 6 = .ok (.aload_n 0, 1) := by decide +kernel
theorem dA33_7 : decode jdk_67_method_16_code 7 = .ok (.areturn, 1) := by decide +kernel
theorem efA33 (m : MethodId) (xo0_ : Addr) (xj1_ : Int64) : entryFrame m #[(.ref xo0_), (.long xj1_)] 3 = mkF m 0 #[.val (.ref xo0_), .val (.long xj1_), .second] [] := by first | (simp [entryFrame, mkF, argsToLocals, Value.category]; done) | rfl
def QA33 (Z : State) (xo0_ : Addr) (xj1_ : Int64) (uo1_ : Addr) (ui2_ : Int32) (ui3_ : Int32) (k_uo1_ : ClassId) (ui4_ : Int32) (uo5_ : Addr) (k_uo5_ : ClassId) (h0 : Heap) (n0 : Nat) (v : Option Value) (h : Heap) (L : List Loc) : Prop := v = some (.ref xo0_) ∧ Fr n0 L ∧ Keep h0 h [xo0_, uo1_] ∧ Exa Z h xo0_ "java/lang/StringBuilder" ∧ Fld Z h xo0_ "java/lang/AbstractStringBuilder" "value" "[B" (.ref uo1_) ∧ Fld Z h xo0_ "java/lang/AbstractStringBuilder" "coder" "B" (.int (0 : Int32)) ∧ Fld Z h xo0_ "java/lang/AbstractStringBuilder" "count" "I" (.int (21 : Int32)) ∧ Arv Z h uo1_ k_uo1_ .byte (34 : Int32) [(.int ui2_), (.int (32 : Int32)), (.int (102 : Int32)), (.int (105 : Int32)), (.int (108 : Int32)), (.int (101 : Int32)), (.int (115 : Int32)), (.int (44 : Int32)), (.int (32 : Int32)), (.int ui3_), (.int (32 : Int32)), (.int (102 : Int32)), (.int (111 : Int32)), (.int (108 : Int32)), (.int (100 : Int32)), (.int (101 : Int32)), (.int (114 : Int32)), (.int (115 : Int32)), (.int (44 : Int32)), (.int (32 : Int32)), (.int ((own_get own_ones (-((-xj1_).toInt32)))).toInt8.toInt32), (.int (0 : Int32)), (.int (0 : Int32)), (.int (0 : Int32)), (.int (0 : Int32)), (.int (0 : Int32)), (.int (0 : Int32)), (.int (0 : Int32)), (.int (0 : Int32)), (.int (0 : Int32)), (.int (0 : Int32)), (.int (0 : Int32)), (.int (0 : Int32)), (.int (0 : Int32))] (.int (0 : Int32))
set_option maxRecDepth 65536 in
set_option maxHeartbeats 40000000 in
theorem rmA33 (l : Launch) (Z : State) (a0 : Array Value) (hw : ∀ d ∈ tables_1, d.before a0 Z = true) (ws : List Jvm.Cond) (xo0_ : Addr) (xj1_ : Int64) (uo1_ : Addr) (ui2_ : Int32) (ui3_ : Int32) (k_uo1_ : ClassId) (ui4_ : Int32) (uo5_ : Addr) (k_uo5_ : ClassId) (h0 : Heap) (n0 : Nat) (Z0 : n0 ≤ h0.size) (E_xo0_ : Exa Z h0 xo0_ "java/lang/StringBuilder") (F_value_xo0_ : Fld Z h0 xo0_ "java/lang/AbstractStringBuilder" "value" "[B" (.ref uo1_)) (F_coder_xo0_ : Fld Z h0 xo0_ "java/lang/AbstractStringBuilder" "coder" "B" (.int (0 : Int32))) (F_count_xo0_ : Fld Z h0 xo0_ "java/lang/AbstractStringBuilder" "count" "I" (.int (20 : Int32))) (V_uo1_ : Arv Z h0 uo1_ k_uo1_ .byte (34 : Int32) [(.int ui2_), (.int (32 : Int32)), (.int (102 : Int32)), (.int (105 : Int32)), (.int (108 : Int32)), (.int (101 : Int32)), (.int (115 : Int32)), (.int (44 : Int32)), (.int (32 : Int32)), (.int ui3_), (.int (32 : Int32)), (.int (102 : Int32)), (.int (111 : Int32)), (.int (108 : Int32)), (.int (100 : Int32)), (.int (101 : Int32)), (.int (114 : Int32)), (.int (115 : Int32)), (.int (44 : Int32)), (.int (32 : Int32)), (.int (0 : Int32)), (.int (0 : Int32)), (.int (0 : Int32)), (.int (0 : Int32)), (.int (0 : Int32)), (.int (0 : Int32)), (.int (0 : Int32)), (.int (0 : Int32)), (.int (0 : Int32)), (.int (0 : Int32)), (.int (0 : Int32)), (.int (0 : Int32)), (.int (0 : Int32)), (.int (0 : Int32))] (.int (0 : Int32))) (X00 : Old Z n0 h0) (S_COMPACT_STRINGS : Sta Z Z.heap "java/lang/String" "COMPACT_STRINGS" "Z" (.int ui4_)) (S_DigitOnes : Sta Z Z.heap "java/lang/Integer" "DigitOnes" "[B" (.ref uo5_)) (V_uo5_ : Arv Z Z.heap uo5_ k_uo5_ .byte (100 : Int32) (own_ones.map Value.int) (.int (0 : Int32))) (hp0_ : ¬ (xj1_ < (0 : Int64))) (hp1_ : (-10 : Int64) < (-xj1_)) (hp2_ : ¬ (ui4_ = (0 : Int32))) (hp3_ : (-2147483648 : Int64) < (-xj1_)) (hp4_ : (-100 : Int32) < ((-xj1_).toInt32)) (hp5_ : own_inb xj1_) (hp6_ : ¬ (((-xj1_).toInt32) < (-9 : Int32))) (g_uo1_ : n0 ≤ uo1_) (g_xo0_ : n0 ≤ xo0_) :
    MetFree l (⟨"java/lang/StringBuilder", "append", "(J)Ljava/lang/StringBuilder;"⟩ : MethodName) (head1 (Jvm.Cond.code (⟨"java/lang/StringBuilder", "append", "(J)Ljava/lang/StringBuilder;"⟩ : MethodName) jdk_67_method_16_code 3 (some (.object "java/lang/StringBuilder")) :: ws) ({ frames := 2, cells := 0, slots := 0, locals := 38 } : Room)) (fun av_ U => av_ = #[(.ref xo0_), (.long xj1_)] ∧ Z.Warmed39 U.vm ∧ U.heap = h0) (fun _ _ _ _ _ => True) (fun _ U o U' => ∃ v L, o = .returned v ∧ QA33 Z xo0_ xj1_ uo1_ ui2_ ui3_ k_uo1_ ui4_ uo5_ k_uo5_ h0 n0 v U'.heap L ∧ FrameEnd U o U' L ({ frames := 2, cells := 0, slots := 0, locals := 38 } : Room).cells ({ frames := 2, cells := 0, slots := 0, locals := 38 } : Room).slots) := by
  refine MetFree.of_bodySF (plainFor_of_name own_pn2) hisR ?_
  intro p e s m args below meth c s₁ Bd hml0 hP hK
  obtain ⟨rfl, hZ, hh⟩ := hP
  have hx := Bd.exec
  have hby := Bd.bytes
  have hml : c.maxLocals = 3 := hml0
  have hown : s.vm.findClass "java/lang/StringBuilder" = some m.cls := findClass_of_methodNamed Bd.named
  have hnm := (name_of_methodNamed Bd.named Bd.method).1
  have X0 : Stand p l e ({ frames := 2, cells := 0, slots := 0, locals := 38 } : Room) s m #[(.ref xo0_), (.long xj1_)] below meth c s₁ [] 0 0 := Stand.of_body Bd
  have e0 : s₁.heap = h0 := by rw [← hh, Bd.state]; rfl
  have N0 := Fr.nil n0
  have pre0 : ∀ t, Steps p.tables e below (s₁.setTop (mkF m 0 #[.val (.ref xo0_), .val (.long xj1_), .second] [])) t → Steps p.tables e below (s₁.setTop (entryFrame m #[(.ref xo0_), (.long xj1_)] 3)) t := fun t k => castTop (efA33 m xo0_ xj1_) k
  obtain ⟨_, _, ⟨T1, L1, k1, n1⟩, -, X1, ⟨Lc1, hQ1, l1, y1, z1⟩, st1⟩ := superBack X0 hx hZ (y := (⟨"java/lang/AbstractStringBuilder", "append", "(J)Ljava/lang/AbstractStringBuilder;"⟩ : MethodName)) hown (hw _ (List.mem_of_getElem? (i := 48) rfl)) (sameSelf (hw _ (List.mem_of_getElem? (i := 63) rfl)) rfl (hw _ (List.mem_of_getElem? (i := 49) rfl)) (by decide)) (hw _ (List.mem_of_getElem? (i := 49) rfl)) (hw _ (List.mem_of_getElem? (i := 50) rfl)) (by decide) (backOf (W := 0) (rmA34 l Z a0 hw [] xo0_ xj1_ uo1_ ui2_ ui3_ k_uo1_ ui4_ uo5_ k_uo5_ h0 n0 Z0 E_xo0_ F_value_xo0_ F_coder_xo0_ F_count_xo0_ hp0_ hp1_ V_uo1_ X00 S_COMPACT_STRINGS hp2_ hp3_ hp4_ S_DigitOnes V_uo5_ hp5_ hp6_ g_uo1_ g_xo0_) hZ (hw _ (List.mem_of_getElem? (i := 52) rfl)) (hw _ (List.mem_of_getElem? (i := 33) rfl)) (by decide) (by decide)) e0 (Ins.self E_xo0_) (g := (mkF m 2 #[.val (.ref xo0_), .val (.long xj1_), .second] [(.long xj1_), (.ref xo0_)])) rfl (by rw [hml]; rfl) (hw _ (List.mem_of_getElem? (i := 52) rfl)) (argsL := [(.long xj1_)]) (rest := []) (lenOf own_pd5 rfl) rfl (by show 2 * 0 + _ ≤ _; exact Nat.le_of_eq rfl) (hb hby dA33_2) (fun _ _ => ⟨rfl, e0, (by decide : 0 + 0 ≤ _), (by decide : 0 + 0 ≤ _)⟩)
  dsimp only [Pt.U, Pt.locs, Pt.cells, Pt.slots] at X1 l1 y1 z1 st1 hQ1
  subst l1 y1 z1
  obtain ⟨rfl, Nq1, Kc1, q1_0, q1_1, q1_2, q1_3, q1_4⟩ := hQ1
  have K1 : Keep h0 T1.heap [xo0_, uo1_] := Keep.trans (Keep.refl h0 [xo0_, uo1_]) Kc1 (allS (Or.inl (List.mem_of_getElem? (i := 1) rfl)) (allS (Or.inl (List.mem_of_getElem? (i := 0) rfl)) all0))
  have Zs1 : n0 ≤ T1.heap.size := Nat.le_trans Z0 Kc1.1
  have N1 := Fr.app N0 Nq1
  obtain ⟨fs, hr, hrun, hended, hW, hsame⟩ := X1.leave (v := some (.ref xo0_)) (fun h => by rw [Bd.returns] at h; cases h)
  refine ⟨_, _, (pre0 _ ?_), hrun, hended, _, _, rfl, ?_, ⟨_, rfl⟩, hW, hsame.mono (by decide) (by decide)⟩
  · show Steps p.tables e below (s₁.setTop (mkF m 0 #[.val (.ref xo0_), .val (.long xj1_), .second] [])) _
    refine XS.aloadN X0.here hx rfl (hb hby dA33_0) rfl rfl ?_
    show Steps p.tables e below (s₁.setTop (mkF m 1 #[.val (.ref xo0_), .val (.long xj1_), .second] [(.ref xo0_)])) _
    refine XS.lloadN X0.here hx rfl (hb hby dA33_1) rfl ?_
    show Steps p.tables e below (s₁.setTop (mkF m 2 #[.val (.ref xo0_), .val (.long xj1_), .second] [(.long xj1_), (.ref xo0_)])) _
    refine st1.trans ?_
    show Steps p.tables e below (T1.setTop (mkF m 5 #[.val (.ref xo0_), .val (.long xj1_), .second] [(.ref xo0_)])) _
    refine XS.pop X1.here hx rfl (hb hby dA33_5) rfl rfl ?_
    show Steps p.tables e below (T1.setTop (mkF m 6 #[.val (.ref xo0_), .val (.long xj1_), .second] [])) _
    refine XS.aloadN X1.here hx rfl (hb hby dA33_6) rfl rfl ?_
    show Steps p.tables e below (T1.setTop (mkF m 7 #[.val (.ref xo0_), .val (.long xj1_), .second] [(.ref xo0_)])) _
    jvm_step X1.here [X1.here.top, hx, (hb hby dA33_7), X1.method', Bd.returns, Value.isRef, FieldType.isReference]
    first | (intro acts; rw [hr _ acts rfl rfl rfl]) | rw [hr _ _ rfl rfl rfl]
    exact Steps.refl _
  · show QA33 Z xo0_ xj1_ uo1_ ui2_ ui3_ k_uo1_ ui4_ uo5_ k_uo5_ h0 n0 _ T1.heap _
    exact ⟨rfl, N1, K1, q1_1, q1_2, q1_3, q1_4, q1_0⟩
theorem dA40_0 : decode jdk_42_method_54_code 0 = .ok (.aload_n 0, 1) := by decide +kernel
theorem dA40_1 : decode jdk_42_method_54_code 1 = .ok (.getfield 9, 3) := by decide +kernel
theorem dA40_4 : decode jdk_42_method_54_code 4 = .ok (.arraylength, 1) := by decide +kernel
theorem dA40_5 : decode jdk_42_method_54_code 5 = .ok (.aload_n 0, 1) := by decide +kernel
theorem dA40_6 : decode jdk_42_method_54_code 6 = .ok (.invokevirtual 335, 3) := by decide +kernel
theorem dA40_9 : decode jdk_42_method_54_code 9 = .ok (.ishr, 1) := by decide +kernel
theorem dA40_10 : decode jdk_42_method_54_code 10 = .ok (.ireturn, 1) := by decide +kernel
theorem efA40 (m : MethodId) (xo0_ : Addr) : entryFrame m #[(.ref xo0_)] 1 = mkF m 0 #[.val (.ref xo0_)] [] := by first | (simp [entryFrame, mkF, argsToLocals, Value.category]; done) | rfl
def QA40 (Z : State) (xo0_ : Addr) (uo1_ : Addr) (k_uo1_ : ClassId) (ui2_ : Int32) (h0 : Heap) (n0 : Nat) (v : Option Value) (h : Heap) (L : List Loc) : Prop := v = some (.int (6 : Int32)) ∧ Fr n0 L ∧ h = h0
set_option maxRecDepth 65536 in
set_option maxHeartbeats 40000000 in
theorem rmA40 (l : Launch) (Z : State) (a0 : Array Value) (hw : ∀ d ∈ tables_1, d.before a0 Z = true) (ws : List Jvm.Cond) (xo0_ : Addr) (uo1_ : Addr) (k_uo1_ : ClassId) (ui2_ : Int32) (h0 : Heap) (n0 : Nat) (Z0 : n0 ≤ h0.size) (E_xo0_ : Exa Z h0 xo0_ "java/lang/String") (F_coder_xo0_ : Fld Z h0 xo0_ "java/lang/String" "coder" "B" (.int (0 : Int32))) (F_value_xo0_ : Fld Z h0 xo0_ "java/lang/String" "value" "[B" (.ref uo1_)) (V_uo1_ : Arv Z h0 uo1_ k_uo1_ .byte (6 : Int32) [(.int (32 : Int32)), (.int (98 : Int32)), (.int (121 : Int32)), (.int (116 : Int32)), (.int (101 : Int32)), (.int (115 : Int32))] (.int 0)) (X00 : Old Z n0 h0) (S_COMPACT_STRINGS : Sta Z Z.heap "java/lang/String" "COMPACT_STRINGS" "Z" (.int ui2_)) (hp0_ : ¬ (ui2_ = (0 : Int32))) :
    MetFree l (⟨"java/lang/String", "length", "()I"⟩ : MethodName) (head1 (Jvm.Cond.code (⟨"java/lang/String", "length", "()I"⟩ : MethodName) jdk_42_method_54_code 1 (some .int) :: ws) ({ frames := 1, cells := 0, slots := 0, locals := 13 } : Room)) (fun av_ U => av_ = #[(.ref xo0_)] ∧ Z.Warmed39 U.vm ∧ U.heap = h0) (fun _ _ _ _ _ => True) (fun _ U o U' => ∃ v L, o = .returned v ∧ QA40 Z xo0_ uo1_ k_uo1_ ui2_ h0 n0 v U'.heap L ∧ FrameEnd U o U' L ({ frames := 1, cells := 0, slots := 0, locals := 13 } : Room).cells ({ frames := 1, cells := 0, slots := 0, locals := 13 } : Room).slots) := by
  refine MetFree.of_bodySF (plainFor_of_name own_pn4) hisR ?_
  intro p e s m args below meth c s₁ Bd hml0 hP hK
  obtain ⟨rfl, hZ, hh⟩ := hP
  have hx := Bd.exec
  have hby := Bd.bytes
  have hml : c.maxLocals = 1 := hml0
  have hown : s.vm.findClass "java/lang/String" = some m.cls := findClass_of_methodNamed Bd.named
  have hnm := (name_of_methodNamed Bd.named Bd.method).1
  have X0 : Stand p l e ({ frames := 1, cells := 0, slots := 0, locals := 13 } : Room) s m #[(.ref xo0_)] below meth c s₁ [] 0 0 := Stand.of_body Bd
  have e0 : s₁.heap = h0 := by rw [← hh, Bd.state]; rfl
  have N0 := Fr.nil n0
  have pre0 : ∀ t, Steps p.tables e below (s₁.setTop (mkF m 0 #[.val (.ref xo0_)] [])) t → Steps p.tables e below (s₁.setTop (entryFrame m #[(.ref xo0_)] 1)) t := fun t k => castTop (efA40 m xo0_) k
  obtain ⟨T1, X1, e1, st1⟩ := getF X0 hx hZ hown (host := "") (Or.inl (hw _ (List.mem_of_getElem? (i := 96) rfl))) Via.refl e0 F_value_xo0_ (g := (mkF m 1 #[.val (.ref xo0_)] [(.ref xo0_)])) rfl rfl (hb hby dA40_1)
  obtain ⟨cl2, Ar2, q2, S2, M2, Hs2, G2⟩ := (id V_uo1_)
  obtain ⟨cq3, kq3, q3a, q3b, q3c⟩ := isOf hZ e1 E_xo0_
  obtain ⟨_, _, ⟨T3, L3, k3, n3⟩, -, X3, ⟨Lc3, hQ3, l3, y3, z3⟩, st3⟩ := X1.virtualBack hx (y := (⟨"java/lang/String", "coder", "()B"⟩ : MethodName)) (z := (⟨"java/lang/String", "coder", "()B"⟩ : MethodName)) hown (mvT hZ (hw _ (List.mem_of_getElem? (i := 97) rfl))) (mvT hZ (hw _ (List.mem_of_getElem? (i := 98) rfl))) (notFace_of_selects (args := #[]) (mvT hZ (hw _ (List.mem_of_getElem? (i := 100) rfl)))) (mvT hZ (hw _ (List.mem_of_getElem? (i := 100) rfl))) (mvT hZ (hw _ (List.mem_of_getElem? (i := 99) rfl))) (by decide) (backOf (W := 1) (rmA11 l Z a0 hw [] xo0_ uo1_ ui2_ h0 n0 Z0 E_xo0_ F_coder_xo0_ F_value_xo0_ X00 S_COMPACT_STRINGS hp0_) hZ (hw _ (List.mem_of_getElem? (i := 101) rfl)) (hw _ (List.mem_of_getElem? (i := 37) rfl)) (by decide) (by decide)) q3a q3c (g := (mkF m 6 #[.val (.ref xo0_)] [(.ref xo0_), (.int (6 : Int32))])) rfl (by rw [hml]; rfl) (Steps.refl _) (argsL := []) (rest := [(.int (6 : Int32))]) (lenOf own_pd7 rfl) rfl (by show 2 * 0 + _ ≤ _; exact Nat.le_of_eq rfl) (hb hby dA40_6) (fun _ _ => ⟨rfl, e1, (by decide : 0 + 0 ≤ _), (by decide : 0 + 0 ≤ _)⟩)
  dsimp only [Pt.U, Pt.locs, Pt.cells, Pt.slots] at X3 l3 y3 z3 st3 hQ3
  subst l3 y3 z3
  obtain ⟨rfl, Nq3, e3⟩ := hQ3
  have N3 := Fr.app N0 Nq3
  obtain ⟨fs, hr, hrun, hended, hW, hsame⟩ := X3.leave (v := some (.int (6 : Int32))) (fun h => by rw [Bd.returns] at h; cases h)
  refine ⟨_, _, (pre0 _ ?_), hrun, hended, _, _, rfl, ?_, ⟨_, rfl⟩, hW, hsame.mono (by decide) (by decide)⟩
  · show Steps p.tables e below (s₁.setTop (mkF m 0 #[.val (.ref xo0_)] [])) _
    refine XS.aloadN X0.here hx rfl (hb hby dA40_0) rfl rfl ?_
    show Steps p.tables e below (s₁.setTop (mkF m 1 #[.val (.ref xo0_)] [(.ref xo0_)])) _
    refine st1 _ ?_
    show Steps p.tables e below (T1.setTop (mkF m 4 #[.val (.ref xo0_)] [(.ref uo1_)])) _
    refine X1.arraylength hx (by rw [e1]; exact Ar2.1) (State.isArrayOf_alike hZ.alike Ar2.2.1) (g := (mkF m 4 #[.val (.ref xo0_)] [(.ref uo1_)])) rfl rfl (hb hby dA40_4) _ ?_
    rw [len_of S2 M2]
    show Steps p.tables e below (T1.setTop (mkF m 5 #[.val (.ref xo0_)] [(.int (6 : Int32))])) _
    refine XS.aloadN X1.here hx rfl (hb hby dA40_5) rfl rfl ?_
    show Steps p.tables e below (T1.setTop (mkF m 6 #[.val (.ref xo0_)] [(.ref xo0_), (.int (6 : Int32))])) _
    refine st3.trans ?_
    show Steps p.tables e below (T3.setTop (mkF m 9 #[.val (.ref xo0_)] [(.int (0 : Int32)), (.int (6 : Int32))])) _
    refine XS.ishr X3.here hx rfl (hb hby dA40_9) rfl ?_
    rw [show ((6 : Int32) >>> ((0 : Int32) &&& 31)) = (6 : Int32) from by decide]
    show Steps p.tables e below (T3.setTop (mkF m 10 #[.val (.ref xo0_)] [(.int (6 : Int32))])) _
    exact retI X3 hx Bd.returns (hb hby dA40_10) hr
  · show QA40 Z xo0_ uo1_ k_uo1_ ui2_ h0 n0 _ T3.heap _
    rw [e3]
    exact ⟨rfl, N3, rfl⟩
theorem dA41_0 : decode jdk_68_method_9_code 0 = .ok (.aload_n 0, 1) := by decide +kernel
theorem dA41_1 : decode jdk_68_method_9_code 1 = .ok (.getfield 15, 3) := by decide +kernel
theorem dA41_4 : decode jdk_68_method_9_code 4 = .ok (.arraylength, 1) := by decide +kernel
theorem dA41_5 : decode jdk_68_method_9_code 5 = .ok (.aload_n 0, 1) := by decide +kernel
theorem dA41_6 : decode jdk_68_method_9_code 6 = .ok (.getfield 22, 3) := by decide +kernel
theorem dA41_9 : decode jdk_68_method_9_code 9 = .ok (.ishr, 1) := by decide +kernel
theorem dA41_10 : decode jdk_68_method_9_code 10 = .ok (.istore_n 2, 1) := by decide +kernel
theorem dA41_11 : decode jdk_68_method_9_code 11 = .ok (.iload_n 1, 1) := by decide +kernel
theorem dA41_12 : decode jdk_68_method_9_code 12 = .ok (.iload_n 2, 1) := by decide +kernel
theorem dA41_13 : decode jdk_68_method_9_code 13 = .ok (.isub, 1) := by decide +kernel
theorem dA41_14 : decode jdk_68_method_9_code 14 = .ok (.ifCond .le 24, 3) := by decide +kernel
theorem dA41_38 : decode jdk_68_method_9_code 38 = .ok (.return_, 1) := by decide +kernel
theorem efA41 (m : MethodId) (xo0_ : Addr) : entryFrame m #[(.ref xo0_), (.int (27 : Int32))] 3 = mkF m 0 #[.val (.ref xo0_), .val (.int (27 : Int32)), .unset] [] := by first | (simp [entryFrame, mkF, argsToLocals, Value.category]; done) | rfl
def QA41 (Z : State) (xo0_ : Addr) (uo1_ : Addr) (ui2_ : Int32) (ui3_ : Int32) (ui4_ : Int32) (k_uo1_ : ClassId) (h0 : Heap) (n0 : Nat) (v : Option Value) (h : Heap) (L : List Loc) : Prop := v = none ∧ Fr n0 L ∧ h = h0
set_option maxRecDepth 65536 in
set_option maxHeartbeats 40000000 in
theorem rmA41 (l : Launch) (Z : State) (a0 : Array Value) (hw : ∀ d ∈ tables_1, d.before a0 Z = true) (ws : List Jvm.Cond) (xo0_ : Addr) (uo1_ : Addr) (ui2_ : Int32) (ui3_ : Int32) (ui4_ : Int32) (k_uo1_ : ClassId) (h0 : Heap) (n0 : Nat) (Z0 : n0 ≤ h0.size) (E_xo0_ : Exa Z h0 xo0_ "java/lang/StringBuilder") (F_value_xo0_ : Fld Z h0 xo0_ "java/lang/AbstractStringBuilder" "value" "[B" (.ref uo1_)) (F_coder_xo0_ : Fld Z h0 xo0_ "java/lang/AbstractStringBuilder" "coder" "B" (.int (0 : Int32))) (F_count_xo0_ : Fld Z h0 xo0_ "java/lang/AbstractStringBuilder" "count" "I" (.int (21 : Int32))) (V_uo1_ : Arv Z h0 uo1_ k_uo1_ .byte (34 : Int32) [(.int ui2_), (.int (32 : Int32)), (.int (102 : Int32)), (.int (105 : Int32)), (.int (108 : Int32)), (.int (101 : Int32)), (.int (115 : Int32)), (.int (44 : Int32)), (.int (32 : Int32)), (.int ui3_), (.int (32 : Int32)), (.int (102 : Int32)), (.int (111 : Int32)), (.int (108 : Int32)), (.int (100 : Int32)), (.int (101 : Int32)), (.int (114 : Int32)), (.int (115 : Int32)), (.int (44 : Int32)), (.int (32 : Int32)), (.int ui4_), (.int (0 : Int32)), (.int (0 : Int32)), (.int (0 : Int32)), (.int (0 : Int32)), (.int (0 : Int32)), (.int (0 : Int32)), (.int (0 : Int32)), (.int (0 : Int32)), (.int (0 : Int32)), (.int (0 : Int32)), (.int (0 : Int32)), (.int (0 : Int32)), (.int (0 : Int32))] (.int (0 : Int32))) :
    MetFree l (⟨"java/lang/AbstractStringBuilder", "ensureCapacityInternal", "(I)V"⟩ : MethodName) (head1 (Jvm.Cond.code (⟨"java/lang/AbstractStringBuilder", "ensureCapacityInternal", "(I)V"⟩ : MethodName) jdk_68_method_9_code 3 none :: ws) ({ frames := 0, cells := 0, slots := 0, locals := 0 } : Room)) (fun av_ U => av_ = #[(.ref xo0_), (.int (27 : Int32))] ∧ Z.Warmed39 U.vm ∧ U.heap = h0) (fun _ _ _ _ _ => True) (fun _ U o U' => ∃ v L, o = .returned v ∧ QA41 Z xo0_ uo1_ ui2_ ui3_ ui4_ k_uo1_ h0 n0 v U'.heap L ∧ FrameEnd U o U' L ({ frames := 0, cells := 0, slots := 0, locals := 0 } : Room).cells ({ frames := 0, cells := 0, slots := 0, locals := 0 } : Room).slots) := by
  refine MetFree.of_bodySF (plainFor_of_name own_pn1) hisR ?_
  intro p e s m args below meth c s₁ Bd hml0 hP hK
  obtain ⟨rfl, hZ, hh⟩ := hP
  have hx := Bd.exec
  have hby := Bd.bytes
  have hml : c.maxLocals = 3 := hml0
  have hown : s.vm.findClass "java/lang/AbstractStringBuilder" = some m.cls := findClass_of_methodNamed Bd.named
  have hnm := (name_of_methodNamed Bd.named Bd.method).1
  have X0 : Stand p l e ({ frames := 0, cells := 0, slots := 0, locals := 0 } : Room) s m #[(.ref xo0_), (.int (27 : Int32))] below meth c s₁ [] 0 0 := Stand.of_body Bd
  have e0 : s₁.heap = h0 := by rw [← hh, Bd.state]; rfl
  have N0 := Fr.nil n0
  have pre0 : ∀ t, Steps p.tables e below (s₁.setTop (mkF m 0 #[.val (.ref xo0_), .val (.int (27 : Int32)), .unset] [])) t → Steps p.tables e below (s₁.setTop (entryFrame m #[(.ref xo0_), (.int (27 : Int32))] 3)) t := fun t k => castTop (efA41 m xo0_) k
  obtain ⟨T1, X1, e1, st1⟩ := getF X0 hx hZ hown (host := "") (Or.inl (hw _ (List.mem_of_getElem? (i := 39) rfl))) Via.refl e0 F_value_xo0_ (g := (mkF m 1 #[.val (.ref xo0_), .val (.int (27 : Int32)), .unset] [(.ref xo0_)])) rfl rfl (hb hby dA41_1)
  obtain ⟨cl2, Ar2, q2, S2, M2, Hs2, G2⟩ := (id V_uo1_)
  obtain ⟨T3, X3, e3, st3⟩ := getF X1 hx hZ hown (host := "") (Or.inl (hw _ (List.mem_of_getElem? (i := 41) rfl))) Via.refl e1 F_coder_xo0_ (g := (mkF m 6 #[.val (.ref xo0_), .val (.int (27 : Int32)), .unset] [(.ref xo0_), (.int (34 : Int32))])) rfl rfl (hb hby dA41_6)
  obtain ⟨fs, hr, hrun, hended, hW, hsame⟩ := X3.leave (v := none) (fun _ => rfl)
  refine ⟨_, _, (pre0 _ ?_), hrun, hended, _, _, rfl, ?_, ⟨_, rfl⟩, hW, hsame.mono (by decide) (by decide)⟩
  · show Steps p.tables e below (s₁.setTop (mkF m 0 #[.val (.ref xo0_), .val (.int (27 : Int32)), .unset] [])) _
    refine XS.aloadN X0.here hx rfl (hb hby dA41_0) rfl rfl ?_
    show Steps p.tables e below (s₁.setTop (mkF m 1 #[.val (.ref xo0_), .val (.int (27 : Int32)), .unset] [(.ref xo0_)])) _
    refine st1 _ ?_
    show Steps p.tables e below (T1.setTop (mkF m 4 #[.val (.ref xo0_), .val (.int (27 : Int32)), .unset] [(.ref uo1_)])) _
    refine X1.arraylength hx (by rw [e1]; exact Ar2.1) (State.isArrayOf_alike hZ.alike Ar2.2.1) (g := (mkF m 4 #[.val (.ref xo0_), .val (.int (27 : Int32)), .unset] [(.ref uo1_)])) rfl rfl (hb hby dA41_4) _ ?_
    rw [len_of S2 M2]
    show Steps p.tables e below (T1.setTop (mkF m 5 #[.val (.ref xo0_), .val (.int (27 : Int32)), .unset] [(.int (34 : Int32))])) _
    refine XS.aloadN X1.here hx rfl (hb hby dA41_5) rfl rfl ?_
    show Steps p.tables e below (T1.setTop (mkF m 6 #[.val (.ref xo0_), .val (.int (27 : Int32)), .unset] [(.ref xo0_), (.int (34 : Int32))])) _
    refine st3 _ ?_
    show Steps p.tables e below (T3.setTop (mkF m 9 #[.val (.ref xo0_), .val (.int (27 : Int32)), .unset] [(.int (0 : Int32)), (.int (34 : Int32))])) _
    refine XS.ishr X3.here hx rfl (hb hby dA41_9) rfl ?_
    rw [show ((34 : Int32) >>> ((0 : Int32) &&& 31)) = (34 : Int32) from by decide]
    show Steps p.tables e below (T3.setTop (mkF m 10 #[.val (.ref xo0_), .val (.int (27 : Int32)), .unset] [(.int (34 : Int32))])) _
    refine XS.istoreN X3.here hx rfl (hb hby dA41_10) rfl (l' := #[.val (.ref xo0_), .val (.int (27 : Int32)), .val (.int (34 : Int32))]) rfl ?_
    show Steps p.tables e below (T3.setTop (mkF m 11 #[.val (.ref xo0_), .val (.int (27 : Int32)), .val (.int (34 : Int32))] [])) _
    refine XS.iloadN X3.here hx rfl (hb hby dA41_11) rfl ?_
    show Steps p.tables e below (T3.setTop (mkF m 12 #[.val (.ref xo0_), .val (.int (27 : Int32)), .val (.int (34 : Int32))] [(.int (27 : Int32))])) _
    refine XS.iloadN X3.here hx rfl (hb hby dA41_12) rfl ?_
    show Steps p.tables e below (T3.setTop (mkF m 13 #[.val (.ref xo0_), .val (.int (27 : Int32)), .val (.int (34 : Int32))] [(.int (34 : Int32)), (.int (27 : Int32))])) _
    refine XS.isub X3.here hx rfl (hb hby dA41_13) rfl ?_
    show Steps p.tables e below (T3.setTop (mkF m 14 #[.val (.ref xo0_), .val (.int (27 : Int32)), .val (.int (34 : Int32))] [(.int (-7 : Int32))])) _
    refine XS.ifYes X3.here hx rfl (pc0 := 14) (pc' := 38) rfl (hb hby dA41_14) rfl ((if0 _ _).trans (flt (by decide : ¬ ((0 : Int32) < (-7 : Int32)))).2.2.2) (by decide) (by decide) ?_
    show Steps p.tables e below (T3.setTop (mkF m 38 #[.val (.ref xo0_), .val (.int (27 : Int32)), .val (.int (34 : Int32))] [])) _
    exact X3.returnOut hx Bd.returns (hb hby dA41_38) hr
  · show QA41 Z xo0_ uo1_ ui2_ ui3_ ui4_ k_uo1_ h0 n0 _ T3.heap _
    rw [e3]
    exact ⟨rfl, N0, rfl⟩
theorem dA43_0 : decode jdk_68_method_71_code 0 = .ok (.getstatic 18, 3) := by decide +kernel
theorem dA43_3 : decode jdk_68_method_71_code 3 = .ok (.ifCond .eq 18, 3) := by decide +kernel
theorem dA43_6 : decode jdk_68_method_71_code 6 = .ok (.aload_n 0, 1) := by decide +kernel
theorem dA43_7 : decode jdk_68_method_71_code 7 = .ok (.getfield 22, 3) := by decide +kernel
theorem dA43_10 : decode jdk_68_method_71_code 10 = .ok (.aload_n 1, 1) := by decide +kernel
theorem dA43_11 : decode jdk_68_method_71_code 11 = .ok (.invokevirtual 40, 3) := by decide +kernel
theorem dA43_14 : decode jdk_68_method_71_code 14 = .ok (.if_icmp .eq 7, 3) := by decide +kernel
theorem dA43_21 : decode jdk_68_method_71_code 21 = .ok (.return_, 1) := by decide +kernel
theorem efA43 (m : MethodId) (xo0_ : Addr) (xo1_ : Addr) : entryFrame m #[(.ref xo0_), (.ref xo1_)] 2 = mkF m 0 #[.val (.ref xo0_), .val (.ref xo1_)] [] := by first | (simp [entryFrame, mkF, argsToLocals, Value.category]; done) | rfl
def QA43 (Z : State) (xo0_ : Addr) (xo1_ : Addr) (uo1_ : Addr) (uo2_ : Addr) (ui3_ : Int32) (h0 : Heap) (n0 : Nat) (v : Option Value) (h : Heap) (L : List Loc) : Prop := v = none ∧ Fr n0 L ∧ h = h0
set_option maxRecDepth 65536 in
set_option maxHeartbeats 40000000 in
theorem rmA43 (l : Launch) (Z : State) (a0 : Array Value) (hw : ∀ d ∈ tables_1, d.before a0 Z = true) (ws : List Jvm.Cond) (xo0_ : Addr) (xo1_ : Addr) (uo1_ : Addr) (uo2_ : Addr) (ui3_ : Int32) (h0 : Heap) (n0 : Nat) (Z0 : n0 ≤ h0.size) (E_xo0_ : Exa Z h0 xo0_ "java/lang/StringBuilder") (F_value_xo0_ : Fld Z h0 xo0_ "java/lang/AbstractStringBuilder" "value" "[B" (.ref uo1_)) (F_coder_xo0_ : Fld Z h0 xo0_ "java/lang/AbstractStringBuilder" "coder" "B" (.int (0 : Int32))) (F_count_xo0_ : Fld Z h0 xo0_ "java/lang/AbstractStringBuilder" "count" "I" (.int (21 : Int32))) (E_xo1_ : Exa Z h0 xo1_ "java/lang/String") (F_coder_xo1_ : Fld Z h0 xo1_ "java/lang/String" "coder" "B" (.int (0 : Int32))) (F_value_xo1_ : Fld Z h0 xo1_ "java/lang/String" "value" "[B" (.ref uo2_)) (X00 : Old Z n0 h0) (S_COMPACT_STRINGS : Sta Z Z.heap "java/lang/String" "COMPACT_STRINGS" "Z" (.int ui3_)) (hp0_ : ¬ (ui3_ = (0 : Int32))) :
    MetFree l (⟨"java/lang/AbstractStringBuilder", "inflateIfNeededFor", "(Ljava/lang/String;)V"⟩ : MethodName) (head1 (Jvm.Cond.code (⟨"java/lang/AbstractStringBuilder", "inflateIfNeededFor", "(Ljava/lang/String;)V"⟩ : MethodName) jdk_68_method_71_code 2 none :: ws) ({ frames := 1, cells := 0, slots := 0, locals := 13 } : Room)) (fun av_ U => av_ = #[(.ref xo0_), (.ref xo1_)] ∧ Z.Warmed39 U.vm ∧ U.heap = h0) (fun _ _ _ _ _ => True) (fun _ U o U' => ∃ v L, o = .returned v ∧ QA43 Z xo0_ xo1_ uo1_ uo2_ ui3_ h0 n0 v U'.heap L ∧ FrameEnd U o U' L ({ frames := 1, cells := 0, slots := 0, locals := 13 } : Room).cells ({ frames := 1, cells := 0, slots := 0, locals := 13 } : Room).slots) := by
  refine MetFree.of_bodySF (plainFor_of_name own_pn1) hisR ?_
  intro p e s m args below meth c s₁ Bd hml0 hP hK
  obtain ⟨rfl, hZ, hh⟩ := hP
  have hx := Bd.exec
  have hby := Bd.bytes
  have hml : c.maxLocals = 2 := hml0
  have hown : s.vm.findClass "java/lang/AbstractStringBuilder" = some m.cls := findClass_of_methodNamed Bd.named
  have hnm := (name_of_methodNamed Bd.named Bd.method).1
  have X0 : Stand p l e ({ frames := 1, cells := 0, slots := 0, locals := 13 } : Room) s m #[(.ref xo0_), (.ref xo1_)] below meth c s₁ [] 0 0 := Stand.of_body Bd
  have e0 : s₁.heap = h0 := by rw [← hh, Bd.state]; rfl
  have N0 := Fr.nil n0
  have pre0 : ∀ t, Steps p.tables e below (s₁.setTop (mkF m 0 #[.val (.ref xo0_), .val (.ref xo1_)] [])) t → Steps p.tables e below (s₁.setTop (entryFrame m #[(.ref xo0_), (.ref xo1_)] 2)) t := fun t k => castTop (efA43 m xo0_ xo1_) k
  obtain ⟨T1, X1, e1, st1⟩ := getS2 X0 hx hZ hown (host := "") (Or.inl (hw _ (List.mem_of_getElem? (i := 36) rfl))) Via.refl e0 (S_COMPACT_STRINGS.ext X00.2) (g := (mkF m 0 #[.val (.ref xo0_), .val (.ref xo1_)] [])) rfl (hb hby dA43_0)
  obtain ⟨T2, X2, e2, st2⟩ := getF X1 hx hZ hown (host := "") (Or.inl (hw _ (List.mem_of_getElem? (i := 41) rfl))) Via.refl e1 F_coder_xo0_ (g := (mkF m 7 #[.val (.ref xo0_), .val (.ref xo1_)] [(.ref xo0_)])) rfl rfl (hb hby dA43_7)
  obtain ⟨cq3, kq3, q3a, q3b, q3c⟩ := isOf hZ e2 E_xo1_
  obtain ⟨_, _, ⟨T3, L3, k3, n3⟩, -, X3, ⟨Lc3, hQ3, l3, y3, z3⟩, st3⟩ := X2.virtualBack hx (y := (⟨"java/lang/String", "coder", "()B"⟩ : MethodName)) (z := (⟨"java/lang/String", "coder", "()B"⟩ : MethodName)) hown (mvT hZ (hw _ (List.mem_of_getElem? (i := 114) rfl))) (mvT hZ (hw _ (List.mem_of_getElem? (i := 98) rfl))) (notFace_of_selects (args := #[]) (mvT hZ (hw _ (List.mem_of_getElem? (i := 100) rfl)))) (mvT hZ (hw _ (List.mem_of_getElem? (i := 100) rfl))) (mvT hZ (hw _ (List.mem_of_getElem? (i := 99) rfl))) (by decide) (backOf (W := 1) (rmA11 l Z a0 hw [] xo1_ uo2_ ui3_ h0 n0 Z0 E_xo1_ F_coder_xo1_ F_value_xo1_ X00 S_COMPACT_STRINGS hp0_) hZ (hw _ (List.mem_of_getElem? (i := 101) rfl)) (hw _ (List.mem_of_getElem? (i := 37) rfl)) (by decide) (by decide)) q3a q3c (g := (mkF m 11 #[.val (.ref xo0_), .val (.ref xo1_)] [(.ref xo1_), (.int (0 : Int32))])) rfl (by rw [hml]; rfl) (Steps.refl _) (argsL := []) (rest := [(.int (0 : Int32))]) (lenOf own_pd7 rfl) rfl (by show 2 * 0 + _ ≤ _; exact Nat.le_of_eq rfl) (hb hby dA43_11) (fun _ _ => ⟨rfl, e2, (by decide : 0 + 0 ≤ _), (by decide : 0 + 0 ≤ _)⟩)
  dsimp only [Pt.U, Pt.locs, Pt.cells, Pt.slots] at X3 l3 y3 z3 st3 hQ3
  subst l3 y3 z3
  obtain ⟨rfl, Nq3, e3⟩ := hQ3
  have N3 := Fr.app N0 Nq3
  obtain ⟨fs, hr, hrun, hended, hW, hsame⟩ := X3.leave (v := none) (fun _ => rfl)
  refine ⟨_, _, (pre0 _ ?_), hrun, hended, _, _, rfl, ?_, ⟨_, rfl⟩, hW, hsame.mono (by decide) (by decide)⟩
  · show Steps p.tables e below (s₁.setTop (mkF m 0 #[.val (.ref xo0_), .val (.ref xo1_)] [])) _
    refine st1 _ ?_
    show Steps p.tables e below (T1.setTop (mkF m 3 #[.val (.ref xo0_), .val (.ref xo1_)] [(.int ui3_)])) _
    refine XS.ifNo X1.here hx rfl (hb hby dA43_3) rfl ((if0 _ _).trans (feq hp0_).1) ?_
    show Steps p.tables e below (T1.setTop (mkF m 6 #[.val (.ref xo0_), .val (.ref xo1_)] [])) _
    refine XS.aloadN X1.here hx rfl (hb hby dA43_6) rfl rfl ?_
    show Steps p.tables e below (T1.setTop (mkF m 7 #[.val (.ref xo0_), .val (.ref xo1_)] [(.ref xo0_)])) _
    refine st2 _ ?_
    show Steps p.tables e below (T2.setTop (mkF m 10 #[.val (.ref xo0_), .val (.ref xo1_)] [(.int (0 : Int32))])) _
    refine XS.aloadN X2.here hx rfl (hb hby dA43_10) rfl rfl ?_
    show Steps p.tables e below (T2.setTop (mkF m 11 #[.val (.ref xo0_), .val (.ref xo1_)] [(.ref xo1_), (.int (0 : Int32))])) _
    refine st3.trans ?_
    show Steps p.tables e below (T3.setTop (mkF m 14 #[.val (.ref xo0_), .val (.ref xo1_)] [(.int (0 : Int32)), (.int (0 : Int32))])) _
    refine XS.icmpYes X3.here hx rfl (pc0 := 14) (pc' := 21) rfl (hb hby dA43_14) rfl (teq (by decide : (0 : Int32) = (0 : Int32))).1 (by decide) (by decide) ?_
    show Steps p.tables e below (T3.setTop (mkF m 21 #[.val (.ref xo0_), .val (.ref xo1_)] [])) _
    exact X3.returnOut hx Bd.returns (hb hby dA43_21) hr
  · show QA43 Z xo0_ xo1_ uo1_ uo2_ ui3_ h0 n0 _ T3.heap _
    rw [e3]
    exact ⟨rfl, N3, rfl⟩
theorem dA44_0 : decode jdk_42_method_147_code 0 = .ok (.aload_n 0, 1) := by decide +kernel
theorem dA44_1 : decode jdk_42_method_147_code 1 = .ok (.invokevirtual 335, 3) := by decide +kernel
theorem dA44_4 : decode jdk_42_method_147_code 4 = .ok (.iload_n 3, 1) := by decide +kernel
theorem dA44_5 : decode jdk_42_method_147_code 5 = .ok (.if_icmp .ne 23, 3) := by decide +kernel
theorem dA44_8 : decode jdk_42_method_147_code 8 = .ok (.aload_n 0, 1) := by decide +kernel
theorem dA44_9 : decode jdk_42_method_147_code 9 = .ok (.getfield 9, 3) := by decide +kernel
theorem dA44_12 : decode jdk_42_method_147_code 12 = .ok (.iconst 0, 1) := by decide +kernel
theorem dA44_13 : decode jdk_42_method_147_code 13 = .ok (.aload_n 1, 1) := by decide +kernel
theorem dA44_14 : decode jdk_42_method_147_code 14 = .ok (.iload_n 2, 1) := by decide +kernel
theorem dA44_15 : decode jdk_42_method_147_code 15 = .ok (.iload_n 3, 1) := by decide +kernel
theorem dA44_16 : decode jdk_42_method_147_code 16 = .ok (.ishl, 1) := by decide +kernel
theorem dA44_17 : decode jdk_42_method_147_code 17 = .ok (.aload_n 0, 1) := by decide +kernel
theorem dA44_18 : decode jdk_42_method_147_code 18 = .ok (.getfield 9, 3) := by decide +kernel
theorem dA44_21 : decode jdk_42_method_147_code 21 = .ok (.arraylength, 1) := by decide +kernel
theorem dA44_22 : decode jdk_42_method_147_code 22 = .ok (.invokestatic 212, 3) := by decide +kernel
theorem dA44_25 : decode jdk_42_method_147_code 25 = .ok (.goto 18, 3) := by decide +kernel
theorem dA44_43 : decode jdk_42_method_147_code 43 = .ok (.return_, 1) := by decide +kernel
theorem efA44 (m : MethodId) (xo0_ : Addr) (xo1_ : Addr) : entryFrame m #[(.ref xo0_), (.ref xo1_), (.int (21 : Int32)), (.int (0 : Int32))] 4 = mkF m 0 #[.val (.ref xo0_), .val (.ref xo1_), .val (.int (21 : Int32)), .val (.int (0 : Int32))] [] := by first | (simp [entryFrame, mkF, argsToLocals, Value.category]; done) | rfl
def QA44 (Z : State) (xo0_ : Addr) (xo1_ : Addr) (uo1_ : Addr) (ui2_ : Int32) (k_uo1_ : ClassId) (ui3_ : Int32) (ui4_ : Int32) (ui5_ : Int32) (k_xo1_ : ClassId) (h0 : Heap) (n0 : Nat) (v : Option Value) (h : Heap) (L : List Loc) : Prop := v = none ∧ Fr n0 L ∧ Keep h0 h [xo1_] ∧ Arv Z h xo1_ k_xo1_ .byte (34 : Int32) [(.int ui3_), (.int (32 : Int32)), (.int (102 : Int32)), (.int (105 : Int32)), (.int (108 : Int32)), (.int (101 : Int32)), (.int (115 : Int32)), (.int (44 : Int32)), (.int (32 : Int32)), (.int ui4_), (.int (32 : Int32)), (.int (102 : Int32)), (.int (111 : Int32)), (.int (108 : Int32)), (.int (100 : Int32)), (.int (101 : Int32)), (.int (114 : Int32)), (.int (115 : Int32)), (.int (44 : Int32)), (.int (32 : Int32)), (.int ui5_), (.int (32 : Int32)), (.int (98 : Int32)), (.int (121 : Int32)), (.int (116 : Int32)), (.int (101 : Int32)), (.int (115 : Int32)), (.int (0 : Int32)), (.int (0 : Int32)), (.int (0 : Int32)), (.int (0 : Int32)), (.int (0 : Int32)), (.int (0 : Int32)), (.int (0 : Int32))] (.int (0 : Int32))
set_option maxRecDepth 65536 in
set_option maxHeartbeats 40000000 in
theorem rmA44 (l : Launch) (Z : State) (a0 : Array Value) (hw : ∀ d ∈ tables_1, d.before a0 Z = true) (ws : List Jvm.Cond) (xo0_ : Addr) (xo1_ : Addr) (uo1_ : Addr) (ui2_ : Int32) (k_uo1_ : ClassId) (ui3_ : Int32) (ui4_ : Int32) (ui5_ : Int32) (k_xo1_ : ClassId) (h0 : Heap) (n0 : Nat) (Z0 : n0 ≤ h0.size) (E_xo0_ : Exa Z h0 xo0_ "java/lang/String") (F_coder_xo0_ : Fld Z h0 xo0_ "java/lang/String" "coder" "B" (.int (0 : Int32))) (F_value_xo0_ : Fld Z h0 xo0_ "java/lang/String" "value" "[B" (.ref uo1_)) (X00 : Old Z n0 h0) (S_COMPACT_STRINGS : Sta Z Z.heap "java/lang/String" "COMPACT_STRINGS" "Z" (.int ui2_)) (hp0_ : ¬ (ui2_ = (0 : Int32))) (V_uo1_ : Arv Z h0 uo1_ k_uo1_ .byte (6 : Int32) [(.int (32 : Int32)), (.int (98 : Int32)), (.int (121 : Int32)), (.int (116 : Int32)), (.int (101 : Int32)), (.int (115 : Int32))] (.int 0)) (V_xo1_ : Arv Z h0 xo1_ k_xo1_ .byte (34 : Int32) [(.int ui3_), (.int (32 : Int32)), (.int (102 : Int32)), (.int (105 : Int32)), (.int (108 : Int32)), (.int (101 : Int32)), (.int (115 : Int32)), (.int (44 : Int32)), (.int (32 : Int32)), (.int ui4_), (.int (32 : Int32)), (.int (102 : Int32)), (.int (111 : Int32)), (.int (108 : Int32)), (.int (100 : Int32)), (.int (101 : Int32)), (.int (114 : Int32)), (.int (115 : Int32)), (.int (44 : Int32)), (.int (32 : Int32)), (.int ui5_), (.int (0 : Int32)), (.int (0 : Int32)), (.int (0 : Int32)), (.int (0 : Int32)), (.int (0 : Int32)), (.int (0 : Int32)), (.int (0 : Int32)), (.int (0 : Int32)), (.int (0 : Int32)), (.int (0 : Int32)), (.int (0 : Int32)), (.int (0 : Int32)), (.int (0 : Int32))] (.int (0 : Int32))) (g_xo1_ : n0 ≤ xo1_) :
    MetFree l (⟨"java/lang/String", "getBytes", "([BIB)V"⟩ : MethodName) (head1 (Jvm.Cond.code (⟨"java/lang/String", "getBytes", "([BIB)V"⟩ : MethodName) jdk_42_method_147_code 4 none :: ws) ({ frames := 1, cells := 0, slots := 0, locals := 40 } : Room)) (fun av_ U => av_ = #[(.ref xo0_), (.ref xo1_), (.int (21 : Int32)), (.int (0 : Int32))] ∧ Z.Warmed39 U.vm ∧ U.heap = h0) (fun _ _ _ _ _ => True) (fun _ U o U' => ∃ v L, o = .returned v ∧ QA44 Z xo0_ xo1_ uo1_ ui2_ k_uo1_ ui3_ ui4_ ui5_ k_xo1_ h0 n0 v U'.heap L ∧ FrameEnd U o U' L ({ frames := 1, cells := 0, slots := 0, locals := 40 } : Room).cells ({ frames := 1, cells := 0, slots := 0, locals := 40 } : Room).slots) := by
  refine MetFree.of_bodySF (plainFor_of_name own_pn4) hisR ?_
  intro p e s m args below meth c s₁ Bd hml0 hP hK
  obtain ⟨rfl, hZ, hh⟩ := hP
  have hx := Bd.exec
  have hby := Bd.bytes
  have hml : c.maxLocals = 4 := hml0
  have hown : s.vm.findClass "java/lang/String" = some m.cls := findClass_of_methodNamed Bd.named
  have hnm := (name_of_methodNamed Bd.named Bd.method).1
  have X0 : Stand p l e ({ frames := 1, cells := 0, slots := 0, locals := 40 } : Room) s m #[(.ref xo0_), (.ref xo1_), (.int (21 : Int32)), (.int (0 : Int32))] below meth c s₁ [] 0 0 := Stand.of_body Bd
  have e0 : s₁.heap = h0 := by rw [← hh, Bd.state]; rfl
  have N0 := Fr.nil n0
  have pre0 : ∀ t, Steps p.tables e below (s₁.setTop (mkF m 0 #[.val (.ref xo0_), .val (.ref xo1_), .val (.int (21 : Int32)), .val (.int (0 : Int32))] [])) t → Steps p.tables e below (s₁.setTop (entryFrame m #[(.ref xo0_), (.ref xo1_), (.int (21 : Int32)), (.int (0 : Int32))] 4)) t := fun t k => castTop (efA44 m xo0_ xo1_) k
  obtain ⟨cq1, kq1, q1a, q1b, q1c⟩ := isOf hZ e0 E_xo0_
  obtain ⟨_, _, ⟨T1, L1, k1, n1⟩, -, X1, ⟨Lc1, hQ1, l1, y1, z1⟩, st1⟩ := X0.virtualBack hx (y := (⟨"java/lang/String", "coder", "()B"⟩ : MethodName)) (z := (⟨"java/lang/String", "coder", "()B"⟩ : MethodName)) hown (mvT hZ (hw _ (List.mem_of_getElem? (i := 97) rfl))) (mvT hZ (hw _ (List.mem_of_getElem? (i := 98) rfl))) (notFace_of_selects (args := #[]) (mvT hZ (hw _ (List.mem_of_getElem? (i := 100) rfl)))) (mvT hZ (hw _ (List.mem_of_getElem? (i := 100) rfl))) (mvT hZ (hw _ (List.mem_of_getElem? (i := 99) rfl))) (by decide) (backOf (W := 0) (rmA11 l Z a0 hw [] xo0_ uo1_ ui2_ h0 n0 Z0 E_xo0_ F_coder_xo0_ F_value_xo0_ X00 S_COMPACT_STRINGS hp0_) hZ (hw _ (List.mem_of_getElem? (i := 101) rfl)) (hw _ (List.mem_of_getElem? (i := 37) rfl)) (by decide) (by decide)) q1a q1c (g := (mkF m 1 #[.val (.ref xo0_), .val (.ref xo1_), .val (.int (21 : Int32)), .val (.int (0 : Int32))] [(.ref xo0_)])) rfl (by rw [hml]; rfl) (Steps.refl _) (argsL := []) (rest := []) (lenOf own_pd7 rfl) rfl (by show 2 * 0 + _ ≤ _; exact Nat.le_of_eq rfl) (hb hby dA44_1) (fun _ _ => ⟨rfl, e0, (by decide : 0 + 0 ≤ _), (by decide : 0 + 0 ≤ _)⟩)
  dsimp only [Pt.U, Pt.locs, Pt.cells, Pt.slots] at X1 l1 y1 z1 st1 hQ1
  subst l1 y1 z1
  obtain ⟨rfl, Nq1, e1⟩ := hQ1
  have N1 := Fr.app N0 Nq1
  obtain ⟨T2, X2, e2, st2⟩ := getF X1 hx hZ hown (host := "") (Or.inl (hw _ (List.mem_of_getElem? (i := 96) rfl))) Via.refl e1 F_value_xo0_ (g := (mkF m 9 #[.val (.ref xo0_), .val (.ref xo1_), .val (.int (21 : Int32)), .val (.int (0 : Int32))] [(.ref xo0_)])) rfl rfl (hb hby dA44_9)
  obtain ⟨T3, X3, e3, st3⟩ := getF X2 hx hZ hown (host := "") (Or.inl (hw _ (List.mem_of_getElem? (i := 96) rfl))) Via.refl e2 F_value_xo0_ (g := (mkF m 18 #[.val (.ref xo0_), .val (.ref xo1_), .val (.int (21 : Int32)), .val (.int (0 : Int32))] [(.ref xo0_), (.int (21 : Int32)), (.ref xo1_), (.int (0 : Int32)), (.ref uo1_)])) rfl rfl (hb hby dA44_18)
  obtain ⟨cl4, Ar4, q4, S4, M4, Hs4, G4⟩ := (id V_uo1_)
  obtain ⟨T5, h5, L5, X5, e5, N5, Kc5, V5', st5⟩ := cpA X3 hx hZ hown (hw _ (List.mem_of_getElem? (i := 120) rfl)) (hw _ (List.mem_of_getElem? (i := 123) rfl)) (hw _ (List.mem_of_getElem? (i := 121) rfl)) (hw _ (List.mem_of_getElem? (i := 122) rfl)) e3 (us := [(.int (32 : Int32)), (.int (98 : Int32)), (.int (121 : Int32)), (.int (116 : Int32)), (.int (101 : Int32)), (.int (115 : Int32))]) V_uo1_ V_xo1_ (Or.inl ⟨rfl, rfl⟩) (by decide) (by decide) (by decide) (by decide) (by decide) rfl (by first | decide | exact Nat.le_of_ble_eq_true rfl) N1 g_xo1_ (g := (mkF m 22 #[.val (.ref xo0_), .val (.ref xo1_), .val (.int (21 : Int32)), .val (.int (0 : Int32))] [(.int (6 : Int32)), (.int (21 : Int32)), (.ref xo1_), (.int (0 : Int32)), (.ref uo1_)])) rfl (by rw [hml]; rfl) rfl (hb hby dA44_22) (by decide) (W := 0) (by show 2 * 0 + _ ≤ _; exact Nat.le_of_eq rfl) (by decide)
  have K5 : Keep h0 h5 [xo1_] := Keep.trans (Keep.refl h0 [xo1_]) Kc5 (allS (Or.inl (List.mem_of_getElem? (i := 0) rfl)) all0)
  have Zs5 : n0 ≤ h5.size := Nat.le_trans Z0 Kc5.1
  have V5 : Arv Z h5 xo1_ k_xo1_ .byte (34 : Int32) [(.int ui3_), (.int (32 : Int32)), (.int (102 : Int32)), (.int (105 : Int32)), (.int (108 : Int32)), (.int (101 : Int32)), (.int (115 : Int32)), (.int (44 : Int32)), (.int (32 : Int32)), (.int ui4_), (.int (32 : Int32)), (.int (102 : Int32)), (.int (111 : Int32)), (.int (108 : Int32)), (.int (100 : Int32)), (.int (101 : Int32)), (.int (114 : Int32)), (.int (115 : Int32)), (.int (44 : Int32)), (.int (32 : Int32)), (.int ui5_), (.int (32 : Int32)), (.int (98 : Int32)), (.int (121 : Int32)), (.int (116 : Int32)), (.int (101 : Int32)), (.int (115 : Int32)), (.int (0 : Int32)), (.int (0 : Int32)), (.int (0 : Int32)), (.int (0 : Int32)), (.int (0 : Int32)), (.int (0 : Int32)), (.int (0 : Int32))] (.int (0 : Int32)) := V5'
  obtain ⟨fs, hr, hrun, hended, hW, hsame⟩ := X5.leave (v := none) (fun _ => rfl)
  refine ⟨_, _, (pre0 _ ?_), hrun, hended, _, _, rfl, ?_, ⟨_, rfl⟩, hW, hsame.mono (by decide) (by decide)⟩
  · show Steps p.tables e below (s₁.setTop (mkF m 0 #[.val (.ref xo0_), .val (.ref xo1_), .val (.int (21 : Int32)), .val (.int (0 : Int32))] [])) _
    refine XS.aloadN X0.here hx rfl (hb hby dA44_0) rfl rfl ?_
    show Steps p.tables e below (s₁.setTop (mkF m 1 #[.val (.ref xo0_), .val (.ref xo1_), .val (.int (21 : Int32)), .val (.int (0 : Int32))] [(.ref xo0_)])) _
    refine st1.trans ?_
    show Steps p.tables e below (T1.setTop (mkF m 4 #[.val (.ref xo0_), .val (.ref xo1_), .val (.int (21 : Int32)), .val (.int (0 : Int32))] [(.int (0 : Int32))])) _
    refine XS.iloadN X1.here hx rfl (hb hby dA44_4) rfl ?_
    show Steps p.tables e below (T1.setTop (mkF m 5 #[.val (.ref xo0_), .val (.ref xo1_), .val (.int (21 : Int32)), .val (.int (0 : Int32))] [(.int (0 : Int32)), (.int (0 : Int32))])) _
    refine XS.icmpNo X1.here hx rfl (hb hby dA44_5) rfl (teq (by decide : (0 : Int32) = (0 : Int32))).2 ?_
    show Steps p.tables e below (T1.setTop (mkF m 8 #[.val (.ref xo0_), .val (.ref xo1_), .val (.int (21 : Int32)), .val (.int (0 : Int32))] [])) _
    refine XS.aloadN X1.here hx rfl (hb hby dA44_8) rfl rfl ?_
    show Steps p.tables e below (T1.setTop (mkF m 9 #[.val (.ref xo0_), .val (.ref xo1_), .val (.int (21 : Int32)), .val (.int (0 : Int32))] [(.ref xo0_)])) _
    refine st2 _ ?_
    show Steps p.tables e below (T2.setTop (mkF m 12 #[.val (.ref xo0_), .val (.ref xo1_), .val (.int (21 : Int32)), .val (.int (0 : Int32))] [(.ref uo1_)])) _
    refine XS.iconst X2.here hx rfl (hb hby dA44_12) ?_
    show Steps p.tables e below (T2.setTop (mkF m 13 #[.val (.ref xo0_), .val (.ref xo1_), .val (.int (21 : Int32)), .val (.int (0 : Int32))] [(.int (0 : Int32)), (.ref uo1_)])) _
    refine XS.aloadN X2.here hx rfl (hb hby dA44_13) rfl rfl ?_
    show Steps p.tables e below (T2.setTop (mkF m 14 #[.val (.ref xo0_), .val (.ref xo1_), .val (.int (21 : Int32)), .val (.int (0 : Int32))] [(.ref xo1_), (.int (0 : Int32)), (.ref uo1_)])) _
    refine XS.iloadN X2.here hx rfl (hb hby dA44_14) rfl ?_
    show Steps p.tables e below (T2.setTop (mkF m 15 #[.val (.ref xo0_), .val (.ref xo1_), .val (.int (21 : Int32)), .val (.int (0 : Int32))] [(.int (21 : Int32)), (.ref xo1_), (.int (0 : Int32)), (.ref uo1_)])) _
    refine XS.iloadN X2.here hx rfl (hb hby dA44_15) rfl ?_
    show Steps p.tables e below (T2.setTop (mkF m 16 #[.val (.ref xo0_), .val (.ref xo1_), .val (.int (21 : Int32)), .val (.int (0 : Int32))] [(.int (0 : Int32)), (.int (21 : Int32)), (.ref xo1_), (.int (0 : Int32)), (.ref uo1_)])) _
    refine XS.ishl X2.here hx rfl (hb hby dA44_16) rfl ?_
    rw [show ((21 : Int32) <<< ((0 : Int32) &&& 31)) = (21 : Int32) from by decide]
    show Steps p.tables e below (T2.setTop (mkF m 17 #[.val (.ref xo0_), .val (.ref xo1_), .val (.int (21 : Int32)), .val (.int (0 : Int32))] [(.int (21 : Int32)), (.ref xo1_), (.int (0 : Int32)), (.ref uo1_)])) _
    refine XS.aloadN X2.here hx rfl (hb hby dA44_17) rfl rfl ?_
    show Steps p.tables e below (T2.setTop (mkF m 18 #[.val (.ref xo0_), .val (.ref xo1_), .val (.int (21 : Int32)), .val (.int (0 : Int32))] [(.ref xo0_), (.int (21 : Int32)), (.ref xo1_), (.int (0 : Int32)), (.ref uo1_)])) _
    refine st3 _ ?_
    show Steps p.tables e below (T3.setTop (mkF m 21 #[.val (.ref xo0_), .val (.ref xo1_), .val (.int (21 : Int32)), .val (.int (0 : Int32))] [(.ref uo1_), (.int (21 : Int32)), (.ref xo1_), (.int (0 : Int32)), (.ref uo1_)])) _
    refine X3.arraylength hx (by rw [e3]; exact Ar4.1) (State.isArrayOf_alike hZ.alike Ar4.2.1) (g := (mkF m 21 #[.val (.ref xo0_), .val (.ref xo1_), .val (.int (21 : Int32)), .val (.int (0 : Int32))] [(.ref uo1_), (.int (21 : Int32)), (.ref xo1_), (.int (0 : Int32)), (.ref uo1_)])) rfl rfl (hb hby dA44_21) _ ?_
    rw [len_of S4 M4]
    show Steps p.tables e below (T3.setTop (mkF m 22 #[.val (.ref xo0_), .val (.ref xo1_), .val (.int (21 : Int32)), .val (.int (0 : Int32))] [(.int (6 : Int32)), (.int (21 : Int32)), (.ref xo1_), (.int (0 : Int32)), (.ref uo1_)])) _
    refine st5 _ ?_
    show Steps p.tables e below (T5.setTop (mkF m 25 #[.val (.ref xo0_), .val (.ref xo1_), .val (.int (21 : Int32)), .val (.int (0 : Int32))] [])) _
    refine XS.goto X5.here hx rfl (pc0 := 25) (pc' := 43) rfl (hb hby dA44_25) (by decide) (by decide) ?_
    show Steps p.tables e below (T5.setTop (mkF m 43 #[.val (.ref xo0_), .val (.ref xo1_), .val (.int (21 : Int32)), .val (.int (0 : Int32))] [])) _
    exact X5.returnOut hx Bd.returns (hb hby dA44_43) hr
  · show QA44 Z xo0_ xo1_ uo1_ ui2_ k_uo1_ ui3_ ui4_ ui5_ k_xo1_ h0 n0 _ T5.heap _
    rw [e5]
    exact ⟨rfl, N5, K5, V5⟩
theorem dA42_0 : decode jdk_68_method_73_code 0 = .ok (.aload_n 0, 1) := by decide +kernel
theorem dA42_1 : decode jdk_68_method_73_code 1 = .ok (.aload_n 2, 1) := by decide +kernel
theorem dA42_2 : decode jdk_68_method_73_code 2 = .ok (.invokevirtual 397, 3) := by decide +kernel
theorem dA42_5 : decode jdk_68_method_73_code 5 = .ok (.aload_n 2, 1) := by decide +kernel
theorem dA42_6 : decode jdk_68_method_73_code 6 = .ok (.aload_n 0, 1) := by decide +kernel
theorem dA42_7 : decode jdk_68_method_73_code 7 = .ok (.getfield 15, 3) := by decide +kernel
theorem dA42_10 : decode jdk_68_method_73_code 10 = .ok (.iload_n 1, 1) := by decide +kernel
theorem dA42_11 : decode jdk_68_method_73_code 11 = .ok (.aload_n 0, 1) := by decide +kernel
theorem dA42_12 : decode jdk_68_method_73_code 12 = .ok (.getfield 22, 3) := by decide +kernel
theorem dA42_15 : decode jdk_68_method_73_code 15 = .ok (.invokevirtual 399, 3) := by decide +kernel
theorem dA42_18 : decode jdk_68_method_73_code 18 = .ok (.return_, 1) := by decide +kernel
theorem efA42 (m : MethodId) (xo0_ : Addr) (xo2_ : Addr) : entryFrame m #[(.ref xo0_), (.int (21 : Int32)), (.ref xo2_)] 3 = mkF m 0 #[.val (.ref xo0_), .val (.int (21 : Int32)), .val (.ref xo2_)] [] := by first | (simp [entryFrame, mkF, argsToLocals, Value.category]; done) | rfl
def QA42 (Z : State) (xo0_ : Addr) (xo2_ : Addr) (uo1_ : Addr) (uo2_ : Addr) (ui3_ : Int32) (k_uo2_ : ClassId) (ui4_ : Int32) (ui5_ : Int32) (ui6_ : Int32) (k_uo1_ : ClassId) (h0 : Heap) (n0 : Nat) (v : Option Value) (h : Heap) (L : List Loc) : Prop := v = none ∧ Fr n0 L ∧ Keep h0 h [uo1_] ∧ Arv Z h uo1_ k_uo1_ .byte (34 : Int32) [(.int ui4_), (.int (32 : Int32)), (.int (102 : Int32)), (.int (105 : Int32)), (.int (108 : Int32)), (.int (101 : Int32)), (.int (115 : Int32)), (.int (44 : Int32)), (.int (32 : Int32)), (.int ui5_), (.int (32 : Int32)), (.int (102 : Int32)), (.int (111 : Int32)), (.int (108 : Int32)), (.int (100 : Int32)), (.int (101 : Int32)), (.int (114 : Int32)), (.int (115 : Int32)), (.int (44 : Int32)), (.int (32 : Int32)), (.int ui6_), (.int (32 : Int32)), (.int (98 : Int32)), (.int (121 : Int32)), (.int (116 : Int32)), (.int (101 : Int32)), (.int (115 : Int32)), (.int (0 : Int32)), (.int (0 : Int32)), (.int (0 : Int32)), (.int (0 : Int32)), (.int (0 : Int32)), (.int (0 : Int32)), (.int (0 : Int32))] (.int (0 : Int32))
set_option maxRecDepth 65536 in
set_option maxHeartbeats 40000000 in
theorem rmA42 (l : Launch) (Z : State) (a0 : Array Value) (hw : ∀ d ∈ tables_1, d.before a0 Z = true) (ws : List Jvm.Cond) (xo0_ : Addr) (xo2_ : Addr) (uo1_ : Addr) (uo2_ : Addr) (ui3_ : Int32) (k_uo2_ : ClassId) (ui4_ : Int32) (ui5_ : Int32) (ui6_ : Int32) (k_uo1_ : ClassId) (h0 : Heap) (n0 : Nat) (Z0 : n0 ≤ h0.size) (E_xo0_ : Exa Z h0 xo0_ "java/lang/StringBuilder") (F_value_xo0_ : Fld Z h0 xo0_ "java/lang/AbstractStringBuilder" "value" "[B" (.ref uo1_)) (F_coder_xo0_ : Fld Z h0 xo0_ "java/lang/AbstractStringBuilder" "coder" "B" (.int (0 : Int32))) (F_count_xo0_ : Fld Z h0 xo0_ "java/lang/AbstractStringBuilder" "count" "I" (.int (21 : Int32))) (E_xo2_ : Exa Z h0 xo2_ "java/lang/String") (F_coder_xo2_ : Fld Z h0 xo2_ "java/lang/String" "coder" "B" (.int (0 : Int32))) (F_value_xo2_ : Fld Z h0 xo2_ "java/lang/String" "value" "[B" (.ref uo2_)) (X00 : Old Z n0 h0) (S_COMPACT_STRINGS : Sta Z Z.heap "java/lang/String" "COMPACT_STRINGS" "Z" (.int ui3_)) (hp0_ : ¬ (ui3_ = (0 : Int32))) (V_uo2_ : Arv Z h0 uo2_ k_uo2_ .byte (6 : Int32) [(.int (32 : Int32)), (.int (98 : Int32)), (.int (121 : Int32)), (.int (116 : Int32)), (.int (101 : Int32)), (.int (115 : Int32))] (.int 0)) (V_uo1_ : Arv Z h0 uo1_ k_uo1_ .byte (34 : Int32) [(.int ui4_), (.int (32 : Int32)), (.int (102 : Int32)), (.int (105 : Int32)), (.int (108 : Int32)), (.int (101 : Int32)), (.int (115 : Int32)), (.int (44 : Int32)), (.int (32 : Int32)), (.int ui5_), (.int (32 : Int32)), (.int (102 : Int32)), (.int (111 : Int32)), (.int (108 : Int32)), (.int (100 : Int32)), (.int (101 : Int32)), (.int (114 : Int32)), (.int (115 : Int32)), (.int (44 : Int32)), (.int (32 : Int32)), (.int ui6_), (.int (0 : Int32)), (.int (0 : Int32)), (.int (0 : Int32)), (.int (0 : Int32)), (.int (0 : Int32)), (.int (0 : Int32)), (.int (0 : Int32)), (.int (0 : Int32)), (.int (0 : Int32)), (.int (0 : Int32)), (.int (0 : Int32)), (.int (0 : Int32)), (.int (0 : Int32))] (.int (0 : Int32))) (g_uo1_ : n0 ≤ uo1_) :
    MetFree l (⟨"java/lang/AbstractStringBuilder", "putStringAt", "(ILjava/lang/String;)V"⟩ : MethodName) (head1 (Jvm.Cond.code (⟨"java/lang/AbstractStringBuilder", "putStringAt", "(ILjava/lang/String;)V"⟩ : MethodName) jdk_68_method_73_code 3 none :: ws) ({ frames := 2, cells := 0, slots := 0, locals := 55 } : Room)) (fun av_ U => av_ = #[(.ref xo0_), (.int (21 : Int32)), (.ref xo2_)] ∧ Z.Warmed39 U.vm ∧ U.heap = h0) (fun _ _ _ _ _ => True) (fun _ U o U' => ∃ v L, o = .returned v ∧ QA42 Z xo0_ xo2_ uo1_ uo2_ ui3_ k_uo2_ ui4_ ui5_ ui6_ k_uo1_ h0 n0 v U'.heap L ∧ FrameEnd U o U' L ({ frames := 2, cells := 0, slots := 0, locals := 55 } : Room).cells ({ frames := 2, cells := 0, slots := 0, locals := 55 } : Room).slots) := by
  refine MetFree.of_bodySF (plainFor_of_name own_pn1) hisR ?_
  intro p e s m args below meth c s₁ Bd hml0 hP hK
  obtain ⟨rfl, hZ, hh⟩ := hP
  have hx := Bd.exec
  have hby := Bd.bytes
  have hml : c.maxLocals = 3 := hml0
  have hown : s.vm.findClass "java/lang/AbstractStringBuilder" = some m.cls := findClass_of_methodNamed Bd.named
  have hnm := (name_of_methodNamed Bd.named Bd.method).1
  have X0 : Stand p l e ({ frames := 2, cells := 0, slots := 0, locals := 55 } : Room) s m #[(.ref xo0_), (.int (21 : Int32)), (.ref xo2_)] below meth c s₁ [] 0 0 := Stand.of_body Bd
  have e0 : s₁.heap = h0 := by rw [← hh, Bd.state]; rfl
  have N0 := Fr.nil n0
  have pre0 : ∀ t, Steps p.tables e below (s₁.setTop (mkF m 0 #[.val (.ref xo0_), .val (.int (21 : Int32)), .val (.ref xo2_)] [])) t → Steps p.tables e below (s₁.setTop (entryFrame m #[(.ref xo0_), (.int (21 : Int32)), (.ref xo2_)] 3)) t := fun t k => castTop (efA42 m xo0_ xo2_) k
  obtain ⟨cq1, qa1, qb1⟩ := E_xo0_.cell
  obtain ⟨_, _, ⟨T1, L1, k1, n1⟩, -, X1, ⟨Lc1, hQ1, l1, y1, z1⟩, st1⟩ := X0.privateBack hx (y := (⟨"java/lang/AbstractStringBuilder", "inflateIfNeededFor", "(Ljava/lang/String;)V"⟩ : MethodName)) hown (mvT hZ (hw _ (List.mem_of_getElem? (i := 109) rfl))) (mvT hZ (hw _ (List.mem_of_getElem? (i := 110) rfl))) (selfSel hZ (hw _ (List.mem_of_getElem? (i := 112) rfl)) (hw _ (List.mem_of_getElem? (i := 110) rfl)) (hw _ (List.mem_of_getElem? (i := 111) rfl)) (by decide)) (Cond.privateMethod_at (mvP hZ (hw _ (List.mem_of_getElem? (i := 111) rfl)) (args := #[]))) (mvT hZ (hw _ (List.mem_of_getElem? (i := 113) rfl))) (by decide) (backOf (W := 0) (rmA43 l Z a0 hw [] xo0_ xo2_ uo1_ uo2_ ui3_ h0 n0 Z0 E_xo0_ F_value_xo0_ F_coder_xo0_ F_count_xo0_ E_xo2_ F_coder_xo2_ F_value_xo2_ X00 S_COMPACT_STRINGS hp0_) hZ (hw _ (List.mem_of_getElem? (i := 113) rfl)) (hw _ (List.mem_of_getElem? (i := 33) rfl)) (by decide) (by decide)) (g := (mkF m 2 #[.val (.ref xo0_), .val (.int (21 : Int32)), .val (.ref xo2_)] [(.ref xo2_), (.ref xo0_)])) rfl (by rw [hml]; rfl) (Steps.refl _) (a := xo0_) (by rw [e0]; exact qa1) qb1 (argsL := [(.ref xo2_)]) (rest := []) (lenOf own_pd9 rfl) rfl (by show 2 * 0 + _ ≤ _; exact Nat.le_of_eq rfl) (hb hby dA42_2) (fun _ _ => ⟨rfl, e0, (by decide : 0 + 0 ≤ _), (by decide : 0 + 0 ≤ _)⟩)
  dsimp only [Pt.U, Pt.locs, Pt.cells, Pt.slots] at X1 l1 y1 z1 st1 hQ1
  subst l1 y1 z1
  obtain ⟨rfl, Nq1, e1⟩ := hQ1
  have N1 := Fr.app N0 Nq1
  obtain ⟨T2, X2, e2, st2⟩ := getF X1 hx hZ hown (host := "") (Or.inl (hw _ (List.mem_of_getElem? (i := 39) rfl))) Via.refl e1 F_value_xo0_ (g := (mkF m 7 #[.val (.ref xo0_), .val (.int (21 : Int32)), .val (.ref xo2_)] [(.ref xo0_), (.ref xo2_)])) rfl rfl (hb hby dA42_7)
  obtain ⟨T3, X3, e3, st3⟩ := getF X2 hx hZ hown (host := "") (Or.inl (hw _ (List.mem_of_getElem? (i := 41) rfl))) Via.refl e2 F_coder_xo0_ (g := (mkF m 12 #[.val (.ref xo0_), .val (.int (21 : Int32)), .val (.ref xo2_)] [(.ref xo0_), (.int (21 : Int32)), (.ref uo1_), (.ref xo2_)])) rfl rfl (hb hby dA42_12)
  obtain ⟨cq4, kq4, q4a, q4b, q4c⟩ := isOf hZ e3 E_xo2_
  obtain ⟨_, _, ⟨T4, L4, k4, n4⟩, -, X4, ⟨Lc4, hQ4, l4, y4, z4⟩, st4⟩ := X3.virtualBack hx (y := (⟨"java/lang/String", "getBytes", "([BIB)V"⟩ : MethodName)) (z := (⟨"java/lang/String", "getBytes", "([BIB)V"⟩ : MethodName)) hown (mvT hZ (hw _ (List.mem_of_getElem? (i := 115) rfl))) (mvT hZ (hw _ (List.mem_of_getElem? (i := 116) rfl))) (notFace_of_selects (args := #[]) (mvT hZ (hw _ (List.mem_of_getElem? (i := 118) rfl)))) (mvT hZ (hw _ (List.mem_of_getElem? (i := 118) rfl))) (mvT hZ (hw _ (List.mem_of_getElem? (i := 117) rfl))) (by decide) (backOf (W := 0) (rmA44 l Z a0 hw [] xo2_ uo1_ uo2_ ui3_ k_uo2_ ui4_ ui5_ ui6_ k_uo1_ h0 n0 Z0 E_xo2_ F_coder_xo2_ F_value_xo2_ X00 S_COMPACT_STRINGS hp0_ V_uo2_ V_uo1_ g_uo1_) hZ (hw _ (List.mem_of_getElem? (i := 119) rfl)) (hw _ (List.mem_of_getElem? (i := 37) rfl)) (by decide) (by decide)) q4a q4c (g := (mkF m 15 #[.val (.ref xo0_), .val (.int (21 : Int32)), .val (.ref xo2_)] [(.int (0 : Int32)), (.int (21 : Int32)), (.ref uo1_), (.ref xo2_)])) rfl (by rw [hml]; rfl) (Steps.refl _) (argsL := [(.ref uo1_), (.int (21 : Int32)), (.int (0 : Int32))]) (rest := []) (lenOf own_pd10 rfl) rfl (by show 2 * 0 + _ ≤ _; exact Nat.le_of_eq rfl) (hb hby dA42_15) (fun _ _ => ⟨rfl, e3, (by decide : 0 + 0 ≤ _), (by decide : 0 + 0 ≤ _)⟩)
  dsimp only [Pt.U, Pt.locs, Pt.cells, Pt.slots] at X4 l4 y4 z4 st4 hQ4
  subst l4 y4 z4
  obtain ⟨rfl, Nq4, Kc4, q4_0⟩ := hQ4
  have K4 : Keep h0 T4.heap [uo1_] := Keep.trans (Keep.refl h0 [uo1_]) Kc4 (allS (Or.inl (List.mem_of_getElem? (i := 0) rfl)) all0)
  have Zs4 : n0 ≤ T4.heap.size := Nat.le_trans Z0 Kc4.1
  have N4 := Fr.app N1 Nq4
  obtain ⟨fs, hr, hrun, hended, hW, hsame⟩ := X4.leave (v := none) (fun _ => rfl)
  refine ⟨_, _, (pre0 _ ?_), hrun, hended, _, _, rfl, ?_, ⟨_, rfl⟩, hW, hsame.mono (by decide) (by decide)⟩
  · show Steps p.tables e below (s₁.setTop (mkF m 0 #[.val (.ref xo0_), .val (.int (21 : Int32)), .val (.ref xo2_)] [])) _
    refine XS.aloadN X0.here hx rfl (hb hby dA42_0) rfl rfl ?_
    show Steps p.tables e below (s₁.setTop (mkF m 1 #[.val (.ref xo0_), .val (.int (21 : Int32)), .val (.ref xo2_)] [(.ref xo0_)])) _
    refine XS.aloadN X0.here hx rfl (hb hby dA42_1) rfl rfl ?_
    show Steps p.tables e below (s₁.setTop (mkF m 2 #[.val (.ref xo0_), .val (.int (21 : Int32)), .val (.ref xo2_)] [(.ref xo2_), (.ref xo0_)])) _
    refine st1.trans ?_
    show Steps p.tables e below (T1.setTop (mkF m 5 #[.val (.ref xo0_), .val (.int (21 : Int32)), .val (.ref xo2_)] [])) _
    refine XS.aloadN X1.here hx rfl (hb hby dA42_5) rfl rfl ?_
    show Steps p.tables e below (T1.setTop (mkF m 6 #[.val (.ref xo0_), .val (.int (21 : Int32)), .val (.ref xo2_)] [(.ref xo2_)])) _
    refine XS.aloadN X1.here hx rfl (hb hby dA42_6) rfl rfl ?_
    show Steps p.tables e below (T1.setTop (mkF m 7 #[.val (.ref xo0_), .val (.int (21 : Int32)), .val (.ref xo2_)] [(.ref xo0_), (.ref xo2_)])) _
    refine st2 _ ?_
    show Steps p.tables e below (T2.setTop (mkF m 10 #[.val (.ref xo0_), .val (.int (21 : Int32)), .val (.ref xo2_)] [(.ref uo1_), (.ref xo2_)])) _
    refine XS.iloadN X2.here hx rfl (hb hby dA42_10) rfl ?_
    show Steps p.tables e below (T2.setTop (mkF m 11 #[.val (.ref xo0_), .val (.int (21 : Int32)), .val (.ref xo2_)] [(.int (21 : Int32)), (.ref uo1_), (.ref xo2_)])) _
    refine XS.aloadN X2.here hx rfl (hb hby dA42_11) rfl rfl ?_
    show Steps p.tables e below (T2.setTop (mkF m 12 #[.val (.ref xo0_), .val (.int (21 : Int32)), .val (.ref xo2_)] [(.ref xo0_), (.int (21 : Int32)), (.ref uo1_), (.ref xo2_)])) _
    refine st3 _ ?_
    show Steps p.tables e below (T3.setTop (mkF m 15 #[.val (.ref xo0_), .val (.int (21 : Int32)), .val (.ref xo2_)] [(.int (0 : Int32)), (.int (21 : Int32)), (.ref uo1_), (.ref xo2_)])) _
    refine st4.trans ?_
    show Steps p.tables e below (T4.setTop (mkF m 18 #[.val (.ref xo0_), .val (.int (21 : Int32)), .val (.ref xo2_)] [])) _
    exact X4.returnOut hx Bd.returns (hb hby dA42_18) hr
  · show QA42 Z xo0_ xo2_ uo1_ uo2_ ui3_ k_uo2_ ui4_ ui5_ ui6_ k_uo1_ h0 n0 _ T4.heap _
    exact ⟨rfl, N4, K4, q4_0⟩
theorem dA39_0 : decode jdk_68_method_22_code 0 = .ok (.aload_n 1, 1) := by decide +kernel
theorem dA39_1 : decode jdk_68_method_22_code 1 = .ok (.ifnonnull 8, 3) := by decide +kernel
theorem dA39_9 : decode jdk_68_method_22_code 9 = .ok (.aload_n 1, 1) := by decide +kernel
theorem dA39_10 : decode jdk_68_method_22_code 10 = .ok (.invokevirtual 32, 3) := by decide +kernel
theorem dA39_13 : decode jdk_68_method_22_code 13 = .ok (.istore_n 2, 1) := by decide +kernel
theorem dA39_14 : decode jdk_68_method_22_code 14 = .ok (.aload_n 0, 1) := by decide +kernel
theorem dA39_15 : decode jdk_68_method_22_code 15 = .ok (.aload_n 0, 1) := by decide +kernel
theorem dA39_16 : decode jdk_68_method_22_code 16 = .ok (.getfield 79, 3) := by decide +kernel
theorem dA39_19 : decode jdk_68_method_22_code 19 = .ok (.iload_n 2, 1) := by decide +kernel
theorem dA39_20 : decode jdk_68_method_22_code 20 = .ok (.iadd, 1) := by decide +kernel
theorem dA39_21 : decode jdk_68_method_22_code 21 = .ok (.invokevirtual 100, 3) := by decide +kernel
theorem dA39_24 : decode jdk_68_method_22_code 24 = .ok (.aload_n 0, 1) := by decide +kernel
theorem dA39_25 : decode jdk_68_method_22_code 25 = .ok (.aload_n 0, 1) := by decide +kernel
theorem dA39_26 : decode jdk_68_method_22_code 26 = .ok (.getfield 79, 3) := by decide +kernel
theorem dA39_29 : decode jdk_68_method_22_code 29 = .ok (.aload_n 1, 1) := by decide +kernel
theorem dA39_30 : decode jdk_68_method_22_code 30 = .ok (.invokevirtual 208, 3) := by decide +kernel
theorem dA39_33 : decode jdk_68_method_22_code 33 = .ok (.aload_n 0, 1) := by decide +kernel
theorem dA39_34 : decode jdk_68_method_22_code 34 = .ok (.dup, 1) := by decide +kernel
theorem dA39_35 : decode jdk_68_method_22_code 35 = .ok (.getfield 79, 3) := by decide +kernel
theorem dA39_38 : decode jdk_68_method_22_code 38 = .ok (.iload_n 2, 1) := by decide +kernel
theorem dA39_39 : decode jdk_68_method_22_code 39 = .ok (.iadd, 1) := by decide +kernel
theorem dA39_40 : decode jdk_68_method_22_code 40 = .ok (.putfield 79, 3) := by decide +kernel
theorem dA39_43 : decode jdk_68_method_22_code 43 = .ok (.aload_n 0, 1) := by decide +kernel
theorem dA39_44 : decode jdk_68_method_22_code 44 = .ok (.areturn, 1) := by decide +kernel
theorem efA39 (m : MethodId) (xo0_ : Addr) (xo1_ : Addr) : entryFrame m #[(.ref xo0_), (.ref xo1_)] 3 = mkF m 0 #[.val (.ref xo0_), .val (.ref xo1_), .unset] [] := by first | (simp [entryFrame, mkF, argsToLocals, Value.category]; done) | rfl
def QA39 (Z : State) (xo0_ : Addr) (xo1_ : Addr) (uo1_ : Addr) (uo2_ : Addr) (k_uo2_ : ClassId) (ui3_ : Int32) (ui4_ : Int32) (ui5_ : Int32) (ui6_ : Int32) (k_uo1_ : ClassId) (h0 : Heap) (n0 : Nat) (v : Option Value) (h : Heap) (L : List Loc) : Prop := v = some (.ref xo0_) ∧ Fr n0 L ∧ Keep h0 h [uo1_, xo0_] ∧ Arv Z h uo1_ k_uo1_ .byte (34 : Int32) [(.int ui4_), (.int (32 : Int32)), (.int (102 : Int32)), (.int (105 : Int32)), (.int (108 : Int32)), (.int (101 : Int32)), (.int (115 : Int32)), (.int (44 : Int32)), (.int (32 : Int32)), (.int ui5_), (.int (32 : Int32)), (.int (102 : Int32)), (.int (111 : Int32)), (.int (108 : Int32)), (.int (100 : Int32)), (.int (101 : Int32)), (.int (114 : Int32)), (.int (115 : Int32)), (.int (44 : Int32)), (.int (32 : Int32)), (.int ui6_), (.int (32 : Int32)), (.int (98 : Int32)), (.int (121 : Int32)), (.int (116 : Int32)), (.int (101 : Int32)), (.int (115 : Int32)), (.int (0 : Int32)), (.int (0 : Int32)), (.int (0 : Int32)), (.int (0 : Int32)), (.int (0 : Int32)), (.int (0 : Int32)), (.int (0 : Int32))] (.int (0 : Int32)) ∧ Exa Z h xo0_ "java/lang/StringBuilder" ∧ Fld Z h xo0_ "java/lang/AbstractStringBuilder" "value" "[B" (.ref uo1_) ∧ Fld Z h xo0_ "java/lang/AbstractStringBuilder" "coder" "B" (.int (0 : Int32)) ∧ Fld Z h xo0_ "java/lang/AbstractStringBuilder" "count" "I" (.int (27 : Int32))
set_option maxRecDepth 65536 in
set_option maxHeartbeats 40000000 in
theorem rmA39 (l : Launch) (Z : State) (a0 : Array Value) (hw : ∀ d ∈ tables_1, d.before a0 Z = true) (ws : List Jvm.Cond) (xo0_ : Addr) (xo1_ : Addr) (uo1_ : Addr) (uo2_ : Addr) (k_uo2_ : ClassId) (ui3_ : Int32) (ui4_ : Int32) (ui5_ : Int32) (ui6_ : Int32) (k_uo1_ : ClassId) (h0 : Heap) (n0 : Nat) (Z0 : n0 ≤ h0.size) (E_xo0_ : Exa Z h0 xo0_ "java/lang/StringBuilder") (F_value_xo0_ : Fld Z h0 xo0_ "java/lang/AbstractStringBuilder" "value" "[B" (.ref uo1_)) (F_coder_xo0_ : Fld Z h0 xo0_ "java/lang/AbstractStringBuilder" "coder" "B" (.int (0 : Int32))) (F_count_xo0_ : Fld Z h0 xo0_ "java/lang/AbstractStringBuilder" "count" "I" (.int (21 : Int32))) (E_xo1_ : Exa Z h0 xo1_ "java/lang/String") (F_coder_xo1_ : Fld Z h0 xo1_ "java/lang/String" "coder" "B" (.int (0 : Int32))) (F_value_xo1_ : Fld Z h0 xo1_ "java/lang/String" "value" "[B" (.ref uo2_)) (V_uo2_ : Arv Z h0 uo2_ k_uo2_ .byte (6 : Int32) [(.int (32 : Int32)), (.int (98 : Int32)), (.int (121 : Int32)), (.int (116 : Int32)), (.int (101 : Int32)), (.int (115 : Int32))] (.int 0)) (X00 : Old Z n0 h0) (S_COMPACT_STRINGS : Sta Z Z.heap "java/lang/String" "COMPACT_STRINGS" "Z" (.int ui3_)) (hp0_ : ¬ (ui3_ = (0 : Int32))) (V_uo1_ : Arv Z h0 uo1_ k_uo1_ .byte (34 : Int32) [(.int ui4_), (.int (32 : Int32)), (.int (102 : Int32)), (.int (105 : Int32)), (.int (108 : Int32)), (.int (101 : Int32)), (.int (115 : Int32)), (.int (44 : Int32)), (.int (32 : Int32)), (.int ui5_), (.int (32 : Int32)), (.int (102 : Int32)), (.int (111 : Int32)), (.int (108 : Int32)), (.int (100 : Int32)), (.int (101 : Int32)), (.int (114 : Int32)), (.int (115 : Int32)), (.int (44 : Int32)), (.int (32 : Int32)), (.int ui6_), (.int (0 : Int32)), (.int (0 : Int32)), (.int (0 : Int32)), (.int (0 : Int32)), (.int (0 : Int32)), (.int (0 : Int32)), (.int (0 : Int32)), (.int (0 : Int32)), (.int (0 : Int32)), (.int (0 : Int32)), (.int (0 : Int32)), (.int (0 : Int32)), (.int (0 : Int32))] (.int (0 : Int32))) (g_uo1_ : n0 ≤ uo1_) (g_xo0_ : n0 ≤ xo0_) :
    MetFree l (⟨"java/lang/AbstractStringBuilder", "append", "(Ljava/lang/String;)Ljava/lang/AbstractStringBuilder;"⟩ : MethodName) (head1 (Jvm.Cond.code (⟨"java/lang/AbstractStringBuilder", "append", "(Ljava/lang/String;)Ljava/lang/AbstractStringBuilder;"⟩ : MethodName) jdk_68_method_22_code 3 (some (.object "java/lang/AbstractStringBuilder")) :: ws) ({ frames := 3, cells := 0, slots := 0, locals := 69 } : Room)) (fun av_ U => av_ = #[(.ref xo0_), (.ref xo1_)] ∧ Z.Warmed39 U.vm ∧ U.heap = h0) (fun _ _ _ _ _ => True) (fun _ U o U' => ∃ v L, o = .returned v ∧ QA39 Z xo0_ xo1_ uo1_ uo2_ k_uo2_ ui3_ ui4_ ui5_ ui6_ k_uo1_ h0 n0 v U'.heap L ∧ FrameEnd U o U' L ({ frames := 3, cells := 0, slots := 0, locals := 69 } : Room).cells ({ frames := 3, cells := 0, slots := 0, locals := 69 } : Room).slots) := by
  refine MetFree.of_bodySF (plainFor_of_name own_pn1) hisR ?_
  intro p e s m args below meth c s₁ Bd hml0 hP hK
  obtain ⟨rfl, hZ, hh⟩ := hP
  have hx := Bd.exec
  have hby := Bd.bytes
  have hml : c.maxLocals = 3 := hml0
  have hown : s.vm.findClass "java/lang/AbstractStringBuilder" = some m.cls := findClass_of_methodNamed Bd.named
  have hnm := (name_of_methodNamed Bd.named Bd.method).1
  have X0 : Stand p l e ({ frames := 3, cells := 0, slots := 0, locals := 69 } : Room) s m #[(.ref xo0_), (.ref xo1_)] below meth c s₁ [] 0 0 := Stand.of_body Bd
  have e0 : s₁.heap = h0 := by rw [← hh, Bd.state]; rfl
  have N0 := Fr.nil n0
  have pre0 : ∀ t, Steps p.tables e below (s₁.setTop (mkF m 0 #[.val (.ref xo0_), .val (.ref xo1_), .unset] [])) t → Steps p.tables e below (s₁.setTop (entryFrame m #[(.ref xo0_), (.ref xo1_)] 3)) t := fun t k => castTop (efA39 m xo0_ xo1_) k
  obtain ⟨cq1, kq1, q1a, q1b, q1c⟩ := isOf hZ e0 E_xo1_
  obtain ⟨_, _, ⟨T1, L1, k1, n1⟩, -, X1, ⟨Lc1, hQ1, l1, y1, z1⟩, st1⟩ := X0.virtualBack hx (y := (⟨"java/lang/String", "length", "()I"⟩ : MethodName)) (z := (⟨"java/lang/String", "length", "()I"⟩ : MethodName)) hown (mvT hZ (hw _ (List.mem_of_getElem? (i := 91) rfl))) (mvT hZ (hw _ (List.mem_of_getElem? (i := 92) rfl))) (notFace_of_selects (args := #[]) (mvT hZ (hw _ (List.mem_of_getElem? (i := 94) rfl)))) (mvT hZ (hw _ (List.mem_of_getElem? (i := 94) rfl))) (mvT hZ (hw _ (List.mem_of_getElem? (i := 93) rfl))) (by decide) (backOf (W := 0) (rmA40 l Z a0 hw [] xo1_ uo2_ k_uo2_ ui3_ h0 n0 Z0 E_xo1_ F_coder_xo1_ F_value_xo1_ V_uo2_ X00 S_COMPACT_STRINGS hp0_) hZ (hw _ (List.mem_of_getElem? (i := 95) rfl)) (hw _ (List.mem_of_getElem? (i := 37) rfl)) (by decide) (by decide)) q1a q1c (g := (mkF m 10 #[.val (.ref xo0_), .val (.ref xo1_), .unset] [(.ref xo1_)])) rfl (by rw [hml]; rfl) (Steps.refl _) (argsL := []) (rest := []) (lenOf own_pd8 rfl) rfl (by show 2 * 0 + _ ≤ _; exact Nat.le_of_eq rfl) (hb hby dA39_10) (fun _ _ => ⟨rfl, e0, (by decide : 0 + 0 ≤ _), (by decide : 0 + 0 ≤ _)⟩)
  dsimp only [Pt.U, Pt.locs, Pt.cells, Pt.slots] at X1 l1 y1 z1 st1 hQ1
  subst l1 y1 z1
  obtain ⟨rfl, Nq1, e1⟩ := hQ1
  have N1 := Fr.app N0 Nq1
  obtain ⟨T2, X2, e2, st2⟩ := getF X1 hx hZ hown (host := "") (Or.inl (hw _ (List.mem_of_getElem? (i := 53) rfl))) Via.refl e1 F_count_xo0_ (g := (mkF m 16 #[.val (.ref xo0_), .val (.ref xo1_), .val (.int (6 : Int32))] [(.ref xo0_), (.ref xo0_)])) rfl rfl (hb hby dA39_16)
  obtain ⟨cq3, qa3, qb3⟩ := E_xo0_.cell
  obtain ⟨_, _, ⟨T3, L3, k3, n3⟩, -, X3, ⟨Lc3, hQ3, l3, y3, z3⟩, st3⟩ := X2.privateBack hx (y := (⟨"java/lang/AbstractStringBuilder", "ensureCapacityInternal", "(I)V"⟩ : MethodName)) hown (mvT hZ (hw _ (List.mem_of_getElem? (i := 60) rfl))) (mvT hZ (hw _ (List.mem_of_getElem? (i := 61) rfl))) (selfSel hZ (hw _ (List.mem_of_getElem? (i := 63) rfl)) (hw _ (List.mem_of_getElem? (i := 61) rfl)) (hw _ (List.mem_of_getElem? (i := 62) rfl)) (by decide)) (Cond.privateMethod_at (mvP hZ (hw _ (List.mem_of_getElem? (i := 62) rfl)) (args := #[]))) (mvT hZ (hw _ (List.mem_of_getElem? (i := 64) rfl))) (by decide) (backOf (W := 0) (rmA41 l Z a0 hw [] xo0_ uo1_ ui4_ ui5_ ui6_ k_uo1_ h0 n0 Z0 E_xo0_ F_value_xo0_ F_coder_xo0_ F_count_xo0_ V_uo1_) hZ (hw _ (List.mem_of_getElem? (i := 64) rfl)) (hw _ (List.mem_of_getElem? (i := 33) rfl)) (by decide) (by decide)) (g := (mkF m 21 #[.val (.ref xo0_), .val (.ref xo1_), .val (.int (6 : Int32))] [(.int (27 : Int32)), (.ref xo0_)])) rfl (by rw [hml]; rfl) (Steps.refl _) (a := xo0_) (by rw [e2]; exact qa3) qb3 (argsL := [(.int (27 : Int32))]) (rest := []) (lenOf own_pd0 rfl) rfl (by show 2 * 0 + _ ≤ _; exact Nat.le_of_eq rfl) (hb hby dA39_21) (fun _ _ => ⟨rfl, e2, (by decide : 0 + 0 ≤ _), (by decide : 0 + 0 ≤ _)⟩)
  dsimp only [Pt.U, Pt.locs, Pt.cells, Pt.slots] at X3 l3 y3 z3 st3 hQ3
  subst l3 y3 z3
  obtain ⟨rfl, Nq3, e3⟩ := hQ3
  have N3 := Fr.app N1 Nq3
  obtain ⟨T4, X4, e4, st4⟩ := getF X3 hx hZ hown (host := "") (Or.inl (hw _ (List.mem_of_getElem? (i := 53) rfl))) Via.refl e3 F_count_xo0_ (g := (mkF m 26 #[.val (.ref xo0_), .val (.ref xo1_), .val (.int (6 : Int32))] [(.ref xo0_), (.ref xo0_)])) rfl rfl (hb hby dA39_26)
  obtain ⟨cq5, qa5, qb5⟩ := E_xo0_.cell
  obtain ⟨_, _, ⟨T5, L5, k5, n5⟩, -, X5, ⟨Lc5, hQ5, l5, y5, z5⟩, st5⟩ := X4.privateBack hx (y := (⟨"java/lang/AbstractStringBuilder", "putStringAt", "(ILjava/lang/String;)V"⟩ : MethodName)) hown (mvT hZ (hw _ (List.mem_of_getElem? (i := 104) rfl))) (mvT hZ (hw _ (List.mem_of_getElem? (i := 105) rfl))) (selfSel hZ (hw _ (List.mem_of_getElem? (i := 107) rfl)) (hw _ (List.mem_of_getElem? (i := 105) rfl)) (hw _ (List.mem_of_getElem? (i := 106) rfl)) (by decide)) (Cond.privateMethod_at (mvP hZ (hw _ (List.mem_of_getElem? (i := 106) rfl)) (args := #[]))) (mvT hZ (hw _ (List.mem_of_getElem? (i := 108) rfl))) (by decide) (backOf (W := 0) (rmA42 l Z a0 hw [] xo0_ xo1_ uo1_ uo2_ ui3_ k_uo2_ ui4_ ui5_ ui6_ k_uo1_ h0 n0 Z0 E_xo0_ F_value_xo0_ F_coder_xo0_ F_count_xo0_ E_xo1_ F_coder_xo1_ F_value_xo1_ X00 S_COMPACT_STRINGS hp0_ V_uo2_ V_uo1_ g_uo1_) hZ (hw _ (List.mem_of_getElem? (i := 108) rfl)) (hw _ (List.mem_of_getElem? (i := 33) rfl)) (by decide) (by decide)) (g := (mkF m 30 #[.val (.ref xo0_), .val (.ref xo1_), .val (.int (6 : Int32))] [(.ref xo1_), (.int (21 : Int32)), (.ref xo0_)])) rfl (by rw [hml]; rfl) (Steps.refl _) (a := xo0_) (by rw [e4]; exact qa5) qb5 (argsL := [(.int (21 : Int32)), (.ref xo1_)]) (rest := []) (lenOf own_pd11 rfl) rfl (by show 2 * 0 + _ ≤ _; exact Nat.le_of_eq rfl) (hb hby dA39_30) (fun _ _ => ⟨rfl, e4, (by decide : 0 + 0 ≤ _), (by decide : 0 + 0 ≤ _)⟩)
  dsimp only [Pt.U, Pt.locs, Pt.cells, Pt.slots] at X5 l5 y5 z5 st5 hQ5
  subst l5 y5 z5
  obtain ⟨rfl, Nq5, Kc5, q5_0⟩ := hQ5
  have K5 : Keep h0 T5.heap [uo1_, xo0_] := Keep.trans (Keep.refl h0 [uo1_, xo0_]) Kc5 (allS (Or.inl (List.mem_of_getElem? (i := 0) rfl)) all0)
  have Zs5 : n0 ≤ T5.heap.size := Nat.le_trans Z0 Kc5.1
  have N5 := Fr.app N3 Nq5
  have no6 : xo0_ ≠ uo1_ := Exa.neArv (E_xo0_.keep Kc5) q5_0 (hw _ (List.mem_of_getElem? (i := 24) rfl))
  obtain ⟨T7, X7, e7, st7⟩ := getF X5 hx hZ hown (host := "") (Or.inl (hw _ (List.mem_of_getElem? (i := 53) rfl))) Via.refl rfl (F_count_xo0_.keep Kc5 (ninS no6 nin0)) (g := (mkF m 35 #[.val (.ref xo0_), .val (.ref xo1_), .val (.int (6 : Int32))] [(.ref xo0_), (.ref xo0_)])) rfl rfl (hb hby dA39_35)
  obtain ⟨T8, h8, X8, e8, W8, st8⟩ := putF X7 hx hZ hown (host := "") (Or.inl (hw _ (List.mem_of_getElem? (i := 53) rfl))) Via.refl e7 (F_count_xo0_.keep Kc5 (ninS no6 nin0)) (E_xo0_.keep Kc5) (Or.inl (hw _ (List.mem_of_getElem? (i := 54) rfl))) (hw _ (List.mem_of_getElem? (i := 24) rfl)) (ty := .int) (by decide) rfl rfl (g := (mkF m 40 #[.val (.ref xo0_), .val (.ref xo1_), .val (.int (6 : Int32))] [(.int (27 : Int32)), (.ref xo0_)])) rfl rfl (hb hby dA39_40)
  have F8 : Fld Z h8 xo0_ "java/lang/AbstractStringBuilder" "count" "I" (.int (27 : Int32)) := Fld.same W8 (F_count_xo0_.keep Kc5 (ninS no6 nin0))
  have K8 : Keep h0 h8 [uo1_, xo0_] := K5.wr W8 (Or.inl (List.mem_of_getElem? (i := 1) rfl))
  have Zs8 : n0 ≤ h8.size := Nat.le_trans Zs5 (Keep.of_wr W8).1
  have N8 := Fr.snoc X8 N5 g_xo0_
  obtain ⟨fs, hr, hrun, hended, hW, hsame⟩ := X8.leave (v := some (.ref xo0_)) (fun h => by rw [Bd.returns] at h; cases h)
  refine ⟨_, _, (pre0 _ ?_), hrun, hended, _, _, rfl, ?_, ⟨_, rfl⟩, hW, hsame.mono (by decide) (by decide)⟩
  · show Steps p.tables e below (s₁.setTop (mkF m 0 #[.val (.ref xo0_), .val (.ref xo1_), .unset] [])) _
    refine XS.aloadN X0.here hx rfl (hb hby dA39_0) rfl rfl ?_
    show Steps p.tables e below (s₁.setTop (mkF m 1 #[.val (.ref xo0_), .val (.ref xo1_), .unset] [(.ref xo1_)])) _
    refine XS.ifnonnullYes X0.here hx rfl (pc0 := 1) (pc' := 9) rfl (hb hby dA39_1) rfl (by decide) (by decide) ?_
    show Steps p.tables e below (s₁.setTop (mkF m 9 #[.val (.ref xo0_), .val (.ref xo1_), .unset] [])) _
    refine XS.aloadN X0.here hx rfl (hb hby dA39_9) rfl rfl ?_
    show Steps p.tables e below (s₁.setTop (mkF m 10 #[.val (.ref xo0_), .val (.ref xo1_), .unset] [(.ref xo1_)])) _
    refine st1.trans ?_
    show Steps p.tables e below (T1.setTop (mkF m 13 #[.val (.ref xo0_), .val (.ref xo1_), .unset] [(.int (6 : Int32))])) _
    refine XS.istoreN X1.here hx rfl (hb hby dA39_13) rfl (l' := #[.val (.ref xo0_), .val (.ref xo1_), .val (.int (6 : Int32))]) rfl ?_
    show Steps p.tables e below (T1.setTop (mkF m 14 #[.val (.ref xo0_), .val (.ref xo1_), .val (.int (6 : Int32))] [])) _
    refine XS.aloadN X1.here hx rfl (hb hby dA39_14) rfl rfl ?_
    show Steps p.tables e below (T1.setTop (mkF m 15 #[.val (.ref xo0_), .val (.ref xo1_), .val (.int (6 : Int32))] [(.ref xo0_)])) _
    refine XS.aloadN X1.here hx rfl (hb hby dA39_15) rfl rfl ?_
    show Steps p.tables e below (T1.setTop (mkF m 16 #[.val (.ref xo0_), .val (.ref xo1_), .val (.int (6 : Int32))] [(.ref xo0_), (.ref xo0_)])) _
    refine st2 _ ?_
    show Steps p.tables e below (T2.setTop (mkF m 19 #[.val (.ref xo0_), .val (.ref xo1_), .val (.int (6 : Int32))] [(.int (21 : Int32)), (.ref xo0_)])) _
    refine XS.iloadN X2.here hx rfl (hb hby dA39_19) rfl ?_
    show Steps p.tables e below (T2.setTop (mkF m 20 #[.val (.ref xo0_), .val (.ref xo1_), .val (.int (6 : Int32))] [(.int (6 : Int32)), (.int (21 : Int32)), (.ref xo0_)])) _
    refine XS.iadd X2.here hx rfl (hb hby dA39_20) rfl ?_
    show Steps p.tables e below (T2.setTop (mkF m 21 #[.val (.ref xo0_), .val (.ref xo1_), .val (.int (6 : Int32))] [(.int (27 : Int32)), (.ref xo0_)])) _
    refine st3.trans ?_
    show Steps p.tables e below (T3.setTop (mkF m 24 #[.val (.ref xo0_), .val (.ref xo1_), .val (.int (6 : Int32))] [])) _
    refine XS.aloadN X3.here hx rfl (hb hby dA39_24) rfl rfl ?_
    show Steps p.tables e below (T3.setTop (mkF m 25 #[.val (.ref xo0_), .val (.ref xo1_), .val (.int (6 : Int32))] [(.ref xo0_)])) _
    refine XS.aloadN X3.here hx rfl (hb hby dA39_25) rfl rfl ?_
    show Steps p.tables e below (T3.setTop (mkF m 26 #[.val (.ref xo0_), .val (.ref xo1_), .val (.int (6 : Int32))] [(.ref xo0_), (.ref xo0_)])) _
    refine st4 _ ?_
    show Steps p.tables e below (T4.setTop (mkF m 29 #[.val (.ref xo0_), .val (.ref xo1_), .val (.int (6 : Int32))] [(.int (21 : Int32)), (.ref xo0_)])) _
    refine XS.aloadN X4.here hx rfl (hb hby dA39_29) rfl rfl ?_
    show Steps p.tables e below (T4.setTop (mkF m 30 #[.val (.ref xo0_), .val (.ref xo1_), .val (.int (6 : Int32))] [(.ref xo1_), (.int (21 : Int32)), (.ref xo0_)])) _
    refine st5.trans ?_
    show Steps p.tables e below (T5.setTop (mkF m 33 #[.val (.ref xo0_), .val (.ref xo1_), .val (.int (6 : Int32))] [])) _
    refine XS.aloadN X5.here hx rfl (hb hby dA39_33) rfl rfl ?_
    show Steps p.tables e below (T5.setTop (mkF m 34 #[.val (.ref xo0_), .val (.ref xo1_), .val (.int (6 : Int32))] [(.ref xo0_)])) _
    refine XS.dup X5.here hx rfl (hb hby dA39_34) rfl rfl ?_
    show Steps p.tables e below (T5.setTop (mkF m 35 #[.val (.ref xo0_), .val (.ref xo1_), .val (.int (6 : Int32))] [(.ref xo0_), (.ref xo0_)])) _
    refine st7 _ ?_
    show Steps p.tables e below (T7.setTop (mkF m 38 #[.val (.ref xo0_), .val (.ref xo1_), .val (.int (6 : Int32))] [(.int (21 : Int32)), (.ref xo0_)])) _
    refine XS.iloadN X7.here hx rfl (hb hby dA39_38) rfl ?_
    show Steps p.tables e below (T7.setTop (mkF m 39 #[.val (.ref xo0_), .val (.ref xo1_), .val (.int (6 : Int32))] [(.int (6 : Int32)), (.int (21 : Int32)), (.ref xo0_)])) _
    refine XS.iadd X7.here hx rfl (hb hby dA39_39) rfl ?_
    show Steps p.tables e below (T7.setTop (mkF m 40 #[.val (.ref xo0_), .val (.ref xo1_), .val (.int (6 : Int32))] [(.int (27 : Int32)), (.ref xo0_)])) _
    refine st8 _ ?_
    show Steps p.tables e below (T8.setTop (mkF m 43 #[.val (.ref xo0_), .val (.ref xo1_), .val (.int (6 : Int32))] [])) _
    refine XS.aloadN X8.here hx rfl (hb hby dA39_43) rfl rfl ?_
    show Steps p.tables e below (T8.setTop (mkF m 44 #[.val (.ref xo0_), .val (.ref xo1_), .val (.int (6 : Int32))] [(.ref xo0_)])) _
    jvm_step X8.here [X8.here.top, hx, (hb hby dA39_44), X8.method', Bd.returns, Value.isRef, FieldType.isReference]
    first | (intro acts; rw [hr _ acts rfl rfl rfl]) | rw [hr _ _ rfl rfl rfl]
    exact Steps.refl _
  · show QA39 Z xo0_ xo1_ uo1_ uo2_ k_uo2_ ui3_ ui4_ ui5_ ui6_ k_uo1_ h0 n0 _ T8.heap _
    rw [e8]
    exact ⟨rfl, N8, K8, (q5_0.other W8 (Ne.symm no6)), ((E_xo0_.keep Kc5).wr W8), (Fld.other W8 (F_value_xo0_.keep Kc5 (ninS no6 nin0)) (Or.inr (slot_ne (Or.inl (hw _ (List.mem_of_getElem? (i := 40) rfl))) (Or.inl (hw _ (List.mem_of_getElem? (i := 54) rfl))) (by decide) (t := (.array .byte)) (t' := .int) (by decide) (by decide)))), (Fld.other W8 (F_coder_xo0_.keep Kc5 (ninS no6 nin0)) (Or.inr (slot_ne (Or.inl (hw _ (List.mem_of_getElem? (i := 42) rfl))) (Or.inl (hw _ (List.mem_of_getElem? (i := 54) rfl))) (by decide) (t := .byte) (t' := .int) (by decide) (by decide)))), F8⟩
theorem dA38_0 : decode jdk_67_method_7_code 0 = .ok (.aload_n 0, 1) := by decide +kernel
theorem dA38_1 : decode jdk_67_method_7_code 1 = .ok (.aload_n 1, 1) := by decide +kernel
theorem dA38_2 : decode jdk_67_method_7_code 2 = .ok (.invokespecial 29, 3) := by decide +kernel
theorem dA38_5 : decode jdk_67_method_7_code 5 = .ok (.pop, 1) := by decide +kernel
theorem dA38_6 : decode jdk_67_method_7_code 6 = .ok (.aload_n 0, 1) := by decide +kernel
theorem dA38_7 : decode jdk_67_method_7_code 7 = .ok (.areturn, 1) := by decide +kernel
theorem efA38 (m : MethodId) (xo0_ : Addr) (xo1_ : Addr) : entryFrame m #[(.ref xo0_), (.ref xo1_)] 2 = mkF m 0 #[.val (.ref xo0_), .val (.ref xo1_)] [] := by first | (simp [entryFrame, mkF, argsToLocals, Value.category]; done) | rfl
def QA38 (Z : State) (xo0_ : Addr) (xo1_ : Addr) (uo1_ : Addr) (uo2_ : Addr) (k_uo2_ : ClassId) (ui3_ : Int32) (ui4_ : Int32) (ui5_ : Int32) (ui6_ : Int32) (k_uo1_ : ClassId) (h0 : Heap) (n0 : Nat) (v : Option Value) (h : Heap) (L : List Loc) : Prop := v = some (.ref xo0_) ∧ Fr n0 L ∧ Keep h0 h [xo0_, uo1_] ∧ Exa Z h xo0_ "java/lang/StringBuilder" ∧ Fld Z h xo0_ "java/lang/AbstractStringBuilder" "value" "[B" (.ref uo1_) ∧ Fld Z h xo0_ "java/lang/AbstractStringBuilder" "coder" "B" (.int (0 : Int32)) ∧ Fld Z h xo0_ "java/lang/AbstractStringBuilder" "count" "I" (.int (27 : Int32)) ∧ Arv Z h uo1_ k_uo1_ .byte (34 : Int32) [(.int ui4_), (.int (32 : Int32)), (.int (102 : Int32)), (.int (105 : Int32)), (.int (108 : Int32)), (.int (101 : Int32)), (.int (115 : Int32)), (.int (44 : Int32)), (.int (32 : Int32)), (.int ui5_), (.int (32 : Int32)), (.int (102 : Int32)), (.int (111 : Int32)), (.int (108 : Int32)), (.int (100 : Int32)), (.int (101 : Int32)), (.int (114 : Int32)), (.int (115 : Int32)), (.int (44 : Int32)), (.int (32 : Int32)), (.int ui6_), (.int (32 : Int32)), (.int (98 : Int32)), (.int (121 : Int32)), (.int (116 : Int32)), (.int (101 : Int32)), (.int (115 : Int32)), (.int (0 : Int32)), (.int (0 : Int32)), (.int (0 : Int32)), (.int (0 : Int32)), (.int (0 : Int32)), (.int (0 : Int32)), (.int (0 : Int32))] (.int (0 : Int32))
set_option maxRecDepth 65536 in
set_option maxHeartbeats 40000000 in
theorem rmA38 (l : Launch) (Z : State) (a0 : Array Value) (hw : ∀ d ∈ tables_1, d.before a0 Z = true) (ws : List Jvm.Cond) (xo0_ : Addr) (xo1_ : Addr) (uo1_ : Addr) (uo2_ : Addr) (k_uo2_ : ClassId) (ui3_ : Int32) (ui4_ : Int32) (ui5_ : Int32) (ui6_ : Int32) (k_uo1_ : ClassId) (h0 : Heap) (n0 : Nat) (Z0 : n0 ≤ h0.size) (E_xo0_ : Exa Z h0 xo0_ "java/lang/StringBuilder") (F_value_xo0_ : Fld Z h0 xo0_ "java/lang/AbstractStringBuilder" "value" "[B" (.ref uo1_)) (F_coder_xo0_ : Fld Z h0 xo0_ "java/lang/AbstractStringBuilder" "coder" "B" (.int (0 : Int32))) (F_count_xo0_ : Fld Z h0 xo0_ "java/lang/AbstractStringBuilder" "count" "I" (.int (21 : Int32))) (E_xo1_ : Exa Z h0 xo1_ "java/lang/String") (F_coder_xo1_ : Fld Z h0 xo1_ "java/lang/String" "coder" "B" (.int (0 : Int32))) (F_value_xo1_ : Fld Z h0 xo1_ "java/lang/String" "value" "[B" (.ref uo2_)) (V_uo2_ : Arv Z h0 uo2_ k_uo2_ .byte (6 : Int32) [(.int (32 : Int32)), (.int (98 : Int32)), (.int (121 : Int32)), (.int (116 : Int32)), (.int (101 : Int32)), (.int (115 : Int32))] (.int 0)) (X00 : Old Z n0 h0) (S_COMPACT_STRINGS : Sta Z Z.heap "java/lang/String" "COMPACT_STRINGS" "Z" (.int ui3_)) (V_uo1_ : Arv Z h0 uo1_ k_uo1_ .byte (34 : Int32) [(.int ui4_), (.int (32 : Int32)), (.int (102 : Int32)), (.int (105 : Int32)), (.int (108 : Int32)), (.int (101 : Int32)), (.int (115 : Int32)), (.int (44 : Int32)), (.int (32 : Int32)), (.int ui5_), (.int (32 : Int32)), (.int (102 : Int32)), (.int (111 : Int32)), (.int (108 : Int32)), (.int (100 : Int32)), (.int (101 : Int32)), (.int (114 : Int32)), (.int (115 : Int32)), (.int (44 : Int32)), (.int (32 : Int32)), (.int ui6_), (.int (0 : Int32)), (.int (0 : Int32)), (.int (0 : Int32)), (.int (0 : Int32)), (.int (0 : Int32)), (.int (0 : Int32)), (.int (0 : Int32)), (.int (0 : Int32)), (.int (0 : Int32)), (.int (0 : Int32)), (.int (0 : Int32)), (.int (0 : Int32)), (.int (0 : Int32))] (.int (0 : Int32))) (hp0_ : ¬ (ui3_ = (0 : Int32))) (g_uo1_ : n0 ≤ uo1_) (g_xo0_ : n0 ≤ xo0_) :
    MetFree l (⟨"java/lang/StringBuilder", "append", "(Ljava/lang/String;)Ljava/lang/StringBuilder;"⟩ : MethodName) (head1 (Jvm.Cond.code (⟨"java/lang/StringBuilder", "append", "(Ljava/lang/String;)Ljava/lang/StringBuilder;"⟩ : MethodName) jdk_67_method_7_code 2 (some (.object "java/lang/StringBuilder")) :: ws) ({ frames := 4, cells := 0, slots := 0, locals := 83 } : Room)) (fun av_ U => av_ = #[(.ref xo0_), (.ref xo1_)] ∧ Z.Warmed39 U.vm ∧ U.heap = h0) (fun _ _ _ _ _ => True) (fun _ U o U' => ∃ v L, o = .returned v ∧ QA38 Z xo0_ xo1_ uo1_ uo2_ k_uo2_ ui3_ ui4_ ui5_ ui6_ k_uo1_ h0 n0 v U'.heap L ∧ FrameEnd U o U' L ({ frames := 4, cells := 0, slots := 0, locals := 83 } : Room).cells ({ frames := 4, cells := 0, slots := 0, locals := 83 } : Room).slots) := by
  refine MetFree.of_bodySF (plainFor_of_name own_pn2) hisR ?_
  intro p e s m args below meth c s₁ Bd hml0 hP hK
  obtain ⟨rfl, hZ, hh⟩ := hP
  have hx := Bd.exec
  have hby := Bd.bytes
  have hml : c.maxLocals = 2 := hml0
  have hown : s.vm.findClass "java/lang/StringBuilder" = some m.cls := findClass_of_methodNamed Bd.named
  have hnm := (name_of_methodNamed Bd.named Bd.method).1
  have X0 : Stand p l e ({ frames := 4, cells := 0, slots := 0, locals := 83 } : Room) s m #[(.ref xo0_), (.ref xo1_)] below meth c s₁ [] 0 0 := Stand.of_body Bd
  have e0 : s₁.heap = h0 := by rw [← hh, Bd.state]; rfl
  have N0 := Fr.nil n0
  have pre0 : ∀ t, Steps p.tables e below (s₁.setTop (mkF m 0 #[.val (.ref xo0_), .val (.ref xo1_)] [])) t → Steps p.tables e below (s₁.setTop (entryFrame m #[(.ref xo0_), (.ref xo1_)] 2)) t := fun t k => castTop (efA38 m xo0_ xo1_) k
  obtain ⟨_, _, ⟨T1, L1, k1, n1⟩, -, X1, ⟨Lc1, hQ1, l1, y1, z1⟩, st1⟩ := superBack X0 hx hZ (y := (⟨"java/lang/AbstractStringBuilder", "append", "(Ljava/lang/String;)Ljava/lang/AbstractStringBuilder;"⟩ : MethodName)) hown (hw _ (List.mem_of_getElem? (i := 87) rfl)) (sameSelf (hw _ (List.mem_of_getElem? (i := 63) rfl)) rfl (hw _ (List.mem_of_getElem? (i := 88) rfl)) (by decide)) (hw _ (List.mem_of_getElem? (i := 88) rfl)) (hw _ (List.mem_of_getElem? (i := 50) rfl)) (by decide) (backOf (W := 0) (rmA39 l Z a0 hw [] xo0_ xo1_ uo1_ uo2_ k_uo2_ ui3_ ui4_ ui5_ ui6_ k_uo1_ h0 n0 Z0 E_xo0_ F_value_xo0_ F_coder_xo0_ F_count_xo0_ E_xo1_ F_coder_xo1_ F_value_xo1_ V_uo2_ X00 S_COMPACT_STRINGS hp0_ V_uo1_ g_uo1_ g_xo0_) hZ (hw _ (List.mem_of_getElem? (i := 90) rfl)) (hw _ (List.mem_of_getElem? (i := 33) rfl)) (by decide) (by decide)) e0 (Ins.self E_xo0_) (g := (mkF m 2 #[.val (.ref xo0_), .val (.ref xo1_)] [(.ref xo1_), (.ref xo0_)])) rfl (by rw [hml]; rfl) (hw _ (List.mem_of_getElem? (i := 90) rfl)) (argsL := [(.ref xo1_)]) (rest := []) (lenOf own_pd12 rfl) rfl (by show 2 * 0 + _ ≤ _; exact Nat.le_of_eq rfl) (hb hby dA38_2) (fun _ _ => ⟨rfl, e0, (by decide : 0 + 0 ≤ _), (by decide : 0 + 0 ≤ _)⟩)
  dsimp only [Pt.U, Pt.locs, Pt.cells, Pt.slots] at X1 l1 y1 z1 st1 hQ1
  subst l1 y1 z1
  obtain ⟨rfl, Nq1, Kc1, q1_0, q1_1, q1_2, q1_3, q1_4⟩ := hQ1
  have K1 : Keep h0 T1.heap [xo0_, uo1_] := Keep.trans (Keep.refl h0 [xo0_, uo1_]) Kc1 (allS (Or.inl (List.mem_of_getElem? (i := 1) rfl)) (allS (Or.inl (List.mem_of_getElem? (i := 0) rfl)) all0))
  have Zs1 : n0 ≤ T1.heap.size := Nat.le_trans Z0 Kc1.1
  have N1 := Fr.app N0 Nq1
  obtain ⟨fs, hr, hrun, hended, hW, hsame⟩ := X1.leave (v := some (.ref xo0_)) (fun h => by rw [Bd.returns] at h; cases h)
  refine ⟨_, _, (pre0 _ ?_), hrun, hended, _, _, rfl, ?_, ⟨_, rfl⟩, hW, hsame.mono (by decide) (by decide)⟩
  · show Steps p.tables e below (s₁.setTop (mkF m 0 #[.val (.ref xo0_), .val (.ref xo1_)] [])) _
    refine XS.aloadN X0.here hx rfl (hb hby dA38_0) rfl rfl ?_
    show Steps p.tables e below (s₁.setTop (mkF m 1 #[.val (.ref xo0_), .val (.ref xo1_)] [(.ref xo0_)])) _
    refine XS.aloadN X0.here hx rfl (hb hby dA38_1) rfl rfl ?_
    show Steps p.tables e below (s₁.setTop (mkF m 2 #[.val (.ref xo0_), .val (.ref xo1_)] [(.ref xo1_), (.ref xo0_)])) _
    refine st1.trans ?_
    show Steps p.tables e below (T1.setTop (mkF m 5 #[.val (.ref xo0_), .val (.ref xo1_)] [(.ref xo0_)])) _
    refine XS.pop X1.here hx rfl (hb hby dA38_5) rfl rfl ?_
    show Steps p.tables e below (T1.setTop (mkF m 6 #[.val (.ref xo0_), .val (.ref xo1_)] [])) _
    refine XS.aloadN X1.here hx rfl (hb hby dA38_6) rfl rfl ?_
    show Steps p.tables e below (T1.setTop (mkF m 7 #[.val (.ref xo0_), .val (.ref xo1_)] [(.ref xo0_)])) _
    jvm_step X1.here [X1.here.top, hx, (hb hby dA38_7), X1.method', Bd.returns, Value.isRef, FieldType.isReference]
    first | (intro acts; rw [hr _ acts rfl rfl rfl]) | rw [hr _ _ rfl rfl rfl]
    exact Steps.refl _
  · show QA38 Z xo0_ xo1_ uo1_ uo2_ k_uo2_ ui3_ ui4_ ui5_ ui6_ k_uo1_ h0 n0 _ T1.heap _
    exact ⟨rfl, N1, K1, q1_1, q1_2, q1_3, q1_4, q1_0⟩
theorem dA48_0 : decode jdk_68_method_64_code 0 = .ok (.aload_n 0, 1) := by decide +kernel
theorem dA48_1 : decode jdk_68_method_64_code 1 = .ok (.getfield 15, 3) := by decide +kernel
theorem dA48_4 : decode jdk_68_method_64_code 4 = .ok (.areturn, 1) := by decide +kernel
theorem efA48 (m : MethodId) (xo0_ : Addr) : entryFrame m #[(.ref xo0_)] 1 = mkF m 0 #[.val (.ref xo0_)] [] := by first | (simp [entryFrame, mkF, argsToLocals, Value.category]; done) | rfl
def QA48 (Z : State) (xo0_ : Addr) (uo1_ : Addr) (h0 : Heap) (n0 : Nat) (v : Option Value) (h : Heap) (L : List Loc) : Prop := v = some (.ref uo1_) ∧ Fr n0 L ∧ h = h0
set_option maxRecDepth 65536 in
set_option maxHeartbeats 40000000 in
theorem rmA48 (l : Launch) (Z : State) (a0 : Array Value) (hw : ∀ d ∈ tables_1, d.before a0 Z = true) (ws : List Jvm.Cond) (xo0_ : Addr) (uo1_ : Addr) (h0 : Heap) (n0 : Nat) (Z0 : n0 ≤ h0.size) (E_xo0_ : Exa Z h0 xo0_ "java/lang/StringBuilder") (F_value_xo0_ : Fld Z h0 xo0_ "java/lang/AbstractStringBuilder" "value" "[B" (.ref uo1_)) (F_coder_xo0_ : Fld Z h0 xo0_ "java/lang/AbstractStringBuilder" "coder" "B" (.int (0 : Int32))) (F_count_xo0_ : Fld Z h0 xo0_ "java/lang/AbstractStringBuilder" "count" "I" (.int (27 : Int32))) :
    MetFree l (⟨"java/lang/AbstractStringBuilder", "getValue", "()[B"⟩ : MethodName) (head1 (Jvm.Cond.code (⟨"java/lang/AbstractStringBuilder", "getValue", "()[B"⟩ : MethodName) jdk_68_method_64_code 1 (some (.array .byte)) :: ws) ({ frames := 0, cells := 0, slots := 0, locals := 0 } : Room)) (fun av_ U => av_ = #[(.ref xo0_)] ∧ Z.Warmed39 U.vm ∧ U.heap = h0) (fun _ _ _ _ _ => True) (fun _ U o U' => ∃ v L, o = .returned v ∧ QA48 Z xo0_ uo1_ h0 n0 v U'.heap L ∧ FrameEnd U o U' L ({ frames := 0, cells := 0, slots := 0, locals := 0 } : Room).cells ({ frames := 0, cells := 0, slots := 0, locals := 0 } : Room).slots) := by
  refine MetFree.of_bodySF (plainFor_of_name own_pn1) hisR ?_
  intro p e s m args below meth c s₁ Bd hml0 hP hK
  obtain ⟨rfl, hZ, hh⟩ := hP
  have hx := Bd.exec
  have hby := Bd.bytes
  have hml : c.maxLocals = 1 := hml0
  have hown : s.vm.findClass "java/lang/AbstractStringBuilder" = some m.cls := findClass_of_methodNamed Bd.named
  have hnm := (name_of_methodNamed Bd.named Bd.method).1
  have X0 : Stand p l e ({ frames := 0, cells := 0, slots := 0, locals := 0 } : Room) s m #[(.ref xo0_)] below meth c s₁ [] 0 0 := Stand.of_body Bd
  have e0 : s₁.heap = h0 := by rw [← hh, Bd.state]; rfl
  have N0 := Fr.nil n0
  have pre0 : ∀ t, Steps p.tables e below (s₁.setTop (mkF m 0 #[.val (.ref xo0_)] [])) t → Steps p.tables e below (s₁.setTop (entryFrame m #[(.ref xo0_)] 1)) t := fun t k => castTop (efA48 m xo0_) k
  obtain ⟨T1, X1, e1, st1⟩ := getF X0 hx hZ hown (host := "") (Or.inl (hw _ (List.mem_of_getElem? (i := 39) rfl))) Via.refl e0 F_value_xo0_ (g := (mkF m 1 #[.val (.ref xo0_)] [(.ref xo0_)])) rfl rfl (hb hby dA48_1)
  obtain ⟨fs, hr, hrun, hended, hW, hsame⟩ := X1.leave (v := some (.ref uo1_)) (fun h => by rw [Bd.returns] at h; cases h)
  refine ⟨_, _, (pre0 _ ?_), hrun, hended, _, _, rfl, ?_, ⟨_, rfl⟩, hW, hsame.mono (by decide) (by decide)⟩
  · show Steps p.tables e below (s₁.setTop (mkF m 0 #[.val (.ref xo0_)] [])) _
    refine XS.aloadN X0.here hx rfl (hb hby dA48_0) rfl rfl ?_
    show Steps p.tables e below (s₁.setTop (mkF m 1 #[.val (.ref xo0_)] [(.ref xo0_)])) _
    refine st1 _ ?_
    show Steps p.tables e below (T1.setTop (mkF m 4 #[.val (.ref xo0_)] [(.ref uo1_)])) _
    jvm_step X1.here [X1.here.top, hx, (hb hby dA48_4), X1.method', Bd.returns, Value.isRef, FieldType.isReference]
    first | (intro acts; rw [hr _ acts rfl rfl rfl]) | rw [hr _ _ rfl rfl rfl]
    exact Steps.refl _
  · show QA48 Z xo0_ uo1_ h0 n0 _ T1.heap _
    rw [e1]
    exact ⟨rfl, N0, rfl⟩
theorem own_pd18 : parseMethodDescriptor "()[B" = some ⟨[], some (.array .byte)⟩ := by decide +kernel
theorem dA50_0 : decode jdk_68_method_6_code 0 = .ok (.aload_n 0, 1) := by decide +kernel
theorem dA50_1 : decode jdk_68_method_6_code 1 = .ok (.getfield 79, 3) := by decide +kernel
theorem dA50_4 : decode jdk_68_method_6_code 4 = .ok (.ireturn, 1) := by decide +kernel
theorem efA50 (m : MethodId) (xo0_ : Addr) : entryFrame m #[(.ref xo0_)] 1 = mkF m 0 #[.val (.ref xo0_)] [] := by first | (simp [entryFrame, mkF, argsToLocals, Value.category]; done) | rfl
def QA50 (Z : State) (xo0_ : Addr) (uo1_ : Addr) (h0 : Heap) (n0 : Nat) (v : Option Value) (h : Heap) (L : List Loc) : Prop := v = some (.int (27 : Int32)) ∧ Fr n0 L ∧ h = h0
set_option maxRecDepth 65536 in
set_option maxHeartbeats 40000000 in
theorem rmA50 (l : Launch) (Z : State) (a0 : Array Value) (hw : ∀ d ∈ tables_1, d.before a0 Z = true) (ws : List Jvm.Cond) (xo0_ : Addr) (uo1_ : Addr) (h0 : Heap) (n0 : Nat) (Z0 : n0 ≤ h0.size) (E_xo0_ : Exa Z h0 xo0_ "java/lang/StringBuilder") (F_value_xo0_ : Fld Z h0 xo0_ "java/lang/AbstractStringBuilder" "value" "[B" (.ref uo1_)) (F_coder_xo0_ : Fld Z h0 xo0_ "java/lang/AbstractStringBuilder" "coder" "B" (.int (0 : Int32))) (F_count_xo0_ : Fld Z h0 xo0_ "java/lang/AbstractStringBuilder" "count" "I" (.int (27 : Int32))) :
    MetFree l (⟨"java/lang/AbstractStringBuilder", "length", "()I"⟩ : MethodName) (head1 (Jvm.Cond.code (⟨"java/lang/AbstractStringBuilder", "length", "()I"⟩ : MethodName) jdk_68_method_6_code 1 (some .int) :: ws) ({ frames := 0, cells := 0, slots := 0, locals := 0 } : Room)) (fun av_ U => av_ = #[(.ref xo0_)] ∧ Z.Warmed39 U.vm ∧ U.heap = h0) (fun _ _ _ _ _ => True) (fun _ U o U' => ∃ v L, o = .returned v ∧ QA50 Z xo0_ uo1_ h0 n0 v U'.heap L ∧ FrameEnd U o U' L ({ frames := 0, cells := 0, slots := 0, locals := 0 } : Room).cells ({ frames := 0, cells := 0, slots := 0, locals := 0 } : Room).slots) := by
  refine MetFree.of_bodySF (plainFor_of_name own_pn1) hisR ?_
  intro p e s m args below meth c s₁ Bd hml0 hP hK
  obtain ⟨rfl, hZ, hh⟩ := hP
  have hx := Bd.exec
  have hby := Bd.bytes
  have hml : c.maxLocals = 1 := hml0
  have hown : s.vm.findClass "java/lang/AbstractStringBuilder" = some m.cls := findClass_of_methodNamed Bd.named
  have hnm := (name_of_methodNamed Bd.named Bd.method).1
  have X0 : Stand p l e ({ frames := 0, cells := 0, slots := 0, locals := 0 } : Room) s m #[(.ref xo0_)] below meth c s₁ [] 0 0 := Stand.of_body Bd
  have e0 : s₁.heap = h0 := by rw [← hh, Bd.state]; rfl
  have N0 := Fr.nil n0
  have pre0 : ∀ t, Steps p.tables e below (s₁.setTop (mkF m 0 #[.val (.ref xo0_)] [])) t → Steps p.tables e below (s₁.setTop (entryFrame m #[(.ref xo0_)] 1)) t := fun t k => castTop (efA50 m xo0_) k
  obtain ⟨T1, X1, e1, st1⟩ := getF X0 hx hZ hown (host := "") (Or.inl (hw _ (List.mem_of_getElem? (i := 53) rfl))) Via.refl e0 F_count_xo0_ (g := (mkF m 1 #[.val (.ref xo0_)] [(.ref xo0_)])) rfl rfl (hb hby dA50_1)
  obtain ⟨fs, hr, hrun, hended, hW, hsame⟩ := X1.leave (v := some (.int (27 : Int32))) (fun h => by rw [Bd.returns] at h; cases h)
  refine ⟨_, _, (pre0 _ ?_), hrun, hended, _, _, rfl, ?_, ⟨_, rfl⟩, hW, hsame.mono (by decide) (by decide)⟩
  · show Steps p.tables e below (s₁.setTop (mkF m 0 #[.val (.ref xo0_)] [])) _
    refine XS.aloadN X0.here hx rfl (hb hby dA50_0) rfl rfl ?_
    show Steps p.tables e below (s₁.setTop (mkF m 1 #[.val (.ref xo0_)] [(.ref xo0_)])) _
    refine st1 _ ?_
    show Steps p.tables e below (T1.setTop (mkF m 4 #[.val (.ref xo0_)] [(.int (27 : Int32))])) _
    exact retI X1 hx Bd.returns (hb hby dA50_4) hr
  · show QA50 Z xo0_ uo1_ h0 n0 _ T1.heap _
    rw [e1]
    exact ⟨rfl, N0, rfl⟩
theorem dA49_0 : decode jdk_67_method_93_code 0 = .ok (.aload_n 0, 1) := by decide +kernel
theorem dA49_1 : decode jdk_67_method_93_code 1 = .ok (.invokespecial 343, 3) := by decide +kernel
theorem dA49_4 : decode jdk_67_method_93_code 4 = .ok (.ireturn, 1) := by decide +kernel
theorem efA49 (m : MethodId) (xo0_ : Addr) : entryFrame m #[(.ref xo0_)] 1 = mkF m 0 #[.val (.ref xo0_)] [] := by first | (simp [entryFrame, mkF, argsToLocals, Value.category]; done) | rfl
def QA49 (Z : State) (xo0_ : Addr) (uo1_ : Addr) (h0 : Heap) (n0 : Nat) (v : Option Value) (h : Heap) (L : List Loc) : Prop := v = some (.int (27 : Int32)) ∧ Fr n0 L ∧ h = h0
set_option maxRecDepth 65536 in
set_option maxHeartbeats 40000000 in
theorem rmA49 (l : Launch) (Z : State) (a0 : Array Value) (hw : ∀ d ∈ tables_1, d.before a0 Z = true) (ws : List Jvm.Cond) (xo0_ : Addr) (uo1_ : Addr) (h0 : Heap) (n0 : Nat) (Z0 : n0 ≤ h0.size) (E_xo0_ : Exa Z h0 xo0_ "java/lang/StringBuilder") (F_value_xo0_ : Fld Z h0 xo0_ "java/lang/AbstractStringBuilder" "value" "[B" (.ref uo1_)) (F_coder_xo0_ : Fld Z h0 xo0_ "java/lang/AbstractStringBuilder" "coder" "B" (.int (0 : Int32))) (F_count_xo0_ : Fld Z h0 xo0_ "java/lang/AbstractStringBuilder" "count" "I" (.int (27 : Int32))) :
    MetFree l (⟨"java/lang/StringBuilder", "length", "()I"⟩ : MethodName) (head1 (Jvm.Cond.code (⟨"java/lang/StringBuilder", "length", "()I"⟩ : MethodName) jdk_67_method_93_code 1 (some .int) :: ws) ({ frames := 1, cells := 0, slots := 0, locals := 12 } : Room)) (fun av_ U => av_ = #[(.ref xo0_)] ∧ Z.Warmed39 U.vm ∧ U.heap = h0) (fun _ _ _ _ _ => True) (fun _ U o U' => ∃ v L, o = .returned v ∧ QA49 Z xo0_ uo1_ h0 n0 v U'.heap L ∧ FrameEnd U o U' L ({ frames := 1, cells := 0, slots := 0, locals := 12 } : Room).cells ({ frames := 1, cells := 0, slots := 0, locals := 12 } : Room).slots) := by
  refine MetFree.of_bodySF (plainFor_of_name own_pn2) hisR ?_
  intro p e s m args below meth c s₁ Bd hml0 hP hK
  obtain ⟨rfl, hZ, hh⟩ := hP
  have hx := Bd.exec
  have hby := Bd.bytes
  have hml : c.maxLocals = 1 := hml0
  have hown : s.vm.findClass "java/lang/StringBuilder" = some m.cls := findClass_of_methodNamed Bd.named
  have hnm := (name_of_methodNamed Bd.named Bd.method).1
  have X0 : Stand p l e ({ frames := 1, cells := 0, slots := 0, locals := 12 } : Room) s m #[(.ref xo0_)] below meth c s₁ [] 0 0 := Stand.of_body Bd
  have e0 : s₁.heap = h0 := by rw [← hh, Bd.state]; rfl
  have N0 := Fr.nil n0
  have pre0 : ∀ t, Steps p.tables e below (s₁.setTop (mkF m 0 #[.val (.ref xo0_)] [])) t → Steps p.tables e below (s₁.setTop (entryFrame m #[(.ref xo0_)] 1)) t := fun t k => castTop (efA49 m xo0_) k
  obtain ⟨_, _, ⟨T1, L1, k1, n1⟩, -, X1, ⟨Lc1, hQ1, l1, y1, z1⟩, st1⟩ := superBack X0 hx hZ (y := (⟨"java/lang/AbstractStringBuilder", "length", "()I"⟩ : MethodName)) hown (hw _ (List.mem_of_getElem? (i := 176) rfl)) (sameSelf (hw _ (List.mem_of_getElem? (i := 63) rfl)) rfl (hw _ (List.mem_of_getElem? (i := 172) rfl)) (by decide)) (hw _ (List.mem_of_getElem? (i := 172) rfl)) (hw _ (List.mem_of_getElem? (i := 50) rfl)) (by decide) (backOf (W := 0) (rmA50 l Z a0 hw [] xo0_ uo1_ h0 n0 Z0 E_xo0_ F_value_xo0_ F_coder_xo0_ F_count_xo0_) hZ (hw _ (List.mem_of_getElem? (i := 177) rfl)) (hw _ (List.mem_of_getElem? (i := 33) rfl)) (by decide) (by decide)) e0 (Ins.self E_xo0_) (g := (mkF m 1 #[.val (.ref xo0_)] [(.ref xo0_)])) rfl (by rw [hml]; rfl) (hw _ (List.mem_of_getElem? (i := 177) rfl)) (argsL := []) (rest := []) (lenOf own_pd8 rfl) rfl (by show 2 * 0 + _ ≤ _; exact Nat.le_of_eq rfl) (hb hby dA49_1) (fun _ _ => ⟨rfl, e0, (by decide : 0 + 0 ≤ _), (by decide : 0 + 0 ≤ _)⟩)
  dsimp only [Pt.U, Pt.locs, Pt.cells, Pt.slots] at X1 l1 y1 z1 st1 hQ1
  subst l1 y1 z1
  obtain ⟨rfl, Nq1, e1⟩ := hQ1
  have N1 := Fr.app N0 Nq1
  obtain ⟨fs, hr, hrun, hended, hW, hsame⟩ := X1.leave (v := some (.int (27 : Int32))) (fun h => by rw [Bd.returns] at h; cases h)
  refine ⟨_, _, (pre0 _ ?_), hrun, hended, _, _, rfl, ?_, ⟨_, rfl⟩, hW, hsame.mono (by decide) (by decide)⟩
  · show Steps p.tables e below (s₁.setTop (mkF m 0 #[.val (.ref xo0_)] [])) _
    refine XS.aloadN X0.here hx rfl (hb hby dA49_0) rfl rfl ?_
    show Steps p.tables e below (s₁.setTop (mkF m 1 #[.val (.ref xo0_)] [(.ref xo0_)])) _
    refine st1.trans ?_
    show Steps p.tables e below (T1.setTop (mkF m 4 #[.val (.ref xo0_)] [(.int (27 : Int32))])) _
    exact retI X1 hx Bd.returns (hb hby dA49_4) hr
  · show QA49 Z xo0_ uo1_ h0 n0 _ T1.heap _
    rw [e1]
    exact ⟨rfl, N1, rfl⟩
theorem dA51_0 : decode jdk_68_method_68_code 0 = .ok (.getstatic 18, 3) := by decide +kernel
theorem dA51_3 : decode jdk_68_method_68_code 3 = .ok (.ifCond .eq 14, 3) := by decide +kernel
theorem dA51_6 : decode jdk_68_method_68_code 6 = .ok (.aload_n 0, 1) := by decide +kernel
theorem dA51_7 : decode jdk_68_method_68_code 7 = .ok (.getfield 22, 3) := by decide +kernel
theorem dA51_10 : decode jdk_68_method_68_code 10 = .ok (.ifCond .ne 7, 3) := by decide +kernel
theorem dA51_13 : decode jdk_68_method_68_code 13 = .ok (.iconst 1, 1) := by decide +kernel
theorem dA51_14 : decode jdk_68_method_68_code 14 = .ok (.goto 4, 3) := by decide +kernel
theorem dA51_18 : decode jdk_68_method_68_code 18 = .ok (.ireturn, 1) := by decide +kernel
theorem efA51 (m : MethodId) (xo0_ : Addr) : entryFrame m #[(.ref xo0_)] 1 = mkF m 0 #[.val (.ref xo0_)] [] := by first | (simp [entryFrame, mkF, argsToLocals, Value.category]; done) | rfl
def QA51 (Z : State) (xo0_ : Addr) (uo1_ : Addr) (ui2_ : Int32) (h0 : Heap) (n0 : Nat) (v : Option Value) (h : Heap) (L : List Loc) : Prop := v = some (.int (1 : Int32)) ∧ Fr n0 L ∧ h = h0
set_option maxRecDepth 65536 in
set_option maxHeartbeats 40000000 in
theorem rmA51 (l : Launch) (Z : State) (a0 : Array Value) (hw : ∀ d ∈ tables_1, d.before a0 Z = true) (ws : List Jvm.Cond) (xo0_ : Addr) (uo1_ : Addr) (ui2_ : Int32) (h0 : Heap) (n0 : Nat) (Z0 : n0 ≤ h0.size) (E_xo0_ : Exa Z h0 xo0_ "java/lang/StringBuilder") (F_value_xo0_ : Fld Z h0 xo0_ "java/lang/AbstractStringBuilder" "value" "[B" (.ref uo1_)) (F_coder_xo0_ : Fld Z h0 xo0_ "java/lang/AbstractStringBuilder" "coder" "B" (.int (0 : Int32))) (F_count_xo0_ : Fld Z h0 xo0_ "java/lang/AbstractStringBuilder" "count" "I" (.int (27 : Int32))) (X00 : Old Z n0 h0) (S_COMPACT_STRINGS : Sta Z Z.heap "java/lang/String" "COMPACT_STRINGS" "Z" (.int ui2_)) (hp0_ : ¬ (ui2_ = (0 : Int32))) :
    MetFree l (⟨"java/lang/AbstractStringBuilder", "isLatin1", "()Z"⟩ : MethodName) (head1 (Jvm.Cond.code (⟨"java/lang/AbstractStringBuilder", "isLatin1", "()Z"⟩ : MethodName) jdk_68_method_68_code 1 (some .boolean) :: ws) ({ frames := 0, cells := 0, slots := 0, locals := 0 } : Room)) (fun av_ U => av_ = #[(.ref xo0_)] ∧ Z.Warmed39 U.vm ∧ U.heap = h0) (fun _ _ _ _ _ => True) (fun _ U o U' => ∃ v L, o = .returned v ∧ QA51 Z xo0_ uo1_ ui2_ h0 n0 v U'.heap L ∧ FrameEnd U o U' L ({ frames := 0, cells := 0, slots := 0, locals := 0 } : Room).cells ({ frames := 0, cells := 0, slots := 0, locals := 0 } : Room).slots) := by
  refine MetFree.of_bodySF (plainFor_of_name own_pn1) hisR ?_
  intro p e s m args below meth c s₁ Bd hml0 hP hK
  obtain ⟨rfl, hZ, hh⟩ := hP
  have hx := Bd.exec
  have hby := Bd.bytes
  have hml : c.maxLocals = 1 := hml0
  have hown : s.vm.findClass "java/lang/AbstractStringBuilder" = some m.cls := findClass_of_methodNamed Bd.named
  have hnm := (name_of_methodNamed Bd.named Bd.method).1
  have X0 : Stand p l e ({ frames := 0, cells := 0, slots := 0, locals := 0 } : Room) s m #[(.ref xo0_)] below meth c s₁ [] 0 0 := Stand.of_body Bd
  have e0 : s₁.heap = h0 := by rw [← hh, Bd.state]; rfl
  have N0 := Fr.nil n0
  have pre0 : ∀ t, Steps p.tables e below (s₁.setTop (mkF m 0 #[.val (.ref xo0_)] [])) t → Steps p.tables e below (s₁.setTop (entryFrame m #[(.ref xo0_)] 1)) t := fun t k => castTop (efA51 m xo0_) k
  obtain ⟨T1, X1, e1, st1⟩ := getS2 X0 hx hZ hown (host := "") (Or.inl (hw _ (List.mem_of_getElem? (i := 36) rfl))) Via.refl e0 (S_COMPACT_STRINGS.ext X00.2) (g := (mkF m 0 #[.val (.ref xo0_)] [])) rfl (hb hby dA51_0)
  obtain ⟨T2, X2, e2, st2⟩ := getF X1 hx hZ hown (host := "") (Or.inl (hw _ (List.mem_of_getElem? (i := 41) rfl))) Via.refl e1 F_coder_xo0_ (g := (mkF m 7 #[.val (.ref xo0_)] [(.ref xo0_)])) rfl rfl (hb hby dA51_7)
  obtain ⟨fs, hr, hrun, hended, hW, hsame⟩ := X2.leave (v := some (.int (1 : Int32))) (fun h => by rw [Bd.returns] at h; cases h)
  refine ⟨_, _, (pre0 _ ?_), hrun, hended, _, _, rfl, ?_, ⟨_, rfl⟩, hW, hsame.mono (by decide) (by decide)⟩
  · show Steps p.tables e below (s₁.setTop (mkF m 0 #[.val (.ref xo0_)] [])) _
    refine st1 _ ?_
    show Steps p.tables e below (T1.setTop (mkF m 3 #[.val (.ref xo0_)] [(.int ui2_)])) _
    refine XS.ifNo X1.here hx rfl (hb hby dA51_3) rfl ((if0 _ _).trans (feq hp0_).1) ?_
    show Steps p.tables e below (T1.setTop (mkF m 6 #[.val (.ref xo0_)] [])) _
    refine XS.aloadN X1.here hx rfl (hb hby dA51_6) rfl rfl ?_
    show Steps p.tables e below (T1.setTop (mkF m 7 #[.val (.ref xo0_)] [(.ref xo0_)])) _
    refine st2 _ ?_
    show Steps p.tables e below (T2.setTop (mkF m 10 #[.val (.ref xo0_)] [(.int (0 : Int32))])) _
    refine XS.ifNo X2.here hx rfl (hb hby dA51_10) rfl ((if0 _ _).trans (teq (by decide : (0 : Int32) = (0 : Int32))).2) ?_
    show Steps p.tables e below (T2.setTop (mkF m 13 #[.val (.ref xo0_)] [])) _
    refine XS.iconst X2.here hx rfl (hb hby dA51_13) ?_
    show Steps p.tables e below (T2.setTop (mkF m 14 #[.val (.ref xo0_)] [(.int (1 : Int32))])) _
    refine XS.goto X2.here hx rfl (pc0 := 14) (pc' := 18) rfl (hb hby dA51_14) (by decide) (by decide) ?_
    show Steps p.tables e below (T2.setTop (mkF m 18 #[.val (.ref xo0_)] [(.int (1 : Int32))])) _
    exact retN X2 hx (t := .boolean) Bd.returns (by simp) (hb hby dA51_18) hr
  · show QA51 Z xo0_ uo1_ ui2_ h0 n0 _ T2.heap _
    rw [e2]
    exact ⟨rfl, N0, rfl⟩
theorem dA54_0 : decode jdk_65_method_131_code 0 = .ok (.iload_n 1, 1) := by decide +kernel
theorem dA54_1 : decode jdk_65_method_131_code 1 = .ok (.iload_n 0, 1) := by decide +kernel
theorem dA54_2 : decode jdk_65_method_131_code 2 = .ok (.if_icmp .ge 35, 3) := by decide +kernel
theorem dA54_37 : decode jdk_65_method_131_code 37 = .ok (.return_, 1) := by decide +kernel
theorem efA54 (m : MethodId)  : entryFrame m #[(.int (0 : Int32)), (.int (27 : Int32))] 2 = mkF m 0 #[.val (.int (0 : Int32)), .val (.int (27 : Int32))] [] := by first | (simp [entryFrame, mkF, argsToLocals, Value.category]; done) | rfl
def QA54 (Z : State)  (h0 : Heap) (n0 : Nat) (v : Option Value) (h : Heap) (L : List Loc) : Prop := v = none ∧ Fr n0 L ∧ h = h0
set_option maxRecDepth 65536 in
set_option maxHeartbeats 40000000 in
theorem rmA54 (l : Launch) (Z : State) (a0 : Array Value) (hw : ∀ d ∈ tables_1, d.before a0 Z = true) (ws : List Jvm.Cond)  (h0 : Heap) (n0 : Nat) (Z0 : n0 ≤ h0.size) :
    MetFree l (⟨"java/util/Arrays", "checkLength", "(II)V"⟩ : MethodName) (head1 (Jvm.Cond.code (⟨"java/util/Arrays", "checkLength", "(II)V"⟩ : MethodName) jdk_65_method_131_code 2 none :: ws) ({ frames := 0, cells := 0, slots := 0, locals := 0 } : Room)) (fun av_ U => av_ = #[(.int (0 : Int32)), (.int (27 : Int32))] ∧ Z.Warmed39 U.vm ∧ U.heap = h0) (fun _ _ _ _ _ => True) (fun _ U o U' => ∃ v L, o = .returned v ∧ QA54 Z  h0 n0 v U'.heap L ∧ FrameEnd U o U' L ({ frames := 0, cells := 0, slots := 0, locals := 0 } : Room).cells ({ frames := 0, cells := 0, slots := 0, locals := 0 } : Room).slots) := by
  refine MetFree.of_bodySF (plainFor_of_name own_pn6) hisR ?_
  intro p e s m args below meth c s₁ Bd hml0 hP hK
  obtain ⟨rfl, hZ, hh⟩ := hP
  have hx := Bd.exec
  have hby := Bd.bytes
  have hml : c.maxLocals = 2 := hml0
  have hown : s.vm.findClass "java/util/Arrays" = some m.cls := findClass_of_methodNamed Bd.named
  have hnm := (name_of_methodNamed Bd.named Bd.method).1
  have X0 : Stand p l e ({ frames := 0, cells := 0, slots := 0, locals := 0 } : Room) s m #[(.int (0 : Int32)), (.int (27 : Int32))] below meth c s₁ [] 0 0 := Stand.of_body Bd
  have e0 : s₁.heap = h0 := by rw [← hh, Bd.state]; rfl
  have N0 := Fr.nil n0
  have pre0 : ∀ t, Steps p.tables e below (s₁.setTop (mkF m 0 #[.val (.int (0 : Int32)), .val (.int (27 : Int32))] [])) t → Steps p.tables e below (s₁.setTop (entryFrame m #[(.int (0 : Int32)), (.int (27 : Int32))] 2)) t := fun t k => castTop (efA54 m ) k
  obtain ⟨fs, hr, hrun, hended, hW, hsame⟩ := X0.leave (v := none) (fun _ => rfl)
  refine ⟨_, _, (pre0 _ ?_), hrun, hended, _, _, rfl, ?_, ⟨_, rfl⟩, hW, hsame.mono (by decide) (by decide)⟩
  · show Steps p.tables e below (s₁.setTop (mkF m 0 #[.val (.int (0 : Int32)), .val (.int (27 : Int32))] [])) _
    refine XS.iloadN X0.here hx rfl (hb hby dA54_0) rfl ?_
    show Steps p.tables e below (s₁.setTop (mkF m 1 #[.val (.int (0 : Int32)), .val (.int (27 : Int32))] [(.int (27 : Int32))])) _
    refine XS.iloadN X0.here hx rfl (hb hby dA54_1) rfl ?_
    show Steps p.tables e below (s₁.setTop (mkF m 2 #[.val (.int (0 : Int32)), .val (.int (27 : Int32))] [(.int (0 : Int32)), (.int (27 : Int32))])) _
    refine XS.icmpYes X0.here hx rfl (pc0 := 2) (pc' := 37) rfl (hb hby dA54_2) rfl (flt (by decide : ¬ ((27 : Int32) < (0 : Int32)))).2.1 (by decide) (by decide) ?_
    show Steps p.tables e below (s₁.setTop (mkF m 37 #[.val (.int (0 : Int32)), .val (.int (27 : Int32))] [])) _
    exact X0.returnOut hx Bd.returns (hb hby dA54_37) hr
  · show QA54 Z  h0 n0 _ s₁.heap _
    rw [e0]
    exact ⟨rfl, N0, rfl⟩
theorem own_pd19 : parseMethodDescriptor "(II)V" = some ⟨[.int, .int], none⟩ := by decide +kernel
theorem dA55_0 : decode jdk_29_method_69_code 0 = .ok (.iload_n 0, 1) := by decide +kernel
theorem dA55_1 : decode jdk_29_method_69_code 1 = .ok (.iload_n 1, 1) := by decide +kernel
theorem dA55_2 : decode jdk_29_method_69_code 2 = .ok (.if_icmp .gt 7, 3) := by decide +kernel
theorem dA55_9 : decode jdk_29_method_69_code 9 = .ok (.iload_n 1, 1) := by decide +kernel
theorem dA55_10 : decode jdk_29_method_69_code 10 = .ok (.ireturn, 1) := by decide +kernel
theorem efA55 (m : MethodId)  : entryFrame m #[(.int (34 : Int32)), (.int (27 : Int32))] 2 = mkF m 0 #[.val (.int (34 : Int32)), .val (.int (27 : Int32))] [] := by first | (simp [entryFrame, mkF, argsToLocals, Value.category]; done) | rfl
def QA55 (Z : State)  (h0 : Heap) (n0 : Nat) (v : Option Value) (h : Heap) (L : List Loc) : Prop := v = some (.int (27 : Int32)) ∧ Fr n0 L ∧ h = h0
set_option maxRecDepth 65536 in
set_option maxHeartbeats 40000000 in
theorem rmA55 (l : Launch) (Z : State) (a0 : Array Value) (hw : ∀ d ∈ tables_1, d.before a0 Z = true) (ws : List Jvm.Cond)  (h0 : Heap) (n0 : Nat) (Z0 : n0 ≤ h0.size) :
    MetFree l (⟨"java/lang/Math", "min", "(II)I"⟩ : MethodName) (head1 (Jvm.Cond.code (⟨"java/lang/Math", "min", "(II)I"⟩ : MethodName) jdk_29_method_69_code 2 (some .int) :: ws) ({ frames := 0, cells := 0, slots := 0, locals := 0 } : Room)) (fun av_ U => av_ = #[(.int (34 : Int32)), (.int (27 : Int32))] ∧ Z.Warmed39 U.vm ∧ U.heap = h0) (fun _ _ _ _ _ => True) (fun _ U o U' => ∃ v L, o = .returned v ∧ QA55 Z  h0 n0 v U'.heap L ∧ FrameEnd U o U' L ({ frames := 0, cells := 0, slots := 0, locals := 0 } : Room).cells ({ frames := 0, cells := 0, slots := 0, locals := 0 } : Room).slots) := by
  refine MetFree.of_bodySF (Jvm.Free.JP.mathPlain rfl (by decide +kernel)) hisR ?_
  intro p e s m args below meth c s₁ Bd hml0 hP hK
  obtain ⟨rfl, hZ, hh⟩ := hP
  have hx := Bd.exec
  have hby := Bd.bytes
  have hml : c.maxLocals = 2 := hml0
  have hown : s.vm.findClass "java/lang/Math" = some m.cls := findClass_of_methodNamed Bd.named
  have hnm := (name_of_methodNamed Bd.named Bd.method).1
  have X0 : Stand p l e ({ frames := 0, cells := 0, slots := 0, locals := 0 } : Room) s m #[(.int (34 : Int32)), (.int (27 : Int32))] below meth c s₁ [] 0 0 := Stand.of_body Bd
  have e0 : s₁.heap = h0 := by rw [← hh, Bd.state]; rfl
  have N0 := Fr.nil n0
  have pre0 : ∀ t, Steps p.tables e below (s₁.setTop (mkF m 0 #[.val (.int (34 : Int32)), .val (.int (27 : Int32))] [])) t → Steps p.tables e below (s₁.setTop (entryFrame m #[(.int (34 : Int32)), (.int (27 : Int32))] 2)) t := fun t k => castTop (efA55 m ) k
  obtain ⟨fs, hr, hrun, hended, hW, hsame⟩ := X0.leave (v := some (.int (27 : Int32))) (fun h => by rw [Bd.returns] at h; cases h)
  refine ⟨_, _, (pre0 _ ?_), hrun, hended, _, _, rfl, ?_, ⟨_, rfl⟩, hW, hsame.mono (by decide) (by decide)⟩
  · show Steps p.tables e below (s₁.setTop (mkF m 0 #[.val (.int (34 : Int32)), .val (.int (27 : Int32))] [])) _
    refine XS.iloadN X0.here hx rfl (hb hby dA55_0) rfl ?_
    show Steps p.tables e below (s₁.setTop (mkF m 1 #[.val (.int (34 : Int32)), .val (.int (27 : Int32))] [(.int (34 : Int32))])) _
    refine XS.iloadN X0.here hx rfl (hb hby dA55_1) rfl ?_
    show Steps p.tables e below (s₁.setTop (mkF m 2 #[.val (.int (34 : Int32)), .val (.int (27 : Int32))] [(.int (27 : Int32)), (.int (34 : Int32))])) _
    refine XS.icmpYes X0.here hx rfl (pc0 := 2) (pc' := 9) rfl (hb hby dA55_2) rfl (tlt (by decide : (27 : Int32) < (34 : Int32))).2.2.1 (by decide) (by decide) ?_
    show Steps p.tables e below (s₁.setTop (mkF m 9 #[.val (.int (34 : Int32)), .val (.int (27 : Int32))] [])) _
    refine XS.iloadN X0.here hx rfl (hb hby dA55_9) rfl ?_
    show Steps p.tables e below (s₁.setTop (mkF m 10 #[.val (.int (34 : Int32)), .val (.int (27 : Int32))] [(.int (27 : Int32))])) _
    exact retI X0 hx Bd.returns (hb hby dA55_10) hr
  · show QA55 Z  h0 n0 _ s₁.heap _
    rw [e0]
    exact ⟨rfl, N0, rfl⟩
theorem dA53_0 : decode jdk_65_method_133_code 0 = .ok (.iload_n 1, 1) := by decide +kernel
theorem dA53_1 : decode jdk_65_method_133_code 1 = .ok (.iload_n 2, 1) := by decide +kernel
theorem dA53_2 : decode jdk_65_method_133_code 2 = .ok (.invokestatic 343, 3) := by decide +kernel
theorem dA53_5 : decode jdk_65_method_133_code 5 = .ok (.iload_n 2, 1) := by decide +kernel
theorem dA53_6 : decode jdk_65_method_133_code 6 = .ok (.iload_n 1, 1) := by decide +kernel
theorem dA53_7 : decode jdk_65_method_133_code 7 = .ok (.isub, 1) := by decide +kernel
theorem dA53_8 : decode jdk_65_method_133_code 8 = .ok (.istore_n 3, 1) := by decide +kernel
theorem dA53_9 : decode jdk_65_method_133_code 9 = .ok (.iload_n 3, 1) := by decide +kernel
theorem dA53_10 : decode jdk_65_method_133_code 10 = .ok (.newarray .byte, 2) := by decide +kernel
theorem dA53_12 : decode jdk_65_method_133_code 12 = .ok (.astore 4, 2) := by decide +kernel
theorem dA53_14 : decode jdk_65_method_133_code 14 = .ok (.aload_n 0, 1) := by decide +kernel
theorem dA53_15 : decode jdk_65_method_133_code 15 = .ok (.iload_n 1, 1) := by decide +kernel
theorem dA53_16 : decode jdk_65_method_133_code 16 = .ok (.aload 4, 2) := by decide +kernel
theorem dA53_18 : decode jdk_65_method_133_code 18 = .ok (.iconst 0, 1) := by decide +kernel
theorem dA53_19 : decode jdk_65_method_133_code 19 = .ok (.aload_n 0, 1) := by decide +kernel
theorem dA53_20 : decode jdk_65_method_133_code 20 = .ok (.arraylength, 1) := by decide +kernel
theorem dA53_21 : decode jdk_65_method_133_code 21 = .ok (.iload_n 1, 1) := by decide +kernel
theorem dA53_22 : decode jdk_65_method_133_code 22 = .ok (.isub, 1) := by decide +kernel
theorem dA53_23 : decode jdk_65_method_133_code 23 = .ok (.iload_n 3, 1) := by decide +kernel
theorem dA53_24 : decode jdk_65_method_133_code 24 = .ok (.invokestatic 304, 3) := by decide +kernel
theorem dA53_27 : decode jdk_65_method_133_code 27 = .ok (.invokestatic 150, 3) := by decide +kernel
theorem dA53_30 : decode jdk_65_method_133_code 30 = .ok (.aload 4, 2) := by decide +kernel
theorem dA53_32 : decode jdk_65_method_133_code 32 = .ok (.areturn, 1) := by decide +kernel
theorem efA53 (m : MethodId) (xo0_ : Addr) : entryFrame m #[(.ref xo0_), (.int (0 : Int32)), (.int (27 : Int32))] 5 = mkF m 0 #[.val (.ref xo0_), .val (.int (0 : Int32)), .val (.int (27 : Int32)), .unset, .unset] [] := by first | (simp [entryFrame, mkF, argsToLocals, Value.category]; done) | rfl
def QA53 (Z : State) (xo0_ : Addr) (ui1_ : Int32) (ui2_ : Int32) (ui3_ : Int32) (k_xo0_ : ClassId) (h0 : Heap) (n0 : Nat) (v : Option Value) (h : Heap) (L : List Loc) : Prop := ∃ fb2 : Addr, ∃ k_fb2 : ClassId, v = some (.ref fb2) ∧ Fr n0 L ∧ Keep h0 h [] ∧ n0 ≤ fb2 ∧ h0.size ≤ fb2 ∧ Arv Z h fb2 k_fb2 .byte (27 : Int32) [(.int ui1_), (.int (32 : Int32)), (.int (102 : Int32)), (.int (105 : Int32)), (.int (108 : Int32)), (.int (101 : Int32)), (.int (115 : Int32)), (.int (44 : Int32)), (.int (32 : Int32)), (.int ui2_), (.int (32 : Int32)), (.int (102 : Int32)), (.int (111 : Int32)), (.int (108 : Int32)), (.int (100 : Int32)), (.int (101 : Int32)), (.int (114 : Int32)), (.int (115 : Int32)), (.int (44 : Int32)), (.int (32 : Int32)), (.int ui3_), (.int (32 : Int32)), (.int (98 : Int32)), (.int (121 : Int32)), (.int (116 : Int32)), (.int (101 : Int32)), (.int (115 : Int32))] (.int (0 : Int32))
set_option maxRecDepth 65536 in
set_option maxHeartbeats 40000000 in
theorem rmA53 (l : Launch) (Z : State) (a0 : Array Value) (hw : ∀ d ∈ tables_1, d.before a0 Z = true) (ws : List Jvm.Cond) (xo0_ : Addr) (ui1_ : Int32) (ui2_ : Int32) (ui3_ : Int32) (k_xo0_ : ClassId) (h0 : Heap) (n0 : Nat) (Z0 : n0 ≤ h0.size) (V_xo0_ : Arv Z h0 xo0_ k_xo0_ .byte (34 : Int32) [(.int ui1_), (.int (32 : Int32)), (.int (102 : Int32)), (.int (105 : Int32)), (.int (108 : Int32)), (.int (101 : Int32)), (.int (115 : Int32)), (.int (44 : Int32)), (.int (32 : Int32)), (.int ui2_), (.int (32 : Int32)), (.int (102 : Int32)), (.int (111 : Int32)), (.int (108 : Int32)), (.int (100 : Int32)), (.int (101 : Int32)), (.int (114 : Int32)), (.int (115 : Int32)), (.int (44 : Int32)), (.int (32 : Int32)), (.int ui3_), (.int (32 : Int32)), (.int (98 : Int32)), (.int (121 : Int32)), (.int (116 : Int32)), (.int (101 : Int32)), (.int (115 : Int32)), (.int (0 : Int32)), (.int (0 : Int32)), (.int (0 : Int32)), (.int (0 : Int32)), (.int (0 : Int32)), (.int (0 : Int32)), (.int (0 : Int32))] (.int (0 : Int32))) :
    MetFree l (⟨"java/util/Arrays", "copyOfRangeByte", "([BII)[B"⟩ : MethodName) (head1 (Jvm.Cond.code (⟨"java/util/Arrays", "copyOfRangeByte", "([BII)[B"⟩ : MethodName) jdk_65_method_133_code 5 (some (.array .byte)) :: ws) ({ frames := 1, cells := 1, slots := 27, locals := 40 } : Room)) (fun av_ U => av_ = #[(.ref xo0_), (.int (0 : Int32)), (.int (27 : Int32))] ∧ Z.Warmed39 U.vm ∧ U.heap = h0) (fun _ _ _ _ _ => True) (fun _ U o U' => ∃ v L, o = .returned v ∧ QA53 Z xo0_ ui1_ ui2_ ui3_ k_xo0_ h0 n0 v U'.heap L ∧ FrameEnd U o U' L ({ frames := 1, cells := 1, slots := 27, locals := 40 } : Room).cells ({ frames := 1, cells := 1, slots := 27, locals := 40 } : Room).slots) := by
  refine MetFree.of_bodySF (plainFor_of_name own_pn6) hisR ?_
  intro p e s m args below meth c s₁ Bd hml0 hP hK
  obtain ⟨rfl, hZ, hh⟩ := hP
  have hx := Bd.exec
  have hby := Bd.bytes
  have hml : c.maxLocals = 5 := hml0
  have hown : s.vm.findClass "java/util/Arrays" = some m.cls := findClass_of_methodNamed Bd.named
  have hnm := (name_of_methodNamed Bd.named Bd.method).1
  have X0 : Stand p l e ({ frames := 1, cells := 1, slots := 27, locals := 40 } : Room) s m #[(.ref xo0_), (.int (0 : Int32)), (.int (27 : Int32))] below meth c s₁ [] 0 0 := Stand.of_body Bd
  have e0 : s₁.heap = h0 := by rw [← hh, Bd.state]; rfl
  have N0 := Fr.nil n0
  have pre0 : ∀ t, Steps p.tables e below (s₁.setTop (mkF m 0 #[.val (.ref xo0_), .val (.int (0 : Int32)), .val (.int (27 : Int32)), .unset, .unset] [])) t → Steps p.tables e below (s₁.setTop (entryFrame m #[(.ref xo0_), (.int (0 : Int32)), (.int (27 : Int32))] 5)) t := fun t k => castTop (efA53 m xo0_) k
  obtain ⟨_, _, ⟨T1, L1, k1, n1⟩, -, X1, ⟨Lc1, hQ1, l1, y1, z1⟩, st1⟩ := Jvm.LawKit.callS X0 hx (y := (⟨"java/util/Arrays", "checkLength", "(II)V"⟩ : MethodName)) hown (mvT hZ (hw _ (List.mem_of_getElem? (i := 185) rfl))) (mvT hZ (hw _ (List.mem_of_getElem? (i := 186) rfl))) (mvT hZ (hw _ (List.mem_of_getElem? (i := 144) rfl))) (mvT hZ (hw _ (List.mem_of_getElem? (i := 187) rfl))) (by decide) (backOf (W := 0) (rmA54 l Z a0 hw []  h0 n0 Z0 ) hZ (hw _ (List.mem_of_getElem? (i := 187) rfl)) (hw _ (List.mem_of_getElem? (i := 144) rfl)) (by decide) (by decide)) (g := (mkF m 2 #[.val (.ref xo0_), .val (.int (0 : Int32)), .val (.int (27 : Int32)), .unset, .unset] [(.int (27 : Int32)), (.int (0 : Int32))])) rfl (by rw [hml]; rfl) (argsL := [(.int (0 : Int32)), (.int (27 : Int32))]) (rest := []) (lenOf own_pd19 rfl) rfl (by show 2 * 0 + _ ≤ _; exact Nat.le_of_eq rfl) (hb hby dA53_2) (fun _ _ => ⟨rfl, e0, (by decide : 0 + 0 ≤ _), (by decide : 0 + 0 ≤ _)⟩)
  dsimp only [Pt.U, Pt.locs, Pt.cells, Pt.slots] at X1 l1 y1 z1 st1 hQ1
  subst l1 y1 z1
  obtain ⟨rfl, Nq1, e1⟩ := hQ1
  have N1 := Fr.app N0 Nq1
  obtain ⟨T2, h2, k2, X2, e2, E2, A2, st2⟩ := newP X1 hx hZ (hw _ (List.mem_of_getElem? (i := 38) rfl)) e1 (g := (mkF m 10 #[.val (.ref xo0_), .val (.int (0 : Int32)), .val (.int (27 : Int32)), .val (.int (27 : Int32)), .unset] [(.int (27 : Int32))])) rfl (hb hby dA53_10) rfl (by decide) (cap := 27) (by decide) (by decide) (by decide) (by decide)
  obtain ⟨b2, g2⟩ : ∃ z, z = h0.size := ⟨_, rfl⟩
  rw [← g2] at A2 st2
  have g_b2 : n0 ≤ b2 := Nat.le_trans Z0 (Nat.le_of_eq g2.symm)
  have sz_b2 : h0.size ≤ b2 := Nat.le_trans (Keep.refl h0 []).1 (Nat.le_of_eq g2.symm)
  have K2 : Keep h0 h2 [] := (Keep.refl h0 []).ext E2
  have Zs2 : n0 ≤ h2.size := Nat.le_trans Z0 E2.1
  have V2 : Arv Z h2 b2 k2 .byte (27 : Int32) [(.int (0 : Int32)), (.int (0 : Int32)), (.int (0 : Int32)), (.int (0 : Int32)), (.int (0 : Int32)), (.int (0 : Int32)), (.int (0 : Int32)), (.int (0 : Int32)), (.int (0 : Int32)), (.int (0 : Int32)), (.int (0 : Int32)), (.int (0 : Int32)), (.int (0 : Int32)), (.int (0 : Int32)), (.int (0 : Int32)), (.int (0 : Int32)), (.int (0 : Int32)), (.int (0 : Int32)), (.int (0 : Int32)), (.int (0 : Int32)), (.int (0 : Int32)), (.int (0 : Int32)), (.int (0 : Int32)), (.int (0 : Int32)), (.int (0 : Int32)), (.int (0 : Int32)), (.int (0 : Int32))] (.int (0 : Int32)) := (Arv.new A2 (by decide)).pad (pad_rep [] (.int (0 : Int32)) 27)
  obtain ⟨cl3, Ar3, q3, S3, M3, Hs3, G3⟩ := (V_xo0_.ext E2)
  obtain ⟨_, _, ⟨T4, L4, k4, n4⟩, -, X4, ⟨Lc4, hQ4, l4, y4, z4⟩, st4⟩ := Jvm.LawKit.callS X2 hx (y := (⟨"java/lang/Math", "min", "(II)I"⟩ : MethodName)) hown (mvT hZ (hw _ (List.mem_of_getElem? (i := 146) rfl))) (mvT hZ (hw _ (List.mem_of_getElem? (i := 147) rfl))) (mvT hZ (hw _ (List.mem_of_getElem? (i := 138) rfl))) (mvT hZ (hw _ (List.mem_of_getElem? (i := 148) rfl))) (by decide) (backOf (W := 4) (rmA55 l Z a0 hw []  h2 n0 Zs2 ) hZ (hw _ (List.mem_of_getElem? (i := 148) rfl)) (hw _ (List.mem_of_getElem? (i := 138) rfl)) (by decide) (by decide)) (g := (mkF m 24 #[.val (.ref xo0_), .val (.int (0 : Int32)), .val (.int (27 : Int32)), .val (.int (27 : Int32)), .val (.ref b2)] [(.int (27 : Int32)), (.int (34 : Int32)), (.int (0 : Int32)), (.ref b2), (.int (0 : Int32)), (.ref xo0_)])) rfl (by rw [hml]; rfl) (argsL := [(.int (34 : Int32)), (.int (27 : Int32))]) (rest := [(.int (0 : Int32)), (.ref b2), (.int (0 : Int32)), (.ref xo0_)]) (lenOf own_pd14 rfl) rfl (by show 2 * 0 + _ ≤ _; exact Nat.le_of_eq rfl) (hb hby dA53_24) (fun _ _ => ⟨rfl, e2, (by decide : 1 + 0 ≤ _), (by decide : 27 + 0 ≤ _)⟩)
  dsimp only [Pt.U, Pt.locs, Pt.cells, Pt.slots] at X4 l4 y4 z4 st4 hQ4
  subst l4 y4 z4
  obtain ⟨rfl, Nq4, e4⟩ := hQ4
  have N4 := Fr.app N1 Nq4
  obtain ⟨T5, h5, L5, X5, e5, N5, Kc5, V5', st5⟩ := cpA X4 hx hZ hown (hw _ (List.mem_of_getElem? (i := 149) rfl)) (hw _ (List.mem_of_getElem? (i := 123) rfl)) (hw _ (List.mem_of_getElem? (i := 121) rfl)) (hw _ (List.mem_of_getElem? (i := 122) rfl)) e4 (us := [(.int ui1_), (.int (32 : Int32)), (.int (102 : Int32)), (.int (105 : Int32)), (.int (108 : Int32)), (.int (101 : Int32)), (.int (115 : Int32)), (.int (44 : Int32)), (.int (32 : Int32)), (.int ui2_), (.int (32 : Int32)), (.int (102 : Int32)), (.int (111 : Int32)), (.int (108 : Int32)), (.int (100 : Int32)), (.int (101 : Int32)), (.int (114 : Int32)), (.int (115 : Int32)), (.int (44 : Int32)), (.int (32 : Int32)), (.int ui3_), (.int (32 : Int32)), (.int (98 : Int32)), (.int (121 : Int32)), (.int (116 : Int32)), (.int (101 : Int32)), (.int (115 : Int32))]) (V_xo0_.ext E2) V2 (Or.inl ⟨rfl, rfl⟩) (by decide) (by decide) (by decide) (by decide) (by decide) rfl (by first | decide | exact Nat.le_of_ble_eq_true rfl) N4 g_b2 (g := (mkF m 27 #[.val (.ref xo0_), .val (.int (0 : Int32)), .val (.int (27 : Int32)), .val (.int (27 : Int32)), .val (.ref b2)] [(.int (27 : Int32)), (.int (0 : Int32)), (.ref b2), (.int (0 : Int32)), (.ref xo0_)])) rfl (by rw [hml]; rfl) rfl (hb hby dA53_27) (by decide) (W := 0) (by show 2 * 0 + _ ≤ _; exact Nat.le_of_eq rfl) (by decide)
  have K5 : Keep h0 h5 [] := Keep.trans K2 Kc5 (allS (Or.inr sz_b2) all0)
  have Zs5 : n0 ≤ h5.size := Nat.le_trans Zs2 Kc5.1
  have V5 : Arv Z h5 b2 k2 .byte (27 : Int32) [(.int ui1_), (.int (32 : Int32)), (.int (102 : Int32)), (.int (105 : Int32)), (.int (108 : Int32)), (.int (101 : Int32)), (.int (115 : Int32)), (.int (44 : Int32)), (.int (32 : Int32)), (.int ui2_), (.int (32 : Int32)), (.int (102 : Int32)), (.int (111 : Int32)), (.int (108 : Int32)), (.int (100 : Int32)), (.int (101 : Int32)), (.int (114 : Int32)), (.int (115 : Int32)), (.int (44 : Int32)), (.int (32 : Int32)), (.int ui3_), (.int (32 : Int32)), (.int (98 : Int32)), (.int (121 : Int32)), (.int (116 : Int32)), (.int (101 : Int32)), (.int (115 : Int32))] (.int (0 : Int32)) := V5'
  obtain ⟨fs, hr, hrun, hended, hW, hsame⟩ := X5.leave (v := some (.ref b2)) (fun h => by rw [Bd.returns] at h; cases h)
  refine ⟨_, _, (pre0 _ ?_), hrun, hended, _, _, rfl, ?_, ⟨_, rfl⟩, hW, hsame.mono (by decide) (by decide)⟩
  · show Steps p.tables e below (s₁.setTop (mkF m 0 #[.val (.ref xo0_), .val (.int (0 : Int32)), .val (.int (27 : Int32)), .unset, .unset] [])) _
    refine XS.iloadN X0.here hx rfl (hb hby dA53_0) rfl ?_
    show Steps p.tables e below (s₁.setTop (mkF m 1 #[.val (.ref xo0_), .val (.int (0 : Int32)), .val (.int (27 : Int32)), .unset, .unset] [(.int (0 : Int32))])) _
    refine XS.iloadN X0.here hx rfl (hb hby dA53_1) rfl ?_
    show Steps p.tables e below (s₁.setTop (mkF m 2 #[.val (.ref xo0_), .val (.int (0 : Int32)), .val (.int (27 : Int32)), .unset, .unset] [(.int (27 : Int32)), (.int (0 : Int32))])) _
    refine st1 _ ?_
    show Steps p.tables e below (T1.setTop (mkF m 5 #[.val (.ref xo0_), .val (.int (0 : Int32)), .val (.int (27 : Int32)), .unset, .unset] [])) _
    refine XS.iloadN X1.here hx rfl (hb hby dA53_5) rfl ?_
    show Steps p.tables e below (T1.setTop (mkF m 6 #[.val (.ref xo0_), .val (.int (0 : Int32)), .val (.int (27 : Int32)), .unset, .unset] [(.int (27 : Int32))])) _
    refine XS.iloadN X1.here hx rfl (hb hby dA53_6) rfl ?_
    show Steps p.tables e below (T1.setTop (mkF m 7 #[.val (.ref xo0_), .val (.int (0 : Int32)), .val (.int (27 : Int32)), .unset, .unset] [(.int (0 : Int32)), (.int (27 : Int32))])) _
    refine XS.isub X1.here hx rfl (hb hby dA53_7) rfl ?_
    show Steps p.tables e below (T1.setTop (mkF m 8 #[.val (.ref xo0_), .val (.int (0 : Int32)), .val (.int (27 : Int32)), .unset, .unset] [(.int (27 : Int32))])) _
    refine XS.istoreN X1.here hx rfl (hb hby dA53_8) rfl (l' := #[.val (.ref xo0_), .val (.int (0 : Int32)), .val (.int (27 : Int32)), .val (.int (27 : Int32)), .unset]) rfl ?_
    show Steps p.tables e below (T1.setTop (mkF m 9 #[.val (.ref xo0_), .val (.int (0 : Int32)), .val (.int (27 : Int32)), .val (.int (27 : Int32)), .unset] [])) _
    refine XS.iloadN X1.here hx rfl (hb hby dA53_9) rfl ?_
    show Steps p.tables e below (T1.setTop (mkF m 10 #[.val (.ref xo0_), .val (.int (0 : Int32)), .val (.int (27 : Int32)), .val (.int (27 : Int32)), .unset] [(.int (27 : Int32))])) _
    refine st2 _ ?_
    show Steps p.tables e below (T2.setTop (mkF m 12 #[.val (.ref xo0_), .val (.int (0 : Int32)), .val (.int (27 : Int32)), .val (.int (27 : Int32)), .unset] [(.ref b2)])) _
    refine XS.astore X2.here hx rfl (hb hby dA53_12) rfl rfl (l' := #[.val (.ref xo0_), .val (.int (0 : Int32)), .val (.int (27 : Int32)), .val (.int (27 : Int32)), .val (.ref b2)]) rfl ?_
    show Steps p.tables e below (T2.setTop (mkF m 14 #[.val (.ref xo0_), .val (.int (0 : Int32)), .val (.int (27 : Int32)), .val (.int (27 : Int32)), .val (.ref b2)] [])) _
    refine XS.aloadN X2.here hx rfl (hb hby dA53_14) rfl rfl ?_
    show Steps p.tables e below (T2.setTop (mkF m 15 #[.val (.ref xo0_), .val (.int (0 : Int32)), .val (.int (27 : Int32)), .val (.int (27 : Int32)), .val (.ref b2)] [(.ref xo0_)])) _
    refine XS.iloadN X2.here hx rfl (hb hby dA53_15) rfl ?_
    show Steps p.tables e below (T2.setTop (mkF m 16 #[.val (.ref xo0_), .val (.int (0 : Int32)), .val (.int (27 : Int32)), .val (.int (27 : Int32)), .val (.ref b2)] [(.int (0 : Int32)), (.ref xo0_)])) _
    refine XS.aload X2.here hx rfl (hb hby dA53_16) rfl rfl ?_
    show Steps p.tables e below (T2.setTop (mkF m 18 #[.val (.ref xo0_), .val (.int (0 : Int32)), .val (.int (27 : Int32)), .val (.int (27 : Int32)), .val (.ref b2)] [(.ref b2), (.int (0 : Int32)), (.ref xo0_)])) _
    refine XS.iconst X2.here hx rfl (hb hby dA53_18) ?_
    show Steps p.tables e below (T2.setTop (mkF m 19 #[.val (.ref xo0_), .val (.int (0 : Int32)), .val (.int (27 : Int32)), .val (.int (27 : Int32)), .val (.ref b2)] [(.int (0 : Int32)), (.ref b2), (.int (0 : Int32)), (.ref xo0_)])) _
    refine XS.aloadN X2.here hx rfl (hb hby dA53_19) rfl rfl ?_
    show Steps p.tables e below (T2.setTop (mkF m 20 #[.val (.ref xo0_), .val (.int (0 : Int32)), .val (.int (27 : Int32)), .val (.int (27 : Int32)), .val (.ref b2)] [(.ref xo0_), (.int (0 : Int32)), (.ref b2), (.int (0 : Int32)), (.ref xo0_)])) _
    refine X2.arraylength hx (by rw [e2]; exact Ar3.1) (State.isArrayOf_alike hZ.alike Ar3.2.1) (g := (mkF m 20 #[.val (.ref xo0_), .val (.int (0 : Int32)), .val (.int (27 : Int32)), .val (.int (27 : Int32)), .val (.ref b2)] [(.ref xo0_), (.int (0 : Int32)), (.ref b2), (.int (0 : Int32)), (.ref xo0_)])) rfl rfl (hb hby dA53_20) _ ?_
    rw [len_of S3 M3]
    show Steps p.tables e below (T2.setTop (mkF m 21 #[.val (.ref xo0_), .val (.int (0 : Int32)), .val (.int (27 : Int32)), .val (.int (27 : Int32)), .val (.ref b2)] [(.int (34 : Int32)), (.int (0 : Int32)), (.ref b2), (.int (0 : Int32)), (.ref xo0_)])) _
    refine XS.iloadN X2.here hx rfl (hb hby dA53_21) rfl ?_
    show Steps p.tables e below (T2.setTop (mkF m 22 #[.val (.ref xo0_), .val (.int (0 : Int32)), .val (.int (27 : Int32)), .val (.int (27 : Int32)), .val (.ref b2)] [(.int (0 : Int32)), (.int (34 : Int32)), (.int (0 : Int32)), (.ref b2), (.int (0 : Int32)), (.ref xo0_)])) _
    refine XS.isub X2.here hx rfl (hb hby dA53_22) rfl ?_
    show Steps p.tables e below (T2.setTop (mkF m 23 #[.val (.ref xo0_), .val (.int (0 : Int32)), .val (.int (27 : Int32)), .val (.int (27 : Int32)), .val (.ref b2)] [(.int (34 : Int32)), (.int (0 : Int32)), (.ref b2), (.int (0 : Int32)), (.ref xo0_)])) _
    refine XS.iloadN X2.here hx rfl (hb hby dA53_23) rfl ?_
    show Steps p.tables e below (T2.setTop (mkF m 24 #[.val (.ref xo0_), .val (.int (0 : Int32)), .val (.int (27 : Int32)), .val (.int (27 : Int32)), .val (.ref b2)] [(.int (27 : Int32)), (.int (34 : Int32)), (.int (0 : Int32)), (.ref b2), (.int (0 : Int32)), (.ref xo0_)])) _
    refine st4 _ ?_
    show Steps p.tables e below (T4.setTop (mkF m 27 #[.val (.ref xo0_), .val (.int (0 : Int32)), .val (.int (27 : Int32)), .val (.int (27 : Int32)), .val (.ref b2)] [(.int (27 : Int32)), (.int (0 : Int32)), (.ref b2), (.int (0 : Int32)), (.ref xo0_)])) _
    refine st5 _ ?_
    show Steps p.tables e below (T5.setTop (mkF m 30 #[.val (.ref xo0_), .val (.int (0 : Int32)), .val (.int (27 : Int32)), .val (.int (27 : Int32)), .val (.ref b2)] [])) _
    refine XS.aload X5.here hx rfl (hb hby dA53_30) rfl rfl ?_
    show Steps p.tables e below (T5.setTop (mkF m 32 #[.val (.ref xo0_), .val (.int (0 : Int32)), .val (.int (27 : Int32)), .val (.int (27 : Int32)), .val (.ref b2)] [(.ref b2)])) _
    jvm_step X5.here [X5.here.top, hx, (hb hby dA53_32), X5.method', Bd.returns, Value.isRef, FieldType.isReference]
    first | (intro acts; rw [hr _ acts rfl rfl rfl]) | rw [hr _ _ rfl rfl rfl]
    exact Steps.refl _
  · show QA53 Z xo0_ ui1_ ui2_ ui3_ k_xo0_ h0 n0 _ T5.heap _
    rw [e5]
    exact ⟨b2, k2, rfl, N5, K5, g_b2, sz_b2, V5⟩
theorem own_pd20 : parseMethodDescriptor "([BII)[B" = some ⟨[(.array .byte), .int, .int], some (.array .byte)⟩ := by decide +kernel
theorem dA52_0 : decode jdk_65_method_132_code 0 = .ok (.iload_n 1, 1) := by decide +kernel
theorem dA52_1 : decode jdk_65_method_132_code 1 = .ok (.ifCond .ne 9, 3) := by decide +kernel
theorem dA52_4 : decode jdk_65_method_132_code 4 = .ok (.iload_n 2, 1) := by decide +kernel
theorem dA52_5 : decode jdk_65_method_132_code 5 = .ok (.aload_n 0, 1) := by decide +kernel
theorem dA52_6 : decode jdk_65_method_132_code 6 = .ok (.arraylength, 1) := by decide +kernel
theorem dA52_7 : decode jdk_65_method_132_code 7 = .ok (.if_icmp .eq 10, 3) := by decide +kernel
theorem dA52_10 : decode jdk_65_method_132_code 10 = .ok (.aload_n 0, 1) := by decide +kernel
theorem dA52_11 : decode jdk_65_method_132_code 11 = .ok (.iload_n 1, 1) := by decide +kernel
theorem dA52_12 : decode jdk_65_method_132_code 12 = .ok (.iload_n 2, 1) := by decide +kernel
theorem dA52_13 : decode jdk_65_method_132_code 13 = .ok (.invokestatic 339, 3) := by decide +kernel
theorem dA52_16 : decode jdk_65_method_132_code 16 = .ok (.areturn, 1) := by decide +kernel
theorem efA52 (m : MethodId) (xo0_ : Addr) : entryFrame m #[(.ref xo0_), (.int (0 : Int32)), (.int (27 : Int32))] 3 = mkF m 0 #[.val (.ref xo0_), .val (.int (0 : Int32)), .val (.int (27 : Int32))] [] := by first | (simp [entryFrame, mkF, argsToLocals, Value.category]; done) | rfl
def QA52 (Z : State) (xo0_ : Addr) (ui1_ : Int32) (ui2_ : Int32) (ui3_ : Int32) (k_xo0_ : ClassId) (h0 : Heap) (n0 : Nat) (v : Option Value) (h : Heap) (L : List Loc) : Prop := ∃ ffb2_2 : Addr, ∃ k_ffb2_2 : ClassId, v = some (.ref ffb2_2) ∧ Fr n0 L ∧ Keep h0 h [] ∧ n0 ≤ ffb2_2 ∧ h0.size ≤ ffb2_2 ∧ Arv Z h ffb2_2 k_ffb2_2 .byte (27 : Int32) [(.int ui1_), (.int (32 : Int32)), (.int (102 : Int32)), (.int (105 : Int32)), (.int (108 : Int32)), (.int (101 : Int32)), (.int (115 : Int32)), (.int (44 : Int32)), (.int (32 : Int32)), (.int ui2_), (.int (32 : Int32)), (.int (102 : Int32)), (.int (111 : Int32)), (.int (108 : Int32)), (.int (100 : Int32)), (.int (101 : Int32)), (.int (114 : Int32)), (.int (115 : Int32)), (.int (44 : Int32)), (.int (32 : Int32)), (.int ui3_), (.int (32 : Int32)), (.int (98 : Int32)), (.int (121 : Int32)), (.int (116 : Int32)), (.int (101 : Int32)), (.int (115 : Int32))] (.int (0 : Int32))
set_option maxRecDepth 65536 in
set_option maxHeartbeats 40000000 in
theorem rmA52 (l : Launch) (Z : State) (a0 : Array Value) (hw : ∀ d ∈ tables_1, d.before a0 Z = true) (ws : List Jvm.Cond) (xo0_ : Addr) (ui1_ : Int32) (ui2_ : Int32) (ui3_ : Int32) (k_xo0_ : ClassId) (h0 : Heap) (n0 : Nat) (Z0 : n0 ≤ h0.size) (V_xo0_ : Arv Z h0 xo0_ k_xo0_ .byte (34 : Int32) [(.int ui1_), (.int (32 : Int32)), (.int (102 : Int32)), (.int (105 : Int32)), (.int (108 : Int32)), (.int (101 : Int32)), (.int (115 : Int32)), (.int (44 : Int32)), (.int (32 : Int32)), (.int ui2_), (.int (32 : Int32)), (.int (102 : Int32)), (.int (111 : Int32)), (.int (108 : Int32)), (.int (100 : Int32)), (.int (101 : Int32)), (.int (114 : Int32)), (.int (115 : Int32)), (.int (44 : Int32)), (.int (32 : Int32)), (.int ui3_), (.int (32 : Int32)), (.int (98 : Int32)), (.int (121 : Int32)), (.int (116 : Int32)), (.int (101 : Int32)), (.int (115 : Int32)), (.int (0 : Int32)), (.int (0 : Int32)), (.int (0 : Int32)), (.int (0 : Int32)), (.int (0 : Int32)), (.int (0 : Int32)), (.int (0 : Int32))] (.int (0 : Int32))) :
    MetFree l (⟨"java/util/Arrays", "copyOfRange", "([BII)[B"⟩ : MethodName) (head1 (Jvm.Cond.code (⟨"java/util/Arrays", "copyOfRange", "([BII)[B"⟩ : MethodName) jdk_65_method_132_code 3 (some (.array .byte)) :: ws) ({ frames := 2, cells := 1, slots := 27, locals := 56 } : Room)) (fun av_ U => av_ = #[(.ref xo0_), (.int (0 : Int32)), (.int (27 : Int32))] ∧ Z.Warmed39 U.vm ∧ U.heap = h0) (fun _ _ _ _ _ => True) (fun _ U o U' => ∃ v L, o = .returned v ∧ QA52 Z xo0_ ui1_ ui2_ ui3_ k_xo0_ h0 n0 v U'.heap L ∧ FrameEnd U o U' L ({ frames := 2, cells := 1, slots := 27, locals := 56 } : Room).cells ({ frames := 2, cells := 1, slots := 27, locals := 56 } : Room).slots) := by
  refine MetFree.of_bodySF (plainFor_of_name own_pn6) hisR ?_
  intro p e s m args below meth c s₁ Bd hml0 hP hK
  obtain ⟨rfl, hZ, hh⟩ := hP
  have hx := Bd.exec
  have hby := Bd.bytes
  have hml : c.maxLocals = 3 := hml0
  have hown : s.vm.findClass "java/util/Arrays" = some m.cls := findClass_of_methodNamed Bd.named
  have hnm := (name_of_methodNamed Bd.named Bd.method).1
  have X0 : Stand p l e ({ frames := 2, cells := 1, slots := 27, locals := 56 } : Room) s m #[(.ref xo0_), (.int (0 : Int32)), (.int (27 : Int32))] below meth c s₁ [] 0 0 := Stand.of_body Bd
  have e0 : s₁.heap = h0 := by rw [← hh, Bd.state]; rfl
  have N0 := Fr.nil n0
  have pre0 : ∀ t, Steps p.tables e below (s₁.setTop (mkF m 0 #[.val (.ref xo0_), .val (.int (0 : Int32)), .val (.int (27 : Int32))] [])) t → Steps p.tables e below (s₁.setTop (entryFrame m #[(.ref xo0_), (.int (0 : Int32)), (.int (27 : Int32))] 3)) t := fun t k => castTop (efA52 m xo0_) k
  obtain ⟨cl1, Ar1, q1, S1, M1, Hs1, G1⟩ := (id V_xo0_)
  obtain ⟨_, _, ⟨T2, L2, k2, n2⟩, -, X2, ⟨Lc2, hQ2, l2, y2, z2⟩, st2⟩ := Jvm.LawKit.callS X0 hx (y := (⟨"java/util/Arrays", "copyOfRangeByte", "([BII)[B"⟩ : MethodName)) hown (mvT hZ (hw _ (List.mem_of_getElem? (i := 182) rfl))) (mvT hZ (hw _ (List.mem_of_getElem? (i := 183) rfl))) (mvT hZ (hw _ (List.mem_of_getElem? (i := 144) rfl))) (mvT hZ (hw _ (List.mem_of_getElem? (i := 184) rfl))) (by decide) (backOf (W := 0) (rmA53 l Z a0 hw [] xo0_ ui1_ ui2_ ui3_ k_xo0_ h0 n0 Z0 V_xo0_) hZ (hw _ (List.mem_of_getElem? (i := 184) rfl)) (hw _ (List.mem_of_getElem? (i := 144) rfl)) (by decide) (by decide)) (g := (mkF m 13 #[.val (.ref xo0_), .val (.int (0 : Int32)), .val (.int (27 : Int32))] [(.int (27 : Int32)), (.int (0 : Int32)), (.ref xo0_)])) rfl (by rw [hml]; rfl) (argsL := [(.ref xo0_), (.int (0 : Int32)), (.int (27 : Int32))]) (rest := []) (lenOf own_pd20 rfl) rfl (by show 2 * 0 + _ ≤ _; exact Nat.le_of_eq rfl) (hb hby dA52_13) (fun _ _ => ⟨rfl, e0, (by decide : 0 + 1 ≤ _), (by decide : 0 + 27 ≤ _)⟩)
  dsimp only [Pt.U, Pt.locs, Pt.cells, Pt.slots] at X2 l2 y2 z2 st2 hQ2
  subst l2 y2 z2
  obtain ⟨fb2_2, k_fb2_2, rfl, Nq2, Kc2, g_fb2_2, zq_fb2_2, q2_0⟩ := hQ2
  have sz_fb2_2 : h0.size ≤ fb2_2 := Nat.le_trans (Keep.refl h0 []).1 zq_fb2_2
  have ne_xo0__fb2_2 : xo0_ ≠ fb2_2 := Nat.ne_of_lt (Nat.lt_of_lt_of_le V_xo0_.lt zq_fb2_2)
  have K2 : Keep h0 T2.heap [] := Keep.trans (Keep.refl h0 []) Kc2 all0
  have Zs2 : n0 ≤ T2.heap.size := Nat.le_trans Z0 Kc2.1
  have N2 := Fr.app N0 Nq2
  obtain ⟨fs, hr, hrun, hended, hW, hsame⟩ := X2.leave (v := some (.ref fb2_2)) (fun h => by rw [Bd.returns] at h; cases h)
  refine ⟨_, _, (pre0 _ ?_), hrun, hended, _, _, rfl, ?_, ⟨_, rfl⟩, hW, hsame.mono (by decide) (by decide)⟩
  · show Steps p.tables e below (s₁.setTop (mkF m 0 #[.val (.ref xo0_), .val (.int (0 : Int32)), .val (.int (27 : Int32))] [])) _
    refine XS.iloadN X0.here hx rfl (hb hby dA52_0) rfl ?_
    show Steps p.tables e below (s₁.setTop (mkF m 1 #[.val (.ref xo0_), .val (.int (0 : Int32)), .val (.int (27 : Int32))] [(.int (0 : Int32))])) _
    refine XS.ifNo X0.here hx rfl (hb hby dA52_1) rfl ((if0 _ _).trans (teq (by decide : (0 : Int32) = (0 : Int32))).2) ?_
    show Steps p.tables e below (s₁.setTop (mkF m 4 #[.val (.ref xo0_), .val (.int (0 : Int32)), .val (.int (27 : Int32))] [])) _
    refine XS.iloadN X0.here hx rfl (hb hby dA52_4) rfl ?_
    show Steps p.tables e below (s₁.setTop (mkF m 5 #[.val (.ref xo0_), .val (.int (0 : Int32)), .val (.int (27 : Int32))] [(.int (27 : Int32))])) _
    refine XS.aloadN X0.here hx rfl (hb hby dA52_5) rfl rfl ?_
    show Steps p.tables e below (s₁.setTop (mkF m 6 #[.val (.ref xo0_), .val (.int (0 : Int32)), .val (.int (27 : Int32))] [(.ref xo0_), (.int (27 : Int32))])) _
    refine X0.arraylength hx (by rw [e0]; exact Ar1.1) (State.isArrayOf_alike hZ.alike Ar1.2.1) (g := (mkF m 6 #[.val (.ref xo0_), .val (.int (0 : Int32)), .val (.int (27 : Int32))] [(.ref xo0_), (.int (27 : Int32))])) rfl rfl (hb hby dA52_6) _ ?_
    rw [len_of S1 M1]
    show Steps p.tables e below (s₁.setTop (mkF m 7 #[.val (.ref xo0_), .val (.int (0 : Int32)), .val (.int (27 : Int32))] [(.int (34 : Int32)), (.int (27 : Int32))])) _
    refine XS.icmpNo X0.here hx rfl (hb hby dA52_7) rfl (feq (by decide : ¬ ((27 : Int32) = (34 : Int32)))).1 ?_
    show Steps p.tables e below (s₁.setTop (mkF m 10 #[.val (.ref xo0_), .val (.int (0 : Int32)), .val (.int (27 : Int32))] [])) _
    refine XS.aloadN X0.here hx rfl (hb hby dA52_10) rfl rfl ?_
    show Steps p.tables e below (s₁.setTop (mkF m 11 #[.val (.ref xo0_), .val (.int (0 : Int32)), .val (.int (27 : Int32))] [(.ref xo0_)])) _
    refine XS.iloadN X0.here hx rfl (hb hby dA52_11) rfl ?_
    show Steps p.tables e below (s₁.setTop (mkF m 12 #[.val (.ref xo0_), .val (.int (0 : Int32)), .val (.int (27 : Int32))] [(.int (0 : Int32)), (.ref xo0_)])) _
    refine XS.iloadN X0.here hx rfl (hb hby dA52_12) rfl ?_
    show Steps p.tables e below (s₁.setTop (mkF m 13 #[.val (.ref xo0_), .val (.int (0 : Int32)), .val (.int (27 : Int32))] [(.int (27 : Int32)), (.int (0 : Int32)), (.ref xo0_)])) _
    refine st2 _ ?_
    show Steps p.tables e below (T2.setTop (mkF m 16 #[.val (.ref xo0_), .val (.int (0 : Int32)), .val (.int (27 : Int32))] [(.ref fb2_2)])) _
    jvm_step X2.here [X2.here.top, hx, (hb hby dA52_16), X2.method', Bd.returns, Value.isRef, FieldType.isReference]
    first | (intro acts; rw [hr _ acts rfl rfl rfl]) | rw [hr _ _ rfl rfl rfl]
    exact Steps.refl _
  · show QA52 Z xo0_ ui1_ ui2_ ui3_ k_xo0_ h0 n0 _ T2.heap _
    exact ⟨fb2_2, k_fb2_2, rfl, N2, K2, g_fb2_2, sz_fb2_2, q2_0⟩
theorem dA47_0 : decode jdk_42_method_150_code 0 = .ok (.aload_n 0, 1) := by decide +kernel
theorem dA47_1 : decode jdk_42_method_150_code 1 = .ok (.invokespecial 1, 3) := by decide +kernel
theorem dA47_4 : decode jdk_42_method_150_code 4 = .ok (.aload_n 1, 1) := by decide +kernel
theorem dA47_5 : decode jdk_42_method_150_code 5 = .ok (.invokevirtual 552, 3) := by decide +kernel
theorem dA47_8 : decode jdk_42_method_150_code 8 = .ok (.astore_n 3, 1) := by decide +kernel
theorem dA47_9 : decode jdk_42_method_150_code 9 = .ok (.aload_n 1, 1) := by decide +kernel
theorem dA47_10 : decode jdk_42_method_150_code 10 = .ok (.invokevirtual 549, 3) := by decide +kernel
theorem dA47_13 : decode jdk_42_method_150_code 13 = .ok (.istore 4, 2) := by decide +kernel
theorem dA47_15 : decode jdk_42_method_150_code 15 = .ok (.aload_n 1, 1) := by decide +kernel
theorem dA47_16 : decode jdk_42_method_150_code 16 = .ok (.invokevirtual 1047, 3) := by decide +kernel
theorem dA47_19 : decode jdk_42_method_150_code 19 = .ok (.ifCond .eq 22, 3) := by decide +kernel
theorem dA47_22 : decode jdk_42_method_150_code 22 = .ok (.aload_n 0, 1) := by decide +kernel
theorem dA47_23 : decode jdk_42_method_150_code 23 = .ok (.iconst 0, 1) := by decide +kernel
theorem dA47_24 : decode jdk_42_method_150_code 24 = .ok (.putfield 15, 3) := by decide +kernel
theorem dA47_27 : decode jdk_42_method_150_code 27 = .ok (.aload_n 0, 1) := by decide +kernel
theorem dA47_28 : decode jdk_42_method_150_code 28 = .ok (.aload_n 3, 1) := by decide +kernel
theorem dA47_29 : decode jdk_42_method_150_code 29 = .ok (.iconst 0, 1) := by decide +kernel
theorem dA47_30 : decode jdk_42_method_150_code 30 = .ok (.iload 4, 2) := by decide +kernel
theorem dA47_32 : decode jdk_42_method_150_code 32 = .ok (.invokestatic 54, 3) := by decide +kernel
theorem dA47_35 : decode jdk_42_method_150_code 35 = .ok (.putfield 9, 3) := by decide +kernel
theorem dA47_38 : decode jdk_42_method_150_code 38 = .ok (.goto 59, 3) := by decide +kernel
theorem dA47_97 : decode jdk_42_method_150_code 97 = .ok (.return_, 1) := by decide +kernel
theorem efA47 (m : MethodId) (xo0_ : Addr) (xo1_ : Addr) : entryFrame m #[(.ref xo0_), (.ref xo1_), .null] 5 = mkF m 0 #[.val (.ref xo0_), .val (.ref xo1_), .val .null, .unset, .unset] [] := by first | (simp [entryFrame, mkF, argsToLocals, Value.category]; done) | rfl
def QA47 (Z : State) (xo0_ : Addr) (xo1_ : Addr) (uo1_ : Addr) (ui2_ : Int32) (ui3_ : Int32) (ui4_ : Int32) (ui5_ : Int32) (k_uo1_ : ClassId) (h0 : Heap) (n0 : Nat) (v : Option Value) (h : Heap) (L : List Loc) : Prop := ∃ fffb2_2_6 : Addr, ∃ k_fffb2_2_6 : ClassId, v = none ∧ Fr n0 L ∧ Keep h0 h [xo0_] ∧ n0 ≤ fffb2_2_6 ∧ h0.size ≤ fffb2_2_6 ∧ Exa Z h xo0_ "java/lang/String" ∧ Fld Z h xo0_ "java/lang/String" "value" "[B" (.ref fffb2_2_6) ∧ Fld Z h xo0_ "java/lang/String" "coder" "B" (.int (0 : Int32)) ∧ Arv Z h fffb2_2_6 k_fffb2_2_6 .byte (27 : Int32) [(.int ui3_), (.int (32 : Int32)), (.int (102 : Int32)), (.int (105 : Int32)), (.int (108 : Int32)), (.int (101 : Int32)), (.int (115 : Int32)), (.int (44 : Int32)), (.int (32 : Int32)), (.int ui4_), (.int (32 : Int32)), (.int (102 : Int32)), (.int (111 : Int32)), (.int (108 : Int32)), (.int (100 : Int32)), (.int (101 : Int32)), (.int (114 : Int32)), (.int (115 : Int32)), (.int (44 : Int32)), (.int (32 : Int32)), (.int ui5_), (.int (32 : Int32)), (.int (98 : Int32)), (.int (121 : Int32)), (.int (116 : Int32)), (.int (101 : Int32)), (.int (115 : Int32))] (.int (0 : Int32))
set_option maxRecDepth 65536 in
set_option maxHeartbeats 40000000 in
theorem rmA47 (l : Launch) (Z : State) (a0 : Array Value) (hw : ∀ d ∈ tables_1, d.before a0 Z = true) (ws : List Jvm.Cond) (xo0_ : Addr) (xo1_ : Addr) (uo1_ : Addr) (ui2_ : Int32) (ui3_ : Int32) (ui4_ : Int32) (ui5_ : Int32) (k_uo1_ : ClassId) (h0 : Heap) (n0 : Nat) (Z0 : n0 ≤ h0.size) (E_xo0_ : Exa Z h0 xo0_ "java/lang/String") (F_value_xo0_ : Fld Z h0 xo0_ "java/lang/String" "value" "[B" .null) (F_coder_xo0_ : Fld Z h0 xo0_ "java/lang/String" "coder" "B" (.int (0 : Int32))) (E_xo1_ : Exa Z h0 xo1_ "java/lang/StringBuilder") (F_value_xo1_ : Fld Z h0 xo1_ "java/lang/AbstractStringBuilder" "value" "[B" (.ref uo1_)) (F_coder_xo1_ : Fld Z h0 xo1_ "java/lang/AbstractStringBuilder" "coder" "B" (.int (0 : Int32))) (F_count_xo1_ : Fld Z h0 xo1_ "java/lang/AbstractStringBuilder" "count" "I" (.int (27 : Int32))) (X00 : Old Z n0 h0) (S_COMPACT_STRINGS : Sta Z Z.heap "java/lang/String" "COMPACT_STRINGS" "Z" (.int ui2_)) (hp0_ : ¬ (ui2_ = (0 : Int32))) (g_xo0_ : n0 ≤ xo0_) (V_uo1_ : Arv Z h0 uo1_ k_uo1_ .byte (34 : Int32) [(.int ui3_), (.int (32 : Int32)), (.int (102 : Int32)), (.int (105 : Int32)), (.int (108 : Int32)), (.int (101 : Int32)), (.int (115 : Int32)), (.int (44 : Int32)), (.int (32 : Int32)), (.int ui4_), (.int (32 : Int32)), (.int (102 : Int32)), (.int (111 : Int32)), (.int (108 : Int32)), (.int (100 : Int32)), (.int (101 : Int32)), (.int (114 : Int32)), (.int (115 : Int32)), (.int (44 : Int32)), (.int (32 : Int32)), (.int ui5_), (.int (32 : Int32)), (.int (98 : Int32)), (.int (121 : Int32)), (.int (116 : Int32)), (.int (101 : Int32)), (.int (115 : Int32)), (.int (0 : Int32)), (.int (0 : Int32)), (.int (0 : Int32)), (.int (0 : Int32)), (.int (0 : Int32)), (.int (0 : Int32)), (.int (0 : Int32))] (.int (0 : Int32))) :
    MetFree l (⟨"java/lang/String", "<init>", "(Ljava/lang/AbstractStringBuilder;Ljava/lang/Void;)V"⟩ : MethodName) (head1 (Jvm.Cond.code (⟨"java/lang/String", "<init>", "(Ljava/lang/AbstractStringBuilder;Ljava/lang/Void;)V"⟩ : MethodName) jdk_42_method_150_code 5 none :: ws) ({ frames := 3, cells := 1, slots := 27, locals := 71 } : Room)) (fun av_ U => av_ = #[(.ref xo0_), (.ref xo1_), .null] ∧ Z.Warmed39 U.vm ∧ U.heap = h0) (fun _ _ _ _ _ => True) (fun _ U o U' => ∃ v L, o = .returned v ∧ QA47 Z xo0_ xo1_ uo1_ ui2_ ui3_ ui4_ ui5_ k_uo1_ h0 n0 v U'.heap L ∧ FrameEnd U o U' L ({ frames := 3, cells := 1, slots := 27, locals := 71 } : Room).cells ({ frames := 3, cells := 1, slots := 27, locals := 71 } : Room).slots) := by
  refine MetFree.of_bodySF (plainFor_of_name own_pn4) hisR ?_
  intro p e s m args below meth c s₁ Bd hml0 hP hK
  obtain ⟨rfl, hZ, hh⟩ := hP
  have hx := Bd.exec
  have hby := Bd.bytes
  have hml : c.maxLocals = 5 := hml0
  have hown : s.vm.findClass "java/lang/String" = some m.cls := findClass_of_methodNamed Bd.named
  have hnm := (name_of_methodNamed Bd.named Bd.method).1
  have X0 : Stand p l e ({ frames := 3, cells := 1, slots := 27, locals := 71 } : Room) s m #[(.ref xo0_), (.ref xo1_), .null] below meth c s₁ [] 0 0 := Stand.of_body Bd
  have e0 : s₁.heap = h0 := by rw [← hh, Bd.state]; rfl
  have N0 := Fr.nil n0
  have pre0 : ∀ t, Steps p.tables e below (s₁.setTop (mkF m 0 #[.val (.ref xo0_), .val (.ref xo1_), .val .null, .unset, .unset] [])) t → Steps p.tables e below (s₁.setTop (entryFrame m #[(.ref xo0_), (.ref xo1_), .null] 5)) t := fun t k => castTop (efA47 m xo0_ xo1_) k
  obtain ⟨T1, X1, e1, st1⟩ := initO X0 hx hZ hown (hw _ (List.mem_of_getElem? (i := 164) rfl)) (hw _ (List.mem_of_getElem? (i := 7) rfl)) (hw _ (List.mem_of_getElem? (i := 8) rfl)) e0 (g := (mkF m 1 #[.val (.ref xo0_), .val (.ref xo1_), .val .null, .unset, .unset] [(.ref xo0_)])) rfl (by rw [hml]; rfl) rfl (hb hby dA47_1) (by decide) (W := 0) (by show 2 * 0 + _ ≤ _; exact Nat.le_of_eq rfl) (by decide)
  obtain ⟨cq2, kq2, q2a, q2b, q2c⟩ := isOf hZ e1 E_xo1_
  obtain ⟨_, _, ⟨T2, L2, k2, n2⟩, -, X2, ⟨Lc2, hQ2, l2, y2, z2⟩, st2⟩ := X1.virtualBack hx (y := (⟨"java/lang/AbstractStringBuilder", "getValue", "()[B"⟩ : MethodName)) (z := (⟨"java/lang/AbstractStringBuilder", "getValue", "()[B"⟩ : MethodName)) hown (mvT hZ (hw _ (List.mem_of_getElem? (i := 165) rfl))) (mvT hZ (hw _ (List.mem_of_getElem? (i := 166) rfl))) (notFace_of_selects (args := #[]) (mvT hZ (hw _ (List.mem_of_getElem? (i := 168) rfl)))) (mvT hZ (hw _ (List.mem_of_getElem? (i := 168) rfl))) (mvT hZ (hw _ (List.mem_of_getElem? (i := 167) rfl))) (by decide) (backOf (W := 0) (rmA48 l Z a0 hw [] xo1_ uo1_ h0 n0 Z0 E_xo1_ F_value_xo1_ F_coder_xo1_ F_count_xo1_) hZ (hw _ (List.mem_of_getElem? (i := 169) rfl)) (hw _ (List.mem_of_getElem? (i := 33) rfl)) (by decide) (by decide)) q2a q2c (g := (mkF m 5 #[.val (.ref xo0_), .val (.ref xo1_), .val .null, .unset, .unset] [(.ref xo1_)])) rfl (by rw [hml]; rfl) (Steps.refl _) (argsL := []) (rest := []) (lenOf own_pd18 rfl) rfl (by show 2 * 0 + _ ≤ _; exact Nat.le_of_eq rfl) (hb hby dA47_5) (fun _ _ => ⟨rfl, e1, (by decide : 0 + 0 ≤ _), (by decide : 0 + 0 ≤ _)⟩)
  dsimp only [Pt.U, Pt.locs, Pt.cells, Pt.slots] at X2 l2 y2 z2 st2 hQ2
  subst l2 y2 z2
  obtain ⟨rfl, Nq2, e2⟩ := hQ2
  have N2 := Fr.app N0 Nq2
  obtain ⟨cq3, kq3, q3a, q3b, q3c⟩ := isOf hZ e2 E_xo1_
  obtain ⟨_, _, ⟨T3, L3, k3, n3⟩, -, X3, ⟨Lc3, hQ3, l3, y3, z3⟩, st3⟩ := X2.virtualBack hx (y := (⟨"java/lang/AbstractStringBuilder", "length", "()I"⟩ : MethodName)) (z := (⟨"java/lang/StringBuilder", "length", "()I"⟩ : MethodName)) hown (mvT hZ (hw _ (List.mem_of_getElem? (i := 170) rfl))) (mvT hZ (hw _ (List.mem_of_getElem? (i := 171) rfl))) (nfSel (mvT (args := #[]) hZ (hw _ (List.mem_of_getElem? (i := 63) rfl))) rfl) (mvT hZ (hw _ (List.mem_of_getElem? (i := 173) rfl))) (mvT hZ (hw _ (List.mem_of_getElem? (i := 174) rfl))) (by decide) (backOf (W := 0) (rmA49 l Z a0 hw [] xo1_ uo1_ h0 n0 Z0 E_xo1_ F_value_xo1_ F_coder_xo1_ F_count_xo1_) hZ (hw _ (List.mem_of_getElem? (i := 175) rfl)) (hw _ (List.mem_of_getElem? (i := 25) rfl)) (by decide) (by decide)) q3a q3c (g := (mkF m 10 #[.val (.ref xo0_), .val (.ref xo1_), .val .null, .val (.ref uo1_), .unset] [(.ref xo1_)])) rfl (by rw [hml]; rfl) (Steps.refl _) (argsL := []) (rest := []) (lenOf own_pd8 rfl) rfl (by show 2 * 0 + _ ≤ _; exact Nat.le_of_eq rfl) (hb hby dA47_10) (fun _ _ => ⟨rfl, e2, (by decide : 0 + 0 ≤ _), (by decide : 0 + 0 ≤ _)⟩)
  dsimp only [Pt.U, Pt.locs, Pt.cells, Pt.slots] at X3 l3 y3 z3 st3 hQ3
  subst l3 y3 z3
  obtain ⟨rfl, Nq3, e3⟩ := hQ3
  have N3 := Fr.app N2 Nq3
  obtain ⟨cq4, kq4, q4a, q4b, q4c⟩ := isOf hZ e3 E_xo1_
  obtain ⟨_, _, ⟨T4, L4, k4, n4⟩, -, X4, ⟨Lc4, hQ4, l4, y4, z4⟩, st4⟩ := X3.virtualBack hx (y := (⟨"java/lang/AbstractStringBuilder", "isLatin1", "()Z"⟩ : MethodName)) (z := (⟨"java/lang/AbstractStringBuilder", "isLatin1", "()Z"⟩ : MethodName)) hown (mvT hZ (hw _ (List.mem_of_getElem? (i := 178) rfl))) (mvT hZ (hw _ (List.mem_of_getElem? (i := 66) rfl))) (notFace_of_selects (args := #[]) (mvT hZ (hw _ (List.mem_of_getElem? (i := 68) rfl)))) (mvT hZ (hw _ (List.mem_of_getElem? (i := 68) rfl))) (mvT hZ (hw _ (List.mem_of_getElem? (i := 67) rfl))) (by decide) (backOf (W := 0) (rmA51 l Z a0 hw [] xo1_ uo1_ ui2_ h0 n0 Z0 E_xo1_ F_value_xo1_ F_coder_xo1_ F_count_xo1_ X00 S_COMPACT_STRINGS hp0_) hZ (hw _ (List.mem_of_getElem? (i := 69) rfl)) (hw _ (List.mem_of_getElem? (i := 33) rfl)) (by decide) (by decide)) q4a q4c (g := (mkF m 16 #[.val (.ref xo0_), .val (.ref xo1_), .val .null, .val (.ref uo1_), .val (.int (27 : Int32))] [(.ref xo1_)])) rfl (by rw [hml]; rfl) (Steps.refl _) (argsL := []) (rest := []) (lenOf own_pd3 rfl) rfl (by show 2 * 0 + _ ≤ _; exact Nat.le_of_eq rfl) (hb hby dA47_16) (fun _ _ => ⟨rfl, e3, (by decide : 0 + 0 ≤ _), (by decide : 0 + 0 ≤ _)⟩)
  dsimp only [Pt.U, Pt.locs, Pt.cells, Pt.slots] at X4 l4 y4 z4 st4 hQ4
  subst l4 y4 z4
  obtain ⟨rfl, Nq4, e4⟩ := hQ4
  have N4 := Fr.app N3 Nq4
  obtain ⟨T5, h5, X5, e5, W5, st5⟩ := putFN X4 hx hZ hown (hw _ (List.mem_of_getElem? (i := 103) rfl)) Via.refl e4 F_coder_xo0_ E_xo0_ (Or.inr ⟨(hw _ (List.mem_of_getElem? (i := 79) rfl)), rfl, hnm⟩) (hw _ (List.mem_of_getElem? (i := 77) rfl)) (ty := .byte) (v := (.int (0 : Int32))) (v' := (.int (0 : Int32))) (by decide) rfl rfl (g := (mkF m 24 #[.val (.ref xo0_), .val (.ref xo1_), .val .null, .val (.ref uo1_), .val (.int (27 : Int32))] [(.int (0 : Int32)), (.ref xo0_)])) rfl rfl (hb hby dA47_24)
  have F5 : Fld Z h5 xo0_ "java/lang/String" "coder" "B" (.int (0 : Int32)) := Fld.same W5 F_coder_xo0_
  have K5 : Keep h0 h5 [xo0_] := (Keep.refl h0 [xo0_]).wr W5 (Or.inl (List.mem_of_getElem? (i := 0) rfl))
  have Zs5 : n0 ≤ h5.size := Nat.le_trans Z0 (Keep.of_wr W5).1
  have N5 := Fr.snoc X5 N4 g_xo0_
  have no7 : xo0_ ≠ uo1_ := Exa.neArv E_xo0_ V_uo1_ (hw _ (List.mem_of_getElem? (i := 77) rfl))
  obtain ⟨_, _, ⟨T6, L6, k6, n6⟩, -, X6, ⟨Lc6, hQ6, l6, y6, z6⟩, st6⟩ := Jvm.LawKit.callS X5 hx (y := (⟨"java/util/Arrays", "copyOfRange", "([BII)[B"⟩ : MethodName)) hown (mvT hZ (hw _ (List.mem_of_getElem? (i := 179) rfl))) (mvT hZ (hw _ (List.mem_of_getElem? (i := 180) rfl))) (mvT hZ (hw _ (List.mem_of_getElem? (i := 144) rfl))) (mvT hZ (hw _ (List.mem_of_getElem? (i := 181) rfl))) (by decide) (backOf (W := 1) (rmA52 l Z a0 hw [] uo1_ ui3_ ui4_ ui5_ k_uo1_ h5 n0 Zs5 (V_uo1_.other W5 (Ne.symm no7))) hZ (hw _ (List.mem_of_getElem? (i := 181) rfl)) (hw _ (List.mem_of_getElem? (i := 144) rfl)) (by decide) (by decide)) (g := (mkF m 32 #[.val (.ref xo0_), .val (.ref xo1_), .val .null, .val (.ref uo1_), .val (.int (27 : Int32))] [(.int (27 : Int32)), (.int (0 : Int32)), (.ref uo1_), (.ref xo0_)])) rfl (by rw [hml]; rfl) (argsL := [(.ref uo1_), (.int (0 : Int32)), (.int (27 : Int32))]) (rest := [(.ref xo0_)]) (lenOf own_pd20 rfl) rfl (by show 2 * 0 + _ ≤ _; exact Nat.le_of_eq rfl) (hb hby dA47_32) (fun _ _ => ⟨rfl, e5, (by decide : 0 + 1 ≤ _), (by decide : 0 + 27 ≤ _)⟩)
  dsimp only [Pt.U, Pt.locs, Pt.cells, Pt.slots] at X6 l6 y6 z6 st6 hQ6
  subst l6 y6 z6
  obtain ⟨ffb2_2_6, k_ffb2_2_6, rfl, Nq6, Kc6, g_ffb2_2_6, zq_ffb2_2_6, q6_0⟩ := hQ6
  have sz_ffb2_2_6 : h0.size ≤ ffb2_2_6 := Nat.le_trans K5.1 zq_ffb2_2_6
  have ne_xo0__ffb2_2_6 : xo0_ ≠ ffb2_2_6 := Nat.ne_of_lt (Nat.lt_of_lt_of_le (E_xo0_.wr W5).lt zq_ffb2_2_6)
  have ne_xo1__ffb2_2_6 : xo1_ ≠ ffb2_2_6 := Nat.ne_of_lt (Nat.lt_of_lt_of_le (E_xo1_.wr W5).lt zq_ffb2_2_6)
  have ne_uo1__ffb2_2_6 : uo1_ ≠ ffb2_2_6 := Nat.ne_of_lt (Nat.lt_of_lt_of_le (V_uo1_.other W5 (Ne.symm no7)).lt zq_ffb2_2_6)
  have K6 : Keep h0 T6.heap [xo0_] := Keep.trans K5 Kc6 all0
  have Zs6 : n0 ≤ T6.heap.size := Nat.le_trans Zs5 Kc6.1
  have N6 := Fr.app N5 Nq6
  obtain ⟨T8, h8, X8, e8, W8, st8⟩ := putF X6 hx hZ hown (host := "") (Or.inl (hw _ (List.mem_of_getElem? (i := 96) rfl))) Via.refl rfl ((Fld.other W5 F_value_xo0_ (Or.inr (slot_ne (Or.inr (hw _ (List.mem_of_getElem? (i := 78) rfl))) (Or.inr (hw _ (List.mem_of_getElem? (i := 79) rfl))) (by decide) (t := (.array .byte)) (t' := .byte) (by decide) (by decide)))).keep Kc6 nin0) ((E_xo0_.wr W5).keep Kc6) (Or.inr ⟨(hw _ (List.mem_of_getElem? (i := 78) rfl)), rfl, hnm⟩) (hw _ (List.mem_of_getElem? (i := 77) rfl)) (ty := (.array .byte)) (by decide) rfl rfl (g := (mkF m 35 #[.val (.ref xo0_), .val (.ref xo1_), .val .null, .val (.ref uo1_), .val (.int (27 : Int32))] [(.ref ffb2_2_6), (.ref xo0_)])) rfl rfl (hb hby dA47_35)
  have F8 : Fld Z h8 xo0_ "java/lang/String" "value" "[B" (.ref ffb2_2_6) := Fld.same W8 ((Fld.other W5 F_value_xo0_ (Or.inr (slot_ne (Or.inr (hw _ (List.mem_of_getElem? (i := 78) rfl))) (Or.inr (hw _ (List.mem_of_getElem? (i := 79) rfl))) (by decide) (t := (.array .byte)) (t' := .byte) (by decide) (by decide)))).keep Kc6 nin0)
  have K8 : Keep h0 h8 [xo0_] := K6.wr W8 (Or.inl (List.mem_of_getElem? (i := 0) rfl))
  have Zs8 : n0 ≤ h8.size := Nat.le_trans Zs6 (Keep.of_wr W8).1
  have N8 := Fr.snoc X8 N6 g_xo0_
  obtain ⟨fs, hr, hrun, hended, hW, hsame⟩ := X8.leave (v := none) (fun _ => rfl)
  refine ⟨_, _, (pre0 _ ?_), hrun, hended, _, _, rfl, ?_, ⟨_, rfl⟩, hW, hsame.mono (by decide) (by decide)⟩
  · show Steps p.tables e below (s₁.setTop (mkF m 0 #[.val (.ref xo0_), .val (.ref xo1_), .val .null, .unset, .unset] [])) _
    refine XS.aloadN X0.here hx rfl (hb hby dA47_0) rfl rfl ?_
    show Steps p.tables e below (s₁.setTop (mkF m 1 #[.val (.ref xo0_), .val (.ref xo1_), .val .null, .unset, .unset] [(.ref xo0_)])) _
    refine st1 _ ?_
    show Steps p.tables e below (T1.setTop (mkF m 4 #[.val (.ref xo0_), .val (.ref xo1_), .val .null, .unset, .unset] [])) _
    refine XS.aloadN X1.here hx rfl (hb hby dA47_4) rfl rfl ?_
    show Steps p.tables e below (T1.setTop (mkF m 5 #[.val (.ref xo0_), .val (.ref xo1_), .val .null, .unset, .unset] [(.ref xo1_)])) _
    refine st2.trans ?_
    show Steps p.tables e below (T2.setTop (mkF m 8 #[.val (.ref xo0_), .val (.ref xo1_), .val .null, .unset, .unset] [(.ref uo1_)])) _
    refine XS.astoreN X2.here hx rfl (hb hby dA47_8) rfl rfl (l' := #[.val (.ref xo0_), .val (.ref xo1_), .val .null, .val (.ref uo1_), .unset]) rfl ?_
    show Steps p.tables e below (T2.setTop (mkF m 9 #[.val (.ref xo0_), .val (.ref xo1_), .val .null, .val (.ref uo1_), .unset] [])) _
    refine XS.aloadN X2.here hx rfl (hb hby dA47_9) rfl rfl ?_
    show Steps p.tables e below (T2.setTop (mkF m 10 #[.val (.ref xo0_), .val (.ref xo1_), .val .null, .val (.ref uo1_), .unset] [(.ref xo1_)])) _
    refine st3.trans ?_
    show Steps p.tables e below (T3.setTop (mkF m 13 #[.val (.ref xo0_), .val (.ref xo1_), .val .null, .val (.ref uo1_), .unset] [(.int (27 : Int32))])) _
    refine XS.istore X3.here hx rfl (hb hby dA47_13) rfl (l' := #[.val (.ref xo0_), .val (.ref xo1_), .val .null, .val (.ref uo1_), .val (.int (27 : Int32))]) rfl ?_
    show Steps p.tables e below (T3.setTop (mkF m 15 #[.val (.ref xo0_), .val (.ref xo1_), .val .null, .val (.ref uo1_), .val (.int (27 : Int32))] [])) _
    refine XS.aloadN X3.here hx rfl (hb hby dA47_15) rfl rfl ?_
    show Steps p.tables e below (T3.setTop (mkF m 16 #[.val (.ref xo0_), .val (.ref xo1_), .val .null, .val (.ref uo1_), .val (.int (27 : Int32))] [(.ref xo1_)])) _
    refine st4.trans ?_
    show Steps p.tables e below (T4.setTop (mkF m 19 #[.val (.ref xo0_), .val (.ref xo1_), .val .null, .val (.ref uo1_), .val (.int (27 : Int32))] [(.int (1 : Int32))])) _
    refine XS.ifNo X4.here hx rfl (hb hby dA47_19) rfl ((if0 _ _).trans (feq (by decide : ¬ ((1 : Int32) = (0 : Int32)))).1) ?_
    show Steps p.tables e below (T4.setTop (mkF m 22 #[.val (.ref xo0_), .val (.ref xo1_), .val .null, .val (.ref uo1_), .val (.int (27 : Int32))] [])) _
    refine XS.aloadN X4.here hx rfl (hb hby dA47_22) rfl rfl ?_
    show Steps p.tables e below (T4.setTop (mkF m 23 #[.val (.ref xo0_), .val (.ref xo1_), .val .null, .val (.ref uo1_), .val (.int (27 : Int32))] [(.ref xo0_)])) _
    refine XS.iconst X4.here hx rfl (hb hby dA47_23) ?_
    show Steps p.tables e below (T4.setTop (mkF m 24 #[.val (.ref xo0_), .val (.ref xo1_), .val .null, .val (.ref uo1_), .val (.int (27 : Int32))] [(.int (0 : Int32)), (.ref xo0_)])) _
    refine st5 _ ?_
    show Steps p.tables e below (T5.setTop (mkF m 27 #[.val (.ref xo0_), .val (.ref xo1_), .val .null, .val (.ref uo1_), .val (.int (27 : Int32))] [])) _
    refine XS.aloadN X5.here hx rfl (hb hby dA47_27) rfl rfl ?_
    show Steps p.tables e below (T5.setTop (mkF m 28 #[.val (.ref xo0_), .val (.ref xo1_), .val .null, .val (.ref uo1_), .val (.int (27 : Int32))] [(.ref xo0_)])) _
    refine XS.aloadN X5.here hx rfl (hb hby dA47_28) rfl rfl ?_
    show Steps p.tables e below (T5.setTop (mkF m 29 #[.val (.ref xo0_), .val (.ref xo1_), .val .null, .val (.ref uo1_), .val (.int (27 : Int32))] [(.ref uo1_), (.ref xo0_)])) _
    refine XS.iconst X5.here hx rfl (hb hby dA47_29) ?_
    show Steps p.tables e below (T5.setTop (mkF m 30 #[.val (.ref xo0_), .val (.ref xo1_), .val .null, .val (.ref uo1_), .val (.int (27 : Int32))] [(.int (0 : Int32)), (.ref uo1_), (.ref xo0_)])) _
    refine XS.iload X5.here hx rfl (hb hby dA47_30) rfl ?_
    show Steps p.tables e below (T5.setTop (mkF m 32 #[.val (.ref xo0_), .val (.ref xo1_), .val .null, .val (.ref uo1_), .val (.int (27 : Int32))] [(.int (27 : Int32)), (.int (0 : Int32)), (.ref uo1_), (.ref xo0_)])) _
    refine st6 _ ?_
    show Steps p.tables e below (T6.setTop (mkF m 35 #[.val (.ref xo0_), .val (.ref xo1_), .val .null, .val (.ref uo1_), .val (.int (27 : Int32))] [(.ref ffb2_2_6), (.ref xo0_)])) _
    refine st8 _ ?_
    show Steps p.tables e below (T8.setTop (mkF m 38 #[.val (.ref xo0_), .val (.ref xo1_), .val .null, .val (.ref uo1_), .val (.int (27 : Int32))] [])) _
    refine XS.goto X8.here hx rfl (pc0 := 38) (pc' := 97) rfl (hb hby dA47_38) (by decide) (by decide) ?_
    show Steps p.tables e below (T8.setTop (mkF m 97 #[.val (.ref xo0_), .val (.ref xo1_), .val .null, .val (.ref uo1_), .val (.int (27 : Int32))] [])) _
    exact X8.returnOut hx Bd.returns (hb hby dA47_97) hr
  · show QA47 Z xo0_ xo1_ uo1_ ui2_ ui3_ ui4_ ui5_ k_uo1_ h0 n0 _ T8.heap _
    rw [e8]
    exact ⟨ffb2_2_6, k_ffb2_2_6, rfl, N8, K8, g_ffb2_2_6, sz_ffb2_2_6, (((E_xo0_.wr W5).keep Kc6).wr W8), F8, (Fld.other W8 (F5.keep Kc6 nin0) (Or.inr (slot_ne (Or.inr (hw _ (List.mem_of_getElem? (i := 79) rfl))) (Or.inr (hw _ (List.mem_of_getElem? (i := 78) rfl))) (by decide) (t := .byte) (t' := (.array .byte)) (by decide) (by decide)))), (q6_0.other W8 (Ne.symm ne_xo0__ffb2_2_6))⟩
theorem own_pd21 : parseMethodDescriptor "(Ljava/lang/AbstractStringBuilder;Ljava/lang/Void;)V" = some ⟨[(.object "java/lang/AbstractStringBuilder"), (.object "java/lang/Void")], none⟩ := by decide +kernel
theorem dA46_0 : decode jdk_42_method_53_code 0 = .ok (.aload_n 0, 1) := by decide +kernel
theorem dA46_1 : decode jdk_42_method_53_code 1 = .ok (.aload_n 1, 1) := by decide +kernel
theorem dA46_2 : decode jdk_42_method_53_code 2 = .ok (.aconst_null, 1) := by decide +kernel
theorem dA46_3 : decode jdk_42_method_53_code 3 = .ok (.invokespecial 489, 3) := by decide +kernel
theorem dA46_6 : decode jdk_42_method_53_code 6 = .ok (.return_, 1) := by decide +kernel
theorem efA46 (m : MethodId) (xo0_ : Addr) (xo1_ : Addr) : entryFrame m #[(.ref xo0_), (.ref xo1_)] 2 = mkF m 0 #[.val (.ref xo0_), .val (.ref xo1_)] [] := by first | (simp [entryFrame, mkF, argsToLocals, Value.category]; done) | rfl
def QA46 (Z : State) (xo0_ : Addr) (xo1_ : Addr) (uo1_ : Addr) (ui2_ : Int32) (ui3_ : Int32) (ui4_ : Int32) (ui5_ : Int32) (k_uo1_ : ClassId) (h0 : Heap) (n0 : Nat) (v : Option Value) (h : Heap) (L : List Loc) : Prop := ∃ ffffb2_2_6_1 : Addr, ∃ k_ffffb2_2_6_1 : ClassId, v = none ∧ Fr n0 L ∧ Keep h0 h [xo0_] ∧ n0 ≤ ffffb2_2_6_1 ∧ h0.size ≤ ffffb2_2_6_1 ∧ Exa Z h xo0_ "java/lang/String" ∧ Fld Z h xo0_ "java/lang/String" "value" "[B" (.ref ffffb2_2_6_1) ∧ Fld Z h xo0_ "java/lang/String" "coder" "B" (.int (0 : Int32)) ∧ Arv Z h ffffb2_2_6_1 k_ffffb2_2_6_1 .byte (27 : Int32) [(.int ui3_), (.int (32 : Int32)), (.int (102 : Int32)), (.int (105 : Int32)), (.int (108 : Int32)), (.int (101 : Int32)), (.int (115 : Int32)), (.int (44 : Int32)), (.int (32 : Int32)), (.int ui4_), (.int (32 : Int32)), (.int (102 : Int32)), (.int (111 : Int32)), (.int (108 : Int32)), (.int (100 : Int32)), (.int (101 : Int32)), (.int (114 : Int32)), (.int (115 : Int32)), (.int (44 : Int32)), (.int (32 : Int32)), (.int ui5_), (.int (32 : Int32)), (.int (98 : Int32)), (.int (121 : Int32)), (.int (116 : Int32)), (.int (101 : Int32)), (.int (115 : Int32))] (.int (0 : Int32))
set_option maxRecDepth 65536 in
set_option maxHeartbeats 40000000 in
theorem rmA46 (l : Launch) (Z : State) (a0 : Array Value) (hw : ∀ d ∈ tables_1, d.before a0 Z = true) (ws : List Jvm.Cond) (xo0_ : Addr) (xo1_ : Addr) (uo1_ : Addr) (ui2_ : Int32) (ui3_ : Int32) (ui4_ : Int32) (ui5_ : Int32) (k_uo1_ : ClassId) (h0 : Heap) (n0 : Nat) (Z0 : n0 ≤ h0.size) (E_xo0_ : Exa Z h0 xo0_ "java/lang/String") (F_value_xo0_ : Fld Z h0 xo0_ "java/lang/String" "value" "[B" .null) (F_coder_xo0_ : Fld Z h0 xo0_ "java/lang/String" "coder" "B" (.int (0 : Int32))) (E_xo1_ : Exa Z h0 xo1_ "java/lang/StringBuilder") (F_value_xo1_ : Fld Z h0 xo1_ "java/lang/AbstractStringBuilder" "value" "[B" (.ref uo1_)) (F_coder_xo1_ : Fld Z h0 xo1_ "java/lang/AbstractStringBuilder" "coder" "B" (.int (0 : Int32))) (F_count_xo1_ : Fld Z h0 xo1_ "java/lang/AbstractStringBuilder" "count" "I" (.int (27 : Int32))) (X00 : Old Z n0 h0) (S_COMPACT_STRINGS : Sta Z Z.heap "java/lang/String" "COMPACT_STRINGS" "Z" (.int ui2_)) (hp0_ : ¬ (ui2_ = (0 : Int32))) (V_uo1_ : Arv Z h0 uo1_ k_uo1_ .byte (34 : Int32) [(.int ui3_), (.int (32 : Int32)), (.int (102 : Int32)), (.int (105 : Int32)), (.int (108 : Int32)), (.int (101 : Int32)), (.int (115 : Int32)), (.int (44 : Int32)), (.int (32 : Int32)), (.int ui4_), (.int (32 : Int32)), (.int (102 : Int32)), (.int (111 : Int32)), (.int (108 : Int32)), (.int (100 : Int32)), (.int (101 : Int32)), (.int (114 : Int32)), (.int (115 : Int32)), (.int (44 : Int32)), (.int (32 : Int32)), (.int ui5_), (.int (32 : Int32)), (.int (98 : Int32)), (.int (121 : Int32)), (.int (116 : Int32)), (.int (101 : Int32)), (.int (115 : Int32)), (.int (0 : Int32)), (.int (0 : Int32)), (.int (0 : Int32)), (.int (0 : Int32)), (.int (0 : Int32)), (.int (0 : Int32)), (.int (0 : Int32))] (.int (0 : Int32))) (g_xo0_ : n0 ≤ xo0_) :
    MetFree l (⟨"java/lang/String", "<init>", "(Ljava/lang/StringBuilder;)V"⟩ : MethodName) (head1 (Jvm.Cond.code (⟨"java/lang/String", "<init>", "(Ljava/lang/StringBuilder;)V"⟩ : MethodName) jdk_42_method_53_code 2 none :: ws) ({ frames := 4, cells := 1, slots := 27, locals := 87 } : Room)) (fun av_ U => av_ = #[(.ref xo0_), (.ref xo1_)] ∧ Z.Warmed39 U.vm ∧ U.heap = h0) (fun _ _ _ _ _ => True) (fun _ U o U' => ∃ v L, o = .returned v ∧ QA46 Z xo0_ xo1_ uo1_ ui2_ ui3_ ui4_ ui5_ k_uo1_ h0 n0 v U'.heap L ∧ FrameEnd U o U' L ({ frames := 4, cells := 1, slots := 27, locals := 87 } : Room).cells ({ frames := 4, cells := 1, slots := 27, locals := 87 } : Room).slots) := by
  refine MetFree.of_bodySF (plainFor_of_name own_pn4) hisR ?_
  intro p e s m args below meth c s₁ Bd hml0 hP hK
  obtain ⟨rfl, hZ, hh⟩ := hP
  have hx := Bd.exec
  have hby := Bd.bytes
  have hml : c.maxLocals = 2 := hml0
  have hown : s.vm.findClass "java/lang/String" = some m.cls := findClass_of_methodNamed Bd.named
  have hnm := (name_of_methodNamed Bd.named Bd.method).1
  have X0 : Stand p l e ({ frames := 4, cells := 1, slots := 27, locals := 87 } : Room) s m #[(.ref xo0_), (.ref xo1_)] below meth c s₁ [] 0 0 := Stand.of_body Bd
  have e0 : s₁.heap = h0 := by rw [← hh, Bd.state]; rfl
  have N0 := Fr.nil n0
  have pre0 : ∀ t, Steps p.tables e below (s₁.setTop (mkF m 0 #[.val (.ref xo0_), .val (.ref xo1_)] [])) t → Steps p.tables e below (s₁.setTop (entryFrame m #[(.ref xo0_), (.ref xo1_)] 2)) t := fun t k => castTop (efA46 m xo0_ xo1_) k
  obtain ⟨_, _, ⟨T1, L1, k1, n1⟩, -, X1, ⟨Lc1, hQ1, l1, y1, z1⟩, st1⟩ := X0.specialBack hx (y := (⟨"java/lang/String", "<init>", "(Ljava/lang/AbstractStringBuilder;Ljava/lang/Void;)V"⟩ : MethodName)) rfl hown (mvT hZ (hw _ (List.mem_of_getElem? (i := 161) rfl))) (mvT hZ (hw _ (List.mem_of_getElem? (i := 162) rfl))) (mvT hZ (hw _ (List.mem_of_getElem? (i := 163) rfl))) (by decide) (backOf (W := 0) (rmA47 l Z a0 hw [] xo0_ xo1_ uo1_ ui2_ ui3_ ui4_ ui5_ k_uo1_ h0 n0 Z0 E_xo0_ F_value_xo0_ F_coder_xo0_ E_xo1_ F_value_xo1_ F_coder_xo1_ F_count_xo1_ X00 S_COMPACT_STRINGS hp0_ g_xo0_ V_uo1_) hZ (hw _ (List.mem_of_getElem? (i := 163) rfl)) (hw _ (List.mem_of_getElem? (i := 37) rfl)) (by decide) (by decide)) (g := (mkF m 3 #[.val (.ref xo0_), .val (.ref xo1_)] [.null, (.ref xo1_), (.ref xo0_)])) rfl (by rw [hml]; rfl) (Steps.refl _) (a := xo0_) (argsL := [(.ref xo1_), .null]) (rest := []) (lenOf own_pd21 rfl) rfl (by show 2 * 0 + _ ≤ _; exact Nat.le_of_eq rfl) (hb hby dA46_3) (fun _ _ => ⟨rfl, e0, (by decide : 0 + 1 ≤ _), (by decide : 0 + 27 ≤ _)⟩)
  dsimp only [Pt.U, Pt.locs, Pt.cells, Pt.slots] at X1 l1 y1 z1 st1 hQ1
  subst l1 y1 z1
  obtain ⟨fffb2_2_6_1, k_fffb2_2_6_1, rfl, Nq1, Kc1, g_fffb2_2_6_1, zq_fffb2_2_6_1, q1_0, q1_1, q1_2, q1_3⟩ := hQ1
  have sz_fffb2_2_6_1 : h0.size ≤ fffb2_2_6_1 := Nat.le_trans (Keep.refl h0 [xo0_]).1 zq_fffb2_2_6_1
  have ne_xo0__fffb2_2_6_1 : xo0_ ≠ fffb2_2_6_1 := Nat.ne_of_lt (Nat.lt_of_lt_of_le E_xo0_.lt zq_fffb2_2_6_1)
  have ne_xo1__fffb2_2_6_1 : xo1_ ≠ fffb2_2_6_1 := Nat.ne_of_lt (Nat.lt_of_lt_of_le E_xo1_.lt zq_fffb2_2_6_1)
  have ne_uo1__fffb2_2_6_1 : uo1_ ≠ fffb2_2_6_1 := Nat.ne_of_lt (Nat.lt_of_lt_of_le V_uo1_.lt zq_fffb2_2_6_1)
  have K1 : Keep h0 T1.heap [xo0_] := Keep.trans (Keep.refl h0 [xo0_]) Kc1 (allS (Or.inl (List.mem_of_getElem? (i := 0) rfl)) all0)
  have Zs1 : n0 ≤ T1.heap.size := Nat.le_trans Z0 Kc1.1
  have N1 := Fr.app N0 Nq1
  obtain ⟨fs, hr, hrun, hended, hW, hsame⟩ := X1.leave (v := none) (fun _ => rfl)
  refine ⟨_, _, (pre0 _ ?_), hrun, hended, _, _, rfl, ?_, ⟨_, rfl⟩, hW, hsame.mono (by decide) (by decide)⟩
  · show Steps p.tables e below (s₁.setTop (mkF m 0 #[.val (.ref xo0_), .val (.ref xo1_)] [])) _
    refine XS.aloadN X0.here hx rfl (hb hby dA46_0) rfl rfl ?_
    show Steps p.tables e below (s₁.setTop (mkF m 1 #[.val (.ref xo0_), .val (.ref xo1_)] [(.ref xo0_)])) _
    refine XS.aloadN X0.here hx rfl (hb hby dA46_1) rfl rfl ?_
    show Steps p.tables e below (s₁.setTop (mkF m 2 #[.val (.ref xo0_), .val (.ref xo1_)] [(.ref xo1_), (.ref xo0_)])) _
    refine XS.aconstNull X0.here hx rfl (hb hby dA46_2) ?_
    show Steps p.tables e below (s₁.setTop (mkF m 3 #[.val (.ref xo0_), .val (.ref xo1_)] [.null, (.ref xo1_), (.ref xo0_)])) _
    refine st1.trans ?_
    show Steps p.tables e below (T1.setTop (mkF m 6 #[.val (.ref xo0_), .val (.ref xo1_)] [])) _
    exact X1.returnOut hx Bd.returns (hb hby dA46_6) hr
  · show QA46 Z xo0_ xo1_ uo1_ ui2_ ui3_ ui4_ ui5_ k_uo1_ h0 n0 _ T1.heap _
    exact ⟨fffb2_2_6_1, k_fffb2_2_6_1, rfl, N1, K1, g_fffb2_2_6_1, sz_fffb2_2_6_1, q1_0, q1_1, q1_2, q1_3⟩
theorem own_pd22 : parseMethodDescriptor "(Ljava/lang/StringBuilder;)V" = some ⟨[(.object "java/lang/StringBuilder")], none⟩ := by decide +kernel
theorem dA45_0 : decode jdk_67_method_42_code 0 = .ok (.new 18, 3) := by decide +kernel
theorem dA45_3 : decode jdk_67_method_42_code 3 = .ok (.dup, 1) := by decide +kernel
theorem dA45_4 : decode jdk_67_method_42_code 4 = .ok (.aload_n 0, 1) := by decide +kernel
theorem dA45_5 : decode jdk_67_method_42_code 5 = .ok (.invokespecial 137, 3) := by decide +kernel
theorem dA45_8 : decode jdk_67_method_42_code 8 = .ok (.areturn, 1) := by decide +kernel
theorem efA45 (m : MethodId) (xo0_ : Addr) : entryFrame m #[(.ref xo0_)] 1 = mkF m 0 #[.val (.ref xo0_)] [] := by first | (simp [entryFrame, mkF, argsToLocals, Value.category]; done) | rfl
def QA45 (Z : State) (xo0_ : Addr) (uo1_ : Addr) (ui2_ : Int32) (ui3_ : Int32) (ui4_ : Int32) (ui5_ : Int32) (k_uo1_ : ClassId) (h0 : Heap) (n0 : Nat) (v : Option Value) (h : Heap) (L : List Loc) : Prop := ∃ fb1 : Addr, ∃ fffffb2_2_6_1_2 : Addr, ∃ k_fffffb2_2_6_1_2 : ClassId, v = some (.ref fb1) ∧ Fr n0 L ∧ Keep h0 h [] ∧ n0 ≤ fb1 ∧ h0.size ≤ fb1 ∧ n0 ≤ fffffb2_2_6_1_2 ∧ h0.size ≤ fffffb2_2_6_1_2 ∧ fb1 ≠ fffffb2_2_6_1_2 ∧ Exa Z h fb1 "java/lang/String" ∧ Fld Z h fb1 "java/lang/String" "value" "[B" (.ref fffffb2_2_6_1_2) ∧ Fld Z h fb1 "java/lang/String" "coder" "B" (.int (0 : Int32)) ∧ Arv Z h fffffb2_2_6_1_2 k_fffffb2_2_6_1_2 .byte (27 : Int32) [(.int ui3_), (.int (32 : Int32)), (.int (102 : Int32)), (.int (105 : Int32)), (.int (108 : Int32)), (.int (101 : Int32)), (.int (115 : Int32)), (.int (44 : Int32)), (.int (32 : Int32)), (.int ui4_), (.int (32 : Int32)), (.int (102 : Int32)), (.int (111 : Int32)), (.int (108 : Int32)), (.int (100 : Int32)), (.int (101 : Int32)), (.int (114 : Int32)), (.int (115 : Int32)), (.int (44 : Int32)), (.int (32 : Int32)), (.int ui5_), (.int (32 : Int32)), (.int (98 : Int32)), (.int (121 : Int32)), (.int (116 : Int32)), (.int (101 : Int32)), (.int (115 : Int32))] (.int (0 : Int32))
set_option maxRecDepth 65536 in
set_option maxHeartbeats 40000000 in
theorem rmA45 (l : Launch) (Z : State) (a0 : Array Value) (hw : ∀ d ∈ tables_1, d.before a0 Z = true) (ws : List Jvm.Cond) (xo0_ : Addr) (uo1_ : Addr) (ui2_ : Int32) (ui3_ : Int32) (ui4_ : Int32) (ui5_ : Int32) (k_uo1_ : ClassId) (h0 : Heap) (n0 : Nat) (Z0 : n0 ≤ h0.size) (E_xo0_ : Exa Z h0 xo0_ "java/lang/StringBuilder") (F_value_xo0_ : Fld Z h0 xo0_ "java/lang/AbstractStringBuilder" "value" "[B" (.ref uo1_)) (F_coder_xo0_ : Fld Z h0 xo0_ "java/lang/AbstractStringBuilder" "coder" "B" (.int (0 : Int32))) (F_count_xo0_ : Fld Z h0 xo0_ "java/lang/AbstractStringBuilder" "count" "I" (.int (27 : Int32))) (X00 : Old Z n0 h0) (S_COMPACT_STRINGS : Sta Z Z.heap "java/lang/String" "COMPACT_STRINGS" "Z" (.int ui2_)) (hp0_ : ¬ (ui2_ = (0 : Int32))) (V_uo1_ : Arv Z h0 uo1_ k_uo1_ .byte (34 : Int32) [(.int ui3_), (.int (32 : Int32)), (.int (102 : Int32)), (.int (105 : Int32)), (.int (108 : Int32)), (.int (101 : Int32)), (.int (115 : Int32)), (.int (44 : Int32)), (.int (32 : Int32)), (.int ui4_), (.int (32 : Int32)), (.int (102 : Int32)), (.int (111 : Int32)), (.int (108 : Int32)), (.int (100 : Int32)), (.int (101 : Int32)), (.int (114 : Int32)), (.int (115 : Int32)), (.int (44 : Int32)), (.int (32 : Int32)), (.int ui5_), (.int (32 : Int32)), (.int (98 : Int32)), (.int (121 : Int32)), (.int (116 : Int32)), (.int (101 : Int32)), (.int (115 : Int32)), (.int (0 : Int32)), (.int (0 : Int32)), (.int (0 : Int32)), (.int (0 : Int32)), (.int (0 : Int32)), (.int (0 : Int32)), (.int (0 : Int32))] (.int (0 : Int32))) :
    MetFree l (⟨"java/lang/StringBuilder", "toString", "()Ljava/lang/String;"⟩ : MethodName) (head1 (Jvm.Cond.code (⟨"java/lang/StringBuilder", "toString", "()Ljava/lang/String;"⟩ : MethodName) jdk_67_method_42_code 1 (some (.object "java/lang/String")) :: ws) ({ frames := 5, cells := 2, slots := 31, locals := 101 } : Room)) (fun av_ U => av_ = #[(.ref xo0_)] ∧ Z.Warmed39 U.vm ∧ U.heap = h0) (fun _ _ _ _ _ => True) (fun _ U o U' => ∃ v L, o = .returned v ∧ QA45 Z xo0_ uo1_ ui2_ ui3_ ui4_ ui5_ k_uo1_ h0 n0 v U'.heap L ∧ FrameEnd U o U' L ({ frames := 5, cells := 2, slots := 31, locals := 101 } : Room).cells ({ frames := 5, cells := 2, slots := 31, locals := 101 } : Room).slots) := by
  refine MetFree.of_bodySF (plainFor_of_name own_pn2) hisR ?_
  intro p e s m args below meth c s₁ Bd hml0 hP hK
  obtain ⟨rfl, hZ, hh⟩ := hP
  have hx := Bd.exec
  have hby := Bd.bytes
  have hml : c.maxLocals = 1 := hml0
  have hown : s.vm.findClass "java/lang/StringBuilder" = some m.cls := findClass_of_methodNamed Bd.named
  have hnm := (name_of_methodNamed Bd.named Bd.method).1
  have X0 : Stand p l e ({ frames := 5, cells := 2, slots := 31, locals := 101 } : Room) s m #[(.ref xo0_)] below meth c s₁ [] 0 0 := Stand.of_body Bd
  have e0 : s₁.heap = h0 := by rw [← hh, Bd.state]; rfl
  have N0 := Fr.nil n0
  have pre0 : ∀ t, Steps p.tables e below (s₁.setTop (mkF m 0 #[.val (.ref xo0_)] [])) t → Steps p.tables e below (s₁.setTop (entryFrame m #[(.ref xo0_)] 1)) t := fun t k => castTop (efA45 m xo0_) k
  obtain ⟨T1, h1, X1, e1, E1, A1, D1, -, st1⟩ := newO X0 hx hZ hown (hw _ (List.mem_of_getElem? (i := 156) rfl)) (hw _ (List.mem_of_getElem? (i := 77) rfl)) (hw _ (List.mem_of_getElem? (i := 37) rfl)) e0 (g := (mkF m 0 #[.val (.ref xo0_)] [])) rfl (hb hby dA45_0) (by decide) (by decide)
  obtain ⟨b1, g1⟩ : ∃ z, z = h0.size := ⟨_, rfl⟩
  rw [← g1] at A1 D1 st1
  have ne_xo0__b1 : xo0_ ≠ b1 := Nat.ne_of_lt (Nat.lt_of_lt_of_le E_xo0_.lt (Nat.le_of_eq g1.symm))
  have g_b1 : n0 ≤ b1 := Nat.le_trans Z0 (Nat.le_of_eq g1.symm)
  have sz_b1 : h0.size ≤ b1 := Nat.le_trans (Keep.refl h0 []).1 (Nat.le_of_eq g1.symm)
  have K1 : Keep h0 h1 [] := (Keep.refl h0 []).ext E1
  have Zs1 : n0 ≤ h1.size := Nat.le_trans Z0 E1.1
  have F1_value : Fld Z h1 b1 "java/lang/String" "value" "[B" .null := D1 (Or.inr (hw _ (List.mem_of_getElem? (i := 78) rfl))) (ty := (.array .byte)) (by decide)
  have F1_coder : Fld Z h1 b1 "java/lang/String" "coder" "B" (.int (0 : Int32)) := D1 (Or.inr (hw _ (List.mem_of_getElem? (i := 79) rfl))) (ty := .byte) (by decide)
  obtain ⟨_, _, ⟨T2, L2, k2, n2⟩, -, X2, ⟨Lc2, hQ2, l2, y2, z2⟩, st2⟩ := X1.specialBack hx (y := (⟨"java/lang/String", "<init>", "(Ljava/lang/StringBuilder;)V"⟩ : MethodName)) rfl hown (mvT hZ (hw _ (List.mem_of_getElem? (i := 157) rfl))) (mvT hZ (hw _ (List.mem_of_getElem? (i := 158) rfl))) (mvT hZ (hw _ (List.mem_of_getElem? (i := 160) rfl))) (by decide) (backOf (W := 1) (rmA46 l Z a0 hw [] b1 xo0_ uo1_ ui2_ ui3_ ui4_ ui5_ k_uo1_ h1 n0 Zs1 A1 F1_value F1_coder (E_xo0_.ext E1) (F_value_xo0_.ext E1) (F_coder_xo0_.ext E1) (F_count_xo0_.ext E1) (X00.keep K1 all0) S_COMPACT_STRINGS hp0_ (V_uo1_.ext E1) g_b1) hZ (hw _ (List.mem_of_getElem? (i := 160) rfl)) (hw _ (List.mem_of_getElem? (i := 37) rfl)) (by decide) (by decide)) (g := (mkF m 5 #[.val (.ref xo0_)] [(.ref xo0_), (.ref b1), (.ref b1)])) rfl (by rw [hml]; rfl) (Steps.refl _) (a := b1) (argsL := [(.ref xo0_)]) (rest := [(.ref b1)]) (lenOf own_pd22 rfl) rfl (by show 2 * 0 + _ ≤ _; exact Nat.le_of_eq rfl) (hb hby dA45_5) (fun _ _ => ⟨rfl, e1, (by decide : 1 + 1 ≤ _), (by decide : 4 + 27 ≤ _)⟩)
  dsimp only [Pt.U, Pt.locs, Pt.cells, Pt.slots] at X2 l2 y2 z2 st2 hQ2
  subst l2 y2 z2
  obtain ⟨ffffb2_2_6_1_2, k_ffffb2_2_6_1_2, rfl, Nq2, Kc2, g_ffffb2_2_6_1_2, zq_ffffb2_2_6_1_2, q2_0, q2_1, q2_2, q2_3⟩ := hQ2
  have sz_ffffb2_2_6_1_2 : h0.size ≤ ffffb2_2_6_1_2 := Nat.le_trans K1.1 zq_ffffb2_2_6_1_2
  have ne_xo0__ffffb2_2_6_1_2 : xo0_ ≠ ffffb2_2_6_1_2 := Nat.ne_of_lt (Nat.lt_of_lt_of_le (E_xo0_.ext E1).lt zq_ffffb2_2_6_1_2)
  have ne_b1_ffffb2_2_6_1_2 : b1 ≠ ffffb2_2_6_1_2 := Nat.ne_of_lt (Nat.lt_of_lt_of_le A1.lt zq_ffffb2_2_6_1_2)
  have ne_uo1__ffffb2_2_6_1_2 : uo1_ ≠ ffffb2_2_6_1_2 := Nat.ne_of_lt (Nat.lt_of_lt_of_le (V_uo1_.ext E1).lt zq_ffffb2_2_6_1_2)
  have K2 : Keep h0 T2.heap [] := Keep.trans K1 Kc2 (allS (Or.inr sz_b1) all0)
  have Zs2 : n0 ≤ T2.heap.size := Nat.le_trans Zs1 Kc2.1
  have N2 := Fr.app N0 Nq2
  obtain ⟨fs, hr, hrun, hended, hW, hsame⟩ := X2.leave (v := some (.ref b1)) (fun h => by rw [Bd.returns] at h; cases h)
  refine ⟨_, _, (pre0 _ ?_), hrun, hended, _, _, rfl, ?_, ⟨_, rfl⟩, hW, hsame.mono (by decide) (by decide)⟩
  · show Steps p.tables e below (s₁.setTop (mkF m 0 #[.val (.ref xo0_)] [])) _
    refine st1 _ ?_
    show Steps p.tables e below (T1.setTop (mkF m 3 #[.val (.ref xo0_)] [(.ref b1)])) _
    refine XS.dup X1.here hx rfl (hb hby dA45_3) rfl rfl ?_
    show Steps p.tables e below (T1.setTop (mkF m 4 #[.val (.ref xo0_)] [(.ref b1), (.ref b1)])) _
    refine XS.aloadN X1.here hx rfl (hb hby dA45_4) rfl rfl ?_
    show Steps p.tables e below (T1.setTop (mkF m 5 #[.val (.ref xo0_)] [(.ref xo0_), (.ref b1), (.ref b1)])) _
    refine st2.trans ?_
    show Steps p.tables e below (T2.setTop (mkF m 8 #[.val (.ref xo0_)] [(.ref b1)])) _
    jvm_step X2.here [X2.here.top, hx, (hb hby dA45_8), X2.method', Bd.returns, Value.isRef, FieldType.isReference]
    first | (intro acts; rw [hr _ acts rfl rfl rfl]) | rw [hr _ _ rfl rfl rfl]
    exact Steps.refl _
  · show QA45 Z xo0_ uo1_ ui2_ ui3_ ui4_ ui5_ k_uo1_ h0 n0 _ T2.heap _
    exact ⟨b1, ffffb2_2_6_1_2, k_ffffb2_2_6_1_2, rfl, N2, K2, g_b1, sz_b1, g_ffffb2_2_6_1_2, sz_ffffb2_2_6_1_2, ne_b1_ffffb2_2_6_1_2, q2_0, q2_1, q2_2, q2_3⟩
theorem own_pd23 : parseMethodDescriptor "()Ljava/lang/String;" = some ⟨[], some (.object "java/lang/String")⟩ := by decide +kernel
theorem dT_0 : decode prog_13_method_4_code 0 = .ok (.new 19, 3) := by decide +kernel
theorem dT_3 : decode prog_13_method_4_code 3 = .ok (.dup, 1) := by decide +kernel
theorem dT_4 : decode prog_13_method_4_code 4 = .ok (.invokespecial 21, 3) := by decide +kernel
theorem dT_7 : decode prog_13_method_4_code 7 = .ok (.aload_n 0, 1) := by decide +kernel
theorem dT_8 : decode prog_13_method_4_code 8 = .ok (.getfield 13, 3) := by decide +kernel
theorem dT_11 : decode prog_13_method_4_code 11 = .ok (.invokevirtual 22, 3) := by decide +kernel
theorem dT_14 : decode prog_13_method_4_code 14 = .ok (.ldc 26, 2) := by decide +kernel
theorem dT_16 : decode prog_13_method_4_code 16 = .ok (.invokevirtual 28, 3) := by decide +kernel
theorem dT_19 : decode prog_13_method_4_code 19 = .ok (.aload_n 0, 1) := by decide +kernel
theorem dT_20 : decode prog_13_method_4_code 20 = .ok (.getfield 7, 3) := by decide +kernel
theorem dT_23 : decode prog_13_method_4_code 23 = .ok (.invokevirtual 22, 3) := by decide +kernel
theorem dT_26 : decode prog_13_method_4_code 26 = .ok (.ldc 31, 2) := by decide +kernel
theorem dT_28 : decode prog_13_method_4_code 28 = .ok (.invokevirtual 28, 3) := by decide +kernel
theorem dT_31 : decode prog_13_method_4_code 31 = .ok (.aload_n 0, 1) := by decide +kernel
theorem dT_32 : decode prog_13_method_4_code 32 = .ok (.getfield 16, 3) := by decide +kernel
theorem dT_35 : decode prog_13_method_4_code 35 = .ok (.invokevirtual 22, 3) := by decide +kernel
theorem dT_38 : decode prog_13_method_4_code 38 = .ok (.ldc 33, 2) := by decide +kernel
theorem dT_40 : decode prog_13_method_4_code 40 = .ok (.invokevirtual 28, 3) := by decide +kernel
theorem dT_43 : decode prog_13_method_4_code 43 = .ok (.invokevirtual 35, 3) := by decide +kernel
theorem dT_46 : decode prog_13_method_4_code 46 = .ok (.areturn, 1) := by decide +kernel
theorem efT (m : MethodId) (a : Addr) : entryFrame m #[(.ref a)] 1 = mkF m 0 #[.val (.ref a)] [] := by first | (simp [entryFrame, mkF, argsToLocals, Value.category]; done) | rfl
def QT (Z : State) (a : Addr) (xF : Int64) (xG : Int64) (xB : Int64) (cst : Int32) (dg : Addr) (k_dg : ClassId) (h0 : Heap) (n0 : Nat) (v : Option Value) (h : Heap) (L : List Loc) : Prop := ∃ ffb1_18 : Addr, ∃ ffffffb2_2_6_1_2_18 : Addr, ∃ k_ffffffb2_2_6_1_2_18 : ClassId, v = some (.ref ffb1_18) ∧ Fr n0 L ∧ Keep h0 h [] ∧ n0 ≤ ffb1_18 ∧ h0.size ≤ ffb1_18 ∧ n0 ≤ ffffffb2_2_6_1_2_18 ∧ h0.size ≤ ffffffb2_2_6_1_2_18 ∧ ffb1_18 ≠ ffffffb2_2_6_1_2_18 ∧ Exa Z h ffb1_18 "java/lang/String" ∧ Fld Z h ffb1_18 "java/lang/String" "value" "[B" (.ref ffffffb2_2_6_1_2_18) ∧ Fld Z h ffb1_18 "java/lang/String" "coder" "B" (.int (0 : Int32)) ∧ Arv Z h ffffffb2_2_6_1_2_18 k_ffffffb2_2_6_1_2_18 .byte (27 : Int32) [(.int (((own_get own_ones (-((-xF).toInt32)))).toInt8.toInt32)), (.int (32 : Int32)), (.int (102 : Int32)), (.int (105 : Int32)), (.int (108 : Int32)), (.int (101 : Int32)), (.int (115 : Int32)), (.int (44 : Int32)), (.int (32 : Int32)), (.int (((own_get own_ones (-((-xG).toInt32)))).toInt8.toInt32)), (.int (32 : Int32)), (.int (102 : Int32)), (.int (111 : Int32)), (.int (108 : Int32)), (.int (100 : Int32)), (.int (101 : Int32)), (.int (114 : Int32)), (.int (115 : Int32)), (.int (44 : Int32)), (.int (32 : Int32)), (.int (((own_get own_ones (-((-xB).toInt32)))).toInt8.toInt32)), (.int (32 : Int32)), (.int (98 : Int32)), (.int (121 : Int32)), (.int (116 : Int32)), (.int (101 : Int32)), (.int (115 : Int32))] (.int (0 : Int32))
set_option maxRecDepth 65536 in
set_option maxHeartbeats 40000000 in
theorem rmT (l : Launch) (Z : State) (a0 : Array Value) (hw : ∀ d ∈ tables_1, d.before a0 Z = true) (ws : List Jvm.Cond) (a : Addr) (xF : Int64) (xG : Int64) (xB : Int64) (cst : Int32) (dg : Addr) (k_dg : ClassId) (h0 : Heap) (n0 : Nat) (Z0 : n0 ≤ h0.size) (E_a : Exa Z h0 a "com/example/hamster/hamster/TreeCount") (F_files_a : Fld Z h0 a "com/example/hamster/hamster/TreeCount" "files" "J" (.long xF)) (F_folders_a : Fld Z h0 a "com/example/hamster/hamster/TreeCount" "folders" "J" (.long xG)) (F_bytes_a : Fld Z h0 a "com/example/hamster/hamster/TreeCount" "bytes" "J" (.long xB)) (hxF : 0 ≤ xF.toInt ∧ xF.toInt ≤ 9) (hxG : 0 ≤ xG.toInt ∧ xG.toInt ≤ 9) (hxB : 0 ≤ xB.toInt ∧ xB.toInt ≤ 9) (X00 : Old Z n0 h0) (S_COMPACT_STRINGS : Sta Z Z.heap "java/lang/String" "COMPACT_STRINGS" "Z" (.int cst)) (hcs : ¬ cst = (0 : Int32)) (S_DigitOnes : Sta Z Z.heap "java/lang/Integer" "DigitOnes" "[B" (.ref dg)) (V_dg : Arv Z Z.heap dg k_dg .byte (100 : Int32) (own_ones.map Value.int) (.int (0 : Int32))) :
    MetFree l (⟨"com/example/hamster/hamster/TreeCount", "toString", "()Ljava/lang/String;"⟩ : MethodName) (head1 (Jvm.Cond.code (⟨"com/example/hamster/hamster/TreeCount", "toString", "()Ljava/lang/String;"⟩ : MethodName) prog_13_method_4_code 1 (some (.object "java/lang/String")) :: ws) ({ frames := 6, cells := 11, slots := 193, locals := 113 } : Room)) (fun av_ U => av_ = #[(.ref a)] ∧ Z.Warmed39 U.vm ∧ U.heap = h0 ∧ CHv Z own_EL U.vm h0) (fun _ _ _ _ _ => True) (fun _ U o U' => ∃ v L, o = .returned v ∧ QT Z a xF xG xB cst dg k_dg h0 n0 v U'.heap L ∧ CHr Z own_EL U.vm U.heap U'.vm U'.heap ∧ ReturnedEndW U o U' L ({ frames := 6, cells := 11, slots := 193, locals := 113 } : Room).cells ({ frames := 6, cells := 11, slots := 193, locals := 113 } : Room).slots) := by
  refine MetFree.of_bodySF (plainFor_of_name own_pn0) hisR ?_
  intro p e s m args below meth c s₁ Bd hml0 hP hK
  obtain ⟨rfl, hZ, hh, hCH0⟩ := hP
  have hx := Bd.exec
  have hby := Bd.bytes
  have hml : c.maxLocals = 1 := hml0
  have hown : s.vm.findClass "com/example/hamster/hamster/TreeCount" = some m.cls := findClass_of_methodNamed Bd.named
  have hnm := (name_of_methodNamed Bd.named Bd.method).1
  have X0 : Stand p l e ({ frames := 6, cells := 11, slots := 193, locals := 113 } : Room) s m #[(.ref a)] below meth c s₁ [] 0 0 := Stand.of_body Bd
  have e0 : s₁.heap = h0 := by rw [← hh, Bd.state]; rfl
  have N0 := Fr.nil n0
  have pre0 : ∀ t, Steps p.tables e below (s₁.setTop (mkF m 0 #[.val (.ref a)] [])) t → Steps p.tables e below (s₁.setTop (entryFrame m #[(.ref a)] 1)) t := fun t k => castTop (efT m a) k
  have hS0 : s.Since s.vm 0 := (State.WarmedH.refl s).since 0
  have hk0 : 0 ≤ h0.size := Nat.zero_le _
  have hSA : ∀ a ∈ Bundle.stringAtoms, a.before a0 Z = true := fun d hd => hw d ((by decide +kernel : ∀ d ∈ Bundle.stringAtoms, d ∈ tables_1) d hd)
  have Xw0 : Stand p l e ({ frames := 6, cells := 11, slots := 193, locals := 113 } : Room) (s.setVm s.vm) m #[(.ref a)] below meth c s₁ [] 0 0 := X0
  have hELW : EW Z a0 own_EL := own_EW hw
  have ch0 : CHr Z own_EL s.vm h0 s.vm h0 := CHr.refl hCH0
  obtain ⟨T1, h1, X1, e1, E1, A1, D1, -, st1⟩ := newO Xw0 hx hZ hown (hw _ (List.mem_of_getElem? (i := 23) rfl)) (hw _ (List.mem_of_getElem? (i := 24) rfl)) (hw _ (List.mem_of_getElem? (i := 25) rfl)) e0 (g := (mkF m 0 #[.val (.ref a)] [])) rfl (hb hby dT_0) (by decide) (by decide)
  obtain ⟨b1, g1⟩ : ∃ z, z = h0.size := ⟨_, rfl⟩
  rw [← g1] at A1 D1 st1
  have ne_a_b1 : a ≠ b1 := Nat.ne_of_lt (Nat.lt_of_lt_of_le E_a.lt (Nat.le_of_eq g1.symm))
  have ne_dg_b1 : dg ≠ b1 := Nat.ne_of_lt (Nat.lt_of_lt_of_le (V_dg.ext X00.2).lt (Nat.le_of_eq g1.symm))
  have g_b1 : n0 ≤ b1 := Nat.le_trans Z0 (Nat.le_of_eq g1.symm)
  have sz_b1 : h0.size ≤ b1 := Nat.le_trans (Keep.refl h0 []).1 (Nat.le_of_eq g1.symm)
  have K1 : Keep h0 h1 [] := (Keep.refl h0 []).ext E1
  have Zs1 : n0 ≤ h1.size := Nat.le_trans Z0 E1.1
  have hks1 := Nat.le_trans hk0 E1.1
  have ch1 := CHr.trans ch0 (CHr.ext E1 ch0.1)
  have F1_value : Fld Z h1 b1 "java/lang/AbstractStringBuilder" "value" "[B" .null := D1 (Or.inl (hw _ (List.mem_of_getElem? (i := 40) rfl))) (ty := (.array .byte)) (by decide)
  have F1_coder : Fld Z h1 b1 "java/lang/AbstractStringBuilder" "coder" "B" (.int (0 : Int32)) := D1 (Or.inl (hw _ (List.mem_of_getElem? (i := 42) rfl))) (ty := .byte) (by decide)
  have F1_count : Fld Z h1 b1 "java/lang/AbstractStringBuilder" "count" "I" (.int (0 : Int32)) := D1 (Or.inl (hw _ (List.mem_of_getElem? (i := 54) rfl))) (ty := .int) (by decide)
  obtain ⟨_, _, ⟨T2, L2, k2, n2⟩, -, X2, ⟨Lc2, hQ2, l2, y2, z2⟩, st2⟩ := X1.specialBack hx (y := (⟨"java/lang/StringBuilder", "<init>", "()V"⟩ : MethodName)) rfl hown (mvT hZ (hw _ (List.mem_of_getElem? (i := 26) rfl))) (mvT hZ (hw _ (List.mem_of_getElem? (i := 27) rfl))) (mvT hZ (hw _ (List.mem_of_getElem? (i := 28) rfl))) (by decide) (backOf (W := 1) (rmA0 l Z a0 hw [] b1 cst h1 n0 Zs1 A1 F1_value F1_coder F1_count (X00.keep K1 all0) S_COMPACT_STRINGS hcs g_b1) hZ (hw _ (List.mem_of_getElem? (i := 28) rfl)) (hw _ (List.mem_of_getElem? (i := 25) rfl)) (by decide) (by decide)) (g := (mkF m 4 #[.val (.ref a)] [(.ref b1), (.ref b1)])) rfl (by rw [hml]; rfl) (Steps.refl _) (a := b1) (argsL := []) (rest := [(.ref b1)]) (lenOf own_pd1 rfl) rfl (by show 2 * 0 + _ ≤ _; exact Nat.le_of_eq rfl) (hb hby dT_4) (fun _ _ => ⟨rfl, e1, (by decide : 1 + 1 ≤ _), (by decide : 4 + 16 ≤ _)⟩)
  dsimp only [Pt.U, Pt.locs, Pt.cells, Pt.slots] at X2 l2 y2 z2 st2 hQ2
  subst l2 y2 z2
  obtain ⟨ffb3_1_2, k_ffb3_1_2, rfl, Nq2, Kc2, g_ffb3_1_2, zq_ffb3_1_2, q2_0, q2_1, q2_2, q2_3, q2_4⟩ := hQ2
  have sz_ffb3_1_2 : h0.size ≤ ffb3_1_2 := Nat.le_trans K1.1 zq_ffb3_1_2
  have ne_a_ffb3_1_2 : a ≠ ffb3_1_2 := Nat.ne_of_lt (Nat.lt_of_lt_of_le (E_a.ext E1).lt zq_ffb3_1_2)
  have ne_dg_ffb3_1_2 : dg ≠ ffb3_1_2 := Nat.ne_of_lt (Nat.lt_of_lt_of_le (V_dg.ext (X00.keep K1 all0).2).lt zq_ffb3_1_2)
  have ne_b1_ffb3_1_2 : b1 ≠ ffb3_1_2 := Nat.ne_of_lt (Nat.lt_of_lt_of_le A1.lt zq_ffb3_1_2)
  have K2 : Keep h0 T2.heap [] := Keep.trans K1 Kc2 (allS (Or.inr sz_b1) all0)
  have Zs2 : n0 ≤ T2.heap.size := Nat.le_trans Zs1 Kc2.1
  have hks2 := Nat.le_trans hks1 Kc2.1
  have ch2 := CHr.trans ch1 (CHr.keep Kc2 (sfS (Safe.exa hZ.alike A1 (by decide) (by decide)) sf0) ch1.1)
  have sf2_ffb3_1_2 := Safe.keep Kc2 (sfS (Safe.exa hZ.alike A1 (by decide) (by decide)) sf0) ch1.1 (Safe.new zq_ffb3_1_2)
  have N2 := Fr.app N0 Nq2
  obtain ⟨T3, X3, e3, st3⟩ := getF X2 hx hZ hown (host := "") (Or.inl (hw _ (List.mem_of_getElem? (i := 14) rfl))) Via.refl rfl ((F_files_a.ext E1).keep Kc2 (ninS ne_a_b1 nin0)) (g := (mkF m 8 #[.val (.ref a)] [(.ref a), (.ref b1)])) rfl rfl (hb hby dT_8)
  obtain ⟨cq4, kq4, q4a, q4b, q4c⟩ := isOf hZ e3 q2_0
  obtain ⟨_, _, ⟨T4, L4, k4, n4⟩, -, X4, ⟨Lc4, hQ4, l4, y4, z4⟩, st4⟩ := X3.virtualBack hx (y := (⟨"java/lang/StringBuilder", "append", "(J)Ljava/lang/StringBuilder;"⟩ : MethodName)) (z := (⟨"java/lang/StringBuilder", "append", "(J)Ljava/lang/StringBuilder;"⟩ : MethodName)) hown (mvT hZ (hw _ (List.mem_of_getElem? (i := 43) rfl))) (mvT hZ (hw _ (List.mem_of_getElem? (i := 44) rfl))) (notFace_of_selects (args := #[]) (mvT hZ (hw _ (List.mem_of_getElem? (i := 46) rfl)))) (mvT hZ (hw _ (List.mem_of_getElem? (i := 46) rfl))) (mvT hZ (hw _ (List.mem_of_getElem? (i := 45) rfl))) (by decide) (backOf (W := 0) (rmA2 l Z a0 hw [] b1 xF ffb3_1_2 k_ffb3_1_2 cst dg k_dg T2.heap n0 Zs2 q2_0 q2_1 q2_2 q2_3 (own_nneg hxF) (own_m10 hxF) q2_4 (X00.keep K2 all0) S_COMPACT_STRINGS hcs (own_mmin hxF) (own_m100 hxF) S_DigitOnes V_dg (own_idx hxF) (own_m9 hxF) g_ffb3_1_2 g_b1) hZ (hw _ (List.mem_of_getElem? (i := 47) rfl)) (hw _ (List.mem_of_getElem? (i := 25) rfl)) (by decide) (by decide)) q4a q4c (g := (mkF m 11 #[.val (.ref a)] [(.long xF), (.ref b1)])) rfl (by rw [hml]; rfl) (Steps.refl _) (argsL := [(.long xF)]) (rest := []) (lenOf own_pd6 rfl) rfl (by show 2 * 0 + _ ≤ _; exact Nat.le_of_eq rfl) (hb hby dT_11) (fun _ _ => ⟨rfl, e3, (by decide : 2 + 0 ≤ _), (by decide : 20 + 0 ≤ _)⟩)
  dsimp only [Pt.U, Pt.locs, Pt.cells, Pt.slots] at X4 l4 y4 z4 st4 hQ4
  subst l4 y4 z4
  obtain ⟨rfl, Nq4, Kc4, q4_0, q4_1, q4_2, q4_3, q4_4⟩ := hQ4
  have K4 : Keep h0 T4.heap [] := Keep.trans K2 Kc4 (allS (Or.inr sz_b1) (allS (Or.inr sz_ffb3_1_2) all0))
  have Zs4 : n0 ≤ T4.heap.size := Nat.le_trans Zs2 Kc4.1
  have hks4 := Nat.le_trans hks2 Kc4.1
  have ch4 := CHr.trans ch2 (CHr.keep Kc4 (sfS (Safe.exa hZ.alike q2_0 (by decide) (by decide)) (sfS sf2_ffb3_1_2 sf0)) ch2.1)
  have sf4_ffb3_1_2 := (Safe.keep Kc4 (sfS (Safe.exa hZ.alike q2_0 (by decide) (by decide)) (sfS sf2_ffb3_1_2 sf0)) ch2.1 sf2_ffb3_1_2)
  have N4 := Fr.app N2 Nq4
  have r5 : ∀ t, Steps p.tables e below (T4.setTop (mkF m 14 #[.val (.ref a)] [(.ref b1)])) t → Steps p.tables e below (s₁.setTop (mkF m 0 #[.val (.ref a)] [])) t := fun t kt => by
    show Steps p.tables e below (s₁.setTop (mkF m 0 #[.val (.ref a)] [])) _
    refine st1 _ ?_
    show Steps p.tables e below (T1.setTop (mkF m 3 #[.val (.ref a)] [(.ref b1)])) _
    refine XS.dup X1.here hx rfl (hb hby dT_3) rfl rfl ?_
    show Steps p.tables e below (T1.setTop (mkF m 4 #[.val (.ref a)] [(.ref b1), (.ref b1)])) _
    refine st2.trans ?_
    show Steps p.tables e below (T2.setTop (mkF m 7 #[.val (.ref a)] [(.ref b1)])) _
    refine XS.aloadN X2.here hx rfl (hb hby dT_7) rfl rfl ?_
    show Steps p.tables e below (T2.setTop (mkF m 8 #[.val (.ref a)] [(.ref a), (.ref b1)])) _
    refine st3 _ ?_
    show Steps p.tables e below (T3.setTop (mkF m 11 #[.val (.ref a)] [(.long xF), (.ref b1)])) _
    refine st4.trans ?_
    exact kt
  obtain ⟨b6, T6, h6, kk6, t6, kc6, X6, e6, E6, hS6, hks6', hZ, hown, As6, Cs6, Vs6, Bs6, lta6, ltb6, cr6, Lt6, sn6, st6⟩   := ldcCH X4 hx hZ hown (hw _ (List.mem_of_getElem? (i := 76) rfl)) hSA rfl hS0 hks4 hELW (List.mem_of_getElem? (i := 0) rfl) ch4.1 (vs := [(.int (32 : Int32)), (.int (102 : Int32)), (.int (105 : Int32)), (.int (108 : Int32)), (.int (101 : Int32)), (.int (115 : Int32)), (.int (44 : Int32)), (.int (32 : Int32))]) (z := (8 : Int32)) ⟨by decide, rfl⟩ (by decide) rfl (g := (mkF m 14 #[.val (.ref a)] [(.ref b1)])) rfl (hb hby dT_14) (n := 32) (by decide) (by decide) (by decide) (by decide)
  have K6 : Keep h0 h6 [] := K4.ext E6
  have Zs6 : n0 ≤ h6.size := Nat.le_trans Zs4 E6.1
  have ch6 := CHr.trans ch4 cr6
  have sf6_ffb3_1_2 := CHr.safe cr6 q4_4.lt sf4_ffb3_1_2
  have nt6_a : a ≠ t6 := (sn6 _ (Safe.exa hZ.alike ((((E_a.ext E1).keep Kc2).keep Kc4).ext E6) (by decide) (by decide))).2
  have nt6_b1 : b1 ≠ t6 := (sn6 _ (Safe.exa hZ.alike (q4_0.ext E6) (by decide) (by decide))).2
  obtain ⟨cq7, kq7, q7a, q7b, q7c⟩ := isOf hZ e6 (q4_0.ext E6)
  obtain ⟨_, _, ⟨T7, L7, k7, n7⟩, -, X7, ⟨Lc7, hQ7, l7, y7, z7⟩, st7⟩ := X6.virtualBack hx (y := (⟨"java/lang/StringBuilder", "append", "(Ljava/lang/String;)Ljava/lang/StringBuilder;"⟩ : MethodName)) (z := (⟨"java/lang/StringBuilder", "append", "(Ljava/lang/String;)Ljava/lang/StringBuilder;"⟩ : MethodName)) hown (mvT hZ (hw _ (List.mem_of_getElem? (i := 82) rfl))) (mvT hZ (hw _ (List.mem_of_getElem? (i := 83) rfl))) (notFace_of_selects (args := #[]) (mvT hZ (hw _ (List.mem_of_getElem? (i := 85) rfl)))) (mvT hZ (hw _ (List.mem_of_getElem? (i := 85) rfl))) (mvT hZ (hw _ (List.mem_of_getElem? (i := 84) rfl))) (by decide) (backOf (W := 0) (rmA8 l Z a0 hw [] b1 b6 ffb3_1_2 t6 kc6 cst (((own_get own_ones (-((-xF).toInt32)))).toInt8.toInt32) k_ffb3_1_2 h6 n0 Zs6 (q4_0.ext E6) (q4_1.ext E6) (q4_2.ext E6) (q4_3.ext E6) As6 Cs6 Vs6 Bs6 (X00.keep K6 all0) S_COMPACT_STRINGS hcs (q4_4.ext E6) g_ffb3_1_2 g_b1) hZ (hw _ (List.mem_of_getElem? (i := 86) rfl)) (hw _ (List.mem_of_getElem? (i := 25) rfl)) (by decide) (by decide)) q7a q7c (g := (mkF m 16 #[.val (.ref a)] [(.ref b6), (.ref b1)])) rfl (by rw [hml]; rfl) (Steps.refl _) (argsL := [(.ref b6)]) (rest := []) (lenOf own_pd13 rfl) rfl (by show 2 * 0 + _ ≤ _; exact Nat.le_of_eq rfl) (hb hby dT_16) (fun _ _ => ⟨rfl, e6, (by decide : 4 + 0 ≤ _), (by decide : 56 + 0 ≤ _)⟩)
  dsimp only [Pt.U, Pt.locs, Pt.cells, Pt.slots] at X7 l7 y7 z7 st7 hQ7
  subst l7 y7 z7
  obtain ⟨rfl, Nq7, Kc7, q7_0, q7_1, q7_2, q7_3, q7_4⟩ := hQ7
  have K7 : Keep h0 T7.heap [] := Keep.trans K6 Kc7 (allS (Or.inr sz_b1) (allS (Or.inr sz_ffb3_1_2) all0))
  have Zs7 : n0 ≤ T7.heap.size := Nat.le_trans Zs6 Kc7.1
  have hks7 := Nat.le_trans hks6' Kc7.1
  have ch7 := CHr.trans ch6 (CHr.keep Kc7 (sfS (Safe.exa hZ.alike (q4_0.ext E6) (by decide) (by decide)) (sfS sf6_ffb3_1_2 sf0)) ch6.1)
  have sf7_ffb3_1_2 := (Safe.keep Kc7 (sfS (Safe.exa hZ.alike (q4_0.ext E6) (by decide) (by decide)) (sfS sf6_ffb3_1_2 sf0)) ch6.1 sf6_ffb3_1_2)
  have N7 := Fr.app N4 Nq7
  obtain ⟨T8, X8, e8, st8⟩ := getF X7 hx hZ hown (host := "") (Or.inl (hw _ (List.mem_of_getElem? (i := 124) rfl))) Via.refl rfl (((((F_folders_a.ext E1).keep Kc2 (ninS ne_a_b1 nin0)).keep Kc4 (ninS ne_a_b1 (ninS ne_a_ffb3_1_2 nin0))).ext E6).keep Kc7 (ninS ne_a_b1 (ninS ne_a_ffb3_1_2 nin0))) (g := (mkF m 20 #[.val (.ref a)] [(.ref a), (.ref b1)])) rfl rfl (hb hby dT_20)
  obtain ⟨cq9, kq9, q9a, q9b, q9c⟩ := isOf hZ e8 q7_0
  obtain ⟨_, _, ⟨T9, L9, k9, n9⟩, -, X9, ⟨Lc9, hQ9, l9, y9, z9⟩, st9⟩ := X8.virtualBack hx (y := (⟨"java/lang/StringBuilder", "append", "(J)Ljava/lang/StringBuilder;"⟩ : MethodName)) (z := (⟨"java/lang/StringBuilder", "append", "(J)Ljava/lang/StringBuilder;"⟩ : MethodName)) hown (mvT hZ (hw _ (List.mem_of_getElem? (i := 43) rfl))) (mvT hZ (hw _ (List.mem_of_getElem? (i := 44) rfl))) (notFace_of_selects (args := #[]) (mvT hZ (hw _ (List.mem_of_getElem? (i := 46) rfl)))) (mvT hZ (hw _ (List.mem_of_getElem? (i := 46) rfl))) (mvT hZ (hw _ (List.mem_of_getElem? (i := 45) rfl))) (by decide) (backOf (W := 0) (rmA16 l Z a0 hw [] b1 xG ffb3_1_2 (((own_get own_ones (-((-xF).toInt32)))).toInt8.toInt32) k_ffb3_1_2 cst dg k_dg T7.heap n0 Zs7 q7_0 q7_1 q7_2 q7_3 q7_4 (X00.keep K7 all0) S_COMPACT_STRINGS S_DigitOnes V_dg (own_nneg hxG) (own_m10 hxG) hcs (own_mmin hxG) (own_m100 hxG) (own_idx hxG) (own_m9 hxG) g_ffb3_1_2 g_b1) hZ (hw _ (List.mem_of_getElem? (i := 47) rfl)) (hw _ (List.mem_of_getElem? (i := 25) rfl)) (by decide) (by decide)) q9a q9c (g := (mkF m 23 #[.val (.ref a)] [(.long xG), (.ref b1)])) rfl (by rw [hml]; rfl) (Steps.refl _) (argsL := [(.long xG)]) (rest := []) (lenOf own_pd6 rfl) rfl (by show 2 * 0 + _ ≤ _; exact Nat.le_of_eq rfl) (hb hby dT_23) (fun _ _ => ⟨rfl, e8, (by decide : 4 + 0 ≤ _), (by decide : 56 + 0 ≤ _)⟩)
  dsimp only [Pt.U, Pt.locs, Pt.cells, Pt.slots] at X9 l9 y9 z9 st9 hQ9
  subst l9 y9 z9
  obtain ⟨rfl, Nq9, Kc9, q9_0, q9_1, q9_2, q9_3, q9_4⟩ := hQ9
  have K9 : Keep h0 T9.heap [] := Keep.trans K7 Kc9 (allS (Or.inr sz_b1) (allS (Or.inr sz_ffb3_1_2) all0))
  have Zs9 : n0 ≤ T9.heap.size := Nat.le_trans Zs7 Kc9.1
  have hks9 := Nat.le_trans hks7 Kc9.1
  have ch9 := CHr.trans ch7 (CHr.keep Kc9 (sfS (Safe.exa hZ.alike q7_0 (by decide) (by decide)) (sfS sf7_ffb3_1_2 sf0)) ch7.1)
  have sf9_ffb3_1_2 := (Safe.keep Kc9 (sfS (Safe.exa hZ.alike q7_0 (by decide) (by decide)) (sfS sf7_ffb3_1_2 sf0)) ch7.1 sf7_ffb3_1_2)
  have N9 := Fr.app N7 Nq9
  have r10 : ∀ t, Steps p.tables e below (T9.setTop (mkF m 26 #[.val (.ref a)] [(.ref b1)])) t → Steps p.tables e below (T4.setTop (mkF m 14 #[.val (.ref a)] [(.ref b1)])) t := fun t kt => by
    show Steps p.tables e below (T4.setTop (mkF m 14 #[.val (.ref a)] [(.ref b1)])) _
    refine st6 _ ?_
    show Steps p.tables e below (T6.setTop (mkF m 16 #[.val (.ref a)] [(.ref b6), (.ref b1)])) _
    refine st7.trans ?_
    show Steps p.tables e below (T7.setTop (mkF m 19 #[.val (.ref a)] [(.ref b1)])) _
    refine XS.aloadN X7.here hx rfl (hb hby dT_19) rfl rfl ?_
    show Steps p.tables e below (T7.setTop (mkF m 20 #[.val (.ref a)] [(.ref a), (.ref b1)])) _
    refine st8 _ ?_
    show Steps p.tables e below (T8.setTop (mkF m 23 #[.val (.ref a)] [(.long xG), (.ref b1)])) _
    refine st9.trans ?_
    exact kt
  obtain ⟨b11, T11, h11, kk11, t11, kc11, X11, e11, E11, hS11, hks11', hZ, hown, As11, Cs11, Vs11, Bs11, lta11, ltb11, cr11, Lt11, sn11, st11⟩   := ldcCH X9 hx hZ hown (hw _ (List.mem_of_getElem? (i := 126) rfl)) hSA rfl hS6 hks9 hELW (List.mem_of_getElem? (i := 1) rfl) ch9.1 (vs := [(.int (32 : Int32)), (.int (102 : Int32)), (.int (111 : Int32)), (.int (108 : Int32)), (.int (100 : Int32)), (.int (101 : Int32)), (.int (114 : Int32)), (.int (115 : Int32)), (.int (44 : Int32)), (.int (32 : Int32))]) (z := (10 : Int32)) ⟨by decide, rfl⟩ (by decide) rfl (g := (mkF m 26 #[.val (.ref a)] [(.ref b1)])) rfl (hb hby dT_26) (n := 40) (by decide) (by decide) (by decide) (by decide)
  have K11 : Keep h0 h11 [] := K9.ext E11
  have Zs11 : n0 ≤ h11.size := Nat.le_trans Zs9 E11.1
  have ch11 := CHr.trans ch9 cr11
  have sf11_ffb3_1_2 := CHr.safe cr11 q9_4.lt sf9_ffb3_1_2
  have nt11_a : a ≠ t11 := (sn11 _ (Safe.exa hZ.alike (((((((E_a.ext E1).keep Kc2).keep Kc4).ext E6).keep Kc7).keep Kc9).ext E11) (by decide) (by decide))).2
  have nt11_b1 : b1 ≠ t11 := (sn11 _ (Safe.exa hZ.alike (q9_0.ext E11) (by decide) (by decide))).2
  obtain ⟨cq12, kq12, q12a, q12b, q12c⟩ := isOf hZ e11 (q9_0.ext E11)
  obtain ⟨_, _, ⟨T12, L12, k12, n12⟩, -, X12, ⟨Lc12, hQ12, l12, y12, z12⟩, st12⟩ := X11.virtualBack hx (y := (⟨"java/lang/StringBuilder", "append", "(Ljava/lang/String;)Ljava/lang/StringBuilder;"⟩ : MethodName)) (z := (⟨"java/lang/StringBuilder", "append", "(Ljava/lang/String;)Ljava/lang/StringBuilder;"⟩ : MethodName)) hown (mvT hZ (hw _ (List.mem_of_getElem? (i := 82) rfl))) (mvT hZ (hw _ (List.mem_of_getElem? (i := 83) rfl))) (notFace_of_selects (args := #[]) (mvT hZ (hw _ (List.mem_of_getElem? (i := 85) rfl)))) (mvT hZ (hw _ (List.mem_of_getElem? (i := 85) rfl))) (mvT hZ (hw _ (List.mem_of_getElem? (i := 84) rfl))) (by decide) (backOf (W := 0) (rmA21 l Z a0 hw [] b1 b11 ffb3_1_2 t11 kc11 cst (((own_get own_ones (-((-xF).toInt32)))).toInt8.toInt32) (((own_get own_ones (-((-xG).toInt32)))).toInt8.toInt32) k_ffb3_1_2 h11 n0 Zs11 (q9_0.ext E11) (q9_1.ext E11) (q9_2.ext E11) (q9_3.ext E11) As11 Cs11 Vs11 Bs11 (X00.keep K11 all0) S_COMPACT_STRINGS (q9_4.ext E11) hcs g_b1) hZ (hw _ (List.mem_of_getElem? (i := 86) rfl)) (hw _ (List.mem_of_getElem? (i := 25) rfl)) (by decide) (by decide)) q12a q12c (g := (mkF m 28 #[.val (.ref a)] [(.ref b11), (.ref b1)])) rfl (by rw [hml]; rfl) (Steps.refl _) (argsL := [(.ref b11)]) (rest := []) (lenOf own_pd13 rfl) rfl (by show 2 * 0 + _ ≤ _; exact Nat.le_of_eq rfl) (hb hby dT_28) (fun _ _ => ⟨rfl, e11, (by decide : 6 + 1 ≤ _), (by decide : 100 + 34 ≤ _)⟩)
  dsimp only [Pt.U, Pt.locs, Pt.cells, Pt.slots] at X12 l12 y12 z12 st12 hQ12
  subst l12 y12 z12
  obtain ⟨ffffb2_7_3_1_12, k_ffffb2_7_3_1_12, rfl, Nq12, Kc12, g_ffffb2_7_3_1_12, zq_ffffb2_7_3_1_12, q12_0, q12_1, q12_2, q12_3, q12_4⟩ := hQ12
  have sz_ffffb2_7_3_1_12 : h0.size ≤ ffffb2_7_3_1_12 := Nat.le_trans K11.1 zq_ffffb2_7_3_1_12
  have ne_a_ffffb2_7_3_1_12 : a ≠ ffffb2_7_3_1_12 := Nat.ne_of_lt (Nat.lt_of_lt_of_le (((((((E_a.ext E1).keep Kc2).keep Kc4).ext E6).keep Kc7).keep Kc9).ext E11).lt zq_ffffb2_7_3_1_12)
  have ne_dg_ffffb2_7_3_1_12 : dg ≠ ffffb2_7_3_1_12 := Nat.ne_of_lt (Nat.lt_of_lt_of_le (V_dg.ext (X00.keep K11 all0).2).lt zq_ffffb2_7_3_1_12)
  have ne_b1_ffffb2_7_3_1_12 : b1 ≠ ffffb2_7_3_1_12 := Nat.ne_of_lt (Nat.lt_of_lt_of_le (q9_0.ext E11).lt zq_ffffb2_7_3_1_12)
  have ne_b6_ffffb2_7_3_1_12 : b6 ≠ ffffb2_7_3_1_12 := Nat.ne_of_lt (Nat.lt_of_lt_of_le (((As6.keep Kc7).keep Kc9).ext E11).lt zq_ffffb2_7_3_1_12)
  have ne_t6_ffffb2_7_3_1_12 : t6 ≠ ffffb2_7_3_1_12 := Nat.ne_of_lt (Nat.lt_of_lt_of_le (((Bs6.keep Kc7 (ninS (Ne.symm nt6_b1) (ninS (Ne.symm (sn6 _ sf6_ffb3_1_2).2) nin0))).keep Kc9 (ninS (Ne.symm nt6_b1) (ninS (Ne.symm (sn6 _ sf6_ffb3_1_2).2) nin0))).ext E11).lt zq_ffffb2_7_3_1_12)
  have ne_ffb3_1_2_ffffb2_7_3_1_12 : ffb3_1_2 ≠ ffffb2_7_3_1_12 := Nat.ne_of_lt (Nat.lt_of_lt_of_le (q9_4.ext E11).lt zq_ffffb2_7_3_1_12)
  have ne_b11_ffffb2_7_3_1_12 : b11 ≠ ffffb2_7_3_1_12 := Nat.ne_of_lt (Nat.lt_of_lt_of_le As11.lt zq_ffffb2_7_3_1_12)
  have ne_t11_ffffb2_7_3_1_12 : t11 ≠ ffffb2_7_3_1_12 := Nat.ne_of_lt (Nat.lt_of_lt_of_le Bs11.lt zq_ffffb2_7_3_1_12)
  have K12 : Keep h0 T12.heap [] := Keep.trans K11 Kc12 (allS (Or.inr sz_b1) all0)
  have Zs12 : n0 ≤ T12.heap.size := Nat.le_trans Zs11 Kc12.1
  have hks12 := Nat.le_trans hks11' Kc12.1
  have ch12 := CHr.trans ch11 (CHr.keep Kc12 (sfS (Safe.exa hZ.alike (q9_0.ext E11) (by decide) (by decide)) sf0) ch11.1)
  have sf12_ffb3_1_2 := (Safe.keep Kc12 (sfS (Safe.exa hZ.alike (q9_0.ext E11) (by decide) (by decide)) sf0) ch11.1 sf11_ffb3_1_2)
  have sf12_ffffb2_7_3_1_12 := Safe.keep Kc12 (sfS (Safe.exa hZ.alike (q9_0.ext E11) (by decide) (by decide)) sf0) ch11.1 (Safe.new zq_ffffb2_7_3_1_12)
  have N12 := Fr.app N9 Nq12
  obtain ⟨T13, X13, e13, st13⟩ := getF X12 hx hZ hown (host := "") (Or.inl (hw _ (List.mem_of_getElem? (i := 16) rfl))) Via.refl rfl ((((((((F_bytes_a.ext E1).keep Kc2 (ninS ne_a_b1 nin0)).keep Kc4 (ninS ne_a_b1 (ninS ne_a_ffb3_1_2 nin0))).ext E6).keep Kc7 (ninS ne_a_b1 (ninS ne_a_ffb3_1_2 nin0))).keep Kc9 (ninS ne_a_b1 (ninS ne_a_ffb3_1_2 nin0))).ext E11).keep Kc12 (ninS ne_a_b1 nin0)) (g := (mkF m 32 #[.val (.ref a)] [(.ref a), (.ref b1)])) rfl rfl (hb hby dT_32)
  obtain ⟨cq14, kq14, q14a, q14b, q14c⟩ := isOf hZ e13 q12_0
  obtain ⟨_, _, ⟨T14, L14, k14, n14⟩, -, X14, ⟨Lc14, hQ14, l14, y14, z14⟩, st14⟩ := X13.virtualBack hx (y := (⟨"java/lang/StringBuilder", "append", "(J)Ljava/lang/StringBuilder;"⟩ : MethodName)) (z := (⟨"java/lang/StringBuilder", "append", "(J)Ljava/lang/StringBuilder;"⟩ : MethodName)) hown (mvT hZ (hw _ (List.mem_of_getElem? (i := 43) rfl))) (mvT hZ (hw _ (List.mem_of_getElem? (i := 44) rfl))) (notFace_of_selects (args := #[]) (mvT hZ (hw _ (List.mem_of_getElem? (i := 46) rfl)))) (mvT hZ (hw _ (List.mem_of_getElem? (i := 46) rfl))) (mvT hZ (hw _ (List.mem_of_getElem? (i := 45) rfl))) (by decide) (backOf (W := 0) (rmA33 l Z a0 hw [] b1 xB ffffb2_7_3_1_12 (((own_get own_ones (-((-xF).toInt32)))).toInt8.toInt32) (((own_get own_ones (-((-xG).toInt32)))).toInt8.toInt32) k_ffffb2_7_3_1_12 cst dg k_dg T12.heap n0 Zs12 q12_0 q12_1 q12_2 q12_3 q12_4 (X00.keep K12 all0) S_COMPACT_STRINGS S_DigitOnes V_dg (own_nneg hxB) (own_m10 hxB) hcs (own_mmin hxB) (own_m100 hxB) (own_idx hxB) (own_m9 hxB) g_ffffb2_7_3_1_12 g_b1) hZ (hw _ (List.mem_of_getElem? (i := 47) rfl)) (hw _ (List.mem_of_getElem? (i := 25) rfl)) (by decide) (by decide)) q14a q14c (g := (mkF m 35 #[.val (.ref a)] [(.long xB), (.ref b1)])) rfl (by rw [hml]; rfl) (Steps.refl _) (argsL := [(.long xB)]) (rest := []) (lenOf own_pd6 rfl) rfl (by show 2 * 0 + _ ≤ _; exact Nat.le_of_eq rfl) (hb hby dT_35) (fun _ _ => ⟨rfl, e13, (by decide : 7 + 0 ≤ _), (by decide : 134 + 0 ≤ _)⟩)
  dsimp only [Pt.U, Pt.locs, Pt.cells, Pt.slots] at X14 l14 y14 z14 st14 hQ14
  subst l14 y14 z14
  obtain ⟨rfl, Nq14, Kc14, q14_0, q14_1, q14_2, q14_3, q14_4⟩ := hQ14
  have K14 : Keep h0 T14.heap [] := Keep.trans K12 Kc14 (allS (Or.inr sz_b1) (allS (Or.inr sz_ffffb2_7_3_1_12) all0))
  have Zs14 : n0 ≤ T14.heap.size := Nat.le_trans Zs12 Kc14.1
  have hks14 := Nat.le_trans hks12 Kc14.1
  have ch14 := CHr.trans ch12 (CHr.keep Kc14 (sfS (Safe.exa hZ.alike q12_0 (by decide) (by decide)) (sfS sf12_ffffb2_7_3_1_12 sf0)) ch12.1)
  have sf14_ffb3_1_2 := (Safe.keep Kc14 (sfS (Safe.exa hZ.alike q12_0 (by decide) (by decide)) (sfS sf12_ffffb2_7_3_1_12 sf0)) ch12.1 sf12_ffb3_1_2)
  have sf14_ffffb2_7_3_1_12 := (Safe.keep Kc14 (sfS (Safe.exa hZ.alike q12_0 (by decide) (by decide)) (sfS sf12_ffffb2_7_3_1_12 sf0)) ch12.1 sf12_ffffb2_7_3_1_12)
  have N14 := Fr.app N12 Nq14
  have r15 : ∀ t, Steps p.tables e below (T14.setTop (mkF m 38 #[.val (.ref a)] [(.ref b1)])) t → Steps p.tables e below (T9.setTop (mkF m 26 #[.val (.ref a)] [(.ref b1)])) t := fun t kt => by
    show Steps p.tables e below (T9.setTop (mkF m 26 #[.val (.ref a)] [(.ref b1)])) _
    refine st11 _ ?_
    show Steps p.tables e below (T11.setTop (mkF m 28 #[.val (.ref a)] [(.ref b11), (.ref b1)])) _
    refine st12.trans ?_
    show Steps p.tables e below (T12.setTop (mkF m 31 #[.val (.ref a)] [(.ref b1)])) _
    refine XS.aloadN X12.here hx rfl (hb hby dT_31) rfl rfl ?_
    show Steps p.tables e below (T12.setTop (mkF m 32 #[.val (.ref a)] [(.ref a), (.ref b1)])) _
    refine st13 _ ?_
    show Steps p.tables e below (T13.setTop (mkF m 35 #[.val (.ref a)] [(.long xB), (.ref b1)])) _
    refine st14.trans ?_
    exact kt
  obtain ⟨b16, T16, h16, kk16, t16, kc16, X16, e16, E16, hS16, hks16', hZ, hown, As16, Cs16, Vs16, Bs16, lta16, ltb16, cr16, Lt16, sn16, st16⟩   := ldcCH X14 hx hZ hown (hw _ (List.mem_of_getElem? (i := 150) rfl)) hSA rfl hS11 hks14 hELW (List.mem_of_getElem? (i := 2) rfl) ch14.1 (vs := [(.int (32 : Int32)), (.int (98 : Int32)), (.int (121 : Int32)), (.int (116 : Int32)), (.int (101 : Int32)), (.int (115 : Int32))]) (z := (6 : Int32)) ⟨by decide, rfl⟩ (by decide) rfl (g := (mkF m 38 #[.val (.ref a)] [(.ref b1)])) rfl (hb hby dT_38) (n := 24) (by decide) (by decide) (by decide) (by decide)
  have K16 : Keep h0 h16 [] := K14.ext E16
  have Zs16 : n0 ≤ h16.size := Nat.le_trans Zs14 E16.1
  have ch16 := CHr.trans ch14 cr16
  have sf16_ffb3_1_2 := CHr.safe cr16 (((q9_4.ext E11).keep Kc12 (ninS (Ne.symm ne_b1_ffb3_1_2) nin0)).keep Kc14 (ninS (Ne.symm ne_b1_ffb3_1_2) (ninS ne_ffb3_1_2_ffffb2_7_3_1_12 nin0))).lt sf14_ffb3_1_2
  have sf16_ffffb2_7_3_1_12 := CHr.safe cr16 q14_4.lt sf14_ffffb2_7_3_1_12
  have nt16_a : a ≠ t16 := (sn16 _ (Safe.exa hZ.alike ((((((((((E_a.ext E1).keep Kc2).keep Kc4).ext E6).keep Kc7).keep Kc9).ext E11).keep Kc12).keep Kc14).ext E16) (by decide) (by decide))).2
  have nt16_b1 : b1 ≠ t16 := (sn16 _ (Safe.exa hZ.alike (q14_0.ext E16) (by decide) (by decide))).2
  obtain ⟨cq17, kq17, q17a, q17b, q17c⟩ := isOf hZ e16 (q14_0.ext E16)
  obtain ⟨_, _, ⟨T17, L17, k17, n17⟩, -, X17, ⟨Lc17, hQ17, l17, y17, z17⟩, st17⟩ := X16.virtualBack hx (y := (⟨"java/lang/StringBuilder", "append", "(Ljava/lang/String;)Ljava/lang/StringBuilder;"⟩ : MethodName)) (z := (⟨"java/lang/StringBuilder", "append", "(Ljava/lang/String;)Ljava/lang/StringBuilder;"⟩ : MethodName)) hown (mvT hZ (hw _ (List.mem_of_getElem? (i := 82) rfl))) (mvT hZ (hw _ (List.mem_of_getElem? (i := 83) rfl))) (notFace_of_selects (args := #[]) (mvT hZ (hw _ (List.mem_of_getElem? (i := 85) rfl)))) (mvT hZ (hw _ (List.mem_of_getElem? (i := 85) rfl))) (mvT hZ (hw _ (List.mem_of_getElem? (i := 84) rfl))) (by decide) (backOf (W := 0) (rmA38 l Z a0 hw [] b1 b16 ffffb2_7_3_1_12 t16 kc16 cst (((own_get own_ones (-((-xF).toInt32)))).toInt8.toInt32) (((own_get own_ones (-((-xG).toInt32)))).toInt8.toInt32) (((own_get own_ones (-((-xB).toInt32)))).toInt8.toInt32) k_ffffb2_7_3_1_12 h16 n0 Zs16 (q14_0.ext E16) (q14_1.ext E16) (q14_2.ext E16) (q14_3.ext E16) As16 Cs16 Vs16 Bs16 (X00.keep K16 all0) S_COMPACT_STRINGS (q14_4.ext E16) hcs g_ffffb2_7_3_1_12 g_b1) hZ (hw _ (List.mem_of_getElem? (i := 86) rfl)) (hw _ (List.mem_of_getElem? (i := 25) rfl)) (by decide) (by decide)) q17a q17c (g := (mkF m 40 #[.val (.ref a)] [(.ref b16), (.ref b1)])) rfl (by rw [hml]; rfl) (Steps.refl _) (argsL := [(.ref b16)]) (rest := []) (lenOf own_pd13 rfl) rfl (by show 2 * 0 + _ ≤ _; exact Nat.le_of_eq rfl) (hb hby dT_40) (fun _ _ => ⟨rfl, e16, (by decide : 9 + 0 ≤ _), (by decide : 162 + 0 ≤ _)⟩)
  dsimp only [Pt.U, Pt.locs, Pt.cells, Pt.slots] at X17 l17 y17 z17 st17 hQ17
  subst l17 y17 z17
  obtain ⟨rfl, Nq17, Kc17, q17_0, q17_1, q17_2, q17_3, q17_4⟩ := hQ17
  have K17 : Keep h0 T17.heap [] := Keep.trans K16 Kc17 (allS (Or.inr sz_b1) (allS (Or.inr sz_ffffb2_7_3_1_12) all0))
  have Zs17 : n0 ≤ T17.heap.size := Nat.le_trans Zs16 Kc17.1
  have hks17 := Nat.le_trans hks16' Kc17.1
  have ch17 := CHr.trans ch16 (CHr.keep Kc17 (sfS (Safe.exa hZ.alike (q14_0.ext E16) (by decide) (by decide)) (sfS sf16_ffffb2_7_3_1_12 sf0)) ch16.1)
  have sf17_ffb3_1_2 := (Safe.keep Kc17 (sfS (Safe.exa hZ.alike (q14_0.ext E16) (by decide) (by decide)) (sfS sf16_ffffb2_7_3_1_12 sf0)) ch16.1 sf16_ffb3_1_2)
  have sf17_ffffb2_7_3_1_12 := (Safe.keep Kc17 (sfS (Safe.exa hZ.alike (q14_0.ext E16) (by decide) (by decide)) (sfS sf16_ffffb2_7_3_1_12 sf0)) ch16.1 sf16_ffffb2_7_3_1_12)
  have N17 := Fr.app N14 Nq17
  obtain ⟨cq18, kq18, q18a, q18b, q18c⟩ := isOf hZ rfl q17_0
  obtain ⟨_, _, ⟨T18, L18, k18, n18⟩, -, X18, ⟨Lc18, hQ18, l18, y18, z18⟩, st18⟩ := X17.virtualBack hx (y := (⟨"java/lang/StringBuilder", "toString", "()Ljava/lang/String;"⟩ : MethodName)) (z := (⟨"java/lang/StringBuilder", "toString", "()Ljava/lang/String;"⟩ : MethodName)) hown (mvT hZ (hw _ (List.mem_of_getElem? (i := 151) rfl))) (mvT hZ (hw _ (List.mem_of_getElem? (i := 152) rfl))) (notFace_of_selects (args := #[]) (mvT hZ (hw _ (List.mem_of_getElem? (i := 154) rfl)))) (mvT hZ (hw _ (List.mem_of_getElem? (i := 154) rfl))) (mvT hZ (hw _ (List.mem_of_getElem? (i := 153) rfl))) (by decide) (backOf (W := 0) (rmA45 l Z a0 hw [] b1 ffffb2_7_3_1_12 cst (((own_get own_ones (-((-xF).toInt32)))).toInt8.toInt32) (((own_get own_ones (-((-xG).toInt32)))).toInt8.toInt32) (((own_get own_ones (-((-xB).toInt32)))).toInt8.toInt32) k_ffffb2_7_3_1_12 T17.heap n0 Zs17 q17_0 q17_1 q17_2 q17_3 (X00.keep K17 all0) S_COMPACT_STRINGS hcs q17_4) hZ (hw _ (List.mem_of_getElem? (i := 155) rfl)) (hw _ (List.mem_of_getElem? (i := 25) rfl)) (by decide) (by decide)) q18a q18c (g := (mkF m 43 #[.val (.ref a)] [(.ref b1)])) rfl (by rw [hml]; rfl) (Steps.refl _) (argsL := []) (rest := []) (lenOf own_pd23 rfl) rfl (by show 2 * 0 + _ ≤ _; exact Nat.le_of_eq rfl) (hb hby dT_43) (fun _ _ => ⟨rfl, rfl, (by decide : 9 + 2 ≤ _), (by decide : 162 + 31 ≤ _)⟩)
  dsimp only [Pt.U, Pt.locs, Pt.cells, Pt.slots] at X18 l18 y18 z18 st18 hQ18
  subst l18 y18 z18
  obtain ⟨fb1_18, fffffb2_2_6_1_2_18, k_fffffb2_2_6_1_2_18, rfl, Nq18, Kc18, g_fb1_18, zq_fb1_18, g_fffffb2_2_6_1_2_18, zq_fffffb2_2_6_1_2_18, ne_fb1_18_fffffb2_2_6_1_2_18, q18_0, q18_1, q18_2, q18_3⟩ := hQ18
  have sz_fb1_18 : h0.size ≤ fb1_18 := Nat.le_trans K17.1 zq_fb1_18
  have ne_a_fb1_18 : a ≠ fb1_18 := Nat.ne_of_lt (Nat.lt_of_lt_of_le (((((((((((E_a.ext E1).keep Kc2).keep Kc4).ext E6).keep Kc7).keep Kc9).ext E11).keep Kc12).keep Kc14).ext E16).keep Kc17).lt zq_fb1_18)
  have ne_dg_fb1_18 : dg ≠ fb1_18 := Nat.ne_of_lt (Nat.lt_of_lt_of_le (V_dg.ext (X00.keep K17 all0).2).lt zq_fb1_18)
  have ne_b1_fb1_18 : b1 ≠ fb1_18 := Nat.ne_of_lt (Nat.lt_of_lt_of_le q17_0.lt zq_fb1_18)
  have ne_b6_fb1_18 : b6 ≠ fb1_18 := Nat.ne_of_lt (Nat.lt_of_lt_of_le (((((((As6.keep Kc7).keep Kc9).ext E11).keep Kc12).keep Kc14).ext E16).keep Kc17).lt zq_fb1_18)
  have ne_t6_fb1_18 : t6 ≠ fb1_18 := Nat.ne_of_lt (Nat.lt_of_lt_of_le (((((((Bs6.keep Kc7 (ninS (Ne.symm nt6_b1) (ninS (Ne.symm (sn6 _ sf6_ffb3_1_2).2) nin0))).keep Kc9 (ninS (Ne.symm nt6_b1) (ninS (Ne.symm (sn6 _ sf6_ffb3_1_2).2) nin0))).ext E11).keep Kc12 (ninS (Ne.symm nt6_b1) nin0)).keep Kc14 (ninS (Ne.symm nt6_b1) (ninS ne_t6_ffffb2_7_3_1_12 nin0))).ext E16).keep Kc17 (ninS (Ne.symm nt6_b1) (ninS ne_t6_ffffb2_7_3_1_12 nin0))).lt zq_fb1_18)
  have ne_ffb3_1_2_fb1_18 : ffb3_1_2 ≠ fb1_18 := Nat.ne_of_lt (Nat.lt_of_lt_of_le (((((q9_4.ext E11).keep Kc12 (ninS (Ne.symm ne_b1_ffb3_1_2) nin0)).keep Kc14 (ninS (Ne.symm ne_b1_ffb3_1_2) (ninS ne_ffb3_1_2_ffffb2_7_3_1_12 nin0))).ext E16).keep Kc17 (ninS (Ne.symm ne_b1_ffb3_1_2) (ninS ne_ffb3_1_2_ffffb2_7_3_1_12 nin0))).lt zq_fb1_18)
  have ne_b11_fb1_18 : b11 ≠ fb1_18 := Nat.ne_of_lt (Nat.lt_of_lt_of_le ((((As11.keep Kc12).keep Kc14).ext E16).keep Kc17).lt zq_fb1_18)
  have ne_t11_fb1_18 : t11 ≠ fb1_18 := Nat.ne_of_lt (Nat.lt_of_lt_of_le ((((Bs11.keep Kc12 (ninS (Ne.symm nt11_b1) nin0)).keep Kc14 (ninS (Ne.symm nt11_b1) (ninS ne_t11_ffffb2_7_3_1_12 nin0))).ext E16).keep Kc17 (ninS (Ne.symm nt11_b1) (ninS ne_t11_ffffb2_7_3_1_12 nin0))).lt zq_fb1_18)
  have ne_b16_fb1_18 : b16 ≠ fb1_18 := Nat.ne_of_lt (Nat.lt_of_lt_of_le (As16.keep Kc17).lt zq_fb1_18)
  have ne_t16_fb1_18 : t16 ≠ fb1_18 := Nat.ne_of_lt (Nat.lt_of_lt_of_le (Bs16.keep Kc17 (ninS (Ne.symm nt16_b1) (ninS (Ne.symm (sn16 _ sf16_ffffb2_7_3_1_12).2) nin0))).lt zq_fb1_18)
  have ne_ffffb2_7_3_1_12_fb1_18 : ffffb2_7_3_1_12 ≠ fb1_18 := Nat.ne_of_lt (Nat.lt_of_lt_of_le q17_4.lt zq_fb1_18)
  have sz_fffffb2_2_6_1_2_18 : h0.size ≤ fffffb2_2_6_1_2_18 := Nat.le_trans K17.1 zq_fffffb2_2_6_1_2_18
  have ne_a_fffffb2_2_6_1_2_18 : a ≠ fffffb2_2_6_1_2_18 := Nat.ne_of_lt (Nat.lt_of_lt_of_le (((((((((((E_a.ext E1).keep Kc2).keep Kc4).ext E6).keep Kc7).keep Kc9).ext E11).keep Kc12).keep Kc14).ext E16).keep Kc17).lt zq_fffffb2_2_6_1_2_18)
  have ne_dg_fffffb2_2_6_1_2_18 : dg ≠ fffffb2_2_6_1_2_18 := Nat.ne_of_lt (Nat.lt_of_lt_of_le (V_dg.ext (X00.keep K17 all0).2).lt zq_fffffb2_2_6_1_2_18)
  have ne_b1_fffffb2_2_6_1_2_18 : b1 ≠ fffffb2_2_6_1_2_18 := Nat.ne_of_lt (Nat.lt_of_lt_of_le q17_0.lt zq_fffffb2_2_6_1_2_18)
  have ne_b6_fffffb2_2_6_1_2_18 : b6 ≠ fffffb2_2_6_1_2_18 := Nat.ne_of_lt (Nat.lt_of_lt_of_le (((((((As6.keep Kc7).keep Kc9).ext E11).keep Kc12).keep Kc14).ext E16).keep Kc17).lt zq_fffffb2_2_6_1_2_18)
  have ne_t6_fffffb2_2_6_1_2_18 : t6 ≠ fffffb2_2_6_1_2_18 := Nat.ne_of_lt (Nat.lt_of_lt_of_le (((((((Bs6.keep Kc7 (ninS (Ne.symm nt6_b1) (ninS (Ne.symm (sn6 _ sf6_ffb3_1_2).2) nin0))).keep Kc9 (ninS (Ne.symm nt6_b1) (ninS (Ne.symm (sn6 _ sf6_ffb3_1_2).2) nin0))).ext E11).keep Kc12 (ninS (Ne.symm nt6_b1) nin0)).keep Kc14 (ninS (Ne.symm nt6_b1) (ninS ne_t6_ffffb2_7_3_1_12 nin0))).ext E16).keep Kc17 (ninS (Ne.symm nt6_b1) (ninS ne_t6_ffffb2_7_3_1_12 nin0))).lt zq_fffffb2_2_6_1_2_18)
  have ne_ffb3_1_2_fffffb2_2_6_1_2_18 : ffb3_1_2 ≠ fffffb2_2_6_1_2_18 := Nat.ne_of_lt (Nat.lt_of_lt_of_le (((((q9_4.ext E11).keep Kc12 (ninS (Ne.symm ne_b1_ffb3_1_2) nin0)).keep Kc14 (ninS (Ne.symm ne_b1_ffb3_1_2) (ninS ne_ffb3_1_2_ffffb2_7_3_1_12 nin0))).ext E16).keep Kc17 (ninS (Ne.symm ne_b1_ffb3_1_2) (ninS ne_ffb3_1_2_ffffb2_7_3_1_12 nin0))).lt zq_fffffb2_2_6_1_2_18)
  have ne_b11_fffffb2_2_6_1_2_18 : b11 ≠ fffffb2_2_6_1_2_18 := Nat.ne_of_lt (Nat.lt_of_lt_of_le ((((As11.keep Kc12).keep Kc14).ext E16).keep Kc17).lt zq_fffffb2_2_6_1_2_18)
  have ne_t11_fffffb2_2_6_1_2_18 : t11 ≠ fffffb2_2_6_1_2_18 := Nat.ne_of_lt (Nat.lt_of_lt_of_le ((((Bs11.keep Kc12 (ninS (Ne.symm nt11_b1) nin0)).keep Kc14 (ninS (Ne.symm nt11_b1) (ninS ne_t11_ffffb2_7_3_1_12 nin0))).ext E16).keep Kc17 (ninS (Ne.symm nt11_b1) (ninS ne_t11_ffffb2_7_3_1_12 nin0))).lt zq_fffffb2_2_6_1_2_18)
  have ne_b16_fffffb2_2_6_1_2_18 : b16 ≠ fffffb2_2_6_1_2_18 := Nat.ne_of_lt (Nat.lt_of_lt_of_le (As16.keep Kc17).lt zq_fffffb2_2_6_1_2_18)
  have ne_t16_fffffb2_2_6_1_2_18 : t16 ≠ fffffb2_2_6_1_2_18 := Nat.ne_of_lt (Nat.lt_of_lt_of_le (Bs16.keep Kc17 (ninS (Ne.symm nt16_b1) (ninS (Ne.symm (sn16 _ sf16_ffffb2_7_3_1_12).2) nin0))).lt zq_fffffb2_2_6_1_2_18)
  have ne_ffffb2_7_3_1_12_fffffb2_2_6_1_2_18 : ffffb2_7_3_1_12 ≠ fffffb2_2_6_1_2_18 := Nat.ne_of_lt (Nat.lt_of_lt_of_le q17_4.lt zq_fffffb2_2_6_1_2_18)
  have K18 : Keep h0 T18.heap [] := Keep.trans K17 Kc18 all0
  have Zs18 : n0 ≤ T18.heap.size := Nat.le_trans Zs17 Kc18.1
  have hks18 := Nat.le_trans hks17 Kc18.1
  have ch18 := CHr.trans ch17 (CHr.keep Kc18 sf0 ch17.1)
  have sf18_ffb3_1_2 := (Safe.keep Kc18 sf0 ch17.1 sf17_ffb3_1_2)
  have sf18_ffffb2_7_3_1_12 := (Safe.keep Kc18 sf0 ch17.1 sf17_ffffb2_7_3_1_12)
  have sf18_fffffb2_2_6_1_2_18 := Safe.keep Kc18 sf0 ch17.1 (Safe.new zq_fffffb2_2_6_1_2_18)
  have N18 := Fr.app N17 Nq18
  obtain ⟨fs, hr, hrun, hended, hEW⟩ := X18.leaveW hS16 hks18 (v := some (.ref fb1_18)) (fun h => by rw [Bd.returns] at h; cases h)
  have hcr : CHr Z own_EL s.vm s.heap T18.vm T18.heap := by
    rw [hh]
    exact CHr.trans ch18 (CHv.at X18 hZ hELW ch18.1)
  refine ⟨_, _, (pre0 _ (r5 _ (r10 _ (r15 _ ?_)))), hrun, hended, _, _, rfl, ?_, hcr, hEW.1, hEW.2.1, hEW.2.2.1, hEW.2.2.2.mono (by decide) (by decide)⟩
  · show Steps p.tables e below (T14.setTop (mkF m 38 #[.val (.ref a)] [(.ref b1)])) _
    refine st16 _ ?_
    show Steps p.tables e below (T16.setTop (mkF m 40 #[.val (.ref a)] [(.ref b16), (.ref b1)])) _
    refine st17.trans ?_
    show Steps p.tables e below (T17.setTop (mkF m 43 #[.val (.ref a)] [(.ref b1)])) _
    refine st18.trans ?_
    show Steps p.tables e below (T18.setTop (mkF m 46 #[.val (.ref a)] [(.ref fb1_18)])) _
    jvm_step X18.here [X18.here.top, hx, (hb hby dT_46), X18.method', Bd.returns, Value.isRef, FieldType.isReference]
    first | (intro acts; rw [hr _ acts rfl rfl rfl]) | rw [hr _ _ rfl rfl rfl]
    exact Steps.refl _
  · show QT Z a xF xG xB cst dg k_dg h0 n0 _ T18.heap _
    exact ⟨fb1_18, fffffb2_2_6_1_2_18, k_fffffb2_2_6_1_2_18, rfl, N18, K18, g_fb1_18, sz_fb1_18, g_fffffb2_2_6_1_2_18, sz_fffffb2_2_6_1_2_18, ne_fb1_18_fffffb2_2_6_1_2_18, q18_0, q18_1, q18_2, q18_3⟩
theorem own_pd24 : parseMethodDescriptor "(J)V" = some ⟨[.long], none⟩ := by decide +kernel
theorem own_pd25 : parseMethodDescriptor "(Ljava/lang/Object;)Z" = some ⟨[(.object "java/lang/Object")], some .boolean⟩ := by decide +kernel
theorem own_pn7 : plainName "com/example/hamster/hamster/TreeCountAddFilePinLaw" = true := by first | (simp [plainName, overriddenIn]; done) | decide +kernel
theorem efL (m : MethodId) (ta : Int64) (tb : Int64) : entryFrame m #[(.long ta), (.long tb)] maxLocals = mkF m 0 #[.val (.long ta), .second, .val (.long tb), .second, .unset, .unset, .unset, .unset] [] := by first | (simp [entryFrame, mkF, argsToLocals, Value.category, maxLocals]; done) | rfl
def QL (Z : State) (ta : Int64) (tb : Int64) (cst : Int32) (dg : Addr) (k_dg : ClassId) (h0 : Heap) (n0 : Nat) (v : Option Value) (h : Heap) (L : List Loc) : Prop := v = some (.int 1) ∧ Fr n0 L
set_option maxRecDepth 65536 in
set_option maxHeartbeats 40000000 in
theorem rmL (l : Launch) (Z : State) (a0 : Array Value) (hw : ∀ d ∈ tables_1, d.before a0 Z = true) (ws : List Jvm.Cond) (ta : Int64) (tb : Int64) (cst : Int32) (dg : Addr) (k_dg : ClassId) (h0 : Heap) (n0 : Nat) (Z0 : n0 ≤ h0.size) (X00 : Old Z n0 h0) (S_COMPACT_STRINGS : Sta Z Z.heap "java/lang/String" "COMPACT_STRINGS" "Z" (.int cst)) (hcs : ¬ cst = (0 : Int32)) (S_DigitOnes : Sta Z Z.heap "java/lang/Integer" "DigitOnes" "[B" (.ref dg)) (V_dg : Arv Z Z.heap dg k_dg .byte (100 : Int32) (own_ones.map Value.int) (.int (0 : Int32))) (hh0 : h0 = Z.heap) (hn0 : n0 = Z.heap.size) (hheld : ∀ q ∈ own_EL, Jvm.Lit.constHeld Z q.1 q.2) (hcw : Jvm.Lit.compactW.before a0 Z = true) :
    MetFree l x (head1 (Jvm.Cond.code x code maxLocals ret :: ws) room_1) (fun av_ U => av_ = #[(.long ta), (.long tb)] ∧ U = Z) (fun _ _ _ _ _ => True) (fun _ U o U' => ∃ v L, o = .returned v ∧ QL Z ta tb cst dg k_dg h0 n0 v U'.heap L ∧ ReturnedEndW U o U' L room_1.cells room_1.slots) := by
  refine MetFree.of_bodySF (plainFor_of_name own_pn7) hisR ?_
  intro p e s m args below meth c s₁ Bd hml0 hP hK
  obtain ⟨rfl, hUZ⟩ := hP
  have hZ : Z.Warmed39 s.vm := by rw [hUZ]; exact State.Warmed39.refl Z
  have hh : s.heap = h0 := by rw [hUZ, hh0]
  have hx := Bd.exec
  have hby := Bd.bytes
  have hml : c.maxLocals = 8 := hml0
  have hown : s.vm.findClass "com/example/hamster/hamster/TreeCountAddFilePinLaw" = some m.cls := findClass_of_methodNamed Bd.named
  have hnm := (name_of_methodNamed Bd.named Bd.method).1
  have X0 : Stand p l e room_1 s m #[(.long ta), (.long tb)] below meth c s₁ [] 0 0 := Stand.of_body Bd
  have e0 : s₁.heap = h0 := by rw [← hh, Bd.state]; rfl
  have N0 := Fr.nil n0
  have pre0 : ∀ t, Steps p.tables e below (s₁.setTop (mkF m 0 #[.val (.long ta), .second, .val (.long tb), .second, .unset, .unset, .unset, .unset] [])) t → Steps p.tables e below (s₁.setTop (entryFrame m #[(.long ta), (.long tb)] maxLocals)) t := fun t k => castTop (efL m ta tb) k
  have hS0 : s.Since s.vm 0 := (State.WarmedH.refl s).since 0
  have hk0 : 0 ≤ h0.size := Nat.zero_le _
  have hSA : ∀ a ∈ Bundle.stringAtoms, a.before a0 Z = true := fun d hd => hw d ((by decide +kernel : ∀ d ∈ Bundle.stringAtoms, d ∈ tables_1) d hd)
  have Xw0 : Stand p l e room_1 (s.setVm s.vm) m #[(.long ta), (.long tb)] below meth c s₁ [] 0 0 := X0
  have hCH0 : CHv Z own_EL s.vm h0 := by rw [hUZ, hh0]; exact CHv.start (own_EW hw) hheld hcw (hSA _ (by simp [Bundle.stringAtoms])) (hSA _ (by simp [Bundle.stringAtoms, Bundle.sN]))
  have hELW : EW Z a0 own_EL := own_EW hw
  have ch0 : CHr Z own_EL s.vm h0 s.vm h0 := CHr.refl hCH0
  have hwq : ∀ d ∈ StrChars.Road.wordsEq, d.before a0 Z = true := fun d hd => hw d ((by decide +kernel : ∀ d ∈ StrChars.Road.wordsEq, d ∈ tables_1) d hd)
  obtain ⟨T1, h1, X1, e1, E1, A1, D1, -, st1⟩ := newO Xw0 hx hZ hown (hw _ (List.mem_of_getElem? (i := 0) rfl)) (hw _ (List.mem_of_getElem? (i := 1) rfl)) (hw _ (List.mem_of_getElem? (i := 2) rfl)) e0 (g := (mkF m 0 #[.val (.long ta), .second, .val (.long tb), .second, .unset, .unset, .unset, .unset] [])) rfl (hb hby at_0) (by decide) (by decide)
  obtain ⟨b1, g1⟩ : ∃ z, z = h0.size := ⟨_, rfl⟩
  rw [← g1] at A1 D1 st1
  have ne_dg_b1 : dg ≠ b1 := Nat.ne_of_lt (Nat.lt_of_lt_of_le (V_dg.ext X00.2).lt (Nat.le_of_eq g1.symm))
  have g_b1 : n0 ≤ b1 := Nat.le_trans Z0 (Nat.le_of_eq g1.symm)
  have sz_b1 : h0.size ≤ b1 := Nat.le_trans (Keep.refl h0 []).1 (Nat.le_of_eq g1.symm)
  have K1 : Keep h0 h1 [] := (Keep.refl h0 []).ext E1
  have Zs1 : n0 ≤ h1.size := Nat.le_trans Z0 E1.1
  have hks1 := Nat.le_trans hk0 E1.1
  have ch1 := CHr.trans ch0 (CHr.ext E1 ch0.1)
  have F1_files : Fld Z h1 b1 "com/example/hamster/hamster/TreeCount" "files" "J" (.long (0 : Int64)) := D1 (Or.inl (hw _ (List.mem_of_getElem? (i := 15) rfl))) (ty := .long) (by decide)
  have F1_bytes : Fld Z h1 b1 "com/example/hamster/hamster/TreeCount" "bytes" "J" (.long (0 : Int64)) := D1 (Or.inl (hw _ (List.mem_of_getElem? (i := 17) rfl))) (ty := .long) (by decide)
  have F1_folders : Fld Z h1 b1 "com/example/hamster/hamster/TreeCount" "folders" "J" (.long (0 : Int64)) := D1 (Or.inl (hw _ (List.mem_of_getElem? (i := 125) rfl))) (ty := .long) (by decide)
  obtain ⟨_, _, ⟨T2, L2, k2, n2⟩, -, X2, ⟨Lc2, hQ2, l2, y2, z2⟩, st2⟩ := X1.specialBack hx (y := (⟨"com/example/hamster/hamster/TreeCount", "<init>", "()V"⟩ : MethodName)) rfl hown (mvT hZ (hw _ (List.mem_of_getElem? (i := 3) rfl))) (mvT hZ (hw _ (List.mem_of_getElem? (i := 4) rfl))) (mvT hZ (hw _ (List.mem_of_getElem? (i := 5) rfl))) (by decide) (backOf (W := 1) (rmI l Z a0 hw [] b1 h1 n0 Zs1 ) hZ (hw _ (List.mem_of_getElem? (i := 5) rfl)) (hw _ (List.mem_of_getElem? (i := 2) rfl)) (by decide) (by decide)) (g := (mkF m 4 #[.val (.long ta), .second, .val (.long tb), .second, .unset, .unset, .unset, .unset] [(.ref b1), (.ref b1)])) rfl (by rw [hml]; rfl) (Steps.refl _) (a := b1) (argsL := []) (rest := [(.ref b1)]) (lenOf own_pd1 rfl) rfl (by show 2 * 0 + _ ≤ _; exact Nat.le_of_eq rfl) (hb hby at_4) (fun _ _ => ⟨rfl, e1, (by decide : 1 + 0 ≤ _), (by decide : 3 + 0 ≤ _)⟩)
  dsimp only [Pt.U, Pt.locs, Pt.cells, Pt.slots] at X2 l2 y2 z2 st2 hQ2
  subst l2 y2 z2
  obtain ⟨rfl, Nq2, e2⟩ := hQ2
  have N2 := Fr.app N0 Nq2
  obtain ⟨T3, h3, X3, e3, E3, A3, D3, -, st3⟩ := newO X2 hx hZ hown (hw _ (List.mem_of_getElem? (i := 0) rfl)) (hw _ (List.mem_of_getElem? (i := 1) rfl)) (hw _ (List.mem_of_getElem? (i := 2) rfl)) e2 (g := (mkF m 9 #[.val (.long ta), .second, .val (.long tb), .second, .val (.ref b1), .unset, .unset, .unset] [])) rfl (hb hby at_9) (by decide) (by decide)
  obtain ⟨b3, g3⟩ : ∃ z, z = h1.size := ⟨_, rfl⟩
  rw [← g3] at A3 D3 st3
  have ne_dg_b3 : dg ≠ b3 := Nat.ne_of_lt (Nat.lt_of_lt_of_le (V_dg.ext (X00.keep K1 all0).2).lt (Nat.le_of_eq g3.symm))
  have ne_b1_b3 : b1 ≠ b3 := Nat.ne_of_lt (Nat.lt_of_lt_of_le A1.lt (Nat.le_of_eq g3.symm))
  have g_b3 : n0 ≤ b3 := Nat.le_trans Zs1 (Nat.le_of_eq g3.symm)
  have sz_b3 : h0.size ≤ b3 := Nat.le_trans K1.1 (Nat.le_of_eq g3.symm)
  have K3 : Keep h0 h3 [] := K1.ext E3
  have Zs3 : n0 ≤ h3.size := Nat.le_trans Zs1 E3.1
  have hks3 := Nat.le_trans hks1 E3.1
  have ch3 := CHr.trans ch1 (CHr.ext E3 ch1.1)
  have F3_files : Fld Z h3 b3 "com/example/hamster/hamster/TreeCount" "files" "J" (.long (0 : Int64)) := D3 (Or.inl (hw _ (List.mem_of_getElem? (i := 15) rfl))) (ty := .long) (by decide)
  have F3_bytes : Fld Z h3 b3 "com/example/hamster/hamster/TreeCount" "bytes" "J" (.long (0 : Int64)) := D3 (Or.inl (hw _ (List.mem_of_getElem? (i := 17) rfl))) (ty := .long) (by decide)
  have F3_folders : Fld Z h3 b3 "com/example/hamster/hamster/TreeCount" "folders" "J" (.long (0 : Int64)) := D3 (Or.inl (hw _ (List.mem_of_getElem? (i := 125) rfl))) (ty := .long) (by decide)
  obtain ⟨_, _, ⟨T4, L4, k4, n4⟩, -, X4, ⟨Lc4, hQ4, l4, y4, z4⟩, st4⟩ := X3.specialBack hx (y := (⟨"com/example/hamster/hamster/TreeCount", "<init>", "()V"⟩ : MethodName)) rfl hown (mvT hZ (hw _ (List.mem_of_getElem? (i := 3) rfl))) (mvT hZ (hw _ (List.mem_of_getElem? (i := 4) rfl))) (mvT hZ (hw _ (List.mem_of_getElem? (i := 5) rfl))) (by decide) (backOf (W := 1) (rmI l Z a0 hw [] b3 h3 n0 Zs3 ) hZ (hw _ (List.mem_of_getElem? (i := 5) rfl)) (hw _ (List.mem_of_getElem? (i := 2) rfl)) (by decide) (by decide)) (g := (mkF m 13 #[.val (.long ta), .second, .val (.long tb), .second, .val (.ref b1), .unset, .unset, .unset] [(.ref b3), (.ref b3)])) rfl (by rw [hml]; rfl) (Steps.refl _) (a := b3) (argsL := []) (rest := [(.ref b3)]) (lenOf own_pd1 rfl) rfl (by show 2 * 0 + _ ≤ _; exact Nat.le_of_eq rfl) (hb hby at_13) (fun _ _ => ⟨rfl, e3, (by decide : 2 + 0 ≤ _), (by decide : 6 + 0 ≤ _)⟩)
  dsimp only [Pt.U, Pt.locs, Pt.cells, Pt.slots] at X4 l4 y4 z4 st4 hQ4
  subst l4 y4 z4
  obtain ⟨rfl, Nq4, e4⟩ := hQ4
  have N4 := Fr.app N2 Nq4
  obtain ⟨cq5, kq5, q5a, q5b, q5c⟩ := isOf hZ e4 (A1.ext E3)
  obtain ⟨_, _, ⟨T5, L5, k5, n5⟩, -, X5, ⟨Lc5, hQ5, l5, y5, z5⟩, st5⟩ := X4.virtualBack hx (y := (⟨"com/example/hamster/hamster/TreeCount", "addFile", "(J)V"⟩ : MethodName)) (z := (⟨"com/example/hamster/hamster/TreeCount", "addFile", "(J)V"⟩ : MethodName)) hown (mvT hZ (hw _ (List.mem_of_getElem? (i := 9) rfl))) (mvT hZ (hw _ (List.mem_of_getElem? (i := 10) rfl))) (notFace_of_selects (args := #[]) (mvT hZ (hw _ (List.mem_of_getElem? (i := 12) rfl)))) (mvT hZ (hw _ (List.mem_of_getElem? (i := 12) rfl))) (mvT hZ (hw _ (List.mem_of_getElem? (i := 11) rfl))) (by decide) (backOf (W := 0) (rmF l Z a0 hw [] b1 ta (0 : Int64) (0 : Int64) (0 : Int64) h3 n0 Zs3 (A1.ext E3) (F1_files.ext E3) (F1_bytes.ext E3) (F1_folders.ext E3) g_b1) hZ (hw _ (List.mem_of_getElem? (i := 13) rfl)) (hw _ (List.mem_of_getElem? (i := 2) rfl)) (by decide) (by decide)) q5a q5c (g := (mkF m 21 #[.val (.long ta), .second, .val (.long tb), .second, .val (.ref b1), .val (.ref b3), .unset, .unset] [(.long ta), (.ref b1)])) rfl (by rw [hml]; rfl) (Steps.refl _) (argsL := [(.long ta)]) (rest := []) (lenOf own_pd24 rfl) rfl (by show 2 * 0 + _ ≤ _; exact Nat.le_of_eq rfl) (hb hby at_21) (fun _ _ => ⟨rfl, e4, (by decide : 2 + 0 ≤ _), (by decide : 6 + 0 ≤ _)⟩)
  dsimp only [Pt.U, Pt.locs, Pt.cells, Pt.slots] at X5 l5 y5 z5 st5 hQ5
  subst l5 y5 z5
  obtain ⟨rfl, Nq5, Kc5, q5_0, q5_1, q5_2, q5_3⟩ := hQ5
  have K5 : Keep h0 T5.heap [] := Keep.trans K3 Kc5 (allS (Or.inr sz_b1) all0)
  have Zs5 : n0 ≤ T5.heap.size := Nat.le_trans Zs3 Kc5.1
  have hks5 := Nat.le_trans hks3 Kc5.1
  have ch5 := CHr.trans ch3 (CHr.keep Kc5 (sfS (Safe.exa hZ.alike (A1.ext E3) (by decide) (by decide)) sf0) ch3.1)
  have N5 := Fr.app N4 Nq5
  obtain ⟨cq6, kq6, q6a, q6b, q6c⟩ := isOf hZ rfl q5_0
  obtain ⟨_, _, ⟨T6, L6, k6, n6⟩, -, X6, ⟨Lc6, hQ6, l6, y6, z6⟩, st6⟩ := X5.virtualBack hx (y := (⟨"com/example/hamster/hamster/TreeCount", "addFile", "(J)V"⟩ : MethodName)) (z := (⟨"com/example/hamster/hamster/TreeCount", "addFile", "(J)V"⟩ : MethodName)) hown (mvT hZ (hw _ (List.mem_of_getElem? (i := 9) rfl))) (mvT hZ (hw _ (List.mem_of_getElem? (i := 10) rfl))) (notFace_of_selects (args := #[]) (mvT hZ (hw _ (List.mem_of_getElem? (i := 12) rfl)))) (mvT hZ (hw _ (List.mem_of_getElem? (i := 12) rfl))) (mvT hZ (hw _ (List.mem_of_getElem? (i := 11) rfl))) (by decide) (backOf (W := 0) (rmF l Z a0 hw [] b1 tb ((0 : Int64) + (1 : Int64)) ((0 : Int64) + ta) (0 : Int64) T5.heap n0 Zs5 q5_0 q5_1 q5_2 q5_3 g_b1) hZ (hw _ (List.mem_of_getElem? (i := 13) rfl)) (hw _ (List.mem_of_getElem? (i := 2) rfl)) (by decide) (by decide)) q6a q6c (g := (mkF m 27 #[.val (.long ta), .second, .val (.long tb), .second, .val (.ref b1), .val (.ref b3), .unset, .unset] [(.long tb), (.ref b1)])) rfl (by rw [hml]; rfl) (Steps.refl _) (argsL := [(.long tb)]) (rest := []) (lenOf own_pd24 rfl) rfl (by show 2 * 0 + _ ≤ _; exact Nat.le_of_eq rfl) (hb hby at_27) (fun _ _ => ⟨rfl, rfl, (by decide : 2 + 0 ≤ _), (by decide : 6 + 0 ≤ _)⟩)
  dsimp only [Pt.U, Pt.locs, Pt.cells, Pt.slots] at X6 l6 y6 z6 st6 hQ6
  subst l6 y6 z6
  obtain ⟨rfl, Nq6, Kc6, q6_0, q6_1, q6_2, q6_3⟩ := hQ6
  have K6 : Keep h0 T6.heap [] := Keep.trans K5 Kc6 (allS (Or.inr sz_b1) all0)
  have Zs6 : n0 ≤ T6.heap.size := Nat.le_trans Zs5 Kc6.1
  have hks6 := Nat.le_trans hks5 Kc6.1
  have ch6 := CHr.trans ch5 (CHr.keep Kc6 (sfS (Safe.exa hZ.alike q5_0 (by decide) (by decide)) sf0) ch5.1)
  have N6 := Fr.app N5 Nq6
  obtain ⟨cq7, kq7, q7a, q7b, q7c⟩ := isOf hZ rfl q6_0
  obtain ⟨_, _, ⟨T7, L7, k7, n7⟩, -, X7, ⟨Lc7, hQ7, l7, y7, z7⟩, st7⟩ := X6.virtualBack hx (y := (⟨"com/example/hamster/hamster/TreeCount", "addFile", "(J)V"⟩ : MethodName)) (z := (⟨"com/example/hamster/hamster/TreeCount", "addFile", "(J)V"⟩ : MethodName)) hown (mvT hZ (hw _ (List.mem_of_getElem? (i := 9) rfl))) (mvT hZ (hw _ (List.mem_of_getElem? (i := 10) rfl))) (notFace_of_selects (args := #[]) (mvT hZ (hw _ (List.mem_of_getElem? (i := 12) rfl)))) (mvT hZ (hw _ (List.mem_of_getElem? (i := 12) rfl))) (mvT hZ (hw _ (List.mem_of_getElem? (i := 11) rfl))) (by decide) (backOf (W := 0) (rmF l Z a0 hw [] b1 ((-ta) - tb) (((0 : Int64) + (1 : Int64)) + (1 : Int64)) (((0 : Int64) + ta) + tb) (0 : Int64) T6.heap n0 Zs6 q6_0 q6_1 q6_2 q6_3 g_b1) hZ (hw _ (List.mem_of_getElem? (i := 13) rfl)) (hw _ (List.mem_of_getElem? (i := 2) rfl)) (by decide) (by decide)) q7a q7c (g := (mkF m 36 #[.val (.long ta), .second, .val (.long tb), .second, .val (.ref b1), .val (.ref b3), .unset, .unset] [(.long ((-ta) - tb)), (.ref b1)])) rfl (by rw [hml]; rfl) (Steps.refl _) (argsL := [(.long ((-ta) - tb))]) (rest := []) (lenOf own_pd24 rfl) rfl (by show 2 * 0 + _ ≤ _; exact Nat.le_of_eq rfl) (hb hby at_36) (fun _ _ => ⟨rfl, rfl, (by decide : 2 + 0 ≤ _), (by decide : 6 + 0 ≤ _)⟩)
  dsimp only [Pt.U, Pt.locs, Pt.cells, Pt.slots] at X7 l7 y7 z7 st7 hQ7
  subst l7 y7 z7
  obtain ⟨rfl, Nq7, Kc7, q7_0, q7_1, q7_2, q7_3⟩ := hQ7
  have K7 : Keep h0 T7.heap [] := Keep.trans K6 Kc7 (allS (Or.inr sz_b1) all0)
  have Zs7 : n0 ≤ T7.heap.size := Nat.le_trans Zs6 Kc7.1
  have hks7 := Nat.le_trans hks6 Kc7.1
  have ch7 := CHr.trans ch6 (CHr.keep Kc7 (sfS (Safe.exa hZ.alike q6_0 (by decide) (by decide)) sf0) ch6.1)
  have N7 := Fr.app N6 Nq7
  obtain ⟨cq8, kq8, q8a, q8b, q8c⟩ := isOf hZ rfl (((A3.keep Kc5).keep Kc6).keep Kc7)
  obtain ⟨_, _, ⟨T8, L8, k8, n8⟩, -, X8, ⟨Lc8, hQ8, l8, y8, z8⟩, st8⟩ := X7.virtualBack hx (y := (⟨"com/example/hamster/hamster/TreeCount", "addFile", "(J)V"⟩ : MethodName)) (z := (⟨"com/example/hamster/hamster/TreeCount", "addFile", "(J)V"⟩ : MethodName)) hown (mvT hZ (hw _ (List.mem_of_getElem? (i := 9) rfl))) (mvT hZ (hw _ (List.mem_of_getElem? (i := 10) rfl))) (notFace_of_selects (args := #[]) (mvT hZ (hw _ (List.mem_of_getElem? (i := 12) rfl)))) (mvT hZ (hw _ (List.mem_of_getElem? (i := 12) rfl))) (mvT hZ (hw _ (List.mem_of_getElem? (i := 11) rfl))) (by decide) (backOf (W := 0) (rmF l Z a0 hw [] b3 ta (0 : Int64) (0 : Int64) (0 : Int64) T7.heap n0 Zs7 (((A3.keep Kc5).keep Kc6).keep Kc7) (((F3_files.keep Kc5 (ninS (Ne.symm ne_b1_b3) nin0)).keep Kc6 (ninS (Ne.symm ne_b1_b3) nin0)).keep Kc7 (ninS (Ne.symm ne_b1_b3) nin0)) (((F3_bytes.keep Kc5 (ninS (Ne.symm ne_b1_b3) nin0)).keep Kc6 (ninS (Ne.symm ne_b1_b3) nin0)).keep Kc7 (ninS (Ne.symm ne_b1_b3) nin0)) (((F3_folders.keep Kc5 (ninS (Ne.symm ne_b1_b3) nin0)).keep Kc6 (ninS (Ne.symm ne_b1_b3) nin0)).keep Kc7 (ninS (Ne.symm ne_b1_b3) nin0)) g_b3) hZ (hw _ (List.mem_of_getElem? (i := 13) rfl)) (hw _ (List.mem_of_getElem? (i := 2) rfl)) (by decide) (by decide)) q8a q8c (g := (mkF m 42 #[.val (.long ta), .second, .val (.long tb), .second, .val (.ref b1), .val (.ref b3), .unset, .unset] [(.long ta), (.ref b3)])) rfl (by rw [hml]; rfl) (Steps.refl _) (argsL := [(.long ta)]) (rest := []) (lenOf own_pd24 rfl) rfl (by show 2 * 0 + _ ≤ _; exact Nat.le_of_eq rfl) (hb hby at_42) (fun _ _ => ⟨rfl, rfl, (by decide : 2 + 0 ≤ _), (by decide : 6 + 0 ≤ _)⟩)
  dsimp only [Pt.U, Pt.locs, Pt.cells, Pt.slots] at X8 l8 y8 z8 st8 hQ8
  subst l8 y8 z8
  obtain ⟨rfl, Nq8, Kc8, q8_0, q8_1, q8_2, q8_3⟩ := hQ8
  have K8 : Keep h0 T8.heap [] := Keep.trans K7 Kc8 (allS (Or.inr sz_b3) all0)
  have Zs8 : n0 ≤ T8.heap.size := Nat.le_trans Zs7 Kc8.1
  have hks8 := Nat.le_trans hks7 Kc8.1
  have ch8 := CHr.trans ch7 (CHr.keep Kc8 (sfS (Safe.exa hZ.alike (((A3.keep Kc5).keep Kc6).keep Kc7) (by decide) (by decide)) sf0) ch7.1)
  have N8 := Fr.app N7 Nq8
  obtain ⟨cq9, kq9, q9a, q9b, q9c⟩ := isOf hZ rfl q8_0
  obtain ⟨_, _, ⟨T9, L9, k9, n9⟩, -, X9, ⟨Lc9, hQ9, l9, y9, z9⟩, st9⟩ := X8.virtualBack hx (y := (⟨"com/example/hamster/hamster/TreeCount", "addFile", "(J)V"⟩ : MethodName)) (z := (⟨"com/example/hamster/hamster/TreeCount", "addFile", "(J)V"⟩ : MethodName)) hown (mvT hZ (hw _ (List.mem_of_getElem? (i := 9) rfl))) (mvT hZ (hw _ (List.mem_of_getElem? (i := 10) rfl))) (notFace_of_selects (args := #[]) (mvT hZ (hw _ (List.mem_of_getElem? (i := 12) rfl)))) (mvT hZ (hw _ (List.mem_of_getElem? (i := 12) rfl))) (mvT hZ (hw _ (List.mem_of_getElem? (i := 11) rfl))) (by decide) (backOf (W := 0) (rmF l Z a0 hw [] b3 ((1 : Int64) - ta) ((0 : Int64) + (1 : Int64)) ((0 : Int64) + ta) (0 : Int64) T8.heap n0 Zs8 q8_0 q8_1 q8_2 q8_3 g_b3) hZ (hw _ (List.mem_of_getElem? (i := 13) rfl)) (hw _ (List.mem_of_getElem? (i := 2) rfl)) (by decide) (by decide)) q9a q9c (g := (mkF m 50 #[.val (.long ta), .second, .val (.long tb), .second, .val (.ref b1), .val (.ref b3), .unset, .unset] [(.long ((1 : Int64) - ta)), (.ref b3)])) rfl (by rw [hml]; rfl) (Steps.refl _) (argsL := [(.long ((1 : Int64) - ta))]) (rest := []) (lenOf own_pd24 rfl) rfl (by show 2 * 0 + _ ≤ _; exact Nat.le_of_eq rfl) (hb hby at_50) (fun _ _ => ⟨rfl, rfl, (by decide : 2 + 0 ≤ _), (by decide : 6 + 0 ≤ _)⟩)
  dsimp only [Pt.U, Pt.locs, Pt.cells, Pt.slots] at X9 l9 y9 z9 st9 hQ9
  subst l9 y9 z9
  obtain ⟨rfl, Nq9, Kc9, q9_0, q9_1, q9_2, q9_3⟩ := hQ9
  have K9 : Keep h0 T9.heap [] := Keep.trans K8 Kc9 (allS (Or.inr sz_b3) all0)
  have Zs9 : n0 ≤ T9.heap.size := Nat.le_trans Zs8 Kc9.1
  have hks9 := Nat.le_trans hks8 Kc9.1
  have ch9 := CHr.trans ch8 (CHr.keep Kc9 (sfS (Safe.exa hZ.alike q8_0 (by decide) (by decide)) sf0) ch8.1)
  have N9 := Fr.app N8 Nq9
  have nf10 : Fld Z T9.heap b1 "com/example/hamster/hamster/TreeCount" "files" "J" (.long (3 : Int64)) := by
    have q := ((q7_1.keep Kc8 (ninS ne_b1_b3 nin0)).keep Kc9 (ninS ne_b1_b3 nin0))
    rw [show ((((0 : Int64) + (1 : Int64)) + (1 : Int64)) + (1 : Int64)) = (3 : Int64) from (by decide)] at q
    exact q
  have nf11 : Fld Z T9.heap b1 "com/example/hamster/hamster/TreeCount" "bytes" "J" (.long (0 : Int64)) := by
    have q := ((q7_2.keep Kc8 (ninS ne_b1_b3 nin0)).keep Kc9 (ninS ne_b1_b3 nin0))
    rw [show ((((0 : Int64) + ta) + tb) + ((-ta) - tb)) = (0 : Int64) from (own_sum0 ta tb)] at q
    exact q
  have nf12 : Fld Z T9.heap b3 "com/example/hamster/hamster/TreeCount" "files" "J" (.long (2 : Int64)) := by
    have q := q9_1
    rw [show (((0 : Int64) + (1 : Int64)) + (1 : Int64)) = (2 : Int64) from (by decide)] at q
    exact q
  have nf13 : Fld Z T9.heap b3 "com/example/hamster/hamster/TreeCount" "bytes" "J" (.long (1 : Int64)) := by
    have q := q9_2
    rw [show (((0 : Int64) + ta) + ((1 : Int64) - ta)) = (1 : Int64) from (own_sum1 ta)] at q
    exact q
  have r15 : ∀ t, Steps p.tables e below (T9.setTop (mkF m 55 #[.val (.long ta), .second, .val (.long tb), .second, .val (.ref b1), .val (.ref b3), .unset, .unset] [(.ref b1)])) t → Steps p.tables e below (s₁.setTop (mkF m 0 #[.val (.long ta), .second, .val (.long tb), .second, .unset, .unset, .unset, .unset] [])) t := fun t kt => by
    show Steps p.tables e below (s₁.setTop (mkF m 0 #[.val (.long ta), .second, .val (.long tb), .second, .unset, .unset, .unset, .unset] [])) _
    refine st1 _ ?_
    show Steps p.tables e below (T1.setTop (mkF m 3 #[.val (.long ta), .second, .val (.long tb), .second, .unset, .unset, .unset, .unset] [(.ref b1)])) _
    refine XS.dup X1.here hx rfl (hb hby at_3) rfl rfl ?_
    show Steps p.tables e below (T1.setTop (mkF m 4 #[.val (.long ta), .second, .val (.long tb), .second, .unset, .unset, .unset, .unset] [(.ref b1), (.ref b1)])) _
    refine st2.trans ?_
    show Steps p.tables e below (T2.setTop (mkF m 7 #[.val (.long ta), .second, .val (.long tb), .second, .unset, .unset, .unset, .unset] [(.ref b1)])) _
    refine XS.astore X2.here hx rfl (hb hby at_7) rfl rfl (l' := #[.val (.long ta), .second, .val (.long tb), .second, .val (.ref b1), .unset, .unset, .unset]) rfl ?_
    show Steps p.tables e below (T2.setTop (mkF m 9 #[.val (.long ta), .second, .val (.long tb), .second, .val (.ref b1), .unset, .unset, .unset] [])) _
    refine st3 _ ?_
    show Steps p.tables e below (T3.setTop (mkF m 12 #[.val (.long ta), .second, .val (.long tb), .second, .val (.ref b1), .unset, .unset, .unset] [(.ref b3)])) _
    refine XS.dup X3.here hx rfl (hb hby at_12) rfl rfl ?_
    show Steps p.tables e below (T3.setTop (mkF m 13 #[.val (.long ta), .second, .val (.long tb), .second, .val (.ref b1), .unset, .unset, .unset] [(.ref b3), (.ref b3)])) _
    refine st4.trans ?_
    show Steps p.tables e below (T4.setTop (mkF m 16 #[.val (.long ta), .second, .val (.long tb), .second, .val (.ref b1), .unset, .unset, .unset] [(.ref b3)])) _
    refine XS.astore X4.here hx rfl (hb hby at_16) rfl rfl (l' := #[.val (.long ta), .second, .val (.long tb), .second, .val (.ref b1), .val (.ref b3), .unset, .unset]) rfl ?_
    show Steps p.tables e below (T4.setTop (mkF m 18 #[.val (.long ta), .second, .val (.long tb), .second, .val (.ref b1), .val (.ref b3), .unset, .unset] [])) _
    refine XS.aload X4.here hx rfl (hb hby at_18) rfl rfl ?_
    show Steps p.tables e below (T4.setTop (mkF m 20 #[.val (.long ta), .second, .val (.long tb), .second, .val (.ref b1), .val (.ref b3), .unset, .unset] [(.ref b1)])) _
    refine XS.lloadN X4.here hx rfl (hb hby at_20) rfl ?_
    show Steps p.tables e below (T4.setTop (mkF m 21 #[.val (.long ta), .second, .val (.long tb), .second, .val (.ref b1), .val (.ref b3), .unset, .unset] [(.long ta), (.ref b1)])) _
    refine st5.trans ?_
    show Steps p.tables e below (T5.setTop (mkF m 24 #[.val (.long ta), .second, .val (.long tb), .second, .val (.ref b1), .val (.ref b3), .unset, .unset] [])) _
    refine XS.aload X5.here hx rfl (hb hby at_24) rfl rfl ?_
    show Steps p.tables e below (T5.setTop (mkF m 26 #[.val (.long ta), .second, .val (.long tb), .second, .val (.ref b1), .val (.ref b3), .unset, .unset] [(.ref b1)])) _
    refine XS.lloadN X5.here hx rfl (hb hby at_26) rfl ?_
    show Steps p.tables e below (T5.setTop (mkF m 27 #[.val (.long ta), .second, .val (.long tb), .second, .val (.ref b1), .val (.ref b3), .unset, .unset] [(.long tb), (.ref b1)])) _
    refine st6.trans ?_
    show Steps p.tables e below (T6.setTop (mkF m 30 #[.val (.long ta), .second, .val (.long tb), .second, .val (.ref b1), .val (.ref b3), .unset, .unset] [])) _
    refine XS.aload X6.here hx rfl (hb hby at_30) rfl rfl ?_
    show Steps p.tables e below (T6.setTop (mkF m 32 #[.val (.long ta), .second, .val (.long tb), .second, .val (.ref b1), .val (.ref b3), .unset, .unset] [(.ref b1)])) _
    refine XS.lloadN X6.here hx rfl (hb hby at_32) rfl ?_
    show Steps p.tables e below (T6.setTop (mkF m 33 #[.val (.long ta), .second, .val (.long tb), .second, .val (.ref b1), .val (.ref b3), .unset, .unset] [(.long ta), (.ref b1)])) _
    refine XS.lneg X6.here hx rfl (hb hby at_33) rfl ?_
    show Steps p.tables e below (T6.setTop (mkF m 34 #[.val (.long ta), .second, .val (.long tb), .second, .val (.ref b1), .val (.ref b3), .unset, .unset] [(.long (-ta)), (.ref b1)])) _
    refine XS.lloadN X6.here hx rfl (hb hby at_34) rfl ?_
    show Steps p.tables e below (T6.setTop (mkF m 35 #[.val (.long ta), .second, .val (.long tb), .second, .val (.ref b1), .val (.ref b3), .unset, .unset] [(.long tb), (.long (-ta)), (.ref b1)])) _
    refine XS.lsub X6.here hx rfl (hb hby at_35) rfl ?_
    show Steps p.tables e below (T6.setTop (mkF m 36 #[.val (.long ta), .second, .val (.long tb), .second, .val (.ref b1), .val (.ref b3), .unset, .unset] [(.long ((-ta) - tb)), (.ref b1)])) _
    refine st7.trans ?_
    show Steps p.tables e below (T7.setTop (mkF m 39 #[.val (.long ta), .second, .val (.long tb), .second, .val (.ref b1), .val (.ref b3), .unset, .unset] [])) _
    refine XS.aload X7.here hx rfl (hb hby at_39) rfl rfl ?_
    show Steps p.tables e below (T7.setTop (mkF m 41 #[.val (.long ta), .second, .val (.long tb), .second, .val (.ref b1), .val (.ref b3), .unset, .unset] [(.ref b3)])) _
    refine XS.lloadN X7.here hx rfl (hb hby at_41) rfl ?_
    show Steps p.tables e below (T7.setTop (mkF m 42 #[.val (.long ta), .second, .val (.long tb), .second, .val (.ref b1), .val (.ref b3), .unset, .unset] [(.long ta), (.ref b3)])) _
    refine st8.trans ?_
    show Steps p.tables e below (T8.setTop (mkF m 45 #[.val (.long ta), .second, .val (.long tb), .second, .val (.ref b1), .val (.ref b3), .unset, .unset] [])) _
    refine XS.aload X8.here hx rfl (hb hby at_45) rfl rfl ?_
    show Steps p.tables e below (T8.setTop (mkF m 47 #[.val (.long ta), .second, .val (.long tb), .second, .val (.ref b1), .val (.ref b3), .unset, .unset] [(.ref b3)])) _
    refine XS.lconst X8.here hx rfl (hb hby at_47) ?_
    show Steps p.tables e below (T8.setTop (mkF m 48 #[.val (.long ta), .second, .val (.long tb), .second, .val (.ref b1), .val (.ref b3), .unset, .unset] [(.long (1 : Int64)), (.ref b3)])) _
    refine XS.lloadN X8.here hx rfl (hb hby at_48) rfl ?_
    show Steps p.tables e below (T8.setTop (mkF m 49 #[.val (.long ta), .second, .val (.long tb), .second, .val (.ref b1), .val (.ref b3), .unset, .unset] [(.long ta), (.long (1 : Int64)), (.ref b3)])) _
    refine XS.lsub X8.here hx rfl (hb hby at_49) rfl ?_
    show Steps p.tables e below (T8.setTop (mkF m 50 #[.val (.long ta), .second, .val (.long tb), .second, .val (.ref b1), .val (.ref b3), .unset, .unset] [(.long ((1 : Int64) - ta)), (.ref b3)])) _
    refine st9.trans ?_
    show Steps p.tables e below (T9.setTop (mkF m 53 #[.val (.long ta), .second, .val (.long tb), .second, .val (.ref b1), .val (.ref b3), .unset, .unset] [])) _
    refine XS.aload X9.here hx rfl (hb hby at_53) rfl rfl ?_
    show Steps p.tables e below (T9.setTop (mkF m 55 #[.val (.long ta), .second, .val (.long tb), .second, .val (.ref b1), .val (.ref b3), .unset, .unset] [(.ref b1)])) _
    exact kt
  obtain ⟨cq14, kq14, q14a, q14b, q14c⟩ := isOf hZ rfl ((q7_0.keep Kc8).keep Kc9)
  obtain ⟨_, _, ⟨T14, L14, k14, n14⟩, -, Xb14, hSb14, hgr14, ⟨Lc14, hQ14, l14, y14, z14, cr14⟩, st14⟩ := X9.virtualBackS hx (y := (⟨"com/example/hamster/hamster/TreeCount", "toString", "()Ljava/lang/String;"⟩ : MethodName)) (z := (⟨"com/example/hamster/hamster/TreeCount", "toString", "()Ljava/lang/String;"⟩ : MethodName)) hown (mvT hZ (hw _ (List.mem_of_getElem? (i := 18) rfl))) (mvT hZ (hw _ (List.mem_of_getElem? (i := 19) rfl))) (notFace_of_selects (args := #[]) (mvT hZ (hw _ (List.mem_of_getElem? (i := 21) rfl)))) (mvT hZ (hw _ (List.mem_of_getElem? (i := 21) rfl))) (mvT hZ (hw _ (List.mem_of_getElem? (i := 20) rfl))) (by decide) (backOfSH (s := s) (W := 0) (rmT l Z a0 hw [] b1 (3 : Int64) (0 : Int64) (0 : Int64) cst dg k_dg T9.heap n0 Zs9 ((q7_0.keep Kc8).keep Kc9) nf10 ((q7_3.keep Kc8 (ninS ne_b1_b3 nin0)).keep Kc9 (ninS ne_b1_b3 nin0)) nf11 (by decide) (by decide) (by decide) (X00.keep K9 all0) S_COMPACT_STRINGS hcs S_DigitOnes V_dg) hZ (hw _ (List.mem_of_getElem? (i := 22) rfl)) (hw _ (List.mem_of_getElem? (i := 2) rfl)) (by decide) (by decide) hELW ch9.1) q14a q14c (g := (mkF m 55 #[.val (.long ta), .second, .val (.long tb), .second, .val (.ref b1), .val (.ref b3), .unset, .unset] [(.ref b1)])) rfl (by rw [hml]; rfl) (Steps.refl _) (argsL := []) (rest := []) (lenOf own_pd23 rfl) rfl (by show 2 * 0 + _ ≤ _; exact Nat.le_of_eq rfl) (hb hby at_55) (fun _ _ => ⟨rfl, rfl, (by decide : 2 + 11 ≤ _), (by decide : 6 + 193 ≤ _)⟩)
  dsimp only [Pt.U, Pt.locs, Pt.cells, Pt.slots] at Xb14 hSb14 hgr14 l14 y14 z14 st14 hQ14 cr14
  subst l14 y14 z14
  obtain ⟨X14, hS14, hZ, hown⟩ := rebS hS0 hks9 Xb14 hSb14 hgr14 hZ hown
  obtain ⟨ffb1_18_14, ffffffb2_2_6_1_2_18_14, k_ffffffb2_2_6_1_2_18_14, rfl, Nq14, Kc14, g_ffb1_18_14, zq_ffb1_18_14, g_ffffffb2_2_6_1_2_18_14, zq_ffffffb2_2_6_1_2_18_14, ne_ffb1_18_14_ffffffb2_2_6_1_2_18_14, q14_0, q14_1, q14_2, q14_3⟩ := hQ14
  have sz_ffb1_18_14 : h0.size ≤ ffb1_18_14 := Nat.le_trans K9.1 zq_ffb1_18_14
  have ne_dg_ffb1_18_14 : dg ≠ ffb1_18_14 := Nat.ne_of_lt (Nat.lt_of_lt_of_le (V_dg.ext (X00.keep K9 all0).2).lt zq_ffb1_18_14)
  have ne_b1_ffb1_18_14 : b1 ≠ ffb1_18_14 := Nat.ne_of_lt (Nat.lt_of_lt_of_le ((q7_0.keep Kc8).keep Kc9).lt zq_ffb1_18_14)
  have ne_b3_ffb1_18_14 : b3 ≠ ffb1_18_14 := Nat.ne_of_lt (Nat.lt_of_lt_of_le q9_0.lt zq_ffb1_18_14)
  have sz_ffffffb2_2_6_1_2_18_14 : h0.size ≤ ffffffb2_2_6_1_2_18_14 := Nat.le_trans K9.1 zq_ffffffb2_2_6_1_2_18_14
  have ne_dg_ffffffb2_2_6_1_2_18_14 : dg ≠ ffffffb2_2_6_1_2_18_14 := Nat.ne_of_lt (Nat.lt_of_lt_of_le (V_dg.ext (X00.keep K9 all0).2).lt zq_ffffffb2_2_6_1_2_18_14)
  have ne_b1_ffffffb2_2_6_1_2_18_14 : b1 ≠ ffffffb2_2_6_1_2_18_14 := Nat.ne_of_lt (Nat.lt_of_lt_of_le ((q7_0.keep Kc8).keep Kc9).lt zq_ffffffb2_2_6_1_2_18_14)
  have ne_b3_ffffffb2_2_6_1_2_18_14 : b3 ≠ ffffffb2_2_6_1_2_18_14 := Nat.ne_of_lt (Nat.lt_of_lt_of_le q9_0.lt zq_ffffffb2_2_6_1_2_18_14)
  have K14 : Keep h0 T14.heap [] := Keep.trans K9 Kc14 all0
  have Zs14 : n0 ≤ T14.heap.size := Nat.le_trans Zs9 Kc14.1
  have N14 := Fr.app N9 Nq14
  have ch14 := CHr.trans ch9 cr14
  have Vd16 : Arv Z T14.heap ffffffb2_2_6_1_2_18_14 k_ffffffb2_2_6_1_2_18_14 .byte (27 : Int32) [(.int (51 : Int32)), (.int (32 : Int32)), (.int (102 : Int32)), (.int (105 : Int32)), (.int (108 : Int32)), (.int (101 : Int32)), (.int (115 : Int32)), (.int (44 : Int32)), (.int (32 : Int32)), (.int (48 : Int32)), (.int (32 : Int32)), (.int (102 : Int32)), (.int (111 : Int32)), (.int (108 : Int32)), (.int (100 : Int32)), (.int (101 : Int32)), (.int (114 : Int32)), (.int (115 : Int32)), (.int (44 : Int32)), (.int (32 : Int32)), (.int (48 : Int32)), (.int (32 : Int32)), (.int (98 : Int32)), (.int (121 : Int32)), (.int (116 : Int32)), (.int (101 : Int32)), (.int (115 : Int32))] (.int (0 : Int32)) := by
    have q := q14_3
    rw [own_d3, own_d0] at q
    exact q
  have r17 : ∀ t, Steps p.tables e below (T14.setTop (mkF m 58 #[.val (.long ta), .second, .val (.long tb), .second, .val (.ref b1), .val (.ref b3), .unset, .unset] [(.ref ffb1_18_14)])) t → Steps p.tables e below (T9.setTop (mkF m 55 #[.val (.long ta), .second, .val (.long tb), .second, .val (.ref b1), .val (.ref b3), .unset, .unset] [(.ref b1)])) t := fun t kt => by
    show Steps p.tables e below (T9.setTop (mkF m 55 #[.val (.long ta), .second, .val (.long tb), .second, .val (.ref b1), .val (.ref b3), .unset, .unset] [(.ref b1)])) _
    refine st14.trans ?_
    exact kt
  obtain ⟨b18, T18, h18, kk18, t18, kc18, X18, e18, E18, hS18, hks18', hZ, hown, As18, Cs18, Vs18, Bs18, lta18, ltb18, cr18, Lt18, sn18, st18⟩   := ldcCH X14 hx hZ hown (hw _ (List.mem_of_getElem? (i := 188) rfl)) hSA rfl hS14 (Nat.le_refl _) hELW (List.mem_of_getElem? (i := 3) rfl) ch14.1 (vs := [(.int (51 : Int32)), (.int (32 : Int32)), (.int (102 : Int32)), (.int (105 : Int32)), (.int (108 : Int32)), (.int (101 : Int32)), (.int (115 : Int32)), (.int (44 : Int32)), (.int (32 : Int32)), (.int (48 : Int32)), (.int (32 : Int32)), (.int (102 : Int32)), (.int (111 : Int32)), (.int (108 : Int32)), (.int (100 : Int32)), (.int (101 : Int32)), (.int (114 : Int32)), (.int (115 : Int32)), (.int (44 : Int32)), (.int (32 : Int32)), (.int (48 : Int32)), (.int (32 : Int32)), (.int (98 : Int32)), (.int (121 : Int32)), (.int (116 : Int32)), (.int (101 : Int32)), (.int (115 : Int32))]) (z := (27 : Int32)) ⟨by decide, rfl⟩ (by decide) rfl (g := (mkF m 58 #[.val (.long ta), .second, .val (.long tb), .second, .val (.ref b1), .val (.ref b3), .unset, .unset] [(.ref ffb1_18_14)])) rfl (hb hby at_58) (n := 108) (by decide) (by decide) (by decide) (by decide)
  have K18 : Keep h0 h18 [] := K14.ext E18
  have Zs18 : n0 ≤ h18.size := Nat.le_trans Zs14 E18.1
  have ch18 := CHr.trans ch14 cr18
  have nt18_b1 : b1 ≠ t18 := (sn18 _ (Safe.exa hZ.alike ((((q7_0.keep Kc8).keep Kc9).keep Kc14).ext E18) (by decide) (by decide))).2
  have nt18_b3 : b3 ≠ t18 := (sn18 _ (Safe.exa hZ.alike ((q9_0.keep Kc14).ext E18) (by decide) (by decide))).2
  obtain ⟨cq19, kq19, q19a, q19b, q19c⟩ := isOf hZ e18 (q14_0.ext E18)
  obtain ⟨_, _, ⟨T19, L19, k19, n19⟩, -, X19, ⟨Lc19, hQ19, l19, y19, z19⟩, st19⟩ := X18.virtualBack hx (y := (⟨"java/lang/String", "equals", "(Ljava/lang/Object;)Z"⟩ : MethodName)) (z := (⟨"java/lang/String", "equals", "(Ljava/lang/Object;)Z"⟩ : MethodName)) hown (mvT hZ (hw _ (List.mem_of_getElem? (i := 189) rfl))) (mvT hZ (hw _ (List.mem_of_getElem? (i := 190) rfl))) (notFace_of_selects (args := #[]) (mvT hZ (hw _ (List.mem_of_getElem? (i := 192) rfl)))) (mvT hZ (hw _ (List.mem_of_getElem? (i := 192) rfl))) (mvT hZ (hw _ (List.mem_of_getElem? (i := 191) rfl))) (by decide) (StrChars.Road.eqW (W := 0) hZ hwq (kI := 4) (hw _ (List.mem_of_getElem? (i := 77) rfl)) (q14_0.ext E18) (q14_1.ext E18) (q14_2.ext E18) (Vd16.ext E18) (own_cod [(51 : Int32), (32 : Int32), (102 : Int32), (105 : Int32), (108 : Int32), (101 : Int32), (115 : Int32), (44 : Int32), (32 : Int32), (48 : Int32), (32 : Int32), (102 : Int32), (111 : Int32), (108 : Int32), (100 : Int32), (101 : Int32), (114 : Int32), (115 : Int32), (44 : Int32), (32 : Int32), (48 : Int32), (32 : Int32), (98 : Int32), (121 : Int32), (116 : Int32), (101 : Int32), (115 : Int32)] [(51 : Int32), (32 : Int32), (102 : Int32), (105 : Int32), (108 : Int32), (101 : Int32), (115 : Int32), (44 : Int32), (32 : Int32), (48 : Int32), (32 : Int32), (102 : Int32), (111 : Int32), (108 : Int32), (100 : Int32), (101 : Int32), (114 : Int32), (115 : Int32), (44 : Int32), (32 : Int32), (48 : Int32), (32 : Int32), (98 : Int32), (121 : Int32), (116 : Int32), (101 : Int32), (115 : Int32)] (by decide +kernel) (by decide +kernel)) (by decide +kernel) (by decide) As18 Vs18 Cs18 Bs18 (own_cod [(51 : Int32), (32 : Int32), (102 : Int32), (105 : Int32), (108 : Int32), (101 : Int32), (115 : Int32), (44 : Int32), (32 : Int32), (48 : Int32), (32 : Int32), (102 : Int32), (111 : Int32), (108 : Int32), (100 : Int32), (101 : Int32), (114 : Int32), (115 : Int32), (44 : Int32), (32 : Int32), (48 : Int32), (32 : Int32), (98 : Int32), (121 : Int32), (116 : Int32), (101 : Int32), (115 : Int32)] [(51 : Int32), (32 : Int32), (102 : Int32), (105 : Int32), (108 : Int32), (101 : Int32), (115 : Int32), (44 : Int32), (32 : Int32), (48 : Int32), (32 : Int32), (102 : Int32), (111 : Int32), (108 : Int32), (100 : Int32), (101 : Int32), (114 : Int32), (115 : Int32), (44 : Int32), (32 : Int32), (48 : Int32), (32 : Int32), (98 : Int32), (121 : Int32), (116 : Int32), (101 : Int32), (115 : Int32)] (by decide +kernel) (by decide +kernel)) (by decide +kernel) (by decide) (S_COMPACT_STRINGS.ext (X00.keep K18 all0).2) hcs (by decide) (by decide)) q19a q19c (g := (mkF m 60 #[.val (.long ta), .second, .val (.long tb), .second, .val (.ref b1), .val (.ref b3), .unset, .unset] [(.ref b18), (.ref ffb1_18_14)])) rfl (by rw [hml]; rfl) (Steps.refl _) (argsL := [(.ref b18)]) (rest := []) (lenOf own_pd25 rfl) rfl (by show 2 * 0 + _ ≤ _; exact Nat.le_of_eq rfl) (hb hby at_60) (fun _ _ => ⟨rfl, e18, (by decide : 15 + 0 ≤ _), (by decide : 311 + 0 ≤ _)⟩)
  dsimp only [Pt.U, Pt.locs, Pt.cells, Pt.slots] at X19 l19 y19 z19 st19 hQ19
  subst l19 y19 z19
  obtain ⟨hv19, rfl, e19⟩ := hQ19
  obtain ⟨rfl, -⟩ := hv19.resolve_right (fun q => q.2 rfl)
  have N19 := Fr.app N14 (Fr.nil n0)
  have r21 : ∀ t, Steps p.tables e below (T19.setTop (mkF m 67 #[.val (.long ta), .second, .val (.long tb), .second, .val (.ref b1), .val (.ref b3), .val (.int (1 : Int32)), .unset] [(.ref b3)])) t → Steps p.tables e below (T14.setTop (mkF m 58 #[.val (.long ta), .second, .val (.long tb), .second, .val (.ref b1), .val (.ref b3), .unset, .unset] [(.ref ffb1_18_14)])) t := fun t kt => by
    show Steps p.tables e below (T14.setTop (mkF m 58 #[.val (.long ta), .second, .val (.long tb), .second, .val (.ref b1), .val (.ref b3), .unset, .unset] [(.ref ffb1_18_14)])) _
    refine st18 _ ?_
    show Steps p.tables e below (T18.setTop (mkF m 60 #[.val (.long ta), .second, .val (.long tb), .second, .val (.ref b1), .val (.ref b3), .unset, .unset] [(.ref b18), (.ref ffb1_18_14)])) _
    refine st19.trans ?_
    show Steps p.tables e below (T19.setTop (mkF m 63 #[.val (.long ta), .second, .val (.long tb), .second, .val (.ref b1), .val (.ref b3), .unset, .unset] [(.int (1 : Int32))])) _
    refine XS.istore X19.here hx rfl (hb hby at_63) rfl (l' := #[.val (.long ta), .second, .val (.long tb), .second, .val (.ref b1), .val (.ref b3), .val (.int (1 : Int32)), .unset]) rfl ?_
    show Steps p.tables e below (T19.setTop (mkF m 65 #[.val (.long ta), .second, .val (.long tb), .second, .val (.ref b1), .val (.ref b3), .val (.int (1 : Int32)), .unset] [])) _
    refine XS.aload X19.here hx rfl (hb hby at_65) rfl rfl ?_
    show Steps p.tables e below (T19.setTop (mkF m 67 #[.val (.long ta), .second, .val (.long tb), .second, .val (.ref b1), .val (.ref b3), .val (.int (1 : Int32)), .unset] [(.ref b3)])) _
    exact kt
  obtain ⟨cq20, kq20, q20a, q20b, q20c⟩ := isOf hZ e19 ((q9_0.keep Kc14).ext E18)
  obtain ⟨_, _, ⟨T20, L20, k20, n20⟩, -, Xb20, hSb20, hgr20, ⟨Lc20, hQ20, l20, y20, z20, cr20⟩, st20⟩ := X19.virtualBackS hx (y := (⟨"com/example/hamster/hamster/TreeCount", "toString", "()Ljava/lang/String;"⟩ : MethodName)) (z := (⟨"com/example/hamster/hamster/TreeCount", "toString", "()Ljava/lang/String;"⟩ : MethodName)) hown (mvT hZ (hw _ (List.mem_of_getElem? (i := 18) rfl))) (mvT hZ (hw _ (List.mem_of_getElem? (i := 19) rfl))) (notFace_of_selects (args := #[]) (mvT hZ (hw _ (List.mem_of_getElem? (i := 21) rfl)))) (mvT hZ (hw _ (List.mem_of_getElem? (i := 21) rfl))) (mvT hZ (hw _ (List.mem_of_getElem? (i := 20) rfl))) (by decide) (backOfSH (s := s) (W := 0) (rmT l Z a0 hw [] b3 (2 : Int64) (0 : Int64) (1 : Int64) cst dg k_dg h18 n0 Zs18 ((q9_0.keep Kc14).ext E18) ((nf12.keep Kc14 nin0).ext E18) ((q9_3.keep Kc14 nin0).ext E18) ((nf13.keep Kc14 nin0).ext E18) (by decide) (by decide) (by decide) (X00.keep K18 all0) S_COMPACT_STRINGS hcs S_DigitOnes V_dg) hZ (hw _ (List.mem_of_getElem? (i := 22) rfl)) (hw _ (List.mem_of_getElem? (i := 2) rfl)) (by decide) (by decide) hELW ch18.1) q20a q20c (g := (mkF m 67 #[.val (.long ta), .second, .val (.long tb), .second, .val (.ref b1), .val (.ref b3), .val (.int (1 : Int32)), .unset] [(.ref b3)])) rfl (by rw [hml]; rfl) (Steps.refl _) (argsL := []) (rest := []) (lenOf own_pd23 rfl) rfl (by show 2 * 0 + _ ≤ _; exact Nat.le_of_eq rfl) (hb hby at_67) (fun _ _ => ⟨rfl, e19, (by decide : 15 + 11 ≤ _), (by decide : 311 + 193 ≤ _)⟩)
  dsimp only [Pt.U, Pt.locs, Pt.cells, Pt.slots] at Xb20 hSb20 hgr20 l20 y20 z20 st20 hQ20 cr20
  subst l20 y20 z20
  obtain ⟨X20, hS20, hZ, hown⟩ := rebS hS18 (by rw [e19]; exact hks18') Xb20 hSb20 hgr20 hZ hown
  obtain ⟨ffb1_18_20, ffffffb2_2_6_1_2_18_20, k_ffffffb2_2_6_1_2_18_20, rfl, Nq20, Kc20, g_ffb1_18_20, zq_ffb1_18_20, g_ffffffb2_2_6_1_2_18_20, zq_ffffffb2_2_6_1_2_18_20, ne_ffb1_18_20_ffffffb2_2_6_1_2_18_20, q20_0, q20_1, q20_2, q20_3⟩ := hQ20
  have sz_ffb1_18_20 : h0.size ≤ ffb1_18_20 := Nat.le_trans K18.1 zq_ffb1_18_20
  have ne_dg_ffb1_18_20 : dg ≠ ffb1_18_20 := Nat.ne_of_lt (Nat.lt_of_lt_of_le (V_dg.ext (X00.keep K18 all0).2).lt zq_ffb1_18_20)
  have ne_b1_ffb1_18_20 : b1 ≠ ffb1_18_20 := Nat.ne_of_lt (Nat.lt_of_lt_of_le ((((q7_0.keep Kc8).keep Kc9).keep Kc14).ext E18).lt zq_ffb1_18_20)
  have ne_b3_ffb1_18_20 : b3 ≠ ffb1_18_20 := Nat.ne_of_lt (Nat.lt_of_lt_of_le ((q9_0.keep Kc14).ext E18).lt zq_ffb1_18_20)
  have ne_ffb1_18_14_ffb1_18_20 : ffb1_18_14 ≠ ffb1_18_20 := Nat.ne_of_lt (Nat.lt_of_lt_of_le (q14_0.ext E18).lt zq_ffb1_18_20)
  have ne_ffffffb2_2_6_1_2_18_14_ffb1_18_20 : ffffffb2_2_6_1_2_18_14 ≠ ffb1_18_20 := Nat.ne_of_lt (Nat.lt_of_lt_of_le (Vd16.ext E18).lt zq_ffb1_18_20)
  have ne_b18_ffb1_18_20 : b18 ≠ ffb1_18_20 := Nat.ne_of_lt (Nat.lt_of_lt_of_le As18.lt zq_ffb1_18_20)
  have ne_t18_ffb1_18_20 : t18 ≠ ffb1_18_20 := Nat.ne_of_lt (Nat.lt_of_lt_of_le Bs18.lt zq_ffb1_18_20)
  have sz_ffffffb2_2_6_1_2_18_20 : h0.size ≤ ffffffb2_2_6_1_2_18_20 := Nat.le_trans K18.1 zq_ffffffb2_2_6_1_2_18_20
  have ne_dg_ffffffb2_2_6_1_2_18_20 : dg ≠ ffffffb2_2_6_1_2_18_20 := Nat.ne_of_lt (Nat.lt_of_lt_of_le (V_dg.ext (X00.keep K18 all0).2).lt zq_ffffffb2_2_6_1_2_18_20)
  have ne_b1_ffffffb2_2_6_1_2_18_20 : b1 ≠ ffffffb2_2_6_1_2_18_20 := Nat.ne_of_lt (Nat.lt_of_lt_of_le ((((q7_0.keep Kc8).keep Kc9).keep Kc14).ext E18).lt zq_ffffffb2_2_6_1_2_18_20)
  have ne_b3_ffffffb2_2_6_1_2_18_20 : b3 ≠ ffffffb2_2_6_1_2_18_20 := Nat.ne_of_lt (Nat.lt_of_lt_of_le ((q9_0.keep Kc14).ext E18).lt zq_ffffffb2_2_6_1_2_18_20)
  have ne_ffb1_18_14_ffffffb2_2_6_1_2_18_20 : ffb1_18_14 ≠ ffffffb2_2_6_1_2_18_20 := Nat.ne_of_lt (Nat.lt_of_lt_of_le (q14_0.ext E18).lt zq_ffffffb2_2_6_1_2_18_20)
  have ne_ffffffb2_2_6_1_2_18_14_ffffffb2_2_6_1_2_18_20 : ffffffb2_2_6_1_2_18_14 ≠ ffffffb2_2_6_1_2_18_20 := Nat.ne_of_lt (Nat.lt_of_lt_of_le (Vd16.ext E18).lt zq_ffffffb2_2_6_1_2_18_20)
  have ne_b18_ffffffb2_2_6_1_2_18_20 : b18 ≠ ffffffb2_2_6_1_2_18_20 := Nat.ne_of_lt (Nat.lt_of_lt_of_le As18.lt zq_ffffffb2_2_6_1_2_18_20)
  have ne_t18_ffffffb2_2_6_1_2_18_20 : t18 ≠ ffffffb2_2_6_1_2_18_20 := Nat.ne_of_lt (Nat.lt_of_lt_of_le Bs18.lt zq_ffffffb2_2_6_1_2_18_20)
  have K20 : Keep h0 T20.heap [] := Keep.trans K18 Kc20 all0
  have Zs20 : n0 ≤ T20.heap.size := Nat.le_trans Zs18 Kc20.1
  have N20 := Fr.app N19 Nq20
  have ch20 := CHr.trans ch18 cr20
  have Vd22 : Arv Z T20.heap ffffffb2_2_6_1_2_18_20 k_ffffffb2_2_6_1_2_18_20 .byte (27 : Int32) [(.int (50 : Int32)), (.int (32 : Int32)), (.int (102 : Int32)), (.int (105 : Int32)), (.int (108 : Int32)), (.int (101 : Int32)), (.int (115 : Int32)), (.int (44 : Int32)), (.int (32 : Int32)), (.int (48 : Int32)), (.int (32 : Int32)), (.int (102 : Int32)), (.int (111 : Int32)), (.int (108 : Int32)), (.int (100 : Int32)), (.int (101 : Int32)), (.int (114 : Int32)), (.int (115 : Int32)), (.int (44 : Int32)), (.int (32 : Int32)), (.int (49 : Int32)), (.int (32 : Int32)), (.int (98 : Int32)), (.int (121 : Int32)), (.int (116 : Int32)), (.int (101 : Int32)), (.int (115 : Int32))] (.int (0 : Int32)) := by
    have q := q20_3
    rw [own_d2, own_d0, own_d1] at q
    exact q
  have r23 : ∀ t, Steps p.tables e below (T20.setTop (mkF m 70 #[.val (.long ta), .second, .val (.long tb), .second, .val (.ref b1), .val (.ref b3), .val (.int (1 : Int32)), .unset] [(.ref ffb1_18_20)])) t → Steps p.tables e below (T19.setTop (mkF m 67 #[.val (.long ta), .second, .val (.long tb), .second, .val (.ref b1), .val (.ref b3), .val (.int (1 : Int32)), .unset] [(.ref b3)])) t := fun t kt => by
    show Steps p.tables e below (T19.setTop (mkF m 67 #[.val (.long ta), .second, .val (.long tb), .second, .val (.ref b1), .val (.ref b3), .val (.int (1 : Int32)), .unset] [(.ref b3)])) _
    refine st20.trans ?_
    exact kt
  obtain ⟨b24, T24, h24, kk24, t24, kc24, X24, e24, E24, hS24, hks24', hZ, hown, As24, Cs24, Vs24, Bs24, lta24, ltb24, cr24, Lt24, sn24, st24⟩   := ldcCH X20 hx hZ hown (hw _ (List.mem_of_getElem? (i := 199) rfl)) hSA rfl hS20 (Nat.le_refl _) hELW (List.mem_of_getElem? (i := 4) rfl) ch20.1 (vs := [(.int (50 : Int32)), (.int (32 : Int32)), (.int (102 : Int32)), (.int (105 : Int32)), (.int (108 : Int32)), (.int (101 : Int32)), (.int (115 : Int32)), (.int (44 : Int32)), (.int (32 : Int32)), (.int (48 : Int32)), (.int (32 : Int32)), (.int (102 : Int32)), (.int (111 : Int32)), (.int (108 : Int32)), (.int (100 : Int32)), (.int (101 : Int32)), (.int (114 : Int32)), (.int (115 : Int32)), (.int (44 : Int32)), (.int (32 : Int32)), (.int (49 : Int32)), (.int (32 : Int32)), (.int (98 : Int32)), (.int (121 : Int32)), (.int (116 : Int32)), (.int (101 : Int32)), (.int (115 : Int32))]) (z := (27 : Int32)) ⟨by decide, rfl⟩ (by decide) rfl (g := (mkF m 70 #[.val (.long ta), .second, .val (.long tb), .second, .val (.ref b1), .val (.ref b3), .val (.int (1 : Int32)), .unset] [(.ref ffb1_18_20)])) rfl (hb hby at_70) (n := 108) (by decide) (by decide) (by decide) (by decide)
  have K24 : Keep h0 h24 [] := K20.ext E24
  have Zs24 : n0 ≤ h24.size := Nat.le_trans Zs20 E24.1
  have ch24 := CHr.trans ch20 cr24
  have nt24_b1 : b1 ≠ t24 := (sn24 _ (Safe.exa hZ.alike ((((((q7_0.keep Kc8).keep Kc9).keep Kc14).ext E18).keep Kc20).ext E24) (by decide) (by decide))).2
  have nt24_b3 : b3 ≠ t24 := (sn24 _ (Safe.exa hZ.alike ((((q9_0.keep Kc14).ext E18).keep Kc20).ext E24) (by decide) (by decide))).2
  obtain ⟨cq25, kq25, q25a, q25b, q25c⟩ := isOf hZ e24 (q20_0.ext E24)
  obtain ⟨_, _, ⟨T25, L25, k25, n25⟩, -, X25, ⟨Lc25, hQ25, l25, y25, z25⟩, st25⟩ := X24.virtualBack hx (y := (⟨"java/lang/String", "equals", "(Ljava/lang/Object;)Z"⟩ : MethodName)) (z := (⟨"java/lang/String", "equals", "(Ljava/lang/Object;)Z"⟩ : MethodName)) hown (mvT hZ (hw _ (List.mem_of_getElem? (i := 189) rfl))) (mvT hZ (hw _ (List.mem_of_getElem? (i := 190) rfl))) (notFace_of_selects (args := #[]) (mvT hZ (hw _ (List.mem_of_getElem? (i := 192) rfl)))) (mvT hZ (hw _ (List.mem_of_getElem? (i := 192) rfl))) (mvT hZ (hw _ (List.mem_of_getElem? (i := 191) rfl))) (by decide) (StrChars.Road.eqW (W := 0) hZ hwq (kI := 4) (hw _ (List.mem_of_getElem? (i := 77) rfl)) (q20_0.ext E24) (q20_1.ext E24) (q20_2.ext E24) (Vd22.ext E24) (own_cod [(50 : Int32), (32 : Int32), (102 : Int32), (105 : Int32), (108 : Int32), (101 : Int32), (115 : Int32), (44 : Int32), (32 : Int32), (48 : Int32), (32 : Int32), (102 : Int32), (111 : Int32), (108 : Int32), (100 : Int32), (101 : Int32), (114 : Int32), (115 : Int32), (44 : Int32), (32 : Int32), (49 : Int32), (32 : Int32), (98 : Int32), (121 : Int32), (116 : Int32), (101 : Int32), (115 : Int32)] [(50 : Int32), (32 : Int32), (102 : Int32), (105 : Int32), (108 : Int32), (101 : Int32), (115 : Int32), (44 : Int32), (32 : Int32), (48 : Int32), (32 : Int32), (102 : Int32), (111 : Int32), (108 : Int32), (100 : Int32), (101 : Int32), (114 : Int32), (115 : Int32), (44 : Int32), (32 : Int32), (49 : Int32), (32 : Int32), (98 : Int32), (121 : Int32), (116 : Int32), (101 : Int32), (115 : Int32)] (by decide +kernel) (by decide +kernel)) (by decide +kernel) (by decide) As24 Vs24 Cs24 Bs24 (own_cod [(50 : Int32), (32 : Int32), (102 : Int32), (105 : Int32), (108 : Int32), (101 : Int32), (115 : Int32), (44 : Int32), (32 : Int32), (48 : Int32), (32 : Int32), (102 : Int32), (111 : Int32), (108 : Int32), (100 : Int32), (101 : Int32), (114 : Int32), (115 : Int32), (44 : Int32), (32 : Int32), (49 : Int32), (32 : Int32), (98 : Int32), (121 : Int32), (116 : Int32), (101 : Int32), (115 : Int32)] [(50 : Int32), (32 : Int32), (102 : Int32), (105 : Int32), (108 : Int32), (101 : Int32), (115 : Int32), (44 : Int32), (32 : Int32), (48 : Int32), (32 : Int32), (102 : Int32), (111 : Int32), (108 : Int32), (100 : Int32), (101 : Int32), (114 : Int32), (115 : Int32), (44 : Int32), (32 : Int32), (49 : Int32), (32 : Int32), (98 : Int32), (121 : Int32), (116 : Int32), (101 : Int32), (115 : Int32)] (by decide +kernel) (by decide +kernel)) (by decide +kernel) (by decide) (S_COMPACT_STRINGS.ext (X00.keep K24 all0).2) hcs (by decide) (by decide)) q25a q25c (g := (mkF m 72 #[.val (.long ta), .second, .val (.long tb), .second, .val (.ref b1), .val (.ref b3), .val (.int (1 : Int32)), .unset] [(.ref b24), (.ref ffb1_18_20)])) rfl (by rw [hml]; rfl) (Steps.refl _) (argsL := [(.ref b24)]) (rest := []) (lenOf own_pd25 rfl) rfl (by show 2 * 0 + _ ≤ _; exact Nat.le_of_eq rfl) (hb hby at_72) (fun _ _ => ⟨rfl, e24, (by decide : 28 + 0 ≤ _), (by decide : 616 + 0 ≤ _)⟩)
  dsimp only [Pt.U, Pt.locs, Pt.cells, Pt.slots] at X25 l25 y25 z25 st25 hQ25
  subst l25 y25 z25
  obtain ⟨hv25, rfl, e25⟩ := hQ25
  obtain ⟨rfl, -⟩ := hv25.resolve_right (fun q => q.2 rfl)
  have N25 := Fr.app N20 (Fr.nil n0)
  obtain ⟨fs, hr, hrun, hended, hEW⟩ := X25.leaveW hS24 (by rw [e25]; exact hks24') (v := some (.int (1 : Int32))) (fun h => by rw [Bd.returns] at h; cases h)
  refine ⟨_, _, (pre0 _ (r15 _ (r17 _ (r21 _ (r23 _ ?_))))), hrun, hended, _, _, rfl, ?_, hEW.1, hEW.2.1, hEW.2.2.1, hEW.2.2.2.mono (by decide) (by decide)⟩
  · show Steps p.tables e below (T20.setTop (mkF m 70 #[.val (.long ta), .second, .val (.long tb), .second, .val (.ref b1), .val (.ref b3), .val (.int (1 : Int32)), .unset] [(.ref ffb1_18_20)])) _
    refine st24 _ ?_
    show Steps p.tables e below (T24.setTop (mkF m 72 #[.val (.long ta), .second, .val (.long tb), .second, .val (.ref b1), .val (.ref b3), .val (.int (1 : Int32)), .unset] [(.ref b24), (.ref ffb1_18_20)])) _
    refine st25.trans ?_
    show Steps p.tables e below (T25.setTop (mkF m 75 #[.val (.long ta), .second, .val (.long tb), .second, .val (.ref b1), .val (.ref b3), .val (.int (1 : Int32)), .unset] [(.int (1 : Int32))])) _
    refine XS.istore X25.here hx rfl (hb hby at_75) rfl (l' := #[.val (.long ta), .second, .val (.long tb), .second, .val (.ref b1), .val (.ref b3), .val (.int (1 : Int32)), .val (.int (1 : Int32))]) rfl ?_
    show Steps p.tables e below (T25.setTop (mkF m 77 #[.val (.long ta), .second, .val (.long tb), .second, .val (.ref b1), .val (.ref b3), .val (.int (1 : Int32)), .val (.int (1 : Int32))] [])) _
    refine XS.iload X25.here hx rfl (hb hby at_77) rfl ?_
    show Steps p.tables e below (T25.setTop (mkF m 79 #[.val (.long ta), .second, .val (.long tb), .second, .val (.ref b1), .val (.ref b3), .val (.int (1 : Int32)), .val (.int (1 : Int32))] [(.int (1 : Int32))])) _
    refine XS.ifNo X25.here hx rfl (hb hby at_79) rfl ((if0 _ _).trans (feq (by decide : ¬ ((1 : Int32) = (0 : Int32)))).1) ?_
    show Steps p.tables e below (T25.setTop (mkF m 82 #[.val (.long ta), .second, .val (.long tb), .second, .val (.ref b1), .val (.ref b3), .val (.int (1 : Int32)), .val (.int (1 : Int32))] [])) _
    refine XS.iload X25.here hx rfl (hb hby at_82) rfl ?_
    show Steps p.tables e below (T25.setTop (mkF m 84 #[.val (.long ta), .second, .val (.long tb), .second, .val (.ref b1), .val (.ref b3), .val (.int (1 : Int32)), .val (.int (1 : Int32))] [(.int (1 : Int32))])) _
    refine XS.ifNo X25.here hx rfl (hb hby at_84) rfl ((if0 _ _).trans (feq (by decide : ¬ ((1 : Int32) = (0 : Int32)))).1) ?_
    show Steps p.tables e below (T25.setTop (mkF m 87 #[.val (.long ta), .second, .val (.long tb), .second, .val (.ref b1), .val (.ref b3), .val (.int (1 : Int32)), .val (.int (1 : Int32))] [])) _
    refine XS.iconst X25.here hx rfl (hb hby at_87) ?_
    show Steps p.tables e below (T25.setTop (mkF m 88 #[.val (.long ta), .second, .val (.long tb), .second, .val (.ref b1), .val (.ref b3), .val (.int (1 : Int32)), .val (.int (1 : Int32))] [(.int (1 : Int32))])) _
    refine XS.goto X25.here hx rfl (pc0 := 88) (pc' := 92) rfl (hb hby at_88) (by decide) (by decide) ?_
    show Steps p.tables e below (T25.setTop (mkF m 92 #[.val (.long ta), .second, .val (.long tb), .second, .val (.ref b1), .val (.ref b3), .val (.int (1 : Int32)), .val (.int (1 : Int32))] [(.int (1 : Int32))])) _
    exact retN X25 hx (t := .boolean) Bd.returns (by simp) (hb hby at_92) hr
  · show QL Z ta tb cst dg k_dg h0 n0 _ T25.heap _
    rw [e25]
    exact ⟨rfl, N25⟩
set_option maxRecDepth 65536 in
set_option maxHeartbeats 40000000 in
theorem comes_1 {Post : Tables → Env → Array Value → State → Outcome → State → Prop} (hpost : ∀ tb e args s v u, (limb_1_1.after args s (.returned v) u = true ∧ limb_1_2.after args s (.returned v) u = true ∧ True) → ReturnedEndW s (.returned v) u (Jvm.fieldLocs frame_1_writes args s ++ Jvm.arrayLocs frame_1_arrays args s ++ Jvm.staticLocs frame_1_statics s) 48 5568 → Post tb e args s (.returned v) u) :
    ArmFor flags0 classFile x code maxLocals ret World_1 tables_1 room_1 Calls_1 rest_1 Pre_1 Post := by
  intro l hfl _ _ p e ha hc hk s m args below hf hA hF happ hP
  obtain ⟨hcalls, hrest, hpre⟩ := hP
  obtain ⟨-, -, -, hnamed, -, -, -, hat⟩ := (Spec.applies_iff hf).mp happ
  obtain ⟨hg, hn⟩ := and_e (Cond.before_iff.mp (show (Jvm.Cond.and given_1 narrow_1).before args s = true from hpre))
  obtain ⟨hcount, gr0⟩ := and_e hg
  obtain ⟨ga0, gr1⟩ := and_e gr0
  have ga1 := gr1
  obtain ⟨w0, w1, rfl⟩ : ∃ w0 w1 : Value, args = #[w0, w1] := by
    have hs : args.size = 2 := by simpa [Cond.value, given_1] using hcount
    obtain ⟨L⟩ := args
    match L, hs with
    | [w0, w1], _ => exact ⟨w0, w1, rfl⟩
  have hw := fun d (hd : d ∈ tables_1) => atoms_spec (ws := Jvm.Cond.code x code maxLocals ret :: tables_1) hat d (List.mem_cons_of_mem _ hd)
  have hfit : Fit s := fun {y c} hc i hi => by
    obtain ⟨ha, rfl⟩ := Array.getElem?_eq_some_iff.mp hc
    have q := List.all_eq_true.mp ((Array.all_eq_true_iff_forall_mem.mp hF) _ (Array.getElem_mem ha)) i (List.mem_range.mpr hi)
    simpa [Array.getElem?_eq_getElem hi] using q
  obtain ⟨hsets, hown0⟩ := atoms_of _ (rest_1_c_eq ▸ (show rest_1_c.before _ s = true from hrest))
  obtain ⟨i0, ei0⟩ := isL_v ga0
  obtain rfl : w0 = (.long i0) := Option.some.inj ei0
  obtain ⟨i1, ei1⟩ := isL_v ga1
  obtain rfl : w1 = (.long i1) := Option.some.inj ei1
  have n3 := not_v (Cond.before_iff.mp (hsets _ (List.mem_of_getElem? (i := 2) rfl)))
  obtain ⟨ics, eics⟩ := is_v (Cond.before_iff.mp (hsets _ (List.mem_of_getElem? (i := 1) rfl)))
  have S8 : Sta s s.heap "java/lang/String" "COMPACT_STRINGS" "Z" (.int ics) := Sta.start eics (Or.inl (hsets _ (List.mem_of_getElem? (i := 0) rfl)))
  have c9 : ¬ (ics = (0 : Int32)) := gotF (Cond.eq_ints eics (Term.int_eval (0))) n3
  obtain ⟨dg, kd, Sdg, Vdg⟩ := own_digits hfit (hsets _ (List.mem_of_getElem? (i := 11) rfl)) (hsets _ (List.mem_of_getElem? (i := 12) rfl)) (hsets _ (List.mem_of_getElem? (i := 13) rfl)) (hsets _ (List.mem_of_getElem? (i := 14) rfl)) (hw _ (List.mem_of_getElem? (i := 38) rfl))
  obtain ⟨n, o, h1, h2, h3, _, L, rfl, ⟨rfl, N⟩, hq⟩ := rmL l s _ hw tables_1 i0 i1 ics dg kd s.heap s.heap.size (Nat.le_refl _) (Old.start s) S8 c9 Sdg Vdg rfl rfl (fun q hq => hcalls.1 q (show q ∈ consts_1 from hq)) (hsets _ (List.mem_of_getElem? (i := 2) rfl)) p e ha hc hk s m _ below hf ((Spec.applies_iff_loose hf).mp happ).1 ⟨rfl, rfl⟩ trivial
  refine ⟨n, _, h1, h2, h3, hpost _ _ _ _ _ _ ⟨Cond.after_iff.mpr rfl, Cond.after_iff.mpr (eq_i res_at (Term.int_eval (1)) rfl), trivial⟩ ⟨hq.1, hq.2.1, hq.2.2.1, (hq.2.2.2.sift fun y hy => Or.inr (N y hy)).mono (by decide) (by decide)⟩⟩
theorem main_1_1 : Claimed_1_1 := comes_1 fun _ _ _ _ _ _ h hF => ⟨h.1, hF⟩
theorem main_1_2 : Claimed_1_2 := comes_1 fun _ _ _ _ _ _ h hF => ⟨h.2.1, hF⟩
end Jvm.Pilot.@@N@@
namespace Jvm.Pilot.@@N@@
open Jvm Jvm.ClassFile Sem Op Lib Jvm.Free Jvm.Stand Jvm.Pilot.@@N@@.Jvm.D
/-! MADE BY PROGRAM (witnessworld.py) out of the Statement's table words and the real class files: 26 classes; the members and pool entries that the words name. The judged class is class 1, her method 1. -/
namespace start1
open Jvm.ClassFile
def u (s : String) : CpInfo := .utf8 (stringToUtf16 s)
/-- a pool by its gaps: so many unusable entries, then the entry; so many at the end -/
def gap : Nat → List CpInfo → List CpInfo
  | 0, r => r
  | n + 1, r => .unusable :: gap n r
def poolList (es : List (Nat × CpInfo)) (last : Nat) : List CpInfo := es.foldr (fun e r => gap e.1 (e.2 :: r)) (gap last [])
def pool (es : List (Nat × CpInfo)) (last : Nat) : Array CpInfo := ⟨poolList es last⟩
def fileOf (pool : Array CpInfo) (this : Nat) (attrs : Array Attribute := #[]) (ms : Array MethodInfo := #[]) (fl : Nat := 33) (sup : Nat := 0) (ifs : Array Nat := #[]) (fds : Array FieldInfo := #[]) : ClassFile where
  minorVersion := 0
  majorVersion := 65
  constantPool := pool
  accessFlags := fl
  thisClass := this
  superClass := sup
  interfaces := ifs
  fields := fds
  methods := ms
  attributes := attrs
def plain (name : String) (sup : Option ClassId) : Class where
  name := name
  kind := .ordinary
  loader := none
  accessFlags := 33
  super := sup
  interfaces := #[]
  cf := none
  fields := #[]
  methods := #[]
  instanceTypes := #[]
  staticTypes := #[]
  resolved := #[]
  callSites := []
  init := .initialized
  statics := none
  mirror := none

def pool0 : Array CpInfo := pool [(5, u "<init>"), (0, u "()V"), (1, .class_ 10), (1, u "java/lang/Object")] 113

def k0c0 : Code := { maxStack := 0, maxLocals := 1, code := object_method_1_code, exceptionTable := #[], attributes := #[] }
def k0m0 : Method := { name := "<init>", desc := "()V", sig := { parameters := [], returnType := none }, accessFlags := 1, code := some k0c0 }
/-- java/lang/Object -/
def k0 : Class := { plain "java/lang/Object" none with
  accessFlags := 33
  interfaces := #[]
  cf := some (fileOf pool0 8 #[] #[{ accessFlags := 1, nameIndex := 5, descriptorIndex := 6, attributes := #[] }] 33 0 #[] #[])
  fields := #[]
  methods := #[k0m0]
  instanceTypes := #[]
  staticTypes := #[]
  resolved := Array.replicate 124 none
  statics := none }

def pool1 : Array CpInfo := pool [(2, .class_ 4), (0, .nameAndType 5 6), (0, u "java/lang/Object"), (0, u "<init>"), (0, u "()V"), (0, .class_ 8), (0, u "com/example/hamster/hamster/TreeCount"), (0, .methodref 7 3), (0, .methodref 7 11), (0, .nameAndType 12 13), (0, u "addFile"), (0, u "(J)V"), (0, .methodref 7 15), (0, .nameAndType 16 17), (0, u "toString"), (0, u "()Ljava/lang/String;"), (0, .string 19), (0, u "3 files, 0 folders, 0 bytes"), (0, .methodref 21 22), (0, .class_ 23), (0, .nameAndType 24 25), (0, u "java/lang/String"), (0, u "equals"), (0, u "(Ljava/lang/Object;)Z"), (0, .string 27), (0, u "2 files, 0 folders, 1 bytes"), (0, .class_ 29), (0, u "com/example/hamster/hamster/TreeCountAddFilePinLaw"), (2, u "law"), (0, u "(JJ)Z")] 3

def k1m0 : Method := { name := "<init>", desc := "()V", sig := { parameters := [], returnType := none }, accessFlags := 1, code := none }
def k1c1 : Code := { maxStack := 5, maxLocals := 8, code := code, exceptionTable := #[], attributes := #[] }
def k1m1 : Method := { name := "law", desc := "(JJ)Z", sig := { parameters := [.long, .long], returnType := some .boolean }, accessFlags := 9, code := some k1c1 }
/-- com/example/hamster/hamster/TreeCountAddFilePinLaw -/
def k1 : Class := { plain "com/example/hamster/hamster/TreeCountAddFilePinLaw" (some 0) with
  accessFlags := 49
  interfaces := #[]
  cf := some (fileOf pool1 28 #[] #[{ accessFlags := 1, nameIndex := 5, descriptorIndex := 6, attributes := #[] }, { accessFlags := 9, nameIndex := 32, descriptorIndex := 33, attributes := #[] }] 49 2 #[] #[])
  fields := #[]
  methods := #[k1m0, k1m1]
  instanceTypes := #[]
  staticTypes := #[]
  resolved := Array.replicate 37 none
  statics := none }

def pool2 : Array CpInfo := pool [(1, .methodref 2 3), (0, .class_ 4), (0, .nameAndType 5 6), (0, u "java/lang/Object"), (0, u "<init>"), (0, u "()V"), (0, .fieldref 8 9), (0, .class_ 10), (0, .nameAndType 11 12), (0, u "com/example/hamster/hamster/TreeCount"), (0, u "folders"), (0, u "J"), (0, .fieldref 8 14), (0, .nameAndType 15 12), (0, u "files"), (0, .fieldref 8 17), (0, .nameAndType 18 12), (0, u "bytes"), (0, .class_ 20), (0, u "java/lang/StringBuilder"), (0, .methodref 19 3), (0, .methodref 19 23), (0, .nameAndType 24 25), (0, u "append"), (0, u "(J)Ljava/lang/StringBuilder;"), (0, .string 27), (0, u " files, "), (0, .methodref 19 29), (0, .nameAndType 24 30), (0, u "(Ljava/lang/String;)Ljava/lang/StringBuilder;"), (0, .string 32), (0, u " folders, "), (0, .string 34), (0, u " bytes"), (0, .methodref 19 36), (0, .nameAndType 37 38), (0, u "toString"), (0, u "()Ljava/lang/String;"), (3, u "addFile"), (0, u "(J)V")] 2

def k2c0 : Code := { maxStack := 1, maxLocals := 1, code := prog_13_method_1_code, exceptionTable := #[], attributes := #[] }
def k2m0 : Method := { name := "<init>", desc := "()V", sig := { parameters := [], returnType := none }, accessFlags := 0, code := some k2c0 }
def k2c1 : Code := { maxStack := 5, maxLocals := 3, code := prog_13_method_3_code, exceptionTable := #[], attributes := #[] }
def k2m1 : Method := { name := "addFile", desc := "(J)V", sig := { parameters := [.long], returnType := none }, accessFlags := 0, code := some k2c1 }
def k2c2 : Code := { maxStack := 3, maxLocals := 1, code := prog_13_method_4_code, exceptionTable := #[], attributes := #[] }
def k2m2 : Method := { name := "toString", desc := "()Ljava/lang/String;", sig := { parameters := [], returnType := some (.object "java/lang/String") }, accessFlags := 1, code := some k2c2 }
/-- com/example/hamster/hamster/TreeCount -/
def k2 : Class := { plain "com/example/hamster/hamster/TreeCount" (some 0) with
  accessFlags := 48
  interfaces := #[]
  cf := some (fileOf pool2 8 #[] #[{ accessFlags := 0, nameIndex := 5, descriptorIndex := 6, attributes := #[] }, { accessFlags := 0, nameIndex := 42, descriptorIndex := 43, attributes := #[] }, { accessFlags := 1, nameIndex := 37, descriptorIndex := 38, attributes := #[] }] 48 2 #[] #[{ accessFlags := 2, nameIndex := 15, descriptorIndex := 12, attributes := #[] }, { accessFlags := 2, nameIndex := 11, descriptorIndex := 12, attributes := #[] }, { accessFlags := 2, nameIndex := 18, descriptorIndex := 12, attributes := #[] }])
  fields := #[{ name := "files", type := .long, accessFlags := 2, slot := 0, constantValue := 0 }, { name := "folders", type := .long, accessFlags := 2, slot := 1, constantValue := 0 }, { name := "bytes", type := .long, accessFlags := 2, slot := 2, constantValue := 0 }]
  methods := #[k2m0, k2m1, k2m2]
  instanceTypes := #[.long, .long, .long]
  staticTypes := #[]
  resolved := Array.replicate 46 none
  statics := none }

def pool3 : Array CpInfo := pool [(1, .class_ 2), (0, u "java/lang/Appendable"), (0, .class_ 4), (0, u "java/lang/Object")] 9

/-- java/lang/Appendable -/
def k3 : Class := { plain "java/lang/Appendable" (some 0) with
  accessFlags := 1537
  interfaces := #[]
  cf := some (fileOf pool3 1 #[] #[] 1537 3 #[] #[])
  fields := #[]
  methods := #[]
  instanceTypes := #[]
  staticTypes := #[]
  resolved := Array.replicate 14 none
  statics := none }

def pool4 : Array CpInfo := pool [(2, .class_ 4), (1, u "java/lang/CharSequence"), (42, .class_ 48), (0, u "java/lang/CharSequence$1CodePointIterator"), (10, .class_ 60), (0, u "java/lang/CharSequence$1CharIterator"), (5, .class_ 67), (0, u "java/lang/Object")] 63

/-- java/lang/CharSequence -/
def k4 : Class := { plain "java/lang/CharSequence" (some 0) with
  accessFlags := 1537
  interfaces := #[]
  cf := some (fileOf pool4 2 #[.nestMembers #[47, 59]] #[] 1537 66 #[] #[])
  fields := #[]
  methods := #[]
  instanceTypes := #[]
  staticTypes := #[]
  resolved := Array.replicate 131 none
  statics := none }

def pool5 : Array CpInfo := pool [(1, .class_ 2), (0, u "java/lang/String"), (0, .methodref 4 5), (0, .class_ 6), (0, .nameAndType 7 8), (0, u "java/lang/Object"), (0, u "<init>"), (0, u "()V"), (1, .class_ 12), (1, u "java/lang/AbstractStringBuilder"), (0, u "EMPTYVALUE"), (0, u "[B"), (0, .fieldref 10 16), (0, .nameAndType 17 14), (0, u "value"), (0, .fieldref 1 19), (0, .nameAndType 20 21), (0, u "COMPACT_STRINGS"), (0, u "Z"), (0, .fieldref 10 23), (0, .nameAndType 24 25), (0, u "coder"), (0, u "B"), (6, .methodref 1 33), (0, .nameAndType 34 35), (0, u "length"), (0, u "()I"), (3, .integer 2147483647), (0, .methodref 1 41), (0, .nameAndType 24 42), (0, u "()B"), (2, u "append"), (0, u "(Ljava/lang/String;)Ljava/lang/AbstractStringBuilder;"), (1, .class_ 49), (0, u "java/lang/CharSequence"), (19, u "(Ljava/lang/String;)V"), (5, u "maybeLatin1"), (3, .fieldref 10 80), (0, .nameAndType 81 82), (0, u "count"), (0, u "I"), (0, .methodref 10 84), (0, .nameAndType 85 86), (0, u "isLatin1"), (0, u "()Z"), (13, .methodref 10 101), (0, .nameAndType 102 103), (0, u "ensureCapacityInternal"), (0, u "(I)V"), (0, .methodref 10 105), (0, .nameAndType 106 107), (0, u "newCapacity"), (0, u "(I)I"), (0, .methodref 109 110), (0, .class_ 111), (0, .nameAndType 112 113), (0, u "java/util/Arrays"), (0, u "copyOf"), (0, u "([BI)[B"), (0, .methodref 115 116), (0, .class_ 117), (0, .nameAndType 118 119), (0, u "jdk/internal/util/ArraysSupport"), (0, u "newLength"), (0, u "(III)I"), (68, u "getChars"), (19, .methodref 10 209), (0, .nameAndType 210 211), (0, u "putStringAt"), (0, u "(ILjava/lang/String;)V"), (5, u "inflateIfNeededFor"), (2, .nameAndType 221 222), (0, u "getBytes"), (0, u "([BIB)V"), (24, u "stringSize"), (6, .methodref 255 256), (0, .class_ 257), (0, .nameAndType 247 258), (0, u "java/lang/Long"), (0, u "(J)I"), (0, .methodref 255 260), (0, .nameAndType 188 261), (0, u "(JI[B)I"), (135, .methodref 10 398), (0, .nameAndType 217 69), (0, .methodref 1 220), (3, u "()[B"), (40, .class_ 445), (0, u "java/lang/Appendable"), (67, u "(J)Ljava/lang/AbstractStringBuilder;"), (38, u "getValue")] 56

def k5m0 : Method := { name := "<init>", desc := "()V", sig := { parameters := [], returnType := none }, accessFlags := 0, code := none }
def k5c1 : Code := { maxStack := 2, maxLocals := 2, code := jdk_68_method_2_code, exceptionTable := #[], attributes := #[] }
def k5m1 : Method := { name := "<init>", desc := "(I)V", sig := { parameters := [.int], returnType := none }, accessFlags := 0, code := some k5c1 }
def k5c2 : Code := { maxStack := 1, maxLocals := 1, code := jdk_68_method_6_code, exceptionTable := #[], attributes := #[] }
def k5m2 : Method := { name := "length", desc := "()I", sig := { parameters := [], returnType := some .int }, accessFlags := 1, code := some k5c2 }
def k5c3 : Code := { maxStack := 4, maxLocals := 3, code := jdk_68_method_9_code, exceptionTable := #[], attributes := #[] }
def k5m3 : Method := { name := "ensureCapacityInternal", desc := "(I)V", sig := { parameters := [.int], returnType := none }, accessFlags := 2, code := some k5c3 }
def k5c4 : Code := { maxStack := 5, maxLocals := 6, code := jdk_68_method_10_code, exceptionTable := #[], attributes := #[] }
def k5m4 : Method := { name := "newCapacity", desc := "(I)I", sig := { parameters := [.int], returnType := some .int }, accessFlags := 2, code := some k5c4 }
def k5c5 : Code := { maxStack := 3, maxLocals := 3, code := jdk_68_method_22_code, exceptionTable := #[], attributes := #[] }
def k5m5 : Method := { name := "append", desc := "(Ljava/lang/String;)Ljava/lang/AbstractStringBuilder;", sig := { parameters := [(.object "java/lang/String")], returnType := some (.object "java/lang/AbstractStringBuilder") }, accessFlags := 1, code := some k5c5 }
def k5c6 : Code := { maxStack := 5, maxLocals := 5, code := jdk_68_method_33_code, exceptionTable := #[], attributes := #[] }
def k5m6 : Method := { name := "append", desc := "(J)Ljava/lang/AbstractStringBuilder;", sig := { parameters := [.long], returnType := some (.object "java/lang/AbstractStringBuilder") }, accessFlags := 1, code := some k5c6 }
def k5c7 : Code := { maxStack := 1, maxLocals := 1, code := jdk_68_method_64_code, exceptionTable := #[], attributes := #[] }
def k5m7 : Method := { name := "getValue", desc := "()[B", sig := { parameters := [], returnType := some (.array .byte) }, accessFlags := 16, code := some k5c7 }
def k5c8 : Code := { maxStack := 1, maxLocals := 1, code := jdk_68_method_68_code, exceptionTable := #[], attributes := #[] }
def k5m8 : Method := { name := "isLatin1", desc := "()Z", sig := { parameters := [], returnType := some .boolean }, accessFlags := 16, code := some k5c8 }
def k5c9 : Code := { maxStack := 2, maxLocals := 2, code := jdk_68_method_71_code, exceptionTable := #[], attributes := #[] }
def k5m9 : Method := { name := "inflateIfNeededFor", desc := "(Ljava/lang/String;)V", sig := { parameters := [(.object "java/lang/String")], returnType := none }, accessFlags := 2, code := some k5c9 }
def k5c10 : Code := { maxStack := 4, maxLocals := 3, code := jdk_68_method_73_code, exceptionTable := #[], attributes := #[] }
def k5m10 : Method := { name := "putStringAt", desc := "(ILjava/lang/String;)V", sig := { parameters := [.int, (.object "java/lang/String")], returnType := none }, accessFlags := 2, code := some k5c10 }
/-- java/lang/AbstractStringBuilder -/
def k5 : Class := { plain "java/lang/AbstractStringBuilder" (some 0) with
  accessFlags := 1056
  interfaces := #[3, 4]
  cf := some (fileOf pool5 10 #[] #[{ accessFlags := 0, nameIndex := 7, descriptorIndex := 8, attributes := #[] }, { accessFlags := 0, nameIndex := 7, descriptorIndex := 103, attributes := #[] }, { accessFlags := 1, nameIndex := 34, descriptorIndex := 35, attributes := #[] }, { accessFlags := 2, nameIndex := 102, descriptorIndex := 103, attributes := #[] }, { accessFlags := 2, nameIndex := 106, descriptorIndex := 107, attributes := #[] }, { accessFlags := 1, nameIndex := 45, descriptorIndex := 46, attributes := #[] }, { accessFlags := 1, nameIndex := 45, descriptorIndex := 513, attributes := #[] }, { accessFlags := 16, nameIndex := 552, descriptorIndex := 403, attributes := #[] }, { accessFlags := 16, nameIndex := 85, descriptorIndex := 86, attributes := #[] }, { accessFlags := 2, nameIndex := 217, descriptorIndex := 69, attributes := #[] }, { accessFlags := 2, nameIndex := 210, descriptorIndex := 211, attributes := #[] }] 1056 4 #[444, 48] #[{ accessFlags := 0, nameIndex := 17, descriptorIndex := 14, attributes := #[] }, { accessFlags := 0, nameIndex := 24, descriptorIndex := 25, attributes := #[] }, { accessFlags := 0, nameIndex := 75, descriptorIndex := 21, attributes := #[] }, { accessFlags := 0, nameIndex := 81, descriptorIndex := 82, attributes := #[] }, { accessFlags := 26, nameIndex := 13, descriptorIndex := 14, attributes := #[] }])
  fields := #[{ name := "value", type := (.array .byte), accessFlags := 0, slot := 0, constantValue := 0 }, { name := "coder", type := .byte, accessFlags := 0, slot := 1, constantValue := 0 }, { name := "maybeLatin1", type := .boolean, accessFlags := 0, slot := 2, constantValue := 0 }, { name := "count", type := .int, accessFlags := 0, slot := 3, constantValue := 0 }, { name := "EMPTYVALUE", type := (.array .byte), accessFlags := 26, slot := 0, constantValue := 0 }]
  methods := #[k5m0, k5m1, k5m2, k5m3, k5m4, k5m5, k5m6, k5m7, k5m8, k5m9, k5m10]
  instanceTypes := #[(.array .byte), .byte, .boolean, .int]
  staticTypes := #[(.array .byte)]
  resolved := Array.replicate 609 none
  statics := none }

def pool6 : Array CpInfo := pool [(1, .class_ 2), (0, u "java/io/Serializable"), (0, .class_ 4), (0, u "java/lang/Object")] 2

/-- java/io/Serializable -/
def k6 : Class := { plain "java/io/Serializable" (some 0) with
  accessFlags := 1537
  interfaces := #[]
  cf := some (fileOf pool6 1 #[] #[] 1537 3 #[] #[])
  fields := #[]
  methods := #[]
  instanceTypes := #[]
  staticTypes := #[]
  resolved := Array.replicate 7 none
  statics := none }

def pool7 : Array CpInfo := pool [(1, .class_ 2), (0, u "java/lang/Comparable"), (0, .class_ 4), (0, u "java/lang/Object")] 7

/-- java/lang/Comparable -/
def k7 : Class := { plain "java/lang/Comparable" (some 0) with
  accessFlags := 1537
  interfaces := #[]
  cf := some (fileOf pool7 1 #[] #[] 1537 3 #[] #[])
  fields := #[]
  methods := #[]
  instanceTypes := #[]
  staticTypes := #[]
  resolved := Array.replicate 12 none
  statics := none }

def pool8 : Array CpInfo := pool [(1, .methodref 2 3), (0, .class_ 4), (0, .nameAndType 5 6), (0, u "java/lang/AbstractStringBuilder"), (0, u "<init>"), (0, u "(I)V"), (11, .class_ 20), (1, u "java/lang/String"), (3, .class_ 26), (1, u "java/lang/StringBuilder"), (0, u "append"), (0, u "(Ljava/lang/String;)Ljava/lang/StringBuilder;"), (0, .methodref 2 30), (0, .nameAndType 27 31), (0, u "(Ljava/lang/String;)Ljava/lang/AbstractStringBuilder;"), (24, .methodref 2 57), (0, .nameAndType 27 58), (0, u "(J)Ljava/lang/AbstractStringBuilder;"), (78, .methodref 18 138), (0, .nameAndType 5 139), (0, u "(Ljava/lang/StringBuilder;)V"), (5, u "()V"), (10, u "()I"), (124, u "(J)Ljava/lang/StringBuilder;"), (61, .methodref 2 344), (0, .nameAndType 345 156), (0, u "length"), (3, .class_ 350), (0, u "java/lang/Appendable"), (0, .class_ 352), (0, u "java/io/Serializable"), (0, .class_ 354), (0, u "java/lang/Comparable"), (0, .class_ 356), (0, u "java/lang/CharSequence"), (0, u "serialVersionUID"), (0, u "J"), (40, u "toString"), (0, u "()Ljava/lang/String;")] 21

def k8c0 : Code := { maxStack := 2, maxLocals := 1, code := jdk_67_method_1_code, exceptionTable := #[], attributes := #[] }
def k8m0 : Method := { name := "<init>", desc := "()V", sig := { parameters := [], returnType := none }, accessFlags := 1, code := some k8c0 }
def k8c1 : Code := { maxStack := 2, maxLocals := 2, code := jdk_67_method_7_code, exceptionTable := #[], attributes := #[] }
def k8m1 : Method := { name := "append", desc := "(Ljava/lang/String;)Ljava/lang/StringBuilder;", sig := { parameters := [(.object "java/lang/String")], returnType := some (.object "java/lang/StringBuilder") }, accessFlags := 1, code := some k8c1 }
def k8c2 : Code := { maxStack := 3, maxLocals := 3, code := jdk_67_method_16_code, exceptionTable := #[], attributes := #[] }
def k8m2 : Method := { name := "append", desc := "(J)Ljava/lang/StringBuilder;", sig := { parameters := [.long], returnType := some (.object "java/lang/StringBuilder") }, accessFlags := 1, code := some k8c2 }
def k8c3 : Code := { maxStack := 3, maxLocals := 1, code := jdk_67_method_42_code, exceptionTable := #[], attributes := #[] }
def k8m3 : Method := { name := "toString", desc := "()Ljava/lang/String;", sig := { parameters := [], returnType := some (.object "java/lang/String") }, accessFlags := 1, code := some k8c3 }
def k8c4 : Code := { maxStack := 1, maxLocals := 1, code := jdk_67_method_93_code, exceptionTable := #[], attributes := #[] }
def k8m4 : Method := { name := "length", desc := "()I", sig := { parameters := [], returnType := some .int }, accessFlags := 4161, code := some k8c4 }
/-- java/lang/StringBuilder -/
def k8 : Class := { plain "java/lang/StringBuilder" (some 5) with
  accessFlags := 49
  interfaces := #[3, 6, 7, 4]
  cf := some (fileOf pool8 24 #[] #[{ accessFlags := 1, nameIndex := 5, descriptorIndex := 145, attributes := #[] }, { accessFlags := 1, nameIndex := 27, descriptorIndex := 28, attributes := #[] }, { accessFlags := 1, nameIndex := 27, descriptorIndex := 281, attributes := #[] }, { accessFlags := 1, nameIndex := 399, descriptorIndex := 400, attributes := #[] }, { accessFlags := 4161, nameIndex := 345, descriptorIndex := 156, attributes := #[] }] 49 2 #[349, 351, 353, 355] #[{ accessFlags := 24, nameIndex := 357, descriptorIndex := 358, attributes := #[] }])
  fields := #[{ name := "serialVersionUID", type := .long, accessFlags := 24, slot := 0, constantValue := 0 }]
  methods := #[k8m0, k8m1, k8m2, k8m3, k8m4]
  instanceTypes := #[(.array .byte), .byte, .boolean, .int]
  staticTypes := #[.long]
  resolved := Array.replicate 422 none
  statics := none }

def pool9 : Array CpInfo := pool [(1, .class_ 2), (0, u "java/lang/constant/Constable"), (0, .class_ 4), (0, u "java/lang/Object")] 6

/-- java/lang/constant/Constable -/
def k9 : Class := { plain "java/lang/constant/Constable" (some 0) with
  accessFlags := 1537
  interfaces := #[]
  cf := some (fileOf pool9 1 #[] #[] 1537 3 #[] #[])
  fields := #[]
  methods := #[]
  instanceTypes := #[]
  staticTypes := #[]
  resolved := Array.replicate 11 none
  statics := none }

def pool10 : Array CpInfo := pool [(1, .class_ 2), (0, u "java/lang/constant/ConstantDesc"), (0, .class_ 4), (0, u "java/lang/Object")] 32

/-- java/lang/constant/ConstantDesc -/
def k10 : Class := { plain "java/lang/constant/ConstantDesc" (some 0) with
  accessFlags := 1537
  interfaces := #[]
  cf := some (fileOf pool10 1 #[] #[] 1537 3 #[] #[])
  fields := #[]
  methods := #[]
  instanceTypes := #[]
  staticTypes := #[]
  resolved := Array.replicate 37 none
  statics := none }

def pool11 : Array CpInfo := pool [(1, .methodref 2 3), (0, .class_ 4), (0, .nameAndType 5 6), (0, u "java/lang/Object"), (0, u "<init>"), (0, u "()V"), (2, .fieldref 10 11), (0, .class_ 12), (0, .nameAndType 13 14), (0, u "java/lang/String"), (0, u "value"), (0, u "[B"), (0, .fieldref 10 16), (0, .nameAndType 17 18), (0, u "coder"), (0, u "B"), (2, u "hash"), (0, u "I"), (2, u "hashIsZero"), (0, u "Z"), (11, .fieldref 10 39), (0, .nameAndType 40 26), (0, u "COMPACT_STRINGS"), (13, .methodref 55 56), (0, .class_ 57), (0, .nameAndType 58 59), (0, u "java/util/Arrays"), (0, u "copyOfRange"), (0, u "([BII)[B"), (47, .class_ 109), (1, u "java/lang/StringLatin1"), (32, u "()Z"), (50, .class_ 195), (1, u "java/lang/System"), (16, .methodref 193 213), (0, .nameAndType 214 215), (0, u "arraycopy"), (0, u "(Ljava/lang/Object;ILjava/lang/Object;II)V"), (118, u "()I"), (0, .methodref 10 336), (0, .nameAndType 17 337), (0, u "()B"), (2, u "()[B"), (148, .methodref 10 490), (0, .nameAndType 5 491), (0, u "(Ljava/lang/AbstractStringBuilder;Ljava/lang/Void;)V"), (1, .nameAndType 494 142), (0, u "isLatin1"), (11, .nameAndType 507 334), (0, u "length"), (24, u "getBytes"), (8, .methodref 107 542), (0, .nameAndType 543 544), (0, u "equals"), (0, u "([B[B)Z"), (4, .methodref 550 506), (0, .class_ 551), (0, u "java/lang/AbstractStringBuilder"), (0, .methodref 550 553), (0, .nameAndType 554 340), (0, u "getValue"), (18, u "(Ljava/lang/Object;)Z"), (1, .class_ 576), (0, u "java/lang/CharSequence"), (22, u "CASE_INSENSITIVE_ORDER"), (0, u "Ljava/util/Comparator;"), (220, u "([BIB)V"), (225, .methodref 550 493), (53, u "serialPersistentFields"), (0, u "[Ljava/io/ObjectStreamField;"), (0, .class_ 1104), (0, u "java/lang/String$CaseInsensitiveComparator"), (1, .class_ 1107), (0, u "java/io/Serializable"), (0, .class_ 1109), (0, u "java/lang/Comparable"), (0, .class_ 1111), (0, u "java/lang/constant/Constable"), (0, .class_ 1113), (0, u "java/lang/constant/ConstantDesc"), (2, u "serialVersionUID"), (0, u "J"), (3, u "REPL"), (0, u "C"), (2, u "LATIN1"), (1, u "UTF16"), (105, u "(Ljava/lang/StringBuilder;)V")] 217

def k11m0 : Method := { name := "<init>", desc := "()V", sig := { parameters := [], returnType := none }, accessFlags := 1, code := none }
def k11c1 : Code := { maxStack := 3, maxLocals := 2, code := jdk_42_method_53_code, exceptionTable := #[], attributes := #[] }
def k11m1 : Method := { name := "<init>", desc := "(Ljava/lang/StringBuilder;)V", sig := { parameters := [(.object "java/lang/StringBuilder")], returnType := none }, accessFlags := 1, code := some k11c1 }
def k11c2 : Code := { maxStack := 2, maxLocals := 1, code := jdk_42_method_54_code, exceptionTable := #[], attributes := #[] }
def k11m2 : Method := { name := "length", desc := "()I", sig := { parameters := [], returnType := some .int }, accessFlags := 1, code := some k11c2 }
def k11c3 : Code := { maxStack := 2, maxLocals := 3, code := jdk_42_method_66_code, exceptionTable := #[], attributes := #[] }
def k11m3 : Method := { name := "equals", desc := "(Ljava/lang/Object;)Z", sig := { parameters := [(.object "java/lang/Object")], returnType := some .boolean }, accessFlags := 1, code := some k11c3 }
def k11c4 : Code := { maxStack := 5, maxLocals := 4, code := jdk_42_method_147_code, exceptionTable := #[], attributes := #[] }
def k11m4 : Method := { name := "getBytes", desc := "([BIB)V", sig := { parameters := [(.array .byte), .int, .byte], returnType := none }, accessFlags := 0, code := some k11c4 }
def k11c5 : Code := { maxStack := 5, maxLocals := 5, code := jdk_42_method_150_code, exceptionTable := #[], attributes := #[] }
def k11m5 : Method := { name := "<init>", desc := "(Ljava/lang/AbstractStringBuilder;Ljava/lang/Void;)V", sig := { parameters := [(.object "java/lang/AbstractStringBuilder"), (.object "java/lang/Void")], returnType := none }, accessFlags := 0, code := some k11c5 }
def k11c6 : Code := { maxStack := 1, maxLocals := 1, code := jdk_42_method_152_code, exceptionTable := #[], attributes := #[] }
def k11m6 : Method := { name := "coder", desc := "()B", sig := { parameters := [], returnType := some .byte }, accessFlags := 0, code := some k11c6 }
/-- java/lang/String -/
def k11 : Class := { plain "java/lang/String" (some 0) with
  accessFlags := 49
  interfaces := #[6, 7, 4, 9, 10]
  cf := some (fileOf pool11 10 #[.nestMembers #[1103]] #[{ accessFlags := 1, nameIndex := 5, descriptorIndex := 6, attributes := #[] }, { accessFlags := 1, nameIndex := 5, descriptorIndex := 1233, attributes := #[] }, { accessFlags := 1, nameIndex := 507, descriptorIndex := 334, attributes := #[] }, { accessFlags := 1, nameIndex := 543, descriptorIndex := 573, attributes := #[] }, { accessFlags := 0, nameIndex := 532, descriptorIndex := 821, attributes := #[] }, { accessFlags := 0, nameIndex := 5, descriptorIndex := 491, attributes := #[] }, { accessFlags := 0, nameIndex := 17, descriptorIndex := 337, attributes := #[] }] 49 2 #[1106, 1108, 575, 1110, 1112] #[{ accessFlags := 18, nameIndex := 13, descriptorIndex := 14, attributes := #[] }, { accessFlags := 18, nameIndex := 17, descriptorIndex := 18, attributes := #[] }, { accessFlags := 2, nameIndex := 21, descriptorIndex := 22, attributes := #[] }, { accessFlags := 2, nameIndex := 25, descriptorIndex := 26, attributes := #[] }, { accessFlags := 26, nameIndex := 1116, descriptorIndex := 1117, attributes := #[] }, { accessFlags := 24, nameIndex := 40, descriptorIndex := 26, attributes := #[] }, { accessFlags := 26, nameIndex := 1101, descriptorIndex := 1102, attributes := #[] }, { accessFlags := 26, nameIndex := 1121, descriptorIndex := 1122, attributes := #[] }, { accessFlags := 25, nameIndex := 599, descriptorIndex := 600, attributes := #[] }, { accessFlags := 24, nameIndex := 1125, descriptorIndex := 18, attributes := #[] }, { accessFlags := 24, nameIndex := 1127, descriptorIndex := 18, attributes := #[] }])
  fields := #[{ name := "value", type := (.array .byte), accessFlags := 18, slot := 0, constantValue := 0 }, { name := "coder", type := .byte, accessFlags := 18, slot := 1, constantValue := 0 }, { name := "hash", type := .int, accessFlags := 2, slot := 2, constantValue := 0 }, { name := "hashIsZero", type := .boolean, accessFlags := 2, slot := 3, constantValue := 0 }, { name := "serialVersionUID", type := .long, accessFlags := 26, slot := 0, constantValue := 0 }, { name := "COMPACT_STRINGS", type := .boolean, accessFlags := 24, slot := 1, constantValue := 0 }, { name := "serialPersistentFields", type := (.array (.object "java/io/ObjectStreamField")), accessFlags := 26, slot := 2, constantValue := 0 }, { name := "REPL", type := .char, accessFlags := 26, slot := 3, constantValue := 0 }, { name := "CASE_INSENSITIVE_ORDER", type := (.object "java/util/Comparator"), accessFlags := 25, slot := 4, constantValue := 0 }, { name := "LATIN1", type := .byte, accessFlags := 24, slot := 5, constantValue := 0 }, { name := "UTF16", type := .byte, accessFlags := 24, slot := 6, constantValue := 0 }]
  methods := #[k11m0, k11m1, k11m2, k11m3, k11m4, k11m5, k11m6]
  instanceTypes := #[(.array .byte), .byte, .int, .boolean]
  staticTypes := #[.long, .boolean, (.array (.object "java/io/ObjectStreamField")), .char, (.object "java/util/Comparator"), .byte, .byte]
  resolved := Array.replicate 1451 none
  statics := some 0 }

def pool12 : Array CpInfo := pool [(2, .class_ 4), (1, u "java/lang/Object"), (0, u "<init>"), (0, u "()V"), (1, .class_ 10), (1, u "java/lang/Number"), (2, .class_ 14), (0, u "java/io/Serializable"), (0, u "serialVersionUID"), (0, u "J")] 20

def k12m0 : Method := { name := "<init>", desc := "()V", sig := { parameters := [], returnType := none }, accessFlags := 1, code := none }
/-- java/lang/Number -/
def k12 : Class := { plain "java/lang/Number" (some 0) with
  accessFlags := 1057
  interfaces := #[6]
  cf := some (fileOf pool12 8 #[] #[{ accessFlags := 1, nameIndex := 5, descriptorIndex := 6, attributes := #[] }] 1057 2 #[13] #[{ accessFlags := 26, nameIndex := 15, descriptorIndex := 16, attributes := #[] }])
  fields := #[{ name := "serialVersionUID", type := .long, accessFlags := 26, slot := 0, constantValue := 0 }]
  methods := #[k12m0]
  instanceTypes := #[]
  staticTypes := #[.long]
  resolved := Array.replicate 37 none
  statics := none }

def pool13 : Array CpInfo := pool [(1, .class_ 2), (0, u "java/lang/Long"), (15, .class_ 20), (1, u "java/lang/Integer"), (80, u "(J)I"), (18, u "stringSize"), (2, u "getChars"), (0, u "(JI[B)I"), (4, .long 18446744071562067968), (3, .fieldref 18 134), (0, .nameAndType 135 136), (0, u "DigitOnes"), (0, u "[B"), (3, .long 18446744073709551606), (94, .class_ 237), (1, u "java/lang/Long$LongCache"), (33, .class_ 272), (0, u "java/lang/Number"), (2, u "value"), (0, u "J"), (84, u "TYPE"), (0, u "Ljava/lang/Class;"), (0, .class_ 364), (0, u "java/lang/Comparable"), (0, .class_ 366), (0, u "java/lang/constant/Constable"), (0, .class_ 368), (0, u "java/lang/constant/ConstantDesc"), (0, u "MIN_VALUE"), (1, u "MAX_VALUE"), (4, u "SIZE"), (0, u "I"), (1, u "BYTES"), (1, u "serialVersionUID")] 142

def k13c0 : Code := { maxStack := 4, maxLocals := 11, code := jdk_35_method_14_code, exceptionTable := #[], attributes := #[] }
def k13m0 : Method := { name := "getChars", desc := "(JI[B)I", sig := { parameters := [.long, .int, (.array .byte)], returnType := some .int }, accessFlags := 8, code := some k13c0 }
def k13c1 : Code := { maxStack := 4, maxLocals := 6, code := jdk_35_method_15_code, exceptionTable := #[], attributes := #[] }
def k13m1 : Method := { name := "stringSize", desc := "(J)I", sig := { parameters := [.long], returnType := some .int }, accessFlags := 8, code := some k13c1 }
/-- java/lang/Long -/
def k13 : Class := { plain "java/lang/Long" (some 12) with
  accessFlags := 49
  interfaces := #[7, 9, 10]
  cf := some (fileOf pool13 1 #[.nestMembers #[235]] #[{ accessFlags := 8, nameIndex := 123, descriptorIndex := 124, attributes := #[] }, { accessFlags := 8, nameIndex := 120, descriptorIndex := 101, attributes := #[] }] 49 271 #[363, 365, 367] #[{ accessFlags := 25, nameIndex := 369, descriptorIndex := 276, attributes := #[] }, { accessFlags := 25, nameIndex := 371, descriptorIndex := 276, attributes := #[] }, { accessFlags := 25, nameIndex := 361, descriptorIndex := 362, attributes := #[] }, { accessFlags := 18, nameIndex := 275, descriptorIndex := 276, attributes := #[] }, { accessFlags := 25, nameIndex := 376, descriptorIndex := 377, attributes := #[] }, { accessFlags := 25, nameIndex := 379, descriptorIndex := 377, attributes := #[] }, { accessFlags := 26, nameIndex := 381, descriptorIndex := 276, attributes := #[] }])
  fields := #[{ name := "MIN_VALUE", type := .long, accessFlags := 25, slot := 0, constantValue := 0 }, { name := "MAX_VALUE", type := .long, accessFlags := 25, slot := 1, constantValue := 0 }, { name := "TYPE", type := (.object "java/lang/Class"), accessFlags := 25, slot := 2, constantValue := 0 }, { name := "value", type := .long, accessFlags := 18, slot := 0, constantValue := 0 }, { name := "SIZE", type := .int, accessFlags := 25, slot := 3, constantValue := 0 }, { name := "BYTES", type := .int, accessFlags := 25, slot := 4, constantValue := 0 }, { name := "serialVersionUID", type := .long, accessFlags := 26, slot := 5, constantValue := 0 }]
  methods := #[k13m0, k13m1]
  instanceTypes := #[.long]
  staticTypes := #[.long, .long, (.object "java/lang/Class"), .int, .int, .long]
  resolved := Array.replicate 524 none
  statics := none }

def pool14 : Array CpInfo := pool [(1, .class_ 2), (0, u "java/lang/Integer"), (16, u "digits"), (0, u "[C"), (64, u "DigitOnes"), (0, u "[B"), (2, u "DigitTens"), (99, .class_ 190), (0, u "java/lang/Integer$IntegerCache"), (3, u "I"), (8, .class_ 204), (0, u "java/lang/Number"), (2, u "value"), (94, u "TYPE"), (0, u "Ljava/lang/Class;"), (0, .class_ 305), (0, u "java/lang/Comparable"), (0, .class_ 307), (0, u "java/lang/constant/Constable"), (0, .class_ 309), (0, u "java/lang/constant/ConstantDesc"), (0, u "MIN_VALUE"), (1, u "MAX_VALUE"), (3, u "SIZE"), (1, u "BYTES"), (1, u "serialVersionUID"), (0, u "J")] 131

/-- java/lang/Integer -/
def k14 : Class := { plain "java/lang/Integer" (some 12) with
  accessFlags := 49
  interfaces := #[7, 9, 10]
  cf := some (fileOf pool14 1 #[.nestMembers #[189]] #[] 49 203 #[304, 306, 308] #[{ accessFlags := 25, nameIndex := 310, descriptorIndex := 194, attributes := #[] }, { accessFlags := 25, nameIndex := 312, descriptorIndex := 194, attributes := #[] }, { accessFlags := 25, nameIndex := 302, descriptorIndex := 303, attributes := #[] }, { accessFlags := 24, nameIndex := 19, descriptorIndex := 20, attributes := #[] }, { accessFlags := 24, nameIndex := 89, descriptorIndex := 86, attributes := #[] }, { accessFlags := 24, nameIndex := 85, descriptorIndex := 86, attributes := #[] }, { accessFlags := 18, nameIndex := 207, descriptorIndex := 194, attributes := #[] }, { accessFlags := 25, nameIndex := 316, descriptorIndex := 194, attributes := #[] }, { accessFlags := 25, nameIndex := 318, descriptorIndex := 194, attributes := #[] }, { accessFlags := 26, nameIndex := 320, descriptorIndex := 321, attributes := #[] }])
  fields := #[{ name := "MIN_VALUE", type := .int, accessFlags := 25, slot := 0, constantValue := 0 }, { name := "MAX_VALUE", type := .int, accessFlags := 25, slot := 1, constantValue := 0 }, { name := "TYPE", type := (.object "java/lang/Class"), accessFlags := 25, slot := 2, constantValue := 0 }, { name := "digits", type := (.array .char), accessFlags := 24, slot := 3, constantValue := 0 }, { name := "DigitTens", type := (.array .byte), accessFlags := 24, slot := 4, constantValue := 0 }, { name := "DigitOnes", type := (.array .byte), accessFlags := 24, slot := 5, constantValue := 0 }, { name := "value", type := .int, accessFlags := 18, slot := 0, constantValue := 0 }, { name := "SIZE", type := .int, accessFlags := 25, slot := 6, constantValue := 0 }, { name := "BYTES", type := .int, accessFlags := 25, slot := 7, constantValue := 0 }, { name := "serialVersionUID", type := .long, accessFlags := 26, slot := 8, constantValue := 0 }]
  methods := #[]
  instanceTypes := #[.int]
  staticTypes := #[.int, .int, (.object "java/lang/Class"), (.array .char), (.array .byte), (.array .byte), .int, .int, .long]
  resolved := Array.replicate 453 none
  statics := some 1 }

def pool15 : Array CpInfo := pool [(2, .class_ 4), (1, u "java/lang/Object"), (0, u "<init>"), (0, u "()V"), (1, .class_ 10), (1, u "java/lang/System"), (0, u "allowSecurityManager"), (0, u "I"), (16, u "cons"), (0, u "Ljava/io/Console;"), (77, .class_ 110), (1, u "java/lang/System$CallersHolder"), (43, u "initialErrStream"), (0, u "Ljava/io/PrintStream;"), (19, u "security"), (0, u "Ljava/lang/SecurityManager;"), (31, .class_ 209), (0, u "java/lang/System$1"), (7, u "props"), (0, u "Ljava/util/Properties;"), (2, u "lineSeparator"), (0, u "Ljava/lang/String;"), (96, .class_ 321), (1, u "java/lang/System$LoggerFinder"), (5, .class_ 328), (0, u "java/lang/System$Logger"), (67, u "err"), (2, u "out"), (91, u "notSupportedJnuEncoding"), (15, u "in"), (17, u "initialIn"), (0, u "Ljava/io/InputStream;"), (35, u "bootLayer"), (0, u "Ljava/lang/ModuleLayer;"), (99, .class_ 664), (0, u "java/lang/System$2"), (9, u "NEVER"), (2, u "MAYBE"), (49, u "arraycopy"), (0, u "(Ljava/lang/Object;ILjava/lang/Object;II)V"), (72, .class_ 802), (0, u "java/lang/System$Logger$Level")] 31

def k15m0 : Method := { name := "<init>", desc := "()V", sig := { parameters := [], returnType := none }, accessFlags := 2, code := none }
def k15m1 : Method := { name := "arraycopy", desc := "(Ljava/lang/Object;ILjava/lang/Object;II)V", sig := { parameters := [(.object "java/lang/Object"), .int, (.object "java/lang/Object"), .int, .int], returnType := none }, accessFlags := 265, code := none }
/-- java/lang/System -/
def k15 : Class := { plain "java/lang/System" (some 0) with
  accessFlags := 49
  interfaces := #[]
  cf := some (fileOf pool15 8 #[.nestMembers #[319, 327, 801, 108, 663, 208]] #[{ accessFlags := 2, nameIndex := 5, descriptorIndex := 6, attributes := #[] }, { accessFlags := 265, nameIndex := 727, descriptorIndex := 728, attributes := #[] }] 49 2 #[] #[{ accessFlags := 25, nameIndex := 507, descriptorIndex := 526, attributes := #[] }, { accessFlags := 25, nameIndex := 399, descriptorIndex := 155, attributes := #[] }, { accessFlags := 25, nameIndex := 396, descriptorIndex := 155, attributes := #[] }, { accessFlags := 10, nameIndex := 525, descriptorIndex := 526, attributes := #[] }, { accessFlags := 26, nameIndex := 674, descriptorIndex := 12, attributes := #[] }, { accessFlags := 26, nameIndex := 677, descriptorIndex := 12, attributes := #[] }, { accessFlags := 10, nameIndex := 11, descriptorIndex := 12, attributes := #[] }, { accessFlags := 74, nameIndex := 175, descriptorIndex := 176, attributes := #[] }, { accessFlags := 10, nameIndex := 491, descriptorIndex := 222, attributes := #[] }, { accessFlags := 74, nameIndex := 29, descriptorIndex := 30, attributes := #[] }, { accessFlags := 74, nameIndex := 154, descriptorIndex := 155, attributes := #[] }, { accessFlags := 10, nameIndex := 217, descriptorIndex := 218, attributes := #[] }, { accessFlags := 10, nameIndex := 221, descriptorIndex := 222, attributes := #[] }, { accessFlags := 8, nameIndex := 562, descriptorIndex := 563, attributes := #[] }])
  fields := #[{ name := "in", type := (.object "java/io/InputStream"), accessFlags := 25, slot := 0, constantValue := 0 }, { name := "out", type := (.object "java/io/PrintStream"), accessFlags := 25, slot := 1, constantValue := 0 }, { name := "err", type := (.object "java/io/PrintStream"), accessFlags := 25, slot := 2, constantValue := 0 }, { name := "initialIn", type := (.object "java/io/InputStream"), accessFlags := 10, slot := 3, constantValue := 0 }, { name := "NEVER", type := .int, accessFlags := 26, slot := 4, constantValue := 0 }, { name := "MAYBE", type := .int, accessFlags := 26, slot := 5, constantValue := 0 }, { name := "allowSecurityManager", type := .int, accessFlags := 10, slot := 6, constantValue := 0 }, { name := "security", type := (.object "java/lang/SecurityManager"), accessFlags := 74, slot := 7, constantValue := 0 }, { name := "notSupportedJnuEncoding", type := (.object "java/lang/String"), accessFlags := 10, slot := 8, constantValue := 0 }, { name := "cons", type := (.object "java/io/Console"), accessFlags := 74, slot := 9, constantValue := 0 }, { name := "initialErrStream", type := (.object "java/io/PrintStream"), accessFlags := 74, slot := 10, constantValue := 0 }, { name := "props", type := (.object "java/util/Properties"), accessFlags := 10, slot := 11, constantValue := 0 }, { name := "lineSeparator", type := (.object "java/lang/String"), accessFlags := 10, slot := 12, constantValue := 0 }, { name := "bootLayer", type := (.object "java/lang/ModuleLayer"), accessFlags := 8, slot := 13, constantValue := 0 }]
  methods := #[k15m0, k15m1]
  instanceTypes := #[]
  staticTypes := #[(.object "java/io/InputStream"), (.object "java/io/PrintStream"), (.object "java/io/PrintStream"), (.object "java/io/InputStream"), .int, .int, .int, (.object "java/lang/SecurityManager"), (.object "java/lang/String"), (.object "java/io/Console"), (.object "java/io/PrintStream"), (.object "java/util/Properties"), (.object "java/lang/String"), (.object "java/lang/ModuleLayer")]
  resolved := Array.replicate 834 none
  statics := none }

def pool16 : Array CpInfo := pool [(9, u "<init>"), (6, .class_ 18), (1, u "java/lang/Object"), (0, u "()V"), (1, .class_ 23), (1, u "jdk/internal/util/ArraysSupport"), (0, u "LOG2_ARRAY_LONG_INDEX_SCALE"), (0, u "I"), (2, u "U"), (0, u "Ljdk/internal/misc/Unsafe;"), (8, u "BIG_ENDIAN"), (0, u "Z"), (8, u "LOG2_BYTE_BIT_SIZE"), (4, u "LOG2_ARRAY_INT_INDEX_SCALE"), (54, u "JLA"), (0, u "Ljdk/internal/access/JavaLangAccess;"), (11, u "LOG2_ARRAY_BOOLEAN_INDEX_SCALE"), (9, u "LOG2_ARRAY_BYTE_INDEX_SCALE"), (5, u "LOG2_ARRAY_CHAR_INDEX_SCALE"), (5, u "LOG2_ARRAY_SHORT_INDEX_SCALE"), (18, u "LOG2_ARRAY_FLOAT_INDEX_SCALE"), (24, u "LOG2_ARRAY_DOUBLE_INDEX_SCALE"), (6, .methodref 195 196), (0, .class_ 197), (0, .nameAndType 198 199), (0, u "java/lang/Math"), (0, u "max"), (0, u "(II)I"), (0, .integer 2147483639), (76, u "T_BOOLEAN"), (2, u "T_CHAR"), (1, u "T_FLOAT"), (1, u "T_DOUBLE"), (1, u "T_BYTE"), (1, u "T_SHORT"), (1, u "T_INT"), (1, u "T_LONG"), (1, u "SOFT_MAX_ARRAY_LENGTH"), (56, u "newLength"), (0, u "(III)I")] 25

def k16m0 : Method := { name := "<init>", desc := "()V", sig := { parameters := [], returnType := none }, accessFlags := 2, code := none }
def k16c1 : Code := { maxStack := 3, maxLocals := 4, code := jdk_48_method_27_code, exceptionTable := #[], attributes := #[] }
def k16m1 : Method := { name := "newLength", desc := "(III)I", sig := { parameters := [.int, .int, .int], returnType := some .int }, accessFlags := 9, code := some k16c1 }
/-- jdk/internal/util/ArraysSupport -/
def k16 : Class := { plain "jdk/internal/util/ArraysSupport" (some 0) with
  accessFlags := 33
  interfaces := #[]
  cf := some (fileOf pool16 21 #[] #[{ accessFlags := 2, nameIndex := 9, descriptorIndex := 19, attributes := #[] }, { accessFlags := 9, nameIndex := 351, descriptorIndex := 352, attributes := #[] }] 33 16 #[] #[{ accessFlags := 24, nameIndex := 28, descriptorIndex := 29, attributes := #[] }, { accessFlags := 26, nameIndex := 38, descriptorIndex := 39, attributes := #[] }, { accessFlags := 25, nameIndex := 121, descriptorIndex := 25, attributes := #[] }, { accessFlags := 25, nameIndex := 131, descriptorIndex := 25, attributes := #[] }, { accessFlags := 25, nameIndex := 137, descriptorIndex := 25, attributes := #[] }, { accessFlags := 25, nameIndex := 143, descriptorIndex := 25, attributes := #[] }, { accessFlags := 25, nameIndex := 53, descriptorIndex := 25, attributes := #[] }, { accessFlags := 25, nameIndex := 24, descriptorIndex := 25, attributes := #[] }, { accessFlags := 25, nameIndex := 162, descriptorIndex := 25, attributes := #[] }, { accessFlags := 25, nameIndex := 187, descriptorIndex := 25, attributes := #[] }, { accessFlags := 26, nameIndex := 48, descriptorIndex := 25, attributes := #[] }, { accessFlags := 25, nameIndex := 277, descriptorIndex := 25, attributes := #[] }, { accessFlags := 25, nameIndex := 280, descriptorIndex := 25, attributes := #[] }, { accessFlags := 25, nameIndex := 282, descriptorIndex := 25, attributes := #[] }, { accessFlags := 25, nameIndex := 284, descriptorIndex := 25, attributes := #[] }, { accessFlags := 25, nameIndex := 286, descriptorIndex := 25, attributes := #[] }, { accessFlags := 25, nameIndex := 288, descriptorIndex := 25, attributes := #[] }, { accessFlags := 25, nameIndex := 290, descriptorIndex := 25, attributes := #[] }, { accessFlags := 25, nameIndex := 292, descriptorIndex := 25, attributes := #[] }, { accessFlags := 26, nameIndex := 108, descriptorIndex := 109, attributes := #[] }, { accessFlags := 25, nameIndex := 294, descriptorIndex := 25, attributes := #[] }])
  fields := #[{ name := "U", type := (.object "jdk/internal/misc/Unsafe"), accessFlags := 24, slot := 0, constantValue := 0 }, { name := "BIG_ENDIAN", type := .boolean, accessFlags := 26, slot := 1, constantValue := 0 }, { name := "LOG2_ARRAY_BOOLEAN_INDEX_SCALE", type := .int, accessFlags := 25, slot := 2, constantValue := 0 }, { name := "LOG2_ARRAY_BYTE_INDEX_SCALE", type := .int, accessFlags := 25, slot := 3, constantValue := 0 }, { name := "LOG2_ARRAY_CHAR_INDEX_SCALE", type := .int, accessFlags := 25, slot := 4, constantValue := 0 }, { name := "LOG2_ARRAY_SHORT_INDEX_SCALE", type := .int, accessFlags := 25, slot := 5, constantValue := 0 }, { name := "LOG2_ARRAY_INT_INDEX_SCALE", type := .int, accessFlags := 25, slot := 6, constantValue := 0 }, { name := "LOG2_ARRAY_LONG_INDEX_SCALE", type := .int, accessFlags := 25, slot := 7, constantValue := 0 }, { name := "LOG2_ARRAY_FLOAT_INDEX_SCALE", type := .int, accessFlags := 25, slot := 8, constantValue := 0 }, { name := "LOG2_ARRAY_DOUBLE_INDEX_SCALE", type := .int, accessFlags := 25, slot := 9, constantValue := 0 }, { name := "LOG2_BYTE_BIT_SIZE", type := .int, accessFlags := 26, slot := 10, constantValue := 0 }, { name := "T_BOOLEAN", type := .int, accessFlags := 25, slot := 11, constantValue := 0 }, { name := "T_CHAR", type := .int, accessFlags := 25, slot := 12, constantValue := 0 }, { name := "T_FLOAT", type := .int, accessFlags := 25, slot := 13, constantValue := 0 }, { name := "T_DOUBLE", type := .int, accessFlags := 25, slot := 14, constantValue := 0 }, { name := "T_BYTE", type := .int, accessFlags := 25, slot := 15, constantValue := 0 }, { name := "T_SHORT", type := .int, accessFlags := 25, slot := 16, constantValue := 0 }, { name := "T_INT", type := .int, accessFlags := 25, slot := 17, constantValue := 0 }, { name := "T_LONG", type := .int, accessFlags := 25, slot := 18, constantValue := 0 }, { name := "JLA", type := (.object "jdk/internal/access/JavaLangAccess"), accessFlags := 26, slot := 19, constantValue := 0 }, { name := "SOFT_MAX_ARRAY_LENGTH", type := .int, accessFlags := 25, slot := 20, constantValue := 0 }]
  methods := #[k16m0, k16m1]
  instanceTypes := #[]
  staticTypes := #[(.object "jdk/internal/misc/Unsafe"), .boolean, .int, .int, .int, .int, .int, .int, .int, .int, .int, .int, .int, .int, .int, .int, .int, .int, .int, (.object "jdk/internal/access/JavaLangAccess"), .int]
  resolved := Array.replicate 378 none
  statics := none }

def pool17 : Array CpInfo := pool [(1, .class_ 2), (0, u "java/lang/Math"), (1, .class_ 6), (1, u "java/lang/Object"), (0, u "<init>"), (0, u "()V"), (89, .class_ 100), (1, u "java/lang/Math$RandomNumberGeneratorHolder"), (71, u "negativeZeroFloatBits"), (0, u "J"), (2, u "negativeZeroDoubleBits"), (21, u "max"), (2, u "min"), (43, u "$assertionsDisabled"), (0, u "Z"), (88, u "(II)I"), (2, u "twoToTheDoubleScaleDown"), (0, u "D"), (4, u "twoToTheDoubleScaleUp"), (9, u "E"), (3, u "PI"), (2, u "TAU"), (2, u "DEGREES_TO_RADIANS"), (0, u "RADIANS_TO_DEGREES")] 94

def k17m0 : Method := { name := "<init>", desc := "()V", sig := { parameters := [], returnType := none }, accessFlags := 2, code := none }
def k17c1 : Code := { maxStack := 2, maxLocals := 2, code := jdk_29_method_65_code, exceptionTable := #[], attributes := #[] }
def k17m1 : Method := { name := "max", desc := "(II)I", sig := { parameters := [.int, .int], returnType := some .int }, accessFlags := 9, code := some k17c1 }
def k17c2 : Code := { maxStack := 2, maxLocals := 2, code := jdk_29_method_69_code, exceptionTable := #[], attributes := #[] }
def k17m2 : Method := { name := "min", desc := "(II)I", sig := { parameters := [.int, .int], returnType := some .int }, accessFlags := 9, code := some k17c2 }
/-- java/lang/Math -/
def k17 : Class := { plain "java/lang/Math" (some 0) with
  accessFlags := 49
  interfaces := #[]
  cf := some (fileOf pool17 1 #[.nestMembers #[98]] #[{ accessFlags := 2, nameIndex := 7, descriptorIndex := 8, attributes := #[] }, { accessFlags := 9, nameIndex := 198, descriptorIndex := 335, attributes := #[] }, { accessFlags := 9, nameIndex := 201, descriptorIndex := 335, attributes := #[] }] 49 4 #[] #[{ accessFlags := 25, nameIndex := 354, descriptorIndex := 339, attributes := #[] }, { accessFlags := 25, nameIndex := 358, descriptorIndex := 339, attributes := #[] }, { accessFlags := 25, nameIndex := 361, descriptorIndex := 339, attributes := #[] }, { accessFlags := 26, nameIndex := 364, descriptorIndex := 339, attributes := #[] }, { accessFlags := 26, nameIndex := 365, descriptorIndex := 339, attributes := #[] }, { accessFlags := 26, nameIndex := 172, descriptorIndex := 173, attributes := #[] }, { accessFlags := 26, nameIndex := 176, descriptorIndex := 173, attributes := #[] }, { accessFlags := 8, nameIndex := 344, descriptorIndex := 339, attributes := #[] }, { accessFlags := 8, nameIndex := 338, descriptorIndex := 339, attributes := #[] }, { accessFlags := 4120, nameIndex := 245, descriptorIndex := 246, attributes := #[] }])
  fields := #[{ name := "E", type := .double, accessFlags := 25, slot := 0, constantValue := 0 }, { name := "PI", type := .double, accessFlags := 25, slot := 1, constantValue := 0 }, { name := "TAU", type := .double, accessFlags := 25, slot := 2, constantValue := 0 }, { name := "DEGREES_TO_RADIANS", type := .double, accessFlags := 26, slot := 3, constantValue := 0 }, { name := "RADIANS_TO_DEGREES", type := .double, accessFlags := 26, slot := 4, constantValue := 0 }, { name := "negativeZeroFloatBits", type := .long, accessFlags := 26, slot := 5, constantValue := 0 }, { name := "negativeZeroDoubleBits", type := .long, accessFlags := 26, slot := 6, constantValue := 0 }, { name := "twoToTheDoubleScaleUp", type := .double, accessFlags := 8, slot := 7, constantValue := 0 }, { name := "twoToTheDoubleScaleDown", type := .double, accessFlags := 8, slot := 8, constantValue := 0 }, { name := "$assertionsDisabled", type := .boolean, accessFlags := 4120, slot := 9, constantValue := 0 }]
  methods := #[k17m0, k17m1, k17m2]
  instanceTypes := #[]
  staticTypes := #[.double, .double, .double, .double, .double, .long, .long, .double, .double, .boolean]
  resolved := Array.replicate 460 none
  statics := none }

def pool18 : Array CpInfo := pool [(2, .class_ 4), (1, u "java/lang/Object"), (0, u "<init>"), (0, u "()V"), (7, .class_ 16), (1, u "java/util/Arrays"), (57, .class_ 76), (1, u "java/util/Arrays$NaturalOrder"), (36, .class_ 115), (1, u "java/util/Arrays$LegacyMergeSort"), (1, u "Z"), (21, u "copyOfRange"), (10, .methodref 151 152), (0, .class_ 153), (0, .nameAndType 154 155), (0, u "java/lang/System"), (0, u "arraycopy"), (0, u "(Ljava/lang/Object;ILjava/lang/Object;II)V"), (146, u "copyOf"), (1, .methodref 305 306), (0, .class_ 307), (0, .nameAndType 308 309), (0, u "java/lang/Math"), (0, u "min"), (0, u "(II)I"), (29, .methodref 14 340), (0, .nameAndType 341 342), (0, u "copyOfRangeByte"), (0, u "([BII)[B"), (0, .methodref 14 344), (0, .nameAndType 345 346), (0, u "checkLength"), (0, u "(II)V"), (28, .class_ 376), (0, u "java/util/Arrays$ArrayList"), (68, u "$assertionsDisabled"), (269, u "MIN_ARRAY_SORT_GRAN"), (0, u "I"), (2, u "INSERTIONSORT_THRESHOLD"), (149, u "([BI)[B"), (105, .class_ 976), (0, u "java/util/Arrays$ArrayItr")] 52

def k18m0 : Method := { name := "<init>", desc := "()V", sig := { parameters := [], returnType := none }, accessFlags := 2, code := none }
def k18c1 : Code := { maxStack := 6, maxLocals := 3, code := jdk_65_method_121_code, exceptionTable := #[], attributes := #[] }
def k18m1 : Method := { name := "copyOf", desc := "([BI)[B", sig := { parameters := [(.array .byte), .int], returnType := some (.array .byte) }, accessFlags := 9, code := some k18c1 }
def k18c2 : Code := { maxStack := 4, maxLocals := 2, code := jdk_65_method_131_code, exceptionTable := #[], attributes := #[] }
def k18m2 : Method := { name := "checkLength", desc := "(II)V", sig := { parameters := [.int, .int], returnType := none }, accessFlags := 10, code := some k18c2 }
def k18c3 : Code := { maxStack := 3, maxLocals := 3, code := jdk_65_method_132_code, exceptionTable := #[], attributes := #[] }
def k18m3 : Method := { name := "copyOfRange", desc := "([BII)[B", sig := { parameters := [(.array .byte), .int, .int], returnType := some (.array .byte) }, accessFlags := 9, code := some k18c3 }
def k18c4 : Code := { maxStack := 6, maxLocals := 5, code := jdk_65_method_133_code, exceptionTable := #[], attributes := #[] }
def k18m4 : Method := { name := "copyOfRangeByte", desc := "([BII)[B", sig := { parameters := [(.array .byte), .int, .int], returnType := some (.array .byte) }, accessFlags := 10, code := some k18c4 }
/-- java/util/Arrays -/
def k18 : Class := { plain "java/util/Arrays" (some 0) with
  accessFlags := 49
  interfaces := #[]
  cf := some (fileOf pool18 14 #[.nestMembers #[975, 375, 113, 74]] #[{ accessFlags := 2, nameIndex := 5, descriptorIndex := 6, attributes := #[] }, { accessFlags := 9, nameIndex := 302, descriptorIndex := 869, attributes := #[] }, { accessFlags := 10, nameIndex := 345, descriptorIndex := 346, attributes := #[] }, { accessFlags := 9, nameIndex := 139, descriptorIndex := 342, attributes := #[] }, { accessFlags := 10, nameIndex := 341, descriptorIndex := 342, attributes := #[] }] 49 2 #[] #[{ accessFlags := 26, nameIndex := 715, descriptorIndex := 716, attributes := #[] }, { accessFlags := 26, nameIndex := 719, descriptorIndex := 716, attributes := #[] }, { accessFlags := 4120, nameIndex := 445, descriptorIndex := 117, attributes := #[] }])
  fields := #[{ name := "MIN_ARRAY_SORT_GRAN", type := .int, accessFlags := 26, slot := 0, constantValue := 0 }, { name := "INSERTIONSORT_THRESHOLD", type := .int, accessFlags := 26, slot := 1, constantValue := 0 }, { name := "$assertionsDisabled", type := .boolean, accessFlags := 4120, slot := 2, constantValue := 0 }]
  methods := #[k18m0, k18m1, k18m2, k18m3, k18m4]
  instanceTypes := #[]
  staticTypes := #[.int, .int, .boolean]
  resolved := Array.replicate 1029 none
  statics := none }

def pool19 : Array CpInfo := pool [(4, .class_ 6), (1, u "java/lang/Object"), (0, u "<init>"), (0, u "()V"), (5, .class_ 16), (1, u "java/lang/StringLatin1"), (104, u "$assertionsDisabled"), (0, u "Z"), (98, .class_ 223), (1, u "java/lang/StringLatin1$LinesSpliterator"), (57, u "equals"), (0, u "([B[B)Z"), (107, .class_ 391), (0, u "java/lang/StringLatin1$CharsSpliterator")] 3

def k19m0 : Method := { name := "<init>", desc := "()V", sig := { parameters := [], returnType := none }, accessFlags := 0, code := none }
def k19c1 : Code := { maxStack := 3, maxLocals := 3, code := jdk_43_method_13_code, exceptionTable := #[], attributes := #[] }
def k19m1 : Method := { name := "equals", desc := "([B[B)Z", sig := { parameters := [(.array .byte), (.array .byte)], returnType := some .boolean }, accessFlags := 9, code := some k19c1 }
/-- java/lang/StringLatin1 -/
def k19 : Class := { plain "java/lang/StringLatin1" (some 0) with
  accessFlags := 48
  interfaces := #[]
  cf := some (fileOf pool19 14 #[.nestMembers #[390, 221]] #[{ accessFlags := 0, nameIndex := 7, descriptorIndex := 8, attributes := #[] }, { accessFlags := 9, nameIndex := 281, descriptorIndex := 282, attributes := #[] }] 48 4 #[] #[{ accessFlags := 4120, nameIndex := 121, descriptorIndex := 122, attributes := #[] }])
  fields := #[{ name := "$assertionsDisabled", type := .boolean, accessFlags := 4120, slot := 0, constantValue := 0 }]
  methods := #[k19m0, k19m1]
  instanceTypes := #[]
  staticTypes := #[.boolean]
  resolved := Array.replicate 395 none
  statics := none }

def pool20 : Array CpInfo := pool [(2, .class_ 4), (1, u "java/lang/Object"), (0, u "<init>"), (0, u "()V"), (17, .class_ 26), (1, u "jdk/internal/util/Preconditions"), (28, .class_ 56), (0, u "jdk/internal/util/Preconditions$4"), (57, .class_ 115), (0, u "jdk/internal/util/Preconditions$1"), (7, u "SIOOBE_FORMATTER"), (0, u "Ljava/util/function/BiFunction;"), (0, .class_ 126), (0, u "jdk/internal/util/Preconditions$2"), (3, u "AIOOBE_FORMATTER"), (0, .class_ 132), (0, u "jdk/internal/util/Preconditions$3"), (3, u "IOOBE_FORMATTER")] 57

def k20m0 : Method := { name := "<init>", desc := "()V", sig := { parameters := [], returnType := none }, accessFlags := 1, code := none }
/-- jdk/internal/util/Preconditions -/
def k20 : Class := { plain "jdk/internal/util/Preconditions" (some 0) with
  accessFlags := 33
  interfaces := #[]
  cf := some (fileOf pool20 24 #[.nestMembers #[55, 131, 125, 114]] #[{ accessFlags := 1, nameIndex := 5, descriptorIndex := 6, attributes := #[] }] 33 2 #[] #[{ accessFlags := 25, nameIndex := 123, descriptorIndex := 124, attributes := #[] }, { accessFlags := 25, nameIndex := 130, descriptorIndex := 124, attributes := #[] }, { accessFlags := 25, nameIndex := 136, descriptorIndex := 124, attributes := #[] }])
  fields := #[{ name := "SIOOBE_FORMATTER", type := (.object "java/util/function/BiFunction"), accessFlags := 25, slot := 0, constantValue := 0 }, { name := "AIOOBE_FORMATTER", type := (.object "java/util/function/BiFunction"), accessFlags := 25, slot := 1, constantValue := 0 }, { name := "IOOBE_FORMATTER", type := (.object "java/util/function/BiFunction"), accessFlags := 25, slot := 2, constantValue := 0 }]
  methods := #[k20m0]
  instanceTypes := #[]
  staticTypes := #[(.object "java/util/function/BiFunction"), (.object "java/util/function/BiFunction"), (.object "java/util/function/BiFunction")]
  resolved := Array.replicate 194 none
  statics := some 2 }

def pool21 : Array CpInfo := pool [(1, u "java/lang/Cloneable"), (0, .class_ 1), (0, u "java/lang/Object"), (0, .class_ 3)] 3

/-- java/lang/Cloneable -/
def k21 : Class := { plain "java/lang/Cloneable" (some 0) with
  accessFlags := 1537
  interfaces := #[]
  cf := some (fileOf pool21 2 #[] #[] 1537 4 #[] #[])
  fields := #[]
  methods := #[]
  instanceTypes := #[]
  staticTypes := #[]
  resolved := Array.replicate 8 none
  statics := none }

/-- the primitive byte -/
def k22 : Class := { plain "byte" none with kind := .primitive 'B', accessFlags := 0x411 }
/-- [B -/
def k23 : Class := { plain "[B" (some 0) with kind := .array 22 .byte, interfaces := #[21, 6], accessFlags := 1041 }

/-- the primitive int -/
def k24 : Class := { plain "int" none with kind := .primitive 'I', accessFlags := 0x411 }
/-- [I -/
def k25 : Class := { plain "[I" (some 0) with kind := .array 24 .int, interfaces := #[21, 6], accessFlags := 1041 }

def heap : Heap := #[{ cls := 11, slots := #[.long 0, .int 1, .null, .int 0, .null, .int 0, .int 0], vm := .statics 11 },
  { cls := 14, slots := #[.int 0, .int 0, .null, .null, .ref 4, .ref 3, .int 0, .int 0, .long 0], vm := .statics 14 },
  { cls := 20, slots := #[.null, .null, .null], vm := .statics 20 },
  { cls := 23, slots := #[.int 48, .int 49, .int 50, .int 51, .int 52, .int 53, .int 54, .int 55, .int 56, .int 57, .int 48, .int 49, .int 50, .int 51, .int 52, .int 53, .int 54, .int 55, .int 56, .int 57, .int 48, .int 49, .int 50, .int 51, .int 52, .int 53, .int 54, .int 55, .int 56, .int 57, .int 48, .int 49, .int 50, .int 51, .int 52, .int 53, .int 54, .int 55, .int 56, .int 57, .int 48, .int 49, .int 50, .int 51, .int 52, .int 53, .int 54, .int 55, .int 56, .int 57, .int 48, .int 49, .int 50, .int 51, .int 52, .int 53, .int 54, .int 55, .int 56, .int 57, .int 48, .int 49, .int 50, .int 51, .int 52, .int 53, .int 54, .int 55, .int 56, .int 57, .int 48, .int 49, .int 50, .int 51, .int 52, .int 53, .int 54, .int 55, .int 56, .int 57, .int 48, .int 49, .int 50, .int 51, .int 52, .int 53, .int 54, .int 55, .int 56, .int 57, .int 48, .int 49, .int 50, .int 51, .int 52, .int 53, .int 54, .int 55, .int 56, .int 57], vm := .none },
  { cls := 23, slots := #[.int 48, .int 48, .int 48, .int 48, .int 48, .int 48, .int 48, .int 48, .int 48, .int 48, .int 49, .int 49, .int 49, .int 49, .int 49, .int 49, .int 49, .int 49, .int 49, .int 49, .int 50, .int 50, .int 50, .int 50, .int 50, .int 50, .int 50, .int 50, .int 50, .int 50, .int 51, .int 51, .int 51, .int 51, .int 51, .int 51, .int 51, .int 51, .int 51, .int 51, .int 52, .int 52, .int 52, .int 52, .int 52, .int 52, .int 52, .int 52, .int 52, .int 52, .int 53, .int 53, .int 53, .int 53, .int 53, .int 53, .int 53, .int 53, .int 53, .int 53, .int 54, .int 54, .int 54, .int 54, .int 54, .int 54, .int 54, .int 54, .int 54, .int 54, .int 55, .int 55, .int 55, .int 55, .int 55, .int 55, .int 55, .int 55, .int 55, .int 55, .int 56, .int 56, .int 56, .int 56, .int 56, .int 56, .int 56, .int 56, .int 56, .int 56, .int 57, .int 57, .int 57, .int 57, .int 57, .int 57, .int 57, .int 57, .int 57, .int 57], vm := .none }]
def classes : Array Class := #[k0, k1, k2, k3, k4, k5, k6, k7, k8, k9, k10, k11, k12, k13, k14, k15, k16, k17, k18, k19, k20, k21, k22, k23, k24, k25]
def interned : List (Array UInt16 × Addr) := []
def slotsUsed : Nat := 219
def theMethod : MethodId := ⟨1, 1⟩
def args0 : Array Value := #[.long 5, .long 7]
def aboutOver (below : List Frame) : State where
  vm := { classes := classes, interned := interned.toArray }
  heap := heap
  slotsUsed := slotsUsed
  threads := #[{ frames := .invoking theMethod args0 :: below }]
def below0 : List Frame := [.native { method := ⟨0, 0⟩, args := #[] }]
def about1 : State := aboutOver below0
def p0 : Program := .bare "" "" ""
def e0 : Env := launch0.env 0 0 0
theorem w_frames : about1.frames = Frame.invoking theMethod args0 :: below0 := rfl
set_option maxRecDepth 65536 in
theorem w_args : argsFit about1.vm theMethod args0 = true := by decide +kernel
set_option maxRecDepth 65536 in
theorem w_heap : heapFits about1 = true := by decide +kernel
set_option maxRecDepth 65536 in
theorem w_runnable : about1.curStatus? = some .runnable := by decide +kernel
set_option maxRecDepth 65536 in
theorem w_alone : about1.alone = true := by decide +kernel
set_option maxRecDepth 65536 in
theorem w_named : about1.methodNamed? x = some theMethod := by decide +kernel
set_option maxRecDepth 65536 in
theorem w_hears : about1.hears theMethod below0 = true := by decide +kernel
set_option maxRecDepth 65536 in
theorem w_ripe : about1.ripe theMethod args0 below0 = true := by decide +kernel
theorem w_running : about1.status = .running := rfl
set_option maxRecDepth 65536 in
theorem w_room : about1.hasRoom e0.platform room_1 = true :=
  launch0.hasRoom_least _ room_1 (by decide +kernel) (by decide +kernel) (by decide +kernel) (by decide +kernel) (by decide +kernel) (by decide +kernel)
theorem allAtoms_all (ts : List Jvm.Cond) (a : Array Jvm.Value) (st : Jvm.State) : (allAtoms ts).before a st = ts.all (fun c => c.before a st) := by
  induction ts with
  | nil => rfl
  | cons c t ih =>
    show (Jvm.Cond.and c (allAtoms t)).before a st = _
    rw [Jvm.Cond.before_and, ih, List.all_cons]
def words1 : List Jvm.Cond := Jvm.Cond.code x code maxLocals ret :: tables_1
/-- a 'code' word, met by the world's own term for the bytes: nothing is compared byte by byte -/
theorem code_word {y : MethodName} {bytes : ByteArray} {mx : Nat} {rt : Option FieldType} {a : Array Value} {s : State} {m : MethodId} {meth : Method} {c : Code} (h1 : s.methodNamed? y = some m) (h2 : s.vm.method? m = some meth) (h3 : meth.code = some c) (h4 : c.code = bytes)
    (h5 : (c.maxLocals == mx && c.exceptionTable.isEmpty && decide (c.maxStack ≤ mostOperands) && decide (meth.sig.returnType = rt) && !meth.locks && decide (parseMethodDescriptor y.desc = some meth.sig)) = true) : (Jvm.Cond.code y bytes mx rt).before a s = true := by
  simp only [Bool.and_eq_true, beq_iff_eq, Bool.not_eq_true', decide_eq_true_eq] at h5
  obtain ⟨⟨⟨⟨⟨g1, g2⟩, g3⟩, g4⟩, g5⟩, g6⟩ := h5
  simp [Cond.before, Cond.holds, Cond.value, h1, h2, h3, h4, g1, g2, g3, g4, g5, g6]
def isCode : Jvm.Cond → Bool
  | .code _ _ _ _ => true
  | _ => false
theorem all_split {L : List Jvm.Cond} {P : Jvm.Cond → Bool} (h1 : L.all (fun c => isCode c || P c) = true) (h2 : ∀ c ∈ L.filter isCode, P c = true) : L.all P = true := by
  refine List.all_eq_true.mpr fun c hc => ?_
  have h := List.all_eq_true.mp h1 c hc
  rcases Bool.eq_false_or_eq_true (isCode c) with hi | hi
  · exact h2 c (List.mem_filter.mpr ⟨hc, hi⟩)
  · simpa [hi] using h
set_option maxRecDepth 65536 in
theorem w_c0 : (Jvm.Cond.code x code maxLocals ret).before args0 about1 = true := code_word (m := ⟨1, 1⟩) (meth := k1m1) (c := k1c1) (by decide +kernel) rfl rfl rfl (by decide +kernel)
set_option maxRecDepth 65536 in
theorem w_c1 : (Jvm.Cond.code ({ cls := "com/example/hamster/hamster/TreeCount", name := "<init>", desc := "()V" } : Jvm.MethodName) prog_13_method_1_code (1 : Nat) (Option.none : Option Jvm.ClassFile.FieldType)).before args0 about1 = true := code_word (m := ⟨2, 0⟩) (meth := k2m0) (c := k2c0) (by decide +kernel) rfl rfl rfl (by decide +kernel)
set_option maxRecDepth 65536 in
theorem w_c2 : (Jvm.Cond.code ({ cls := "java/lang/Object", name := "<init>", desc := "()V" } : Jvm.MethodName) object_method_1_code (1 : Nat) (Option.none : Option Jvm.ClassFile.FieldType)).before args0 about1 = true := code_word (m := ⟨0, 0⟩) (meth := k0m0) (c := k0c0) (by decide +kernel) rfl rfl rfl (by decide +kernel)
set_option maxRecDepth 65536 in
theorem w_c3 : (Jvm.Cond.code ({ cls := "com/example/hamster/hamster/TreeCount", name := "addFile", desc := "(J)V" } : Jvm.MethodName) prog_13_method_3_code (3 : Nat) (Option.none : Option Jvm.ClassFile.FieldType)).before args0 about1 = true := code_word (m := ⟨2, 1⟩) (meth := k2m1) (c := k2c1) (by decide +kernel) rfl rfl rfl (by decide +kernel)
set_option maxRecDepth 65536 in
theorem w_c4 : (Jvm.Cond.code ({ cls := "com/example/hamster/hamster/TreeCount", name := "toString", desc := "()Ljava/lang/String;" } : Jvm.MethodName) prog_13_method_4_code (1 : Nat) (Option.some (Jvm.ClassFile.FieldType.object "java/lang/String"))).before args0 about1 = true := code_word (m := ⟨2, 2⟩) (meth := k2m2) (c := k2c2) (by decide +kernel) rfl rfl rfl (by decide +kernel)
set_option maxRecDepth 65536 in
theorem w_c5 : (Jvm.Cond.code ({ cls := "java/lang/StringBuilder", name := "<init>", desc := "()V" } : Jvm.MethodName) jdk_67_method_1_code (1 : Nat) (Option.none : Option Jvm.ClassFile.FieldType)).before args0 about1 = true := code_word (m := ⟨8, 0⟩) (meth := k8m0) (c := k8c0) (by decide +kernel) rfl rfl rfl (by decide +kernel)
set_option maxRecDepth 65536 in
theorem w_c6 : (Jvm.Cond.code ({ cls := "java/lang/AbstractStringBuilder", name := "<init>", desc := "(I)V" } : Jvm.MethodName) jdk_68_method_2_code (2 : Nat) (Option.none : Option Jvm.ClassFile.FieldType)).before args0 about1 = true := code_word (m := ⟨5, 1⟩) (meth := k5m1) (c := k5c1) (by decide +kernel) rfl rfl rfl (by decide +kernel)
set_option maxRecDepth 65536 in
theorem w_c7 : (Jvm.Cond.code ({ cls := "java/lang/StringBuilder", name := "append", desc := "(J)Ljava/lang/StringBuilder;" } : Jvm.MethodName) jdk_67_method_16_code (3 : Nat) (Option.some (Jvm.ClassFile.FieldType.object "java/lang/StringBuilder"))).before args0 about1 = true := code_word (m := ⟨8, 2⟩) (meth := k8m2) (c := k8c2) (by decide +kernel) rfl rfl rfl (by decide +kernel)
set_option maxRecDepth 65536 in
theorem w_c8 : (Jvm.Cond.code ({ cls := "java/lang/AbstractStringBuilder", name := "append", desc := "(J)Ljava/lang/AbstractStringBuilder;" } : Jvm.MethodName) jdk_68_method_33_code (5 : Nat) (Option.some (Jvm.ClassFile.FieldType.object "java/lang/AbstractStringBuilder"))).before args0 about1 = true := code_word (m := ⟨5, 6⟩) (meth := k5m6) (c := k5c6) (by decide +kernel) rfl rfl rfl (by decide +kernel)
set_option maxRecDepth 65536 in
theorem w_c9 : (Jvm.Cond.code ({ cls := "java/lang/Long", name := "stringSize", desc := "(J)I" } : Jvm.MethodName) jdk_35_method_15_code (6 : Nat) (Option.some Jvm.ClassFile.FieldType.int)).before args0 about1 = true := code_word (m := ⟨13, 1⟩) (meth := k13m1) (c := k13c1) (by decide +kernel) rfl rfl rfl (by decide +kernel)
set_option maxRecDepth 65536 in
theorem w_c10 : (Jvm.Cond.code ({ cls := "java/lang/AbstractStringBuilder", name := "ensureCapacityInternal", desc := "(I)V" } : Jvm.MethodName) jdk_68_method_9_code (3 : Nat) (Option.none : Option Jvm.ClassFile.FieldType)).before args0 about1 = true := code_word (m := ⟨5, 3⟩) (meth := k5m3) (c := k5c3) (by decide +kernel) rfl rfl rfl (by decide +kernel)
set_option maxRecDepth 65536 in
theorem w_c11 : (Jvm.Cond.code ({ cls := "java/lang/AbstractStringBuilder", name := "isLatin1", desc := "()Z" } : Jvm.MethodName) jdk_68_method_68_code (1 : Nat) (Option.some Jvm.ClassFile.FieldType.boolean)).before args0 about1 = true := code_word (m := ⟨5, 8⟩) (meth := k5m8) (c := k5c8) (by decide +kernel) rfl rfl rfl (by decide +kernel)
set_option maxRecDepth 65536 in
theorem w_c12 : (Jvm.Cond.code ({ cls := "java/lang/Long", name := "getChars", desc := "(JI[B)I" } : Jvm.MethodName) jdk_35_method_14_code (11 : Nat) (Option.some Jvm.ClassFile.FieldType.int)).before args0 about1 = true := code_word (m := ⟨13, 0⟩) (meth := k13m0) (c := k13c0) (by decide +kernel) rfl rfl rfl (by decide +kernel)
set_option maxRecDepth 65536 in
theorem w_c13 : (Jvm.Cond.code ({ cls := "java/lang/StringBuilder", name := "append", desc := "(Ljava/lang/String;)Ljava/lang/StringBuilder;" } : Jvm.MethodName) jdk_67_method_7_code (2 : Nat) (Option.some (Jvm.ClassFile.FieldType.object "java/lang/StringBuilder"))).before args0 about1 = true := code_word (m := ⟨8, 1⟩) (meth := k8m1) (c := k8c1) (by decide +kernel) rfl rfl rfl (by decide +kernel)
set_option maxRecDepth 65536 in
theorem w_c14 : (Jvm.Cond.code ({ cls := "java/lang/AbstractStringBuilder", name := "append", desc := "(Ljava/lang/String;)Ljava/lang/AbstractStringBuilder;" } : Jvm.MethodName) jdk_68_method_22_code (3 : Nat) (Option.some (Jvm.ClassFile.FieldType.object "java/lang/AbstractStringBuilder"))).before args0 about1 = true := code_word (m := ⟨5, 5⟩) (meth := k5m5) (c := k5c5) (by decide +kernel) rfl rfl rfl (by decide +kernel)
set_option maxRecDepth 65536 in
theorem w_c15 : (Jvm.Cond.code ({ cls := "java/lang/String", name := "length", desc := "()I" } : Jvm.MethodName) jdk_42_method_54_code (1 : Nat) (Option.some Jvm.ClassFile.FieldType.int)).before args0 about1 = true := code_word (m := ⟨11, 2⟩) (meth := k11m2) (c := k11c2) (by decide +kernel) rfl rfl rfl (by decide +kernel)
set_option maxRecDepth 65536 in
theorem w_c16 : (Jvm.Cond.code ({ cls := "java/lang/String", name := "coder", desc := "()B" } : Jvm.MethodName) jdk_42_method_152_code (1 : Nat) (Option.some Jvm.ClassFile.FieldType.byte)).before args0 about1 = true := code_word (m := ⟨11, 6⟩) (meth := k11m6) (c := k11c6) (by decide +kernel) rfl rfl rfl (by decide +kernel)
set_option maxRecDepth 65536 in
theorem w_c17 : (Jvm.Cond.code ({ cls := "java/lang/AbstractStringBuilder", name := "putStringAt", desc := "(ILjava/lang/String;)V" } : Jvm.MethodName) jdk_68_method_73_code (3 : Nat) (Option.none : Option Jvm.ClassFile.FieldType)).before args0 about1 = true := code_word (m := ⟨5, 10⟩) (meth := k5m10) (c := k5c10) (by decide +kernel) rfl rfl rfl (by decide +kernel)
set_option maxRecDepth 65536 in
theorem w_c18 : (Jvm.Cond.code ({ cls := "java/lang/AbstractStringBuilder", name := "inflateIfNeededFor", desc := "(Ljava/lang/String;)V" } : Jvm.MethodName) jdk_68_method_71_code (2 : Nat) (Option.none : Option Jvm.ClassFile.FieldType)).before args0 about1 = true := code_word (m := ⟨5, 9⟩) (meth := k5m9) (c := k5c9) (by decide +kernel) rfl rfl rfl (by decide +kernel)
set_option maxRecDepth 65536 in
theorem w_c19 : (Jvm.Cond.code ({ cls := "java/lang/String", name := "getBytes", desc := "([BIB)V" } : Jvm.MethodName) jdk_42_method_147_code (4 : Nat) (Option.none : Option Jvm.ClassFile.FieldType)).before args0 about1 = true := code_word (m := ⟨11, 4⟩) (meth := k11m4) (c := k11c4) (by decide +kernel) rfl rfl rfl (by decide +kernel)
set_option maxRecDepth 65536 in
theorem w_c20 : (Jvm.Cond.code ({ cls := "java/lang/AbstractStringBuilder", name := "newCapacity", desc := "(I)I" } : Jvm.MethodName) jdk_68_method_10_code (6 : Nat) (Option.some Jvm.ClassFile.FieldType.int)).before args0 about1 = true := code_word (m := ⟨5, 4⟩) (meth := k5m4) (c := k5c4) (by decide +kernel) rfl rfl rfl (by decide +kernel)
set_option maxRecDepth 65536 in
theorem w_c21 : (Jvm.Cond.code ({ cls := "jdk/internal/util/ArraysSupport", name := "newLength", desc := "(III)I" } : Jvm.MethodName) jdk_48_method_27_code (4 : Nat) (Option.some Jvm.ClassFile.FieldType.int)).before args0 about1 = true := code_word (m := ⟨16, 1⟩) (meth := k16m1) (c := k16c1) (by decide +kernel) rfl rfl rfl (by decide +kernel)
set_option maxRecDepth 65536 in
theorem w_c22 : (Jvm.Cond.code ({ cls := "java/lang/Math", name := "max", desc := "(II)I" } : Jvm.MethodName) jdk_29_method_65_code (2 : Nat) (Option.some Jvm.ClassFile.FieldType.int)).before args0 about1 = true := code_word (m := ⟨17, 1⟩) (meth := k17m1) (c := k17c1) (by decide +kernel) rfl rfl rfl (by decide +kernel)
set_option maxRecDepth 65536 in
theorem w_c23 : (Jvm.Cond.code ({ cls := "java/util/Arrays", name := "copyOf", desc := "([BI)[B" } : Jvm.MethodName) jdk_65_method_121_code (3 : Nat) (Option.some (Jvm.ClassFile.FieldType.array Jvm.ClassFile.FieldType.byte))).before args0 about1 = true := code_word (m := ⟨18, 1⟩) (meth := k18m1) (c := k18c1) (by decide +kernel) rfl rfl rfl (by decide +kernel)
set_option maxRecDepth 65536 in
theorem w_c24 : (Jvm.Cond.code ({ cls := "java/lang/Math", name := "min", desc := "(II)I" } : Jvm.MethodName) jdk_29_method_69_code (2 : Nat) (Option.some Jvm.ClassFile.FieldType.int)).before args0 about1 = true := code_word (m := ⟨17, 2⟩) (meth := k17m2) (c := k17c2) (by decide +kernel) rfl rfl rfl (by decide +kernel)
set_option maxRecDepth 65536 in
theorem w_c25 : (Jvm.Cond.code ({ cls := "java/lang/StringBuilder", name := "toString", desc := "()Ljava/lang/String;" } : Jvm.MethodName) jdk_67_method_42_code (1 : Nat) (Option.some (Jvm.ClassFile.FieldType.object "java/lang/String"))).before args0 about1 = true := code_word (m := ⟨8, 3⟩) (meth := k8m3) (c := k8c3) (by decide +kernel) rfl rfl rfl (by decide +kernel)
set_option maxRecDepth 65536 in
theorem w_c26 : (Jvm.Cond.code ({ cls := "java/lang/String", name := "<init>", desc := "(Ljava/lang/StringBuilder;)V" } : Jvm.MethodName) jdk_42_method_53_code (2 : Nat) (Option.none : Option Jvm.ClassFile.FieldType)).before args0 about1 = true := code_word (m := ⟨11, 1⟩) (meth := k11m1) (c := k11c1) (by decide +kernel) rfl rfl rfl (by decide +kernel)
set_option maxRecDepth 65536 in
theorem w_c27 : (Jvm.Cond.code ({ cls := "java/lang/String", name := "<init>", desc := "(Ljava/lang/AbstractStringBuilder;Ljava/lang/Void;)V" } : Jvm.MethodName) jdk_42_method_150_code (5 : Nat) (Option.none : Option Jvm.ClassFile.FieldType)).before args0 about1 = true := code_word (m := ⟨11, 5⟩) (meth := k11m5) (c := k11c5) (by decide +kernel) rfl rfl rfl (by decide +kernel)
set_option maxRecDepth 65536 in
theorem w_c28 : (Jvm.Cond.code ({ cls := "java/lang/AbstractStringBuilder", name := "getValue", desc := "()[B" } : Jvm.MethodName) jdk_68_method_64_code (1 : Nat) (Option.some (Jvm.ClassFile.FieldType.array Jvm.ClassFile.FieldType.byte))).before args0 about1 = true := code_word (m := ⟨5, 7⟩) (meth := k5m7) (c := k5c7) (by decide +kernel) rfl rfl rfl (by decide +kernel)
set_option maxRecDepth 65536 in
theorem w_c29 : (Jvm.Cond.code ({ cls := "java/lang/StringBuilder", name := "length", desc := "()I" } : Jvm.MethodName) jdk_67_method_93_code (1 : Nat) (Option.some Jvm.ClassFile.FieldType.int)).before args0 about1 = true := code_word (m := ⟨8, 4⟩) (meth := k8m4) (c := k8c4) (by decide +kernel) rfl rfl rfl (by decide +kernel)
set_option maxRecDepth 65536 in
theorem w_c30 : (Jvm.Cond.code ({ cls := "java/lang/AbstractStringBuilder", name := "length", desc := "()I" } : Jvm.MethodName) jdk_68_method_6_code (1 : Nat) (Option.some Jvm.ClassFile.FieldType.int)).before args0 about1 = true := code_word (m := ⟨5, 2⟩) (meth := k5m2) (c := k5c2) (by decide +kernel) rfl rfl rfl (by decide +kernel)
set_option maxRecDepth 65536 in
theorem w_c31 : (Jvm.Cond.code ({ cls := "java/util/Arrays", name := "copyOfRange", desc := "([BII)[B" } : Jvm.MethodName) jdk_65_method_132_code (3 : Nat) (Option.some (Jvm.ClassFile.FieldType.array Jvm.ClassFile.FieldType.byte))).before args0 about1 = true := code_word (m := ⟨18, 3⟩) (meth := k18m3) (c := k18c3) (by decide +kernel) rfl rfl rfl (by decide +kernel)
set_option maxRecDepth 65536 in
theorem w_c32 : (Jvm.Cond.code ({ cls := "java/util/Arrays", name := "copyOfRangeByte", desc := "([BII)[B" } : Jvm.MethodName) jdk_65_method_133_code (5 : Nat) (Option.some (Jvm.ClassFile.FieldType.array Jvm.ClassFile.FieldType.byte))).before args0 about1 = true := code_word (m := ⟨18, 4⟩) (meth := k18m4) (c := k18c4) (by decide +kernel) rfl rfl rfl (by decide +kernel)
set_option maxRecDepth 65536 in
theorem w_c33 : (Jvm.Cond.code ({ cls := "java/util/Arrays", name := "checkLength", desc := "(II)V" } : Jvm.MethodName) jdk_65_method_131_code (2 : Nat) (Option.none : Option Jvm.ClassFile.FieldType)).before args0 about1 = true := code_word (m := ⟨18, 2⟩) (meth := k18m2) (c := k18c2) (by decide +kernel) rfl rfl rfl (by decide +kernel)
set_option maxRecDepth 65536 in
theorem w_c34 : (Jvm.Cond.code ({ cls := "java/lang/String", name := "equals", desc := "(Ljava/lang/Object;)Z" } : Jvm.MethodName) jdk_42_method_66_code (3 : Nat) (Option.some Jvm.ClassFile.FieldType.boolean)).before args0 about1 = true := code_word (m := ⟨11, 3⟩) (meth := k11m3) (c := k11c3) (by decide +kernel) rfl rfl rfl (by decide +kernel)
set_option maxRecDepth 65536 in
theorem w_c35 : (Jvm.Cond.code ({ cls := "java/lang/StringLatin1", name := "equals", desc := "([B[B)Z" } : Jvm.MethodName) jdk_43_method_13_code (3 : Nat) (Option.some Jvm.ClassFile.FieldType.boolean)).before args0 about1 = true := code_word (m := ⟨19, 1⟩) (meth := k19m1) (c := k19c1) (by decide +kernel) rfl rfl rfl (by decide +kernel)
def codes1 : List Jvm.Cond := [Jvm.Cond.code x code maxLocals ret, Jvm.Cond.code ({ cls := "com/example/hamster/hamster/TreeCount", name := "<init>", desc := "()V" } : Jvm.MethodName) prog_13_method_1_code (1 : Nat) (Option.none : Option Jvm.ClassFile.FieldType), Jvm.Cond.code ({ cls := "java/lang/Object", name := "<init>", desc := "()V" } : Jvm.MethodName) object_method_1_code (1 : Nat) (Option.none : Option Jvm.ClassFile.FieldType), Jvm.Cond.code ({ cls := "com/example/hamster/hamster/TreeCount", name := "addFile", desc := "(J)V" } : Jvm.MethodName) prog_13_method_3_code (3 : Nat) (Option.none : Option Jvm.ClassFile.FieldType), Jvm.Cond.code ({ cls := "com/example/hamster/hamster/TreeCount", name := "toString", desc := "()Ljava/lang/String;" } : Jvm.MethodName) prog_13_method_4_code (1 : Nat) (Option.some (Jvm.ClassFile.FieldType.object "java/lang/String")), Jvm.Cond.code ({ cls := "java/lang/StringBuilder", name := "<init>", desc := "()V" } : Jvm.MethodName) jdk_67_method_1_code (1 : Nat) (Option.none : Option Jvm.ClassFile.FieldType), Jvm.Cond.code ({ cls := "java/lang/AbstractStringBuilder", name := "<init>", desc := "(I)V" } : Jvm.MethodName) jdk_68_method_2_code (2 : Nat) (Option.none : Option Jvm.ClassFile.FieldType), Jvm.Cond.code ({ cls := "java/lang/StringBuilder", name := "append", desc := "(J)Ljava/lang/StringBuilder;" } : Jvm.MethodName) jdk_67_method_16_code (3 : Nat) (Option.some (Jvm.ClassFile.FieldType.object "java/lang/StringBuilder")), Jvm.Cond.code ({ cls := "java/lang/AbstractStringBuilder", name := "append", desc := "(J)Ljava/lang/AbstractStringBuilder;" } : Jvm.MethodName) jdk_68_method_33_code (5 : Nat) (Option.some (Jvm.ClassFile.FieldType.object "java/lang/AbstractStringBuilder")), Jvm.Cond.code ({ cls := "java/lang/Long", name := "stringSize", desc := "(J)I" } : Jvm.MethodName) jdk_35_method_15_code (6 : Nat) (Option.some Jvm.ClassFile.FieldType.int), Jvm.Cond.code ({ cls := "java/lang/AbstractStringBuilder", name := "ensureCapacityInternal", desc := "(I)V" } : Jvm.MethodName) jdk_68_method_9_code (3 : Nat) (Option.none : Option Jvm.ClassFile.FieldType), Jvm.Cond.code ({ cls := "java/lang/AbstractStringBuilder", name := "isLatin1", desc := "()Z" } : Jvm.MethodName) jdk_68_method_68_code (1 : Nat) (Option.some Jvm.ClassFile.FieldType.boolean), Jvm.Cond.code ({ cls := "java/lang/Long", name := "getChars", desc := "(JI[B)I" } : Jvm.MethodName) jdk_35_method_14_code (11 : Nat) (Option.some Jvm.ClassFile.FieldType.int), Jvm.Cond.code ({ cls := "java/lang/StringBuilder", name := "append", desc := "(Ljava/lang/String;)Ljava/lang/StringBuilder;" } : Jvm.MethodName) jdk_67_method_7_code (2 : Nat) (Option.some (Jvm.ClassFile.FieldType.object "java/lang/StringBuilder")), Jvm.Cond.code ({ cls := "java/lang/AbstractStringBuilder", name := "append", desc := "(Ljava/lang/String;)Ljava/lang/AbstractStringBuilder;" } : Jvm.MethodName) jdk_68_method_22_code (3 : Nat) (Option.some (Jvm.ClassFile.FieldType.object "java/lang/AbstractStringBuilder")), Jvm.Cond.code ({ cls := "java/lang/String", name := "length", desc := "()I" } : Jvm.MethodName) jdk_42_method_54_code (1 : Nat) (Option.some Jvm.ClassFile.FieldType.int), Jvm.Cond.code ({ cls := "java/lang/String", name := "coder", desc := "()B" } : Jvm.MethodName) jdk_42_method_152_code (1 : Nat) (Option.some Jvm.ClassFile.FieldType.byte), Jvm.Cond.code ({ cls := "java/lang/AbstractStringBuilder", name := "putStringAt", desc := "(ILjava/lang/String;)V" } : Jvm.MethodName) jdk_68_method_73_code (3 : Nat) (Option.none : Option Jvm.ClassFile.FieldType), Jvm.Cond.code ({ cls := "java/lang/AbstractStringBuilder", name := "inflateIfNeededFor", desc := "(Ljava/lang/String;)V" } : Jvm.MethodName) jdk_68_method_71_code (2 : Nat) (Option.none : Option Jvm.ClassFile.FieldType), Jvm.Cond.code ({ cls := "java/lang/String", name := "getBytes", desc := "([BIB)V" } : Jvm.MethodName) jdk_42_method_147_code (4 : Nat) (Option.none : Option Jvm.ClassFile.FieldType), Jvm.Cond.code ({ cls := "java/lang/AbstractStringBuilder", name := "newCapacity", desc := "(I)I" } : Jvm.MethodName) jdk_68_method_10_code (6 : Nat) (Option.some Jvm.ClassFile.FieldType.int), Jvm.Cond.code ({ cls := "jdk/internal/util/ArraysSupport", name := "newLength", desc := "(III)I" } : Jvm.MethodName) jdk_48_method_27_code (4 : Nat) (Option.some Jvm.ClassFile.FieldType.int), Jvm.Cond.code ({ cls := "java/lang/Math", name := "max", desc := "(II)I" } : Jvm.MethodName) jdk_29_method_65_code (2 : Nat) (Option.some Jvm.ClassFile.FieldType.int), Jvm.Cond.code ({ cls := "java/util/Arrays", name := "copyOf", desc := "([BI)[B" } : Jvm.MethodName) jdk_65_method_121_code (3 : Nat) (Option.some (Jvm.ClassFile.FieldType.array Jvm.ClassFile.FieldType.byte)), Jvm.Cond.code ({ cls := "java/lang/Math", name := "min", desc := "(II)I" } : Jvm.MethodName) jdk_29_method_69_code (2 : Nat) (Option.some Jvm.ClassFile.FieldType.int), Jvm.Cond.code ({ cls := "java/lang/StringBuilder", name := "toString", desc := "()Ljava/lang/String;" } : Jvm.MethodName) jdk_67_method_42_code (1 : Nat) (Option.some (Jvm.ClassFile.FieldType.object "java/lang/String")), Jvm.Cond.code ({ cls := "java/lang/String", name := "<init>", desc := "(Ljava/lang/StringBuilder;)V" } : Jvm.MethodName) jdk_42_method_53_code (2 : Nat) (Option.none : Option Jvm.ClassFile.FieldType), Jvm.Cond.code ({ cls := "java/lang/String", name := "<init>", desc := "(Ljava/lang/AbstractStringBuilder;Ljava/lang/Void;)V" } : Jvm.MethodName) jdk_42_method_150_code (5 : Nat) (Option.none : Option Jvm.ClassFile.FieldType), Jvm.Cond.code ({ cls := "java/lang/AbstractStringBuilder", name := "getValue", desc := "()[B" } : Jvm.MethodName) jdk_68_method_64_code (1 : Nat) (Option.some (Jvm.ClassFile.FieldType.array Jvm.ClassFile.FieldType.byte)), Jvm.Cond.code ({ cls := "java/lang/StringBuilder", name := "length", desc := "()I" } : Jvm.MethodName) jdk_67_method_93_code (1 : Nat) (Option.some Jvm.ClassFile.FieldType.int), Jvm.Cond.code ({ cls := "java/lang/AbstractStringBuilder", name := "length", desc := "()I" } : Jvm.MethodName) jdk_68_method_6_code (1 : Nat) (Option.some Jvm.ClassFile.FieldType.int), Jvm.Cond.code ({ cls := "java/util/Arrays", name := "copyOfRange", desc := "([BII)[B" } : Jvm.MethodName) jdk_65_method_132_code (3 : Nat) (Option.some (Jvm.ClassFile.FieldType.array Jvm.ClassFile.FieldType.byte)), Jvm.Cond.code ({ cls := "java/util/Arrays", name := "copyOfRangeByte", desc := "([BII)[B" } : Jvm.MethodName) jdk_65_method_133_code (5 : Nat) (Option.some (Jvm.ClassFile.FieldType.array Jvm.ClassFile.FieldType.byte)), Jvm.Cond.code ({ cls := "java/util/Arrays", name := "checkLength", desc := "(II)V" } : Jvm.MethodName) jdk_65_method_131_code (2 : Nat) (Option.none : Option Jvm.ClassFile.FieldType), Jvm.Cond.code ({ cls := "java/lang/String", name := "equals", desc := "(Ljava/lang/Object;)Z" } : Jvm.MethodName) jdk_42_method_66_code (3 : Nat) (Option.some Jvm.ClassFile.FieldType.boolean), Jvm.Cond.code ({ cls := "java/lang/StringLatin1", name := "equals", desc := "([B[B)Z" } : Jvm.MethodName) jdk_43_method_13_code (3 : Nat) (Option.some Jvm.ClassFile.FieldType.boolean)]
set_option maxRecDepth 65536 in
theorem codes_eq : words1.filter isCode = codes1 := rfl
theorem w_codes : ∀ c ∈ words1.filter isCode, c.before args0 about1 = true := by
  rw [codes_eq]
  intro c hc
  simp only [codes1, List.mem_cons, List.not_mem_nil, or_false] at hc
  rcases hc with rfl | rfl | rfl | rfl | rfl | rfl | rfl | rfl | rfl | rfl | rfl | rfl | rfl | rfl | rfl | rfl | rfl | rfl | rfl | rfl | rfl | rfl | rfl | rfl | rfl | rfl | rfl | rfl | rfl | rfl | rfl | rfl | rfl | rfl | rfl | rfl
  · exact w_c0
  · exact w_c1
  · exact w_c2
  · exact w_c3
  · exact w_c4
  · exact w_c5
  · exact w_c6
  · exact w_c7
  · exact w_c8
  · exact w_c9
  · exact w_c10
  · exact w_c11
  · exact w_c12
  · exact w_c13
  · exact w_c14
  · exact w_c15
  · exact w_c16
  · exact w_c17
  · exact w_c18
  · exact w_c19
  · exact w_c20
  · exact w_c21
  · exact w_c22
  · exact w_c23
  · exact w_c24
  · exact w_c25
  · exact w_c26
  · exact w_c27
  · exact w_c28
  · exact w_c29
  · exact w_c30
  · exact w_c31
  · exact w_c32
  · exact w_c33
  · exact w_c34
  · exact w_c35
set_option maxRecDepth 65536 in
theorem w_t1 : (words1.take 24).all (fun c => isCode c || c.before args0 about1) = true := by decide +kernel
set_option maxRecDepth 65536 in
theorem w_t2 : ((words1.drop 24).take 24).all (fun c => isCode c || c.before args0 about1) = true := by decide +kernel
set_option maxRecDepth 65536 in
theorem w_t3 : (((words1.drop 24).drop 24).take 24).all (fun c => isCode c || c.before args0 about1) = true := by decide +kernel
set_option maxRecDepth 65536 in
theorem w_t4 : ((((words1.drop 24).drop 24).drop 24).take 24).all (fun c => isCode c || c.before args0 about1) = true := by decide +kernel
set_option maxRecDepth 65536 in
theorem w_t5 : (((((words1.drop 24).drop 24).drop 24).drop 24).take 24).all (fun c => isCode c || c.before args0 about1) = true := by decide +kernel
set_option maxRecDepth 65536 in
theorem w_t6 : ((((((words1.drop 24).drop 24).drop 24).drop 24).drop 24).take 24).all (fun c => isCode c || c.before args0 about1) = true := by decide +kernel
set_option maxRecDepth 65536 in
theorem w_t7 : (((((((words1.drop 24).drop 24).drop 24).drop 24).drop 24).drop 24).take 24).all (fun c => isCode c || c.before args0 about1) = true := by decide +kernel
set_option maxRecDepth 65536 in
theorem w_t8 : ((((((((words1.drop 24).drop 24).drop 24).drop 24).drop 24).drop 24).drop 24).take 24).all (fun c => isCode c || c.before args0 about1) = true := by decide +kernel
set_option maxRecDepth 65536 in
theorem w_t9 : ((((((((words1.drop 24).drop 24).drop 24).drop 24).drop 24).drop 24).drop 24).drop 24).all (fun c => isCode c || c.before args0 about1) = true := by decide +kernel
theorem w_tables : (allAtoms (Jvm.Cond.code x code maxLocals ret :: tables_1)).before args0 about1 = true := by
  rw [allAtoms_all]
  show words1.all (fun c => c.before args0 about1) = true
  refine all_split ?_ w_codes
  rw [← List.take_append_drop 24 words1, List.all_append, w_t1, ← List.take_append_drop 24 (words1.drop 24), List.all_append, w_t2, ← List.take_append_drop 24 ((words1.drop 24).drop 24), List.all_append, w_t3, ← List.take_append_drop 24 (((words1.drop 24).drop 24).drop 24), List.all_append, w_t4, ← List.take_append_drop 24 ((((words1.drop 24).drop 24).drop 24).drop 24), List.all_append, w_t5, ← List.take_append_drop 24 (((((words1.drop 24).drop 24).drop 24).drop 24).drop 24), List.all_append, w_t6, ← List.take_append_drop 24 ((((((words1.drop 24).drop 24).drop 24).drop 24).drop 24).drop 24), List.all_append, w_t7, ← List.take_append_drop 24 (((((((words1.drop 24).drop 24).drop 24).drop 24).drop 24).drop 24).drop 24), List.all_append, w_t8, w_t9]
  rfl
set_option maxRecDepth 65536 in
theorem w_rest : rest_1_c.before args0 about1 = true := by decide +kernel
set_option maxRecDepth 65536 in
theorem w_case : (Jvm.Cond.and given_1 narrow_1).before args0 about1 = true := by decide +kernel
set_option maxRecDepth 65536 in
theorem w_consts : constsHeld consts_1 about1 := Jvm.Lit.constsHeldB_iff.mp (by decide +kernel)
theorem w_applies : (headSpec (Jvm.Cond.code x code maxLocals ret :: tables_1) room_1).applies x e0.platform about1 = true :=
  (Spec.applies_iff w_frames).mpr ⟨w_running, w_runnable, w_alone, w_named, w_hears, w_ripe, w_room, w_tables⟩
theorem atStart : AtStart classFile x code maxLocals ret World_1 tables_1 room_1 Calls_1 rest_1 Pre_1 launch0 p0 e0 about1 theMethod args0 below0 :=
  ⟨lists_1, trivial, launch0.admits_env _ _ _, launch0.least_env, fairChoices_fair.cas, fairChoices_fair.clock, w_frames, w_args, w_heap, w_applies, ⟨w_consts, trivial⟩, w_rest, w_case⟩
end start1
theorem witness_1 : WitnessClaimed_1 := ⟨start1.p0, start1.e0, start1.about1, start1.theMethod, start1.args0, start1.below0, start1.atStart⟩
end Jvm.Pilot.@@N@@
