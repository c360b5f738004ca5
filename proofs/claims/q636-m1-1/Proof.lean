import JvmDerived
import JvmDerived.Pilot.@@N@@Statement
import JvmDerived.Pilot.@@N@@Code
set_option linter.unusedVariables false
set_option linter.unusedSimpArgs false
namespace Jvm.RoadKit
open Sem ClassFile Op Lib Jvm.Stand Jvm.Free Jvm.LawKit
section New
variable {p : Program} {l : Launch} {e : Env} {R : Room} {s : State} {m : MethodId} {args : Array Value} {below : List Frame} {meth : Method} {c : Code} {T : State} {locs : List Loc} {cells slots : Nat}
theorem retI (X : Stand p l e R s m args below meth c T locs cells slots) (hx : p.tables.exec = Jvm.exec) {pc : Nat} {Ls : Array Slot} {z : Int32} {rest : List Value} (hret : meth.sig.returnType = some .int) (hd : decode c.code pc = .ok (.ireturn, 1)) {fs : List Frame}
    (hl : ∀ (f : JFrame) (acts : List Action), f.method = m → f.locked = none → f.entered = [] → (doReturn e (T.setTop f) acts (some (.int z))).1 = T.setFrames fs) : Steps p.tables e below (T.setTop (mkF m pc Ls (.int z :: rest))) (T.setFrames fs) := by
  have hm' : T.vm.method? m = some meth := X.method'
  have hn : narrow .int (.int z) = .int z := rfl
  show Steps p.tables e below (T.setTop { method := m, pc := pc, locals := Ls, stack := _ :: rest, locked := none }) _
  jvm_step X.here [X.here.top, hx, hd, hm', hret, hn]
  first | (intro acts; rw [hl _ acts rfl rfl rfl]) | rw [hl _ _ rfl rfl rfl]
  exact Steps.refl _
end New
end Jvm.RoadKit
namespace Jvm.Pilot.@@N@@
open Jvm Jvm.ClassFile Sem Op Lib Jvm.Free Jvm.Stand Jvm.LawKit Jvm.RoadKit Bundle Jvm.Pilot.@@N@@.Jvm.D
def own_get (l : List Int32) (j : Int32) : Int32 := l.getD j.toNatClampNeg 0
theorem own_getV (l : List Int32) (j : Int32) : (l.map Value.int).getD j.toNatClampNeg (.int (0 : Int32)) = .int (own_get l j) := by
  unfold own_get
  rw [List.getD_eq_getElem?_getD, List.getD_eq_getElem?_getD, List.getElem?_map]
  cases l[j.toNatClampNeg]? <;> rfl
theorem own_rem (x d : Int32) (n : Int) (hd : d.toInt = n) (hn : 0 < n) : 0 ≤ ((x &&& (2147483647 : Int32)) % d).toInt ∧ ((x &&& (2147483647 : Int32)) % d).toInt < n := by
  have a : (x &&& (2147483647 : Int32)).toInt = x.toInt % (2 ^ 31 : Nat) := c_mask x 2147483647 31 (by decide) (by decide)
  have b := (c_irem (x &&& (2147483647 : Int32)) d n hd).1 (by omega)
  have q1 := Int.emod_nonneg (x &&& (2147483647 : Int32)).toInt (b := n) (by omega)
  have q2 := Int.emod_lt_of_pos (x &&& (2147483647 : Int32)).toInt hn
  omega
abbrev own_in (j : Int32) (n : Int) : Prop := 0 ≤ j.toInt ∧ j.toInt < n
theorem own_inb {j z : Int32} {n m : Int} (h : own_in j n) (hz : z.toInt = m) (hm : n ≤ m) : ¬ j < 0 ∧ j < z := by
  have k0 : (0 : Int32).toInt = 0 := by decide
  rw [Int32.lt_iff_toInt_lt, Int32.lt_iff_toInt_lt, k0, hz]; unfold own_in at h; omega
theorem own_cnt (x w : Int32) (h : w = ((x &&& (2147483647 : Int32)) % (3 : Int32)) + (1 : Int32)) : 1 ≤ w.toInt ∧ w.toInt ≤ 3 := by
  have a := own_rem x 3 3 (by decide) (by decide)
  have b := c_iadd ((x &&& (2147483647 : Int32)) % (3 : Int32)) 1
  have k1 : (1 : Int32).toInt = 1 := by decide
  have r := rng32 (((x &&& (2147483647 : Int32)) % (3 : Int32)) + (1 : Int32))
  rw [h]; omega
theorem own_cne {w : Int32} (h : 1 ≤ w.toInt ∧ w.toInt ≤ 3) : w ≠ 0 := fun q => by
  have k0 : (0 : Int32).toInt = 0 := by decide
  rw [q] at h; omega
theorem own_sub {w : Int32} (h : 1 ≤ w.toInt ∧ w.toInt ≤ 3) : ¬ ((6 : Int32) - w) < 0 ∧ ((6 : Int32) - w).toNatClampNeg ≤ 5 := by
  have b := c_isub 6 w
  have k6 : (6 : Int32).toInt = 6 := by decide
  have k0 : (0 : Int32).toInt = 0 := by decide
  have r := rng32 ((6 : Int32) - w)
  constructor
  · rw [Int32.lt_iff_toInt_lt, k0]; omega
  · simp only [Int32.toNatClampNeg]; omega
theorem own_pn0 : plainName "com/example/covey/covey/divisive/SplitLog" = true := by first | (simp [plainName, overriddenIn]; done) | decide +kernel
theorem dD_0 : decode prog_24_method_1_code 0 = .ok (.aload_n 0, 1) := by decide +kernel
theorem dD_1 : decode prog_24_method_1_code 1 = .ok (.invokespecial 1, 3) := by decide +kernel
theorem dD_4 : decode prog_24_method_1_code 4 = .ok (.aload_n 0, 1) := by decide +kernel
theorem dD_5 : decode prog_24_method_1_code 5 = .ok (.iload_n 2, 1) := by decide +kernel
theorem dD_6 : decode prog_24_method_1_code 6 = .ok (.putfield 7, 3) := by decide +kernel
theorem dD_9 : decode prog_24_method_1_code 9 = .ok (.aload_n 0, 1) := by decide +kernel
theorem dD_10 : decode prog_24_method_1_code 10 = .ok (.aload_n 1, 1) := by decide +kernel
theorem dD_11 : decode prog_24_method_1_code 11 = .ok (.arraylength, 1) := by decide +kernel
theorem dD_12 : decode prog_24_method_1_code 12 = .ok (.putfield 13, 3) := by decide +kernel
theorem dD_15 : decode prog_24_method_1_code 15 = .ok (.aload_n 0, 1) := by decide +kernel
theorem dD_16 : decode prog_24_method_1_code 16 = .ok (.iload_n 3, 1) := by decide +kernel
theorem dD_17 : decode prog_24_method_1_code 17 = .ok (.newarray .int, 2) := by decide +kernel
theorem dD_19 : decode prog_24_method_1_code 19 = .ok (.putfield 16, 3) := by decide +kernel
theorem dD_22 : decode prog_24_method_1_code 22 = .ok (.aload_n 1, 1) := by decide +kernel
theorem dD_23 : decode prog_24_method_1_code 23 = .ok (.iconst 0, 1) := by decide +kernel
theorem dD_24 : decode prog_24_method_1_code 24 = .ok (.aload_n 0, 1) := by decide +kernel
theorem dD_25 : decode prog_24_method_1_code 25 = .ok (.getfield 16, 3) := by decide +kernel
theorem dD_28 : decode prog_24_method_1_code 28 = .ok (.iconst 0, 1) := by decide +kernel
theorem dD_29 : decode prog_24_method_1_code 29 = .ok (.aload_n 0, 1) := by decide +kernel
theorem dD_30 : decode prog_24_method_1_code 30 = .ok (.getfield 13, 3) := by decide +kernel
theorem dD_33 : decode prog_24_method_1_code 33 = .ok (.invokestatic 20, 3) := by decide +kernel
theorem dD_36 : decode prog_24_method_1_code 36 = .ok (.aload_n 0, 1) := by decide +kernel
theorem dD_37 : decode prog_24_method_1_code 37 = .ok (.iload_n 3, 1) := by decide +kernel
theorem dD_38 : decode prog_24_method_1_code 38 = .ok (.newarray .int, 2) := by decide +kernel
theorem dD_40 : decode prog_24_method_1_code 40 = .ok (.putfield 26, 3) := by decide +kernel
theorem dD_43 : decode prog_24_method_1_code 43 = .ok (.iconst 0, 1) := by decide +kernel
theorem dD_44 : decode prog_24_method_1_code 44 = .ok (.istore 4, 2) := by decide +kernel
theorem dD_46 : decode prog_24_method_1_code 46 = .ok (.iload 4, 2) := by decide +kernel
theorem dD_48 : decode prog_24_method_1_code 48 = .ok (.aload_n 0, 1) := by decide +kernel
theorem dD_49 : decode prog_24_method_1_code 49 = .ok (.getfield 13, 3) := by decide +kernel
theorem dD_52 : decode prog_24_method_1_code 52 = .ok (.if_icmp .ge 18, 3) := by decide +kernel
theorem dD_55 : decode prog_24_method_1_code 55 = .ok (.aload_n 0, 1) := by decide +kernel
theorem dD_56 : decode prog_24_method_1_code 56 = .ok (.getfield 26, 3) := by decide +kernel
theorem dD_59 : decode prog_24_method_1_code 59 = .ok (.iload 4, 2) := by decide +kernel
theorem dD_61 : decode prog_24_method_1_code 61 = .ok (.iload 4, 2) := by decide +kernel
theorem dD_63 : decode prog_24_method_1_code 63 = .ok (.iastore, 1) := by decide +kernel
theorem dD_64 : decode prog_24_method_1_code 64 = .ok (.iinc 4 1, 3) := by decide +kernel
theorem dD_67 : decode prog_24_method_1_code 67 = .ok (.goto (-21), 3) := by decide +kernel
theorem dD_70 : decode prog_24_method_1_code 70 = .ok (.aload_n 0, 1) := by decide +kernel
theorem dD_71 : decode prog_24_method_1_code 71 = .ok (.iload_n 2, 1) := by decide +kernel
theorem dD_72 : decode prog_24_method_1_code 72 = .ok (.putfield 29, 3) := by decide +kernel
theorem dD_75 : decode prog_24_method_1_code 75 = .ok (.aload_n 0, 1) := by decide +kernel
theorem dD_76 : decode prog_24_method_1_code 76 = .ok (.iload_n 3, 1) := by decide +kernel
theorem dD_77 : decode prog_24_method_1_code 77 = .ok (.iload_n 2, 1) := by decide +kernel
theorem dD_78 : decode prog_24_method_1_code 78 = .ok (.isub, 1) := by decide +kernel
theorem dD_79 : decode prog_24_method_1_code 79 = .ok (.newarray .int, 2) := by decide +kernel
theorem dD_81 : decode prog_24_method_1_code 81 = .ok (.putfield 32, 3) := by decide +kernel
theorem dD_84 : decode prog_24_method_1_code 84 = .ok (.aload_n 0, 1) := by decide +kernel
theorem dD_85 : decode prog_24_method_1_code 85 = .ok (.aload_n 0, 1) := by decide +kernel
theorem dD_86 : decode prog_24_method_1_code 86 = .ok (.getfield 32, 3) := by decide +kernel
theorem dD_89 : decode prog_24_method_1_code 89 = .ok (.arraylength, 1) := by decide +kernel
theorem dD_90 : decode prog_24_method_1_code 90 = .ok (.newarray .int, 2) := by decide +kernel
theorem dD_92 : decode prog_24_method_1_code 92 = .ok (.putfield 35, 3) := by decide +kernel
theorem dD_95 : decode prog_24_method_1_code 95 = .ok (.aload_n 0, 1) := by decide +kernel
theorem dD_96 : decode prog_24_method_1_code 96 = .ok (.aload_n 0, 1) := by decide +kernel
theorem dD_97 : decode prog_24_method_1_code 97 = .ok (.getfield 32, 3) := by decide +kernel
theorem dD_100 : decode prog_24_method_1_code 100 = .ok (.arraylength, 1) := by decide +kernel
theorem dD_101 : decode prog_24_method_1_code 101 = .ok (.newarray .int, 2) := by decide +kernel
theorem dD_103 : decode prog_24_method_1_code 103 = .ok (.putfield 38, 3) := by decide +kernel
theorem dD_106 : decode prog_24_method_1_code 106 = .ok (.return_, 1) := by decide +kernel
theorem efD (m : MethodId) (a : Addr) (ca : Addr) (cnt : Int32) : entryFrame m #[(.ref a), (.ref ca), (.int cnt), (.int (6 : Int32))] 5 = mkF m 0 #[.val (.ref a), .val (.ref ca), .val (.int cnt), .val (.int (6 : Int32)), .unset] [] := by first | (simp [entryFrame, mkF, argsToLocals, Value.category]; done) | rfl
def QD (Z : State) (a : Addr) (ca : Addr) (cnt : Int32) (ka : Int32) (kb : Int32) (kc : Int32) (k_ca : ClassId) (h0 : Heap) (n0 : Nat) (v : Option Value) (h : Heap) (L : List Loc) : Prop := ∃ na : Addr, ∃ k_na : ClassId, ∃ va : Addr, ∃ k_va : ClassId, v = none ∧ Fr n0 L ∧ Keep h0 h [a] ∧ n0 ≤ na ∧ h0.size ≤ na ∧ n0 ≤ va ∧ h0.size ≤ va ∧ na ≠ va ∧ Exa Z h a "com/example/covey/covey/divisive/SplitLog" ∧ Fld Z h a "com/example/covey/covey/divisive/SplitLog" "copies" "I" (.int (3 : Int32)) ∧ Fld Z h a "com/example/covey/covey/divisive/SplitLog" "nodeOf" "[I" (.ref na) ∧ Fld Z h a "com/example/covey/covey/divisive/SplitLog" "vertexOf" "[I" (.ref va) ∧ Arv Z h na k_na .int (6 : Int32) [(.int ka), (.int kb), (.int kc), (.int (0 : Int32)), (.int (0 : Int32)), (.int (0 : Int32))] (.int (0 : Int32)) ∧ Arv Z h va k_va .int (6 : Int32) [(.int (0 : Int32)), (.int (1 : Int32)), (.int (2 : Int32)), (.int (0 : Int32)), (.int (0 : Int32)), (.int (0 : Int32))] (.int (0 : Int32))
set_option maxRecDepth 65536 in
set_option maxHeartbeats 40000000 in
theorem rmD (l : Launch) (Z : State) (a0 : Array Value) (hw : ∀ d ∈ tables_1, d.before a0 Z = true) (ws : List Jvm.Cond) (a : Addr) (ca : Addr) (cnt : Int32) (ka : Int32) (kb : Int32) (kc : Int32) (k_ca : ClassId) (h0 : Heap) (n0 : Nat) (Z0 : n0 ≤ h0.size) (E_a : Exa Z h0 a "com/example/covey/covey/divisive/SplitLog") (F_components_a : Fld Z h0 a "com/example/covey/covey/divisive/SplitLog" "components" "I" (.int (0 : Int32))) (F_copies_a : Fld Z h0 a "com/example/covey/covey/divisive/SplitLog" "copies" "I" (.int (0 : Int32))) (F_nodes_a : Fld Z h0 a "com/example/covey/covey/divisive/SplitLog" "nodes" "I" (.int (0 : Int32))) (F_nodeOf_a : Fld Z h0 a "com/example/covey/covey/divisive/SplitLog" "nodeOf" "[I" .null) (F_vertexOf_a : Fld Z h0 a "com/example/covey/covey/divisive/SplitLog" "vertexOf" "[I" .null) (F_parent_a : Fld Z h0 a "com/example/covey/covey/divisive/SplitLog" "parent" "[I" .null) (F_firstPart_a : Fld Z h0 a "com/example/covey/covey/divisive/SplitLog" "firstPart" "[I" .null) (F_secondPart_a : Fld Z h0 a "com/example/covey/covey/divisive/SplitLog" "secondPart" "[I" .null) (g_a : n0 ≤ a) (ne_a_ca : a ≠ ca) (V_ca : Arv Z h0 ca k_ca .int (3 : Int32) [(.int ka), (.int kb), (.int kc)] (.int (0 : Int32))) (hcnt : 1 ≤ cnt.toInt ∧ cnt.toInt ≤ 3) :
    MetFree l (⟨"com/example/covey/covey/divisive/SplitLog", "<init>", "([III)V"⟩ : MethodName) (head1 (Jvm.Cond.code (⟨"com/example/covey/covey/divisive/SplitLog", "<init>", "([III)V"⟩ : MethodName) prog_24_method_1_code 5 none :: ws) ({ frames := 1, cells := 5, slots := 27, locals := 40 } : Room)) (fun av_ U => av_ = #[(.ref a), (.ref ca), (.int cnt), (.int (6 : Int32))] ∧ Z.Warmed39 U.vm ∧ U.heap = h0) (fun _ _ _ _ _ => True) (fun _ U o U' => ∃ v L, o = .returned v ∧ QD Z a ca cnt ka kb kc k_ca h0 n0 v U'.heap L ∧ FrameEnd U o U' L ({ frames := 1, cells := 5, slots := 27, locals := 40 } : Room).cells ({ frames := 1, cells := 5, slots := 27, locals := 40 } : Room).slots) := by
  refine MetFree.of_bodySF (plainFor_of_name own_pn0) hisR ?_
  intro p e s m args below meth c s₁ Bd hml0 hP hK
  obtain ⟨rfl, hZ, hh⟩ := hP
  have hx := Bd.exec
  have hby := Bd.bytes
  have hml : c.maxLocals = 5 := hml0
  have hown : s.vm.findClass "com/example/covey/covey/divisive/SplitLog" = some m.cls := findClass_of_methodNamed Bd.named
  have hnm := (name_of_methodNamed Bd.named Bd.method).1
  have X0 : Stand p l e ({ frames := 1, cells := 5, slots := 27, locals := 40 } : Room) s m #[(.ref a), (.ref ca), (.int cnt), (.int (6 : Int32))] below meth c s₁ [] 0 0 := Stand.of_body Bd
  have e0 : s₁.heap = h0 := by rw [← hh, Bd.state]; rfl
  have N0 := Fr.nil n0
  have pre0 : ∀ t, Steps p.tables e below (s₁.setTop (mkF m 0 #[.val (.ref a), .val (.ref ca), .val (.int cnt), .val (.int (6 : Int32)), .unset] [])) t → Steps p.tables e below (s₁.setTop (entryFrame m #[(.ref a), (.ref ca), (.int cnt), (.int (6 : Int32))] 5)) t := fun t k => castTop (efD m a ca cnt) k
  obtain ⟨T1, X1, e1, st1⟩ := initO X0 hx hZ hown (hw _ (List.mem_of_getElem? (i := 8) rfl)) (hw _ (List.mem_of_getElem? (i := 9) rfl)) (hw _ (List.mem_of_getElem? (i := 10) rfl)) e0 (g := (mkF m 1 #[.val (.ref a), .val (.ref ca), .val (.int cnt), .val (.int (6 : Int32)), .unset] [(.ref a)])) rfl (by rw [hml]; rfl) rfl (hb hby dD_1) (by decide) (W := 0) (by show 2 * 0 + _ ≤ _; exact Nat.le_of_eq rfl) (by decide)
  obtain ⟨T2, h2, X2, e2, W2, st2⟩ := putF X1 hx hZ hown (host := "") (Or.inl (hw _ (List.mem_of_getElem? (i := 11) rfl))) Via.refl e1 F_components_a E_a (Or.inr ⟨(hw _ (List.mem_of_getElem? (i := 12) rfl)), rfl, hnm⟩) (hw _ (List.mem_of_getElem? (i := 3) rfl)) (ty := .int) (by decide) rfl rfl (g := (mkF m 6 #[.val (.ref a), .val (.ref ca), .val (.int cnt), .val (.int (6 : Int32)), .unset] [(.int cnt), (.ref a)])) rfl rfl (hb hby dD_6)
  have F2 : Fld Z h2 a "com/example/covey/covey/divisive/SplitLog" "components" "I" (.int cnt) := Fld.same W2 F_components_a
  have K2 : Keep h0 h2 [a] := (Keep.refl h0 [a]).wr W2 (Or.inl (List.mem_of_getElem? (i := 0) rfl))
  have Zs2 : n0 ≤ h2.size := Nat.le_trans Z0 (Keep.of_wr W2).1
  have N2 := Fr.snoc X2 N0 g_a
  obtain ⟨cl3, Ar3, q3, S3, M3, Hs3, G3⟩ := (V_ca.other W2 (Ne.symm ne_a_ca))
  obtain ⟨T4, h4, X4, e4, W4, st4⟩ := putF X2 hx hZ hown (host := "") (Or.inl (hw _ (List.mem_of_getElem? (i := 13) rfl))) Via.refl e2 (Fld.other W2 F_copies_a (Or.inr (slot_ne (Or.inl (hw _ (List.mem_of_getElem? (i := 14) rfl))) (Or.inr (hw _ (List.mem_of_getElem? (i := 12) rfl))) (by decide) (t := .int) (t' := .int) (by decide) (by decide)))) (E_a.wr W2) (Or.inl (hw _ (List.mem_of_getElem? (i := 14) rfl))) (hw _ (List.mem_of_getElem? (i := 3) rfl)) (ty := .int) (by decide) rfl rfl (g := (mkF m 12 #[.val (.ref a), .val (.ref ca), .val (.int cnt), .val (.int (6 : Int32)), .unset] [(.int (3 : Int32)), (.ref a)])) rfl rfl (hb hby dD_12)
  have F4 : Fld Z h4 a "com/example/covey/covey/divisive/SplitLog" "copies" "I" (.int (3 : Int32)) := Fld.same W4 (Fld.other W2 F_copies_a (Or.inr (slot_ne (Or.inl (hw _ (List.mem_of_getElem? (i := 14) rfl))) (Or.inr (hw _ (List.mem_of_getElem? (i := 12) rfl))) (by decide) (t := .int) (t' := .int) (by decide) (by decide))))
  have K4 : Keep h0 h4 [a] := K2.wr W4 (Or.inl (List.mem_of_getElem? (i := 0) rfl))
  have Zs4 : n0 ≤ h4.size := Nat.le_trans Zs2 (Keep.of_wr W4).1
  have N4 := Fr.snoc X4 N2 g_a
  obtain ⟨T5, h5, k5, X5, e5, E5, A5, st5⟩ := newP X4 hx hZ (hw _ (List.mem_of_getElem? (i := 1) rfl)) e4 (g := (mkF m 17 #[.val (.ref a), .val (.ref ca), .val (.int cnt), .val (.int (6 : Int32)), .unset] [(.int (6 : Int32)), (.ref a)])) rfl (hb hby dD_17) rfl (by decide) (cap := 6) (by decide) (by decide) (by decide) (by decide)
  obtain ⟨b5, g5⟩ : ∃ z, z = h4.size := ⟨_, rfl⟩
  rw [← g5] at A5 st5
  have ne_a_b5 : a ≠ b5 := Nat.ne_of_lt (Nat.lt_of_lt_of_le ((E_a.wr W2).wr W4).lt (Nat.le_of_eq g5.symm))
  have ne_ca_b5 : ca ≠ b5 := Nat.ne_of_lt (Nat.lt_of_lt_of_le ((V_ca.other W2 (Ne.symm ne_a_ca)).other W4 (Ne.symm ne_a_ca)).lt (Nat.le_of_eq g5.symm))
  have g_b5 : n0 ≤ b5 := Nat.le_trans Zs4 (Nat.le_of_eq g5.symm)
  have sz_b5 : h0.size ≤ b5 := Nat.le_trans K4.1 (Nat.le_of_eq g5.symm)
  have K5 : Keep h0 h5 [a] := K4.ext E5
  have Zs5 : n0 ≤ h5.size := Nat.le_trans Zs4 E5.1
  have V5 : Arv Z h5 b5 k5 .int (6 : Int32) [(.int (0 : Int32)), (.int (0 : Int32)), (.int (0 : Int32)), (.int (0 : Int32)), (.int (0 : Int32)), (.int (0 : Int32))] (.int (0 : Int32)) := (Arv.new A5 (by decide)).pad (pad_rep [] (.int (0 : Int32)) 6)
  obtain ⟨T6, h6, X6, e6, W6, st6⟩ := putF X5 hx hZ hown (host := "") (Or.inl (hw _ (List.mem_of_getElem? (i := 15) rfl))) Via.refl e5 ((Fld.other W4 (Fld.other W2 F_nodeOf_a (Or.inr (slot_ne (Or.inr (hw _ (List.mem_of_getElem? (i := 16) rfl))) (Or.inr (hw _ (List.mem_of_getElem? (i := 12) rfl))) (by decide) (t := (.array .int)) (t' := .int) (by decide) (by decide)))) (Or.inr (slot_ne (Or.inr (hw _ (List.mem_of_getElem? (i := 16) rfl))) (Or.inl (hw _ (List.mem_of_getElem? (i := 14) rfl))) (by decide) (t := (.array .int)) (t' := .int) (by decide) (by decide)))).ext E5) (((E_a.wr W2).wr W4).ext E5) (Or.inr ⟨(hw _ (List.mem_of_getElem? (i := 16) rfl)), rfl, hnm⟩) (hw _ (List.mem_of_getElem? (i := 3) rfl)) (ty := (.array .int)) (by decide) rfl rfl (g := (mkF m 19 #[.val (.ref a), .val (.ref ca), .val (.int cnt), .val (.int (6 : Int32)), .unset] [(.ref b5), (.ref a)])) rfl rfl (hb hby dD_19)
  have F6 : Fld Z h6 a "com/example/covey/covey/divisive/SplitLog" "nodeOf" "[I" (.ref b5) := Fld.same W6 ((Fld.other W4 (Fld.other W2 F_nodeOf_a (Or.inr (slot_ne (Or.inr (hw _ (List.mem_of_getElem? (i := 16) rfl))) (Or.inr (hw _ (List.mem_of_getElem? (i := 12) rfl))) (by decide) (t := (.array .int)) (t' := .int) (by decide) (by decide)))) (Or.inr (slot_ne (Or.inr (hw _ (List.mem_of_getElem? (i := 16) rfl))) (Or.inl (hw _ (List.mem_of_getElem? (i := 14) rfl))) (by decide) (t := (.array .int)) (t' := .int) (by decide) (by decide)))).ext E5)
  have K6 : Keep h0 h6 [a] := K5.wr W6 (Or.inl (List.mem_of_getElem? (i := 0) rfl))
  have Zs6 : n0 ≤ h6.size := Nat.le_trans Zs5 (Keep.of_wr W6).1
  have N6 := Fr.snoc X6 N4 g_a
  obtain ⟨T7, X7, e7, st7⟩ := getF X6 hx hZ hown (host := "") (Or.inl (hw _ (List.mem_of_getElem? (i := 15) rfl))) Via.refl e6 F6 (g := (mkF m 25 #[.val (.ref a), .val (.ref ca), .val (.int cnt), .val (.int (6 : Int32)), .unset] [(.ref a), (.int (0 : Int32)), (.ref ca)])) rfl rfl (hb hby dD_25)
  obtain ⟨T8, X8, e8, st8⟩ := getF X7 hx hZ hown (host := "") (Or.inl (hw _ (List.mem_of_getElem? (i := 13) rfl))) Via.refl e7 (Fld.other W6 (F4.ext E5) (Or.inr (slot_ne (Or.inl (hw _ (List.mem_of_getElem? (i := 14) rfl))) (Or.inr (hw _ (List.mem_of_getElem? (i := 16) rfl))) (by decide) (t := .int) (t' := (.array .int)) (by decide) (by decide)))) (g := (mkF m 30 #[.val (.ref a), .val (.ref ca), .val (.int cnt), .val (.int (6 : Int32)), .unset] [(.ref a), (.int (0 : Int32)), (.ref b5), (.int (0 : Int32)), (.ref ca)])) rfl rfl (hb hby dD_30)
  obtain ⟨T9, h9, L9, X9, e9, N9, Kc9, V9', st9⟩ := cpA X8 hx hZ hown (hw _ (List.mem_of_getElem? (i := 17) rfl)) (hw _ (List.mem_of_getElem? (i := 20) rfl)) (hw _ (List.mem_of_getElem? (i := 18) rfl)) (hw _ (List.mem_of_getElem? (i := 19) rfl)) e8 (us := [(.int ka), (.int kb), (.int kc)]) ((((V_ca.other W2 (Ne.symm ne_a_ca)).other W4 (Ne.symm ne_a_ca)).ext E5).other W6 (Ne.symm ne_a_ca)) (V5.other W6 (Ne.symm ne_a_b5)) (Or.inl ⟨rfl, rfl⟩) (by decide) (by decide) (by decide) (by decide) (by decide) rfl (by decide) N6 g_b5 (g := (mkF m 33 #[.val (.ref a), .val (.ref ca), .val (.int cnt), .val (.int (6 : Int32)), .unset] [(.int (3 : Int32)), (.int (0 : Int32)), (.ref b5), (.int (0 : Int32)), (.ref ca)])) rfl (by rw [hml]; rfl) rfl (hb hby dD_33) (by decide) (W := 0) (by show 2 * 0 + _ ≤ _; exact Nat.le_of_eq rfl) (by decide)
  have K9 : Keep h0 h9 [a] := Keep.trans K6 Kc9 (allS (Or.inr sz_b5) all0)
  have Zs9 : n0 ≤ h9.size := Nat.le_trans Zs6 Kc9.1
  have V9 : Arv Z h9 b5 k5 .int (6 : Int32) [(.int ka), (.int kb), (.int kc), (.int (0 : Int32)), (.int (0 : Int32)), (.int (0 : Int32))] (.int (0 : Int32)) := V9'
  obtain ⟨T10, h10, k10, X10, e10, E10, A10, st10⟩ := newP X9 hx hZ (hw _ (List.mem_of_getElem? (i := 1) rfl)) e9 (g := (mkF m 38 #[.val (.ref a), .val (.ref ca), .val (.int cnt), .val (.int (6 : Int32)), .unset] [(.int (6 : Int32)), (.ref a)])) rfl (hb hby dD_38) rfl (by decide) (cap := 6) (by decide) (by decide) (by decide) (by decide)
  obtain ⟨b10, g10⟩ : ∃ z, z = h9.size := ⟨_, rfl⟩
  rw [← g10] at A10 st10
  have ne_a_b10 : a ≠ b10 := Nat.ne_of_lt (Nat.lt_of_lt_of_le (((((E_a.wr W2).wr W4).ext E5).wr W6).keep Kc9).lt (Nat.le_of_eq g10.symm))
  have ne_ca_b10 : ca ≠ b10 := Nat.ne_of_lt (Nat.lt_of_lt_of_le (((((V_ca.other W2 (Ne.symm ne_a_ca)).other W4 (Ne.symm ne_a_ca)).ext E5).other W6 (Ne.symm ne_a_ca)).keep Kc9 (ninS ne_ca_b5 nin0)).lt (Nat.le_of_eq g10.symm))
  have ne_b5_b10 : b5 ≠ b10 := Nat.ne_of_lt (Nat.lt_of_lt_of_le V9.lt (Nat.le_of_eq g10.symm))
  have g_b10 : n0 ≤ b10 := Nat.le_trans Zs9 (Nat.le_of_eq g10.symm)
  have sz_b10 : h0.size ≤ b10 := Nat.le_trans K9.1 (Nat.le_of_eq g10.symm)
  have K10 : Keep h0 h10 [a] := K9.ext E10
  have Zs10 : n0 ≤ h10.size := Nat.le_trans Zs9 E10.1
  have V10 : Arv Z h10 b10 k10 .int (6 : Int32) [(.int (0 : Int32)), (.int (0 : Int32)), (.int (0 : Int32)), (.int (0 : Int32)), (.int (0 : Int32)), (.int (0 : Int32))] (.int (0 : Int32)) := (Arv.new A10 (by decide)).pad (pad_rep [] (.int (0 : Int32)) 6)
  obtain ⟨T11, h11, X11, e11, W11, st11⟩ := putF X10 hx hZ hown (host := "") (Or.inl (hw _ (List.mem_of_getElem? (i := 21) rfl))) Via.refl e10 (((Fld.other W6 ((Fld.other W4 (Fld.other W2 F_vertexOf_a (Or.inr (slot_ne (Or.inr (hw _ (List.mem_of_getElem? (i := 22) rfl))) (Or.inr (hw _ (List.mem_of_getElem? (i := 12) rfl))) (by decide) (t := (.array .int)) (t' := .int) (by decide) (by decide)))) (Or.inr (slot_ne (Or.inr (hw _ (List.mem_of_getElem? (i := 22) rfl))) (Or.inl (hw _ (List.mem_of_getElem? (i := 14) rfl))) (by decide) (t := (.array .int)) (t' := .int) (by decide) (by decide)))).ext E5) (Or.inr (slot_ne (Or.inr (hw _ (List.mem_of_getElem? (i := 22) rfl))) (Or.inr (hw _ (List.mem_of_getElem? (i := 16) rfl))) (by decide) (t := (.array .int)) (t' := (.array .int)) (by decide) (by decide)))).keep Kc9 (ninS ne_a_b5 nin0)).ext E10) ((((((E_a.wr W2).wr W4).ext E5).wr W6).keep Kc9).ext E10) (Or.inr ⟨(hw _ (List.mem_of_getElem? (i := 22) rfl)), rfl, hnm⟩) (hw _ (List.mem_of_getElem? (i := 3) rfl)) (ty := (.array .int)) (by decide) rfl rfl (g := (mkF m 40 #[.val (.ref a), .val (.ref ca), .val (.int cnt), .val (.int (6 : Int32)), .unset] [(.ref b10), (.ref a)])) rfl rfl (hb hby dD_40)
  have F11 : Fld Z h11 a "com/example/covey/covey/divisive/SplitLog" "vertexOf" "[I" (.ref b10) := Fld.same W11 (((Fld.other W6 ((Fld.other W4 (Fld.other W2 F_vertexOf_a (Or.inr (slot_ne (Or.inr (hw _ (List.mem_of_getElem? (i := 22) rfl))) (Or.inr (hw _ (List.mem_of_getElem? (i := 12) rfl))) (by decide) (t := (.array .int)) (t' := .int) (by decide) (by decide)))) (Or.inr (slot_ne (Or.inr (hw _ (List.mem_of_getElem? (i := 22) rfl))) (Or.inl (hw _ (List.mem_of_getElem? (i := 14) rfl))) (by decide) (t := (.array .int)) (t' := .int) (by decide) (by decide)))).ext E5) (Or.inr (slot_ne (Or.inr (hw _ (List.mem_of_getElem? (i := 22) rfl))) (Or.inr (hw _ (List.mem_of_getElem? (i := 16) rfl))) (by decide) (t := (.array .int)) (t' := (.array .int)) (by decide) (by decide)))).keep Kc9 (ninS ne_a_b5 nin0)).ext E10)
  have K11 : Keep h0 h11 [a] := K10.wr W11 (Or.inl (List.mem_of_getElem? (i := 0) rfl))
  have Zs11 : n0 ≤ h11.size := Nat.le_trans Zs10 (Keep.of_wr W11).1
  have N11 := Fr.snoc X11 N9 g_a
  obtain ⟨T12, X12, e12, st12⟩ := getF X11 hx hZ hown (host := "") (Or.inl (hw _ (List.mem_of_getElem? (i := 13) rfl))) Via.refl e11 (Fld.other W11 (((Fld.other W6 (F4.ext E5) (Or.inr (slot_ne (Or.inl (hw _ (List.mem_of_getElem? (i := 14) rfl))) (Or.inr (hw _ (List.mem_of_getElem? (i := 16) rfl))) (by decide) (t := .int) (t' := (.array .int)) (by decide) (by decide)))).keep Kc9 (ninS ne_a_b5 nin0)).ext E10) (Or.inr (slot_ne (Or.inl (hw _ (List.mem_of_getElem? (i := 14) rfl))) (Or.inr (hw _ (List.mem_of_getElem? (i := 22) rfl))) (by decide) (t := .int) (t' := (.array .int)) (by decide) (by decide)))) (g := (mkF m 49 #[.val (.ref a), .val (.ref ca), .val (.int cnt), .val (.int (6 : Int32)), .val (.int (0 : Int32))] [(.ref a), (.int (0 : Int32))])) rfl rfl (hb hby dD_49)
  obtain ⟨T13, X13, e13, st13⟩ := getF X12 hx hZ hown (host := "") (Or.inl (hw _ (List.mem_of_getElem? (i := 21) rfl))) Via.refl e12 F11 (g := (mkF m 56 #[.val (.ref a), .val (.ref ca), .val (.int cnt), .val (.int (6 : Int32)), .val (.int (0 : Int32))] [(.ref a)])) rfl rfl (hb hby dD_56)
  obtain ⟨cl14, Ar14, q14, S14, M14, Hs14, G14⟩ := (V10.other W11 (Ne.symm ne_a_b10))
  have hin14 : ¬ ((0 : Int32) < 0 ∨ cl14.slots.size ≤ ((0 : Int32)).toNatClampNeg) := inb_of S14 ⟨by decide, by decide⟩
  obtain ⟨T15, h15, X15, e15, W15, st15⟩ := stI X13 hx hZ e13 Ar14 (j := (0 : Int32)) hin14 (g := (mkF m 63 #[.val (.ref a), .val (.ref ca), .val (.int cnt), .val (.int (6 : Int32)), .val (.int (0 : Int32))] [(.int (0 : Int32)), (.int (0 : Int32)), (.ref b10)])) rfl rfl (hb hby dD_63)
  have V15 : Arv Z h15 b10 k10 .int (6 : Int32) [(.int (0 : Int32)), (.int (0 : Int32)), (.int (0 : Int32)), (.int (0 : Int32)), (.int (0 : Int32)), (.int (0 : Int32))] (.int (0 : Int32)) := Arv.set Ar14 q14 S14 M14 Hs14 G14 rfl W15 0 rfl (Nat.le_of_ble_eq_true rfl)
  have K15 : Keep h0 h15 [a] := K11.wr W15 (Or.inr sz_b10)
  have Zs15 : n0 ≤ h15.size := Nat.le_trans Zs11 (Keep.of_wr W15).1
  have N15 := Fr.snoc X15 N11 g_b10
  obtain ⟨T16, X16, e16, st16⟩ := getF X15 hx hZ hown (host := "") (Or.inl (hw _ (List.mem_of_getElem? (i := 13) rfl))) Via.refl e15 (Fld.other W15 (Fld.other W11 (((Fld.other W6 (F4.ext E5) (Or.inr (slot_ne (Or.inl (hw _ (List.mem_of_getElem? (i := 14) rfl))) (Or.inr (hw _ (List.mem_of_getElem? (i := 16) rfl))) (by decide) (t := .int) (t' := (.array .int)) (by decide) (by decide)))).keep Kc9 (ninS ne_a_b5 nin0)).ext E10) (Or.inr (slot_ne (Or.inl (hw _ (List.mem_of_getElem? (i := 14) rfl))) (Or.inr (hw _ (List.mem_of_getElem? (i := 22) rfl))) (by decide) (t := .int) (t' := (.array .int)) (by decide) (by decide)))) (Or.inl ne_a_b10)) (g := (mkF m 49 #[.val (.ref a), .val (.ref ca), .val (.int cnt), .val (.int (6 : Int32)), .val (.int (1 : Int32))] [(.ref a), (.int (1 : Int32))])) rfl rfl (hb hby dD_49)
  obtain ⟨T17, X17, e17, st17⟩ := getF X16 hx hZ hown (host := "") (Or.inl (hw _ (List.mem_of_getElem? (i := 21) rfl))) Via.refl e16 (Fld.other W15 F11 (Or.inl ne_a_b10)) (g := (mkF m 56 #[.val (.ref a), .val (.ref ca), .val (.int cnt), .val (.int (6 : Int32)), .val (.int (1 : Int32))] [(.ref a)])) rfl rfl (hb hby dD_56)
  obtain ⟨cl18, Ar18, q18, S18, M18, Hs18, G18⟩ := (id V15)
  have hin18 : ¬ ((1 : Int32) < 0 ∨ cl18.slots.size ≤ ((1 : Int32)).toNatClampNeg) := inb_of S18 ⟨by decide, by decide⟩
  obtain ⟨T19, h19, X19, e19, W19, st19⟩ := stI X17 hx hZ e17 Ar18 (j := (1 : Int32)) hin18 (g := (mkF m 63 #[.val (.ref a), .val (.ref ca), .val (.int cnt), .val (.int (6 : Int32)), .val (.int (1 : Int32))] [(.int (1 : Int32)), (.int (1 : Int32)), (.ref b10)])) rfl rfl (hb hby dD_63)
  have V19 : Arv Z h19 b10 k10 .int (6 : Int32) [(.int (0 : Int32)), (.int (1 : Int32)), (.int (0 : Int32)), (.int (0 : Int32)), (.int (0 : Int32)), (.int (0 : Int32))] (.int (0 : Int32)) := Arv.set Ar18 q18 S18 M18 Hs18 G18 rfl W19 1 rfl (Nat.le_of_ble_eq_true rfl)
  have K19 : Keep h0 h19 [a] := K15.wr W19 (Or.inr sz_b10)
  have Zs19 : n0 ≤ h19.size := Nat.le_trans Zs15 (Keep.of_wr W19).1
  have N19 := Fr.snoc X19 N15 g_b10
  obtain ⟨T20, X20, e20, st20⟩ := getF X19 hx hZ hown (host := "") (Or.inl (hw _ (List.mem_of_getElem? (i := 13) rfl))) Via.refl e19 (Fld.other W19 (Fld.other W15 (Fld.other W11 (((Fld.other W6 (F4.ext E5) (Or.inr (slot_ne (Or.inl (hw _ (List.mem_of_getElem? (i := 14) rfl))) (Or.inr (hw _ (List.mem_of_getElem? (i := 16) rfl))) (by decide) (t := .int) (t' := (.array .int)) (by decide) (by decide)))).keep Kc9 (ninS ne_a_b5 nin0)).ext E10) (Or.inr (slot_ne (Or.inl (hw _ (List.mem_of_getElem? (i := 14) rfl))) (Or.inr (hw _ (List.mem_of_getElem? (i := 22) rfl))) (by decide) (t := .int) (t' := (.array .int)) (by decide) (by decide)))) (Or.inl ne_a_b10)) (Or.inl ne_a_b10)) (g := (mkF m 49 #[.val (.ref a), .val (.ref ca), .val (.int cnt), .val (.int (6 : Int32)), .val (.int (2 : Int32))] [(.ref a), (.int (2 : Int32))])) rfl rfl (hb hby dD_49)
  obtain ⟨T21, X21, e21, st21⟩ := getF X20 hx hZ hown (host := "") (Or.inl (hw _ (List.mem_of_getElem? (i := 21) rfl))) Via.refl e20 (Fld.other W19 (Fld.other W15 F11 (Or.inl ne_a_b10)) (Or.inl ne_a_b10)) (g := (mkF m 56 #[.val (.ref a), .val (.ref ca), .val (.int cnt), .val (.int (6 : Int32)), .val (.int (2 : Int32))] [(.ref a)])) rfl rfl (hb hby dD_56)
  obtain ⟨cl22, Ar22, q22, S22, M22, Hs22, G22⟩ := (id V19)
  have hin22 : ¬ ((2 : Int32) < 0 ∨ cl22.slots.size ≤ ((2 : Int32)).toNatClampNeg) := inb_of S22 ⟨by decide, by decide⟩
  obtain ⟨T23, h23, X23, e23, W23, st23⟩ := stI X21 hx hZ e21 Ar22 (j := (2 : Int32)) hin22 (g := (mkF m 63 #[.val (.ref a), .val (.ref ca), .val (.int cnt), .val (.int (6 : Int32)), .val (.int (2 : Int32))] [(.int (2 : Int32)), (.int (2 : Int32)), (.ref b10)])) rfl rfl (hb hby dD_63)
  have V23 : Arv Z h23 b10 k10 .int (6 : Int32) [(.int (0 : Int32)), (.int (1 : Int32)), (.int (2 : Int32)), (.int (0 : Int32)), (.int (0 : Int32)), (.int (0 : Int32))] (.int (0 : Int32)) := Arv.set Ar22 q22 S22 M22 Hs22 G22 rfl W23 2 rfl (Nat.le_of_ble_eq_true rfl)
  have K23 : Keep h0 h23 [a] := K19.wr W23 (Or.inr sz_b10)
  have Zs23 : n0 ≤ h23.size := Nat.le_trans Zs19 (Keep.of_wr W23).1
  have N23 := Fr.snoc X23 N19 g_b10
  obtain ⟨T24, X24, e24, st24⟩ := getF X23 hx hZ hown (host := "") (Or.inl (hw _ (List.mem_of_getElem? (i := 13) rfl))) Via.refl e23 (Fld.other W23 (Fld.other W19 (Fld.other W15 (Fld.other W11 (((Fld.other W6 (F4.ext E5) (Or.inr (slot_ne (Or.inl (hw _ (List.mem_of_getElem? (i := 14) rfl))) (Or.inr (hw _ (List.mem_of_getElem? (i := 16) rfl))) (by decide) (t := .int) (t' := (.array .int)) (by decide) (by decide)))).keep Kc9 (ninS ne_a_b5 nin0)).ext E10) (Or.inr (slot_ne (Or.inl (hw _ (List.mem_of_getElem? (i := 14) rfl))) (Or.inr (hw _ (List.mem_of_getElem? (i := 22) rfl))) (by decide) (t := .int) (t' := (.array .int)) (by decide) (by decide)))) (Or.inl ne_a_b10)) (Or.inl ne_a_b10)) (Or.inl ne_a_b10)) (g := (mkF m 49 #[.val (.ref a), .val (.ref ca), .val (.int cnt), .val (.int (6 : Int32)), .val (.int (3 : Int32))] [(.ref a), (.int (3 : Int32))])) rfl rfl (hb hby dD_49)
  obtain ⟨T25, h25, X25, e25, W25, st25⟩ := putF X24 hx hZ hown (host := "") (Or.inl (hw _ (List.mem_of_getElem? (i := 23) rfl))) Via.refl e24 (Fld.other W23 (Fld.other W19 (Fld.other W15 (Fld.other W11 (((Fld.other W6 ((Fld.other W4 (Fld.other W2 F_nodes_a (Or.inr (slot_ne (Or.inl (hw _ (List.mem_of_getElem? (i := 24) rfl))) (Or.inr (hw _ (List.mem_of_getElem? (i := 12) rfl))) (by decide) (t := .int) (t' := .int) (by decide) (by decide)))) (Or.inr (slot_ne (Or.inl (hw _ (List.mem_of_getElem? (i := 24) rfl))) (Or.inl (hw _ (List.mem_of_getElem? (i := 14) rfl))) (by decide) (t := .int) (t' := .int) (by decide) (by decide)))).ext E5) (Or.inr (slot_ne (Or.inl (hw _ (List.mem_of_getElem? (i := 24) rfl))) (Or.inr (hw _ (List.mem_of_getElem? (i := 16) rfl))) (by decide) (t := .int) (t' := (.array .int)) (by decide) (by decide)))).keep Kc9 (ninS ne_a_b5 nin0)).ext E10) (Or.inr (slot_ne (Or.inl (hw _ (List.mem_of_getElem? (i := 24) rfl))) (Or.inr (hw _ (List.mem_of_getElem? (i := 22) rfl))) (by decide) (t := .int) (t' := (.array .int)) (by decide) (by decide)))) (Or.inl ne_a_b10)) (Or.inl ne_a_b10)) (Or.inl ne_a_b10)) ((((((((((E_a.wr W2).wr W4).ext E5).wr W6).keep Kc9).ext E10).wr W11).wr W15).wr W19).wr W23) (Or.inl (hw _ (List.mem_of_getElem? (i := 24) rfl))) (hw _ (List.mem_of_getElem? (i := 3) rfl)) (ty := .int) (by decide) rfl rfl (g := (mkF m 72 #[.val (.ref a), .val (.ref ca), .val (.int cnt), .val (.int (6 : Int32)), .val (.int (3 : Int32))] [(.int cnt), (.ref a)])) rfl rfl (hb hby dD_72)
  have F25 : Fld Z h25 a "com/example/covey/covey/divisive/SplitLog" "nodes" "I" (.int cnt) := Fld.same W25 (Fld.other W23 (Fld.other W19 (Fld.other W15 (Fld.other W11 (((Fld.other W6 ((Fld.other W4 (Fld.other W2 F_nodes_a (Or.inr (slot_ne (Or.inl (hw _ (List.mem_of_getElem? (i := 24) rfl))) (Or.inr (hw _ (List.mem_of_getElem? (i := 12) rfl))) (by decide) (t := .int) (t' := .int) (by decide) (by decide)))) (Or.inr (slot_ne (Or.inl (hw _ (List.mem_of_getElem? (i := 24) rfl))) (Or.inl (hw _ (List.mem_of_getElem? (i := 14) rfl))) (by decide) (t := .int) (t' := .int) (by decide) (by decide)))).ext E5) (Or.inr (slot_ne (Or.inl (hw _ (List.mem_of_getElem? (i := 24) rfl))) (Or.inr (hw _ (List.mem_of_getElem? (i := 16) rfl))) (by decide) (t := .int) (t' := (.array .int)) (by decide) (by decide)))).keep Kc9 (ninS ne_a_b5 nin0)).ext E10) (Or.inr (slot_ne (Or.inl (hw _ (List.mem_of_getElem? (i := 24) rfl))) (Or.inr (hw _ (List.mem_of_getElem? (i := 22) rfl))) (by decide) (t := .int) (t' := (.array .int)) (by decide) (by decide)))) (Or.inl ne_a_b10)) (Or.inl ne_a_b10)) (Or.inl ne_a_b10))
  have K25 : Keep h0 h25 [a] := K23.wr W25 (Or.inl (List.mem_of_getElem? (i := 0) rfl))
  have Zs25 : n0 ≤ h25.size := Nat.le_trans Zs23 (Keep.of_wr W25).1
  have N25 := Fr.snoc X25 N23 g_a
  obtain ⟨T26, h26, k26, X26, e26, E26, A26, st26⟩ := newP X25 hx hZ (hw _ (List.mem_of_getElem? (i := 1) rfl)) e25 (g := (mkF m 79 #[.val (.ref a), .val (.ref ca), .val (.int cnt), .val (.int (6 : Int32)), .val (.int (3 : Int32))] [(.int ((6 : Int32) - cnt)), (.ref a)])) rfl (hb hby dD_79) rfl (own_sub hcnt).1 (cap := 5) (own_sub hcnt).2 (by decide) (by decide) (by decide)
  obtain ⟨b26, g26⟩ : ∃ z, z = h25.size := ⟨_, rfl⟩
  rw [← g26] at A26 st26
  have ne_a_b26 : a ≠ b26 := Nat.ne_of_lt (Nat.lt_of_lt_of_le (((((((((((E_a.wr W2).wr W4).ext E5).wr W6).keep Kc9).ext E10).wr W11).wr W15).wr W19).wr W23).wr W25).lt (Nat.le_of_eq g26.symm))
  have ne_ca_b26 : ca ≠ b26 := Nat.ne_of_lt (Nat.lt_of_lt_of_le (((((((((((V_ca.other W2 (Ne.symm ne_a_ca)).other W4 (Ne.symm ne_a_ca)).ext E5).other W6 (Ne.symm ne_a_ca)).keep Kc9 (ninS ne_ca_b5 nin0)).ext E10).other W11 (Ne.symm ne_a_ca)).other W15 ne_ca_b10).other W19 ne_ca_b10).other W23 ne_ca_b10).other W25 (Ne.symm ne_a_ca)).lt (Nat.le_of_eq g26.symm))
  have ne_b5_b26 : b5 ≠ b26 := Nat.ne_of_lt (Nat.lt_of_lt_of_le ((((((V9.ext E10).other W11 (Ne.symm ne_a_b5)).other W15 ne_b5_b10).other W19 ne_b5_b10).other W23 ne_b5_b10).other W25 (Ne.symm ne_a_b5)).lt (Nat.le_of_eq g26.symm))
  have ne_b10_b26 : b10 ≠ b26 := Nat.ne_of_lt (Nat.lt_of_lt_of_le (V23.other W25 (Ne.symm ne_a_b10)).lt (Nat.le_of_eq g26.symm))
  have g_b26 : n0 ≤ b26 := Nat.le_trans Zs25 (Nat.le_of_eq g26.symm)
  have sz_b26 : h0.size ≤ b26 := Nat.le_trans K25.1 (Nat.le_of_eq g26.symm)
  have K26 : Keep h0 h26 [a] := K25.ext E26
  have Zs26 : n0 ≤ h26.size := Nat.le_trans Zs25 E26.1
  have V26 : Arv Z h26 b26 k26 .int ((6 : Int32) - cnt) [(.int (0 : Int32)), (.int (0 : Int32)), (.int (0 : Int32)), (.int (0 : Int32)), (.int (0 : Int32))] (.int (0 : Int32)) := (Arv.new A26 (own_sub hcnt).1).pad (pad_rep [] (.int (0 : Int32)) 5)
  obtain ⟨T27, h27, X27, e27, W27, st27⟩ := putF X26 hx hZ hown (host := "") (Or.inl (hw _ (List.mem_of_getElem? (i := 25) rfl))) Via.refl e26 ((Fld.other W25 (Fld.other W23 (Fld.other W19 (Fld.other W15 (Fld.other W11 (((Fld.other W6 ((Fld.other W4 (Fld.other W2 F_parent_a (Or.inr (slot_ne (Or.inr (hw _ (List.mem_of_getElem? (i := 26) rfl))) (Or.inr (hw _ (List.mem_of_getElem? (i := 12) rfl))) (by decide) (t := (.array .int)) (t' := .int) (by decide) (by decide)))) (Or.inr (slot_ne (Or.inr (hw _ (List.mem_of_getElem? (i := 26) rfl))) (Or.inl (hw _ (List.mem_of_getElem? (i := 14) rfl))) (by decide) (t := (.array .int)) (t' := .int) (by decide) (by decide)))).ext E5) (Or.inr (slot_ne (Or.inr (hw _ (List.mem_of_getElem? (i := 26) rfl))) (Or.inr (hw _ (List.mem_of_getElem? (i := 16) rfl))) (by decide) (t := (.array .int)) (t' := (.array .int)) (by decide) (by decide)))).keep Kc9 (ninS ne_a_b5 nin0)).ext E10) (Or.inr (slot_ne (Or.inr (hw _ (List.mem_of_getElem? (i := 26) rfl))) (Or.inr (hw _ (List.mem_of_getElem? (i := 22) rfl))) (by decide) (t := (.array .int)) (t' := (.array .int)) (by decide) (by decide)))) (Or.inl ne_a_b10)) (Or.inl ne_a_b10)) (Or.inl ne_a_b10)) (Or.inr (slot_ne (Or.inr (hw _ (List.mem_of_getElem? (i := 26) rfl))) (Or.inl (hw _ (List.mem_of_getElem? (i := 24) rfl))) (by decide) (t := (.array .int)) (t' := .int) (by decide) (by decide)))).ext E26) ((((((((((((E_a.wr W2).wr W4).ext E5).wr W6).keep Kc9).ext E10).wr W11).wr W15).wr W19).wr W23).wr W25).ext E26) (Or.inr ⟨(hw _ (List.mem_of_getElem? (i := 26) rfl)), rfl, hnm⟩) (hw _ (List.mem_of_getElem? (i := 3) rfl)) (ty := (.array .int)) (by decide) rfl rfl (g := (mkF m 81 #[.val (.ref a), .val (.ref ca), .val (.int cnt), .val (.int (6 : Int32)), .val (.int (3 : Int32))] [(.ref b26), (.ref a)])) rfl rfl (hb hby dD_81)
  have F27 : Fld Z h27 a "com/example/covey/covey/divisive/SplitLog" "parent" "[I" (.ref b26) := Fld.same W27 ((Fld.other W25 (Fld.other W23 (Fld.other W19 (Fld.other W15 (Fld.other W11 (((Fld.other W6 ((Fld.other W4 (Fld.other W2 F_parent_a (Or.inr (slot_ne (Or.inr (hw _ (List.mem_of_getElem? (i := 26) rfl))) (Or.inr (hw _ (List.mem_of_getElem? (i := 12) rfl))) (by decide) (t := (.array .int)) (t' := .int) (by decide) (by decide)))) (Or.inr (slot_ne (Or.inr (hw _ (List.mem_of_getElem? (i := 26) rfl))) (Or.inl (hw _ (List.mem_of_getElem? (i := 14) rfl))) (by decide) (t := (.array .int)) (t' := .int) (by decide) (by decide)))).ext E5) (Or.inr (slot_ne (Or.inr (hw _ (List.mem_of_getElem? (i := 26) rfl))) (Or.inr (hw _ (List.mem_of_getElem? (i := 16) rfl))) (by decide) (t := (.array .int)) (t' := (.array .int)) (by decide) (by decide)))).keep Kc9 (ninS ne_a_b5 nin0)).ext E10) (Or.inr (slot_ne (Or.inr (hw _ (List.mem_of_getElem? (i := 26) rfl))) (Or.inr (hw _ (List.mem_of_getElem? (i := 22) rfl))) (by decide) (t := (.array .int)) (t' := (.array .int)) (by decide) (by decide)))) (Or.inl ne_a_b10)) (Or.inl ne_a_b10)) (Or.inl ne_a_b10)) (Or.inr (slot_ne (Or.inr (hw _ (List.mem_of_getElem? (i := 26) rfl))) (Or.inl (hw _ (List.mem_of_getElem? (i := 24) rfl))) (by decide) (t := (.array .int)) (t' := .int) (by decide) (by decide)))).ext E26)
  have K27 : Keep h0 h27 [a] := K26.wr W27 (Or.inl (List.mem_of_getElem? (i := 0) rfl))
  have Zs27 : n0 ≤ h27.size := Nat.le_trans Zs26 (Keep.of_wr W27).1
  have N27 := Fr.snoc X27 N25 g_a
  obtain ⟨T28, X28, e28, st28⟩ := getF X27 hx hZ hown (host := "") (Or.inl (hw _ (List.mem_of_getElem? (i := 25) rfl))) Via.refl e27 F27 (g := (mkF m 86 #[.val (.ref a), .val (.ref ca), .val (.int cnt), .val (.int (6 : Int32)), .val (.int (3 : Int32))] [(.ref a), (.ref a)])) rfl rfl (hb hby dD_86)
  obtain ⟨cl29, Ar29, q29, S29, M29, Hs29, G29⟩ := (V26.other W27 (Ne.symm ne_a_b26))
  obtain ⟨T30, h30, k30, X30, e30, E30, A30, st30⟩ := newP X28 hx hZ (hw _ (List.mem_of_getElem? (i := 1) rfl)) e28 (g := (mkF m 90 #[.val (.ref a), .val (.ref ca), .val (.int cnt), .val (.int (6 : Int32)), .val (.int (3 : Int32))] [(.int ((6 : Int32) - cnt)), (.ref a)])) rfl (hb hby dD_90) rfl (own_sub hcnt).1 (cap := 5) (own_sub hcnt).2 (by decide) (by decide) (by decide)
  obtain ⟨b30, g30⟩ : ∃ z, z = h27.size := ⟨_, rfl⟩
  rw [← g30] at A30 st30
  have ne_a_b30 : a ≠ b30 := Nat.ne_of_lt (Nat.lt_of_lt_of_le (((((((((((((E_a.wr W2).wr W4).ext E5).wr W6).keep Kc9).ext E10).wr W11).wr W15).wr W19).wr W23).wr W25).ext E26).wr W27).lt (Nat.le_of_eq g30.symm))
  have ne_ca_b30 : ca ≠ b30 := Nat.ne_of_lt (Nat.lt_of_lt_of_le (((((((((((((V_ca.other W2 (Ne.symm ne_a_ca)).other W4 (Ne.symm ne_a_ca)).ext E5).other W6 (Ne.symm ne_a_ca)).keep Kc9 (ninS ne_ca_b5 nin0)).ext E10).other W11 (Ne.symm ne_a_ca)).other W15 ne_ca_b10).other W19 ne_ca_b10).other W23 ne_ca_b10).other W25 (Ne.symm ne_a_ca)).ext E26).other W27 (Ne.symm ne_a_ca)).lt (Nat.le_of_eq g30.symm))
  have ne_b5_b30 : b5 ≠ b30 := Nat.ne_of_lt (Nat.lt_of_lt_of_le ((((((((V9.ext E10).other W11 (Ne.symm ne_a_b5)).other W15 ne_b5_b10).other W19 ne_b5_b10).other W23 ne_b5_b10).other W25 (Ne.symm ne_a_b5)).ext E26).other W27 (Ne.symm ne_a_b5)).lt (Nat.le_of_eq g30.symm))
  have ne_b10_b30 : b10 ≠ b30 := Nat.ne_of_lt (Nat.lt_of_lt_of_le (((V23.other W25 (Ne.symm ne_a_b10)).ext E26).other W27 (Ne.symm ne_a_b10)).lt (Nat.le_of_eq g30.symm))
  have ne_b26_b30 : b26 ≠ b30 := Nat.ne_of_lt (Nat.lt_of_lt_of_le (V26.other W27 (Ne.symm ne_a_b26)).lt (Nat.le_of_eq g30.symm))
  have g_b30 : n0 ≤ b30 := Nat.le_trans Zs27 (Nat.le_of_eq g30.symm)
  have sz_b30 : h0.size ≤ b30 := Nat.le_trans K27.1 (Nat.le_of_eq g30.symm)
  have K30 : Keep h0 h30 [a] := K27.ext E30
  have Zs30 : n0 ≤ h30.size := Nat.le_trans Zs27 E30.1
  have V30 : Arv Z h30 b30 k30 .int ((6 : Int32) - cnt) [(.int (0 : Int32)), (.int (0 : Int32)), (.int (0 : Int32)), (.int (0 : Int32)), (.int (0 : Int32))] (.int (0 : Int32)) := (Arv.new A30 (own_sub hcnt).1).pad (pad_rep [] (.int (0 : Int32)) 5)
  obtain ⟨T31, h31, X31, e31, W31, st31⟩ := putF X30 hx hZ hown (host := "") (Or.inl (hw _ (List.mem_of_getElem? (i := 27) rfl))) Via.refl e30 ((Fld.other W27 ((Fld.other W25 (Fld.other W23 (Fld.other W19 (Fld.other W15 (Fld.other W11 (((Fld.other W6 ((Fld.other W4 (Fld.other W2 F_firstPart_a (Or.inr (slot_ne (Or.inr (hw _ (List.mem_of_getElem? (i := 28) rfl))) (Or.inr (hw _ (List.mem_of_getElem? (i := 12) rfl))) (by decide) (t := (.array .int)) (t' := .int) (by decide) (by decide)))) (Or.inr (slot_ne (Or.inr (hw _ (List.mem_of_getElem? (i := 28) rfl))) (Or.inl (hw _ (List.mem_of_getElem? (i := 14) rfl))) (by decide) (t := (.array .int)) (t' := .int) (by decide) (by decide)))).ext E5) (Or.inr (slot_ne (Or.inr (hw _ (List.mem_of_getElem? (i := 28) rfl))) (Or.inr (hw _ (List.mem_of_getElem? (i := 16) rfl))) (by decide) (t := (.array .int)) (t' := (.array .int)) (by decide) (by decide)))).keep Kc9 (ninS ne_a_b5 nin0)).ext E10) (Or.inr (slot_ne (Or.inr (hw _ (List.mem_of_getElem? (i := 28) rfl))) (Or.inr (hw _ (List.mem_of_getElem? (i := 22) rfl))) (by decide) (t := (.array .int)) (t' := (.array .int)) (by decide) (by decide)))) (Or.inl ne_a_b10)) (Or.inl ne_a_b10)) (Or.inl ne_a_b10)) (Or.inr (slot_ne (Or.inr (hw _ (List.mem_of_getElem? (i := 28) rfl))) (Or.inl (hw _ (List.mem_of_getElem? (i := 24) rfl))) (by decide) (t := (.array .int)) (t' := .int) (by decide) (by decide)))).ext E26) (Or.inr (slot_ne (Or.inr (hw _ (List.mem_of_getElem? (i := 28) rfl))) (Or.inr (hw _ (List.mem_of_getElem? (i := 26) rfl))) (by decide) (t := (.array .int)) (t' := (.array .int)) (by decide) (by decide)))).ext E30) ((((((((((((((E_a.wr W2).wr W4).ext E5).wr W6).keep Kc9).ext E10).wr W11).wr W15).wr W19).wr W23).wr W25).ext E26).wr W27).ext E30) (Or.inr ⟨(hw _ (List.mem_of_getElem? (i := 28) rfl)), rfl, hnm⟩) (hw _ (List.mem_of_getElem? (i := 3) rfl)) (ty := (.array .int)) (by decide) rfl rfl (g := (mkF m 92 #[.val (.ref a), .val (.ref ca), .val (.int cnt), .val (.int (6 : Int32)), .val (.int (3 : Int32))] [(.ref b30), (.ref a)])) rfl rfl (hb hby dD_92)
  have F31 : Fld Z h31 a "com/example/covey/covey/divisive/SplitLog" "firstPart" "[I" (.ref b30) := Fld.same W31 ((Fld.other W27 ((Fld.other W25 (Fld.other W23 (Fld.other W19 (Fld.other W15 (Fld.other W11 (((Fld.other W6 ((Fld.other W4 (Fld.other W2 F_firstPart_a (Or.inr (slot_ne (Or.inr (hw _ (List.mem_of_getElem? (i := 28) rfl))) (Or.inr (hw _ (List.mem_of_getElem? (i := 12) rfl))) (by decide) (t := (.array .int)) (t' := .int) (by decide) (by decide)))) (Or.inr (slot_ne (Or.inr (hw _ (List.mem_of_getElem? (i := 28) rfl))) (Or.inl (hw _ (List.mem_of_getElem? (i := 14) rfl))) (by decide) (t := (.array .int)) (t' := .int) (by decide) (by decide)))).ext E5) (Or.inr (slot_ne (Or.inr (hw _ (List.mem_of_getElem? (i := 28) rfl))) (Or.inr (hw _ (List.mem_of_getElem? (i := 16) rfl))) (by decide) (t := (.array .int)) (t' := (.array .int)) (by decide) (by decide)))).keep Kc9 (ninS ne_a_b5 nin0)).ext E10) (Or.inr (slot_ne (Or.inr (hw _ (List.mem_of_getElem? (i := 28) rfl))) (Or.inr (hw _ (List.mem_of_getElem? (i := 22) rfl))) (by decide) (t := (.array .int)) (t' := (.array .int)) (by decide) (by decide)))) (Or.inl ne_a_b10)) (Or.inl ne_a_b10)) (Or.inl ne_a_b10)) (Or.inr (slot_ne (Or.inr (hw _ (List.mem_of_getElem? (i := 28) rfl))) (Or.inl (hw _ (List.mem_of_getElem? (i := 24) rfl))) (by decide) (t := (.array .int)) (t' := .int) (by decide) (by decide)))).ext E26) (Or.inr (slot_ne (Or.inr (hw _ (List.mem_of_getElem? (i := 28) rfl))) (Or.inr (hw _ (List.mem_of_getElem? (i := 26) rfl))) (by decide) (t := (.array .int)) (t' := (.array .int)) (by decide) (by decide)))).ext E30)
  have K31 : Keep h0 h31 [a] := K30.wr W31 (Or.inl (List.mem_of_getElem? (i := 0) rfl))
  have Zs31 : n0 ≤ h31.size := Nat.le_trans Zs30 (Keep.of_wr W31).1
  have N31 := Fr.snoc X31 N27 g_a
  obtain ⟨T32, X32, e32, st32⟩ := getF X31 hx hZ hown (host := "") (Or.inl (hw _ (List.mem_of_getElem? (i := 25) rfl))) Via.refl e31 (Fld.other W31 (F27.ext E30) (Or.inr (slot_ne (Or.inr (hw _ (List.mem_of_getElem? (i := 26) rfl))) (Or.inr (hw _ (List.mem_of_getElem? (i := 28) rfl))) (by decide) (t := (.array .int)) (t' := (.array .int)) (by decide) (by decide)))) (g := (mkF m 97 #[.val (.ref a), .val (.ref ca), .val (.int cnt), .val (.int (6 : Int32)), .val (.int (3 : Int32))] [(.ref a), (.ref a)])) rfl rfl (hb hby dD_97)
  obtain ⟨cl33, Ar33, q33, S33, M33, Hs33, G33⟩ := (((V26.other W27 (Ne.symm ne_a_b26)).ext E30).other W31 (Ne.symm ne_a_b26))
  obtain ⟨T34, h34, k34, X34, e34, E34, A34, st34⟩ := newP X32 hx hZ (hw _ (List.mem_of_getElem? (i := 1) rfl)) e32 (g := (mkF m 101 #[.val (.ref a), .val (.ref ca), .val (.int cnt), .val (.int (6 : Int32)), .val (.int (3 : Int32))] [(.int ((6 : Int32) - cnt)), (.ref a)])) rfl (hb hby dD_101) rfl (own_sub hcnt).1 (cap := 5) (own_sub hcnt).2 (by decide) (by decide) (by decide)
  obtain ⟨b34, g34⟩ : ∃ z, z = h31.size := ⟨_, rfl⟩
  rw [← g34] at A34 st34
  have ne_a_b34 : a ≠ b34 := Nat.ne_of_lt (Nat.lt_of_lt_of_le (((((((((((((((E_a.wr W2).wr W4).ext E5).wr W6).keep Kc9).ext E10).wr W11).wr W15).wr W19).wr W23).wr W25).ext E26).wr W27).ext E30).wr W31).lt (Nat.le_of_eq g34.symm))
  have ne_ca_b34 : ca ≠ b34 := Nat.ne_of_lt (Nat.lt_of_lt_of_le (((((((((((((((V_ca.other W2 (Ne.symm ne_a_ca)).other W4 (Ne.symm ne_a_ca)).ext E5).other W6 (Ne.symm ne_a_ca)).keep Kc9 (ninS ne_ca_b5 nin0)).ext E10).other W11 (Ne.symm ne_a_ca)).other W15 ne_ca_b10).other W19 ne_ca_b10).other W23 ne_ca_b10).other W25 (Ne.symm ne_a_ca)).ext E26).other W27 (Ne.symm ne_a_ca)).ext E30).other W31 (Ne.symm ne_a_ca)).lt (Nat.le_of_eq g34.symm))
  have ne_b5_b34 : b5 ≠ b34 := Nat.ne_of_lt (Nat.lt_of_lt_of_le ((((((((((V9.ext E10).other W11 (Ne.symm ne_a_b5)).other W15 ne_b5_b10).other W19 ne_b5_b10).other W23 ne_b5_b10).other W25 (Ne.symm ne_a_b5)).ext E26).other W27 (Ne.symm ne_a_b5)).ext E30).other W31 (Ne.symm ne_a_b5)).lt (Nat.le_of_eq g34.symm))
  have ne_b10_b34 : b10 ≠ b34 := Nat.ne_of_lt (Nat.lt_of_lt_of_le (((((V23.other W25 (Ne.symm ne_a_b10)).ext E26).other W27 (Ne.symm ne_a_b10)).ext E30).other W31 (Ne.symm ne_a_b10)).lt (Nat.le_of_eq g34.symm))
  have ne_b26_b34 : b26 ≠ b34 := Nat.ne_of_lt (Nat.lt_of_lt_of_le (((V26.other W27 (Ne.symm ne_a_b26)).ext E30).other W31 (Ne.symm ne_a_b26)).lt (Nat.le_of_eq g34.symm))
  have ne_b30_b34 : b30 ≠ b34 := Nat.ne_of_lt (Nat.lt_of_lt_of_le (V30.other W31 (Ne.symm ne_a_b30)).lt (Nat.le_of_eq g34.symm))
  have g_b34 : n0 ≤ b34 := Nat.le_trans Zs31 (Nat.le_of_eq g34.symm)
  have sz_b34 : h0.size ≤ b34 := Nat.le_trans K31.1 (Nat.le_of_eq g34.symm)
  have K34 : Keep h0 h34 [a] := K31.ext E34
  have Zs34 : n0 ≤ h34.size := Nat.le_trans Zs31 E34.1
  have V34 : Arv Z h34 b34 k34 .int ((6 : Int32) - cnt) [(.int (0 : Int32)), (.int (0 : Int32)), (.int (0 : Int32)), (.int (0 : Int32)), (.int (0 : Int32))] (.int (0 : Int32)) := (Arv.new A34 (own_sub hcnt).1).pad (pad_rep [] (.int (0 : Int32)) 5)
  obtain ⟨T35, h35, X35, e35, W35, st35⟩ := putF X34 hx hZ hown (host := "") (Or.inl (hw _ (List.mem_of_getElem? (i := 29) rfl))) Via.refl e34 ((Fld.other W31 ((Fld.other W27 ((Fld.other W25 (Fld.other W23 (Fld.other W19 (Fld.other W15 (Fld.other W11 (((Fld.other W6 ((Fld.other W4 (Fld.other W2 F_secondPart_a (Or.inr (slot_ne (Or.inr (hw _ (List.mem_of_getElem? (i := 30) rfl))) (Or.inr (hw _ (List.mem_of_getElem? (i := 12) rfl))) (by decide) (t := (.array .int)) (t' := .int) (by decide) (by decide)))) (Or.inr (slot_ne (Or.inr (hw _ (List.mem_of_getElem? (i := 30) rfl))) (Or.inl (hw _ (List.mem_of_getElem? (i := 14) rfl))) (by decide) (t := (.array .int)) (t' := .int) (by decide) (by decide)))).ext E5) (Or.inr (slot_ne (Or.inr (hw _ (List.mem_of_getElem? (i := 30) rfl))) (Or.inr (hw _ (List.mem_of_getElem? (i := 16) rfl))) (by decide) (t := (.array .int)) (t' := (.array .int)) (by decide) (by decide)))).keep Kc9 (ninS ne_a_b5 nin0)).ext E10) (Or.inr (slot_ne (Or.inr (hw _ (List.mem_of_getElem? (i := 30) rfl))) (Or.inr (hw _ (List.mem_of_getElem? (i := 22) rfl))) (by decide) (t := (.array .int)) (t' := (.array .int)) (by decide) (by decide)))) (Or.inl ne_a_b10)) (Or.inl ne_a_b10)) (Or.inl ne_a_b10)) (Or.inr (slot_ne (Or.inr (hw _ (List.mem_of_getElem? (i := 30) rfl))) (Or.inl (hw _ (List.mem_of_getElem? (i := 24) rfl))) (by decide) (t := (.array .int)) (t' := .int) (by decide) (by decide)))).ext E26) (Or.inr (slot_ne (Or.inr (hw _ (List.mem_of_getElem? (i := 30) rfl))) (Or.inr (hw _ (List.mem_of_getElem? (i := 26) rfl))) (by decide) (t := (.array .int)) (t' := (.array .int)) (by decide) (by decide)))).ext E30) (Or.inr (slot_ne (Or.inr (hw _ (List.mem_of_getElem? (i := 30) rfl))) (Or.inr (hw _ (List.mem_of_getElem? (i := 28) rfl))) (by decide) (t := (.array .int)) (t' := (.array .int)) (by decide) (by decide)))).ext E34) ((((((((((((((((E_a.wr W2).wr W4).ext E5).wr W6).keep Kc9).ext E10).wr W11).wr W15).wr W19).wr W23).wr W25).ext E26).wr W27).ext E30).wr W31).ext E34) (Or.inr ⟨(hw _ (List.mem_of_getElem? (i := 30) rfl)), rfl, hnm⟩) (hw _ (List.mem_of_getElem? (i := 3) rfl)) (ty := (.array .int)) (by decide) rfl rfl (g := (mkF m 103 #[.val (.ref a), .val (.ref ca), .val (.int cnt), .val (.int (6 : Int32)), .val (.int (3 : Int32))] [(.ref b34), (.ref a)])) rfl rfl (hb hby dD_103)
  have F35 : Fld Z h35 a "com/example/covey/covey/divisive/SplitLog" "secondPart" "[I" (.ref b34) := Fld.same W35 ((Fld.other W31 ((Fld.other W27 ((Fld.other W25 (Fld.other W23 (Fld.other W19 (Fld.other W15 (Fld.other W11 (((Fld.other W6 ((Fld.other W4 (Fld.other W2 F_secondPart_a (Or.inr (slot_ne (Or.inr (hw _ (List.mem_of_getElem? (i := 30) rfl))) (Or.inr (hw _ (List.mem_of_getElem? (i := 12) rfl))) (by decide) (t := (.array .int)) (t' := .int) (by decide) (by decide)))) (Or.inr (slot_ne (Or.inr (hw _ (List.mem_of_getElem? (i := 30) rfl))) (Or.inl (hw _ (List.mem_of_getElem? (i := 14) rfl))) (by decide) (t := (.array .int)) (t' := .int) (by decide) (by decide)))).ext E5) (Or.inr (slot_ne (Or.inr (hw _ (List.mem_of_getElem? (i := 30) rfl))) (Or.inr (hw _ (List.mem_of_getElem? (i := 16) rfl))) (by decide) (t := (.array .int)) (t' := (.array .int)) (by decide) (by decide)))).keep Kc9 (ninS ne_a_b5 nin0)).ext E10) (Or.inr (slot_ne (Or.inr (hw _ (List.mem_of_getElem? (i := 30) rfl))) (Or.inr (hw _ (List.mem_of_getElem? (i := 22) rfl))) (by decide) (t := (.array .int)) (t' := (.array .int)) (by decide) (by decide)))) (Or.inl ne_a_b10)) (Or.inl ne_a_b10)) (Or.inl ne_a_b10)) (Or.inr (slot_ne (Or.inr (hw _ (List.mem_of_getElem? (i := 30) rfl))) (Or.inl (hw _ (List.mem_of_getElem? (i := 24) rfl))) (by decide) (t := (.array .int)) (t' := .int) (by decide) (by decide)))).ext E26) (Or.inr (slot_ne (Or.inr (hw _ (List.mem_of_getElem? (i := 30) rfl))) (Or.inr (hw _ (List.mem_of_getElem? (i := 26) rfl))) (by decide) (t := (.array .int)) (t' := (.array .int)) (by decide) (by decide)))).ext E30) (Or.inr (slot_ne (Or.inr (hw _ (List.mem_of_getElem? (i := 30) rfl))) (Or.inr (hw _ (List.mem_of_getElem? (i := 28) rfl))) (by decide) (t := (.array .int)) (t' := (.array .int)) (by decide) (by decide)))).ext E34)
  have K35 : Keep h0 h35 [a] := K34.wr W35 (Or.inl (List.mem_of_getElem? (i := 0) rfl))
  have Zs35 : n0 ≤ h35.size := Nat.le_trans Zs34 (Keep.of_wr W35).1
  have N35 := Fr.snoc X35 N31 g_a
  obtain ⟨fs, hr, hrun, hended, hW, hsame⟩ := X35.leave (v := none) (fun _ => rfl)
  refine ⟨_, _, (pre0 _ ?_), hrun, hended, _, _, rfl, ?_, ⟨_, rfl⟩, hW, hsame.mono (by decide) (by decide)⟩
  · show Steps p.tables e below (s₁.setTop (mkF m 0 #[.val (.ref a), .val (.ref ca), .val (.int cnt), .val (.int (6 : Int32)), .unset] [])) _
    refine XS.aloadN X0.here hx rfl (hb hby dD_0) rfl rfl ?_
    show Steps p.tables e below (s₁.setTop (mkF m 1 #[.val (.ref a), .val (.ref ca), .val (.int cnt), .val (.int (6 : Int32)), .unset] [(.ref a)])) _
    refine st1 _ ?_
    show Steps p.tables e below (T1.setTop (mkF m 4 #[.val (.ref a), .val (.ref ca), .val (.int cnt), .val (.int (6 : Int32)), .unset] [])) _
    refine XS.aloadN X1.here hx rfl (hb hby dD_4) rfl rfl ?_
    show Steps p.tables e below (T1.setTop (mkF m 5 #[.val (.ref a), .val (.ref ca), .val (.int cnt), .val (.int (6 : Int32)), .unset] [(.ref a)])) _
    refine XS.iloadN X1.here hx rfl (hb hby dD_5) rfl ?_
    show Steps p.tables e below (T1.setTop (mkF m 6 #[.val (.ref a), .val (.ref ca), .val (.int cnt), .val (.int (6 : Int32)), .unset] [(.int cnt), (.ref a)])) _
    refine st2 _ ?_
    show Steps p.tables e below (T2.setTop (mkF m 9 #[.val (.ref a), .val (.ref ca), .val (.int cnt), .val (.int (6 : Int32)), .unset] [])) _
    refine XS.aloadN X2.here hx rfl (hb hby dD_9) rfl rfl ?_
    show Steps p.tables e below (T2.setTop (mkF m 10 #[.val (.ref a), .val (.ref ca), .val (.int cnt), .val (.int (6 : Int32)), .unset] [(.ref a)])) _
    refine XS.aloadN X2.here hx rfl (hb hby dD_10) rfl rfl ?_
    show Steps p.tables e below (T2.setTop (mkF m 11 #[.val (.ref a), .val (.ref ca), .val (.int cnt), .val (.int (6 : Int32)), .unset] [(.ref ca), (.ref a)])) _
    refine X2.arraylength hx (by rw [e2]; exact Ar3.1) (State.isArrayOf_alike hZ.alike Ar3.2.1) (g := (mkF m 11 #[.val (.ref a), .val (.ref ca), .val (.int cnt), .val (.int (6 : Int32)), .unset] [(.ref ca), (.ref a)])) rfl rfl (hb hby dD_11) _ ?_
    rw [len_of S3 M3]
    show Steps p.tables e below (T2.setTop (mkF m 12 #[.val (.ref a), .val (.ref ca), .val (.int cnt), .val (.int (6 : Int32)), .unset] [(.int (3 : Int32)), (.ref a)])) _
    refine st4 _ ?_
    show Steps p.tables e below (T4.setTop (mkF m 15 #[.val (.ref a), .val (.ref ca), .val (.int cnt), .val (.int (6 : Int32)), .unset] [])) _
    refine XS.aloadN X4.here hx rfl (hb hby dD_15) rfl rfl ?_
    show Steps p.tables e below (T4.setTop (mkF m 16 #[.val (.ref a), .val (.ref ca), .val (.int cnt), .val (.int (6 : Int32)), .unset] [(.ref a)])) _
    refine XS.iloadN X4.here hx rfl (hb hby dD_16) rfl ?_
    show Steps p.tables e below (T4.setTop (mkF m 17 #[.val (.ref a), .val (.ref ca), .val (.int cnt), .val (.int (6 : Int32)), .unset] [(.int (6 : Int32)), (.ref a)])) _
    refine st5 _ ?_
    show Steps p.tables e below (T5.setTop (mkF m 19 #[.val (.ref a), .val (.ref ca), .val (.int cnt), .val (.int (6 : Int32)), .unset] [(.ref b5), (.ref a)])) _
    refine st6 _ ?_
    show Steps p.tables e below (T6.setTop (mkF m 22 #[.val (.ref a), .val (.ref ca), .val (.int cnt), .val (.int (6 : Int32)), .unset] [])) _
    refine XS.aloadN X6.here hx rfl (hb hby dD_22) rfl rfl ?_
    show Steps p.tables e below (T6.setTop (mkF m 23 #[.val (.ref a), .val (.ref ca), .val (.int cnt), .val (.int (6 : Int32)), .unset] [(.ref ca)])) _
    refine XS.iconst X6.here hx rfl (hb hby dD_23) ?_
    show Steps p.tables e below (T6.setTop (mkF m 24 #[.val (.ref a), .val (.ref ca), .val (.int cnt), .val (.int (6 : Int32)), .unset] [(.int (0 : Int32)), (.ref ca)])) _
    refine XS.aloadN X6.here hx rfl (hb hby dD_24) rfl rfl ?_
    show Steps p.tables e below (T6.setTop (mkF m 25 #[.val (.ref a), .val (.ref ca), .val (.int cnt), .val (.int (6 : Int32)), .unset] [(.ref a), (.int (0 : Int32)), (.ref ca)])) _
    refine st7 _ ?_
    show Steps p.tables e below (T7.setTop (mkF m 28 #[.val (.ref a), .val (.ref ca), .val (.int cnt), .val (.int (6 : Int32)), .unset] [(.ref b5), (.int (0 : Int32)), (.ref ca)])) _
    refine XS.iconst X7.here hx rfl (hb hby dD_28) ?_
    show Steps p.tables e below (T7.setTop (mkF m 29 #[.val (.ref a), .val (.ref ca), .val (.int cnt), .val (.int (6 : Int32)), .unset] [(.int (0 : Int32)), (.ref b5), (.int (0 : Int32)), (.ref ca)])) _
    refine XS.aloadN X7.here hx rfl (hb hby dD_29) rfl rfl ?_
    show Steps p.tables e below (T7.setTop (mkF m 30 #[.val (.ref a), .val (.ref ca), .val (.int cnt), .val (.int (6 : Int32)), .unset] [(.ref a), (.int (0 : Int32)), (.ref b5), (.int (0 : Int32)), (.ref ca)])) _
    refine st8 _ ?_
    show Steps p.tables e below (T8.setTop (mkF m 33 #[.val (.ref a), .val (.ref ca), .val (.int cnt), .val (.int (6 : Int32)), .unset] [(.int (3 : Int32)), (.int (0 : Int32)), (.ref b5), (.int (0 : Int32)), (.ref ca)])) _
    refine st9 _ ?_
    show Steps p.tables e below (T9.setTop (mkF m 36 #[.val (.ref a), .val (.ref ca), .val (.int cnt), .val (.int (6 : Int32)), .unset] [])) _
    refine XS.aloadN X9.here hx rfl (hb hby dD_36) rfl rfl ?_
    show Steps p.tables e below (T9.setTop (mkF m 37 #[.val (.ref a), .val (.ref ca), .val (.int cnt), .val (.int (6 : Int32)), .unset] [(.ref a)])) _
    refine XS.iloadN X9.here hx rfl (hb hby dD_37) rfl ?_
    show Steps p.tables e below (T9.setTop (mkF m 38 #[.val (.ref a), .val (.ref ca), .val (.int cnt), .val (.int (6 : Int32)), .unset] [(.int (6 : Int32)), (.ref a)])) _
    refine st10 _ ?_
    show Steps p.tables e below (T10.setTop (mkF m 40 #[.val (.ref a), .val (.ref ca), .val (.int cnt), .val (.int (6 : Int32)), .unset] [(.ref b10), (.ref a)])) _
    refine st11 _ ?_
    show Steps p.tables e below (T11.setTop (mkF m 43 #[.val (.ref a), .val (.ref ca), .val (.int cnt), .val (.int (6 : Int32)), .unset] [])) _
    refine XS.iconst X11.here hx rfl (hb hby dD_43) ?_
    show Steps p.tables e below (T11.setTop (mkF m 44 #[.val (.ref a), .val (.ref ca), .val (.int cnt), .val (.int (6 : Int32)), .unset] [(.int (0 : Int32))])) _
    refine XS.istore X11.here hx rfl (hb hby dD_44) rfl (l' := #[.val (.ref a), .val (.ref ca), .val (.int cnt), .val (.int (6 : Int32)), .val (.int (0 : Int32))]) rfl ?_
    show Steps p.tables e below (T11.setTop (mkF m 46 #[.val (.ref a), .val (.ref ca), .val (.int cnt), .val (.int (6 : Int32)), .val (.int (0 : Int32))] [])) _
    refine XS.iload X11.here hx rfl (hb hby dD_46) rfl ?_
    show Steps p.tables e below (T11.setTop (mkF m 48 #[.val (.ref a), .val (.ref ca), .val (.int cnt), .val (.int (6 : Int32)), .val (.int (0 : Int32))] [(.int (0 : Int32))])) _
    refine XS.aloadN X11.here hx rfl (hb hby dD_48) rfl rfl ?_
    show Steps p.tables e below (T11.setTop (mkF m 49 #[.val (.ref a), .val (.ref ca), .val (.int cnt), .val (.int (6 : Int32)), .val (.int (0 : Int32))] [(.ref a), (.int (0 : Int32))])) _
    refine st12 _ ?_
    show Steps p.tables e below (T12.setTop (mkF m 52 #[.val (.ref a), .val (.ref ca), .val (.int cnt), .val (.int (6 : Int32)), .val (.int (0 : Int32))] [(.int (3 : Int32)), (.int (0 : Int32))])) _
    refine XS.icmpNo X12.here hx rfl (hb hby dD_52) rfl (tlt (by decide : (0 : Int32) < (3 : Int32))).2.1 ?_
    show Steps p.tables e below (T12.setTop (mkF m 55 #[.val (.ref a), .val (.ref ca), .val (.int cnt), .val (.int (6 : Int32)), .val (.int (0 : Int32))] [])) _
    refine XS.aloadN X12.here hx rfl (hb hby dD_55) rfl rfl ?_
    show Steps p.tables e below (T12.setTop (mkF m 56 #[.val (.ref a), .val (.ref ca), .val (.int cnt), .val (.int (6 : Int32)), .val (.int (0 : Int32))] [(.ref a)])) _
    refine st13 _ ?_
    show Steps p.tables e below (T13.setTop (mkF m 59 #[.val (.ref a), .val (.ref ca), .val (.int cnt), .val (.int (6 : Int32)), .val (.int (0 : Int32))] [(.ref b10)])) _
    refine XS.iload X13.here hx rfl (hb hby dD_59) rfl ?_
    show Steps p.tables e below (T13.setTop (mkF m 61 #[.val (.ref a), .val (.ref ca), .val (.int cnt), .val (.int (6 : Int32)), .val (.int (0 : Int32))] [(.int (0 : Int32)), (.ref b10)])) _
    refine XS.iload X13.here hx rfl (hb hby dD_61) rfl ?_
    show Steps p.tables e below (T13.setTop (mkF m 63 #[.val (.ref a), .val (.ref ca), .val (.int cnt), .val (.int (6 : Int32)), .val (.int (0 : Int32))] [(.int (0 : Int32)), (.int (0 : Int32)), (.ref b10)])) _
    refine st15 _ ?_
    show Steps p.tables e below (T15.setTop (mkF m 64 #[.val (.ref a), .val (.ref ca), .val (.int cnt), .val (.int (6 : Int32)), .val (.int (0 : Int32))] [])) _
    refine XS.iinc X15.here hx rfl (hb hby dD_64) rfl (l' := #[.val (.ref a), .val (.ref ca), .val (.int cnt), .val (.int (6 : Int32)), .val (.int (1 : Int32))]) rfl ?_
    show Steps p.tables e below (T15.setTop (mkF m 67 #[.val (.ref a), .val (.ref ca), .val (.int cnt), .val (.int (6 : Int32)), .val (.int (1 : Int32))] [])) _
    refine XS.goto X15.here hx rfl (pc0 := 67) (pc' := 46) rfl (hb hby dD_67) (by decide) (by decide) ?_
    show Steps p.tables e below (T15.setTop (mkF m 46 #[.val (.ref a), .val (.ref ca), .val (.int cnt), .val (.int (6 : Int32)), .val (.int (1 : Int32))] [])) _
    refine XS.iload X15.here hx rfl (hb hby dD_46) rfl ?_
    show Steps p.tables e below (T15.setTop (mkF m 48 #[.val (.ref a), .val (.ref ca), .val (.int cnt), .val (.int (6 : Int32)), .val (.int (1 : Int32))] [(.int (1 : Int32))])) _
    refine XS.aloadN X15.here hx rfl (hb hby dD_48) rfl rfl ?_
    show Steps p.tables e below (T15.setTop (mkF m 49 #[.val (.ref a), .val (.ref ca), .val (.int cnt), .val (.int (6 : Int32)), .val (.int (1 : Int32))] [(.ref a), (.int (1 : Int32))])) _
    refine st16 _ ?_
    show Steps p.tables e below (T16.setTop (mkF m 52 #[.val (.ref a), .val (.ref ca), .val (.int cnt), .val (.int (6 : Int32)), .val (.int (1 : Int32))] [(.int (3 : Int32)), (.int (1 : Int32))])) _
    refine XS.icmpNo X16.here hx rfl (hb hby dD_52) rfl (tlt (by decide : (1 : Int32) < (3 : Int32))).2.1 ?_
    show Steps p.tables e below (T16.setTop (mkF m 55 #[.val (.ref a), .val (.ref ca), .val (.int cnt), .val (.int (6 : Int32)), .val (.int (1 : Int32))] [])) _
    refine XS.aloadN X16.here hx rfl (hb hby dD_55) rfl rfl ?_
    show Steps p.tables e below (T16.setTop (mkF m 56 #[.val (.ref a), .val (.ref ca), .val (.int cnt), .val (.int (6 : Int32)), .val (.int (1 : Int32))] [(.ref a)])) _
    refine st17 _ ?_
    show Steps p.tables e below (T17.setTop (mkF m 59 #[.val (.ref a), .val (.ref ca), .val (.int cnt), .val (.int (6 : Int32)), .val (.int (1 : Int32))] [(.ref b10)])) _
    refine XS.iload X17.here hx rfl (hb hby dD_59) rfl ?_
    show Steps p.tables e below (T17.setTop (mkF m 61 #[.val (.ref a), .val (.ref ca), .val (.int cnt), .val (.int (6 : Int32)), .val (.int (1 : Int32))] [(.int (1 : Int32)), (.ref b10)])) _
    refine XS.iload X17.here hx rfl (hb hby dD_61) rfl ?_
    show Steps p.tables e below (T17.setTop (mkF m 63 #[.val (.ref a), .val (.ref ca), .val (.int cnt), .val (.int (6 : Int32)), .val (.int (1 : Int32))] [(.int (1 : Int32)), (.int (1 : Int32)), (.ref b10)])) _
    refine st19 _ ?_
    show Steps p.tables e below (T19.setTop (mkF m 64 #[.val (.ref a), .val (.ref ca), .val (.int cnt), .val (.int (6 : Int32)), .val (.int (1 : Int32))] [])) _
    refine XS.iinc X19.here hx rfl (hb hby dD_64) rfl (l' := #[.val (.ref a), .val (.ref ca), .val (.int cnt), .val (.int (6 : Int32)), .val (.int (2 : Int32))]) rfl ?_
    show Steps p.tables e below (T19.setTop (mkF m 67 #[.val (.ref a), .val (.ref ca), .val (.int cnt), .val (.int (6 : Int32)), .val (.int (2 : Int32))] [])) _
    refine XS.goto X19.here hx rfl (pc0 := 67) (pc' := 46) rfl (hb hby dD_67) (by decide) (by decide) ?_
    show Steps p.tables e below (T19.setTop (mkF m 46 #[.val (.ref a), .val (.ref ca), .val (.int cnt), .val (.int (6 : Int32)), .val (.int (2 : Int32))] [])) _
    refine XS.iload X19.here hx rfl (hb hby dD_46) rfl ?_
    show Steps p.tables e below (T19.setTop (mkF m 48 #[.val (.ref a), .val (.ref ca), .val (.int cnt), .val (.int (6 : Int32)), .val (.int (2 : Int32))] [(.int (2 : Int32))])) _
    refine XS.aloadN X19.here hx rfl (hb hby dD_48) rfl rfl ?_
    show Steps p.tables e below (T19.setTop (mkF m 49 #[.val (.ref a), .val (.ref ca), .val (.int cnt), .val (.int (6 : Int32)), .val (.int (2 : Int32))] [(.ref a), (.int (2 : Int32))])) _
    refine st20 _ ?_
    show Steps p.tables e below (T20.setTop (mkF m 52 #[.val (.ref a), .val (.ref ca), .val (.int cnt), .val (.int (6 : Int32)), .val (.int (2 : Int32))] [(.int (3 : Int32)), (.int (2 : Int32))])) _
    refine XS.icmpNo X20.here hx rfl (hb hby dD_52) rfl (tlt (by decide : (2 : Int32) < (3 : Int32))).2.1 ?_
    show Steps p.tables e below (T20.setTop (mkF m 55 #[.val (.ref a), .val (.ref ca), .val (.int cnt), .val (.int (6 : Int32)), .val (.int (2 : Int32))] [])) _
    refine XS.aloadN X20.here hx rfl (hb hby dD_55) rfl rfl ?_
    show Steps p.tables e below (T20.setTop (mkF m 56 #[.val (.ref a), .val (.ref ca), .val (.int cnt), .val (.int (6 : Int32)), .val (.int (2 : Int32))] [(.ref a)])) _
    refine st21 _ ?_
    show Steps p.tables e below (T21.setTop (mkF m 59 #[.val (.ref a), .val (.ref ca), .val (.int cnt), .val (.int (6 : Int32)), .val (.int (2 : Int32))] [(.ref b10)])) _
    refine XS.iload X21.here hx rfl (hb hby dD_59) rfl ?_
    show Steps p.tables e below (T21.setTop (mkF m 61 #[.val (.ref a), .val (.ref ca), .val (.int cnt), .val (.int (6 : Int32)), .val (.int (2 : Int32))] [(.int (2 : Int32)), (.ref b10)])) _
    refine XS.iload X21.here hx rfl (hb hby dD_61) rfl ?_
    show Steps p.tables e below (T21.setTop (mkF m 63 #[.val (.ref a), .val (.ref ca), .val (.int cnt), .val (.int (6 : Int32)), .val (.int (2 : Int32))] [(.int (2 : Int32)), (.int (2 : Int32)), (.ref b10)])) _
    refine st23 _ ?_
    show Steps p.tables e below (T23.setTop (mkF m 64 #[.val (.ref a), .val (.ref ca), .val (.int cnt), .val (.int (6 : Int32)), .val (.int (2 : Int32))] [])) _
    refine XS.iinc X23.here hx rfl (hb hby dD_64) rfl (l' := #[.val (.ref a), .val (.ref ca), .val (.int cnt), .val (.int (6 : Int32)), .val (.int (3 : Int32))]) rfl ?_
    show Steps p.tables e below (T23.setTop (mkF m 67 #[.val (.ref a), .val (.ref ca), .val (.int cnt), .val (.int (6 : Int32)), .val (.int (3 : Int32))] [])) _
    refine XS.goto X23.here hx rfl (pc0 := 67) (pc' := 46) rfl (hb hby dD_67) (by decide) (by decide) ?_
    show Steps p.tables e below (T23.setTop (mkF m 46 #[.val (.ref a), .val (.ref ca), .val (.int cnt), .val (.int (6 : Int32)), .val (.int (3 : Int32))] [])) _
    refine XS.iload X23.here hx rfl (hb hby dD_46) rfl ?_
    show Steps p.tables e below (T23.setTop (mkF m 48 #[.val (.ref a), .val (.ref ca), .val (.int cnt), .val (.int (6 : Int32)), .val (.int (3 : Int32))] [(.int (3 : Int32))])) _
    refine XS.aloadN X23.here hx rfl (hb hby dD_48) rfl rfl ?_
    show Steps p.tables e below (T23.setTop (mkF m 49 #[.val (.ref a), .val (.ref ca), .val (.int cnt), .val (.int (6 : Int32)), .val (.int (3 : Int32))] [(.ref a), (.int (3 : Int32))])) _
    refine st24 _ ?_
    show Steps p.tables e below (T24.setTop (mkF m 52 #[.val (.ref a), .val (.ref ca), .val (.int cnt), .val (.int (6 : Int32)), .val (.int (3 : Int32))] [(.int (3 : Int32)), (.int (3 : Int32))])) _
    refine XS.icmpYes X24.here hx rfl (pc0 := 52) (pc' := 70) rfl (hb hby dD_52) rfl (flt (by decide : ¬ ((3 : Int32) < (3 : Int32)))).2.1 (by decide) (by decide) ?_
    show Steps p.tables e below (T24.setTop (mkF m 70 #[.val (.ref a), .val (.ref ca), .val (.int cnt), .val (.int (6 : Int32)), .val (.int (3 : Int32))] [])) _
    refine XS.aloadN X24.here hx rfl (hb hby dD_70) rfl rfl ?_
    show Steps p.tables e below (T24.setTop (mkF m 71 #[.val (.ref a), .val (.ref ca), .val (.int cnt), .val (.int (6 : Int32)), .val (.int (3 : Int32))] [(.ref a)])) _
    refine XS.iloadN X24.here hx rfl (hb hby dD_71) rfl ?_
    show Steps p.tables e below (T24.setTop (mkF m 72 #[.val (.ref a), .val (.ref ca), .val (.int cnt), .val (.int (6 : Int32)), .val (.int (3 : Int32))] [(.int cnt), (.ref a)])) _
    refine st25 _ ?_
    show Steps p.tables e below (T25.setTop (mkF m 75 #[.val (.ref a), .val (.ref ca), .val (.int cnt), .val (.int (6 : Int32)), .val (.int (3 : Int32))] [])) _
    refine XS.aloadN X25.here hx rfl (hb hby dD_75) rfl rfl ?_
    show Steps p.tables e below (T25.setTop (mkF m 76 #[.val (.ref a), .val (.ref ca), .val (.int cnt), .val (.int (6 : Int32)), .val (.int (3 : Int32))] [(.ref a)])) _
    refine XS.iloadN X25.here hx rfl (hb hby dD_76) rfl ?_
    show Steps p.tables e below (T25.setTop (mkF m 77 #[.val (.ref a), .val (.ref ca), .val (.int cnt), .val (.int (6 : Int32)), .val (.int (3 : Int32))] [(.int (6 : Int32)), (.ref a)])) _
    refine XS.iloadN X25.here hx rfl (hb hby dD_77) rfl ?_
    show Steps p.tables e below (T25.setTop (mkF m 78 #[.val (.ref a), .val (.ref ca), .val (.int cnt), .val (.int (6 : Int32)), .val (.int (3 : Int32))] [(.int cnt), (.int (6 : Int32)), (.ref a)])) _
    refine XS.isub X25.here hx rfl (hb hby dD_78) rfl ?_
    show Steps p.tables e below (T25.setTop (mkF m 79 #[.val (.ref a), .val (.ref ca), .val (.int cnt), .val (.int (6 : Int32)), .val (.int (3 : Int32))] [(.int ((6 : Int32) - cnt)), (.ref a)])) _
    refine st26 _ ?_
    show Steps p.tables e below (T26.setTop (mkF m 81 #[.val (.ref a), .val (.ref ca), .val (.int cnt), .val (.int (6 : Int32)), .val (.int (3 : Int32))] [(.ref b26), (.ref a)])) _
    refine st27 _ ?_
    show Steps p.tables e below (T27.setTop (mkF m 84 #[.val (.ref a), .val (.ref ca), .val (.int cnt), .val (.int (6 : Int32)), .val (.int (3 : Int32))] [])) _
    refine XS.aloadN X27.here hx rfl (hb hby dD_84) rfl rfl ?_
    show Steps p.tables e below (T27.setTop (mkF m 85 #[.val (.ref a), .val (.ref ca), .val (.int cnt), .val (.int (6 : Int32)), .val (.int (3 : Int32))] [(.ref a)])) _
    refine XS.aloadN X27.here hx rfl (hb hby dD_85) rfl rfl ?_
    show Steps p.tables e below (T27.setTop (mkF m 86 #[.val (.ref a), .val (.ref ca), .val (.int cnt), .val (.int (6 : Int32)), .val (.int (3 : Int32))] [(.ref a), (.ref a)])) _
    refine st28 _ ?_
    show Steps p.tables e below (T28.setTop (mkF m 89 #[.val (.ref a), .val (.ref ca), .val (.int cnt), .val (.int (6 : Int32)), .val (.int (3 : Int32))] [(.ref b26), (.ref a)])) _
    refine X28.arraylength hx (by rw [e28]; exact Ar29.1) (State.isArrayOf_alike hZ.alike Ar29.2.1) (g := (mkF m 89 #[.val (.ref a), .val (.ref ca), .val (.int cnt), .val (.int (6 : Int32)), .val (.int (3 : Int32))] [(.ref b26), (.ref a)])) rfl rfl (hb hby dD_89) _ ?_
    rw [len_of S29 M29]
    show Steps p.tables e below (T28.setTop (mkF m 90 #[.val (.ref a), .val (.ref ca), .val (.int cnt), .val (.int (6 : Int32)), .val (.int (3 : Int32))] [(.int ((6 : Int32) - cnt)), (.ref a)])) _
    refine st30 _ ?_
    show Steps p.tables e below (T30.setTop (mkF m 92 #[.val (.ref a), .val (.ref ca), .val (.int cnt), .val (.int (6 : Int32)), .val (.int (3 : Int32))] [(.ref b30), (.ref a)])) _
    refine st31 _ ?_
    show Steps p.tables e below (T31.setTop (mkF m 95 #[.val (.ref a), .val (.ref ca), .val (.int cnt), .val (.int (6 : Int32)), .val (.int (3 : Int32))] [])) _
    refine XS.aloadN X31.here hx rfl (hb hby dD_95) rfl rfl ?_
    show Steps p.tables e below (T31.setTop (mkF m 96 #[.val (.ref a), .val (.ref ca), .val (.int cnt), .val (.int (6 : Int32)), .val (.int (3 : Int32))] [(.ref a)])) _
    refine XS.aloadN X31.here hx rfl (hb hby dD_96) rfl rfl ?_
    show Steps p.tables e below (T31.setTop (mkF m 97 #[.val (.ref a), .val (.ref ca), .val (.int cnt), .val (.int (6 : Int32)), .val (.int (3 : Int32))] [(.ref a), (.ref a)])) _
    refine st32 _ ?_
    show Steps p.tables e below (T32.setTop (mkF m 100 #[.val (.ref a), .val (.ref ca), .val (.int cnt), .val (.int (6 : Int32)), .val (.int (3 : Int32))] [(.ref b26), (.ref a)])) _
    refine X32.arraylength hx (by rw [e32]; exact Ar33.1) (State.isArrayOf_alike hZ.alike Ar33.2.1) (g := (mkF m 100 #[.val (.ref a), .val (.ref ca), .val (.int cnt), .val (.int (6 : Int32)), .val (.int (3 : Int32))] [(.ref b26), (.ref a)])) rfl rfl (hb hby dD_100) _ ?_
    rw [len_of S33 M33]
    show Steps p.tables e below (T32.setTop (mkF m 101 #[.val (.ref a), .val (.ref ca), .val (.int cnt), .val (.int (6 : Int32)), .val (.int (3 : Int32))] [(.int ((6 : Int32) - cnt)), (.ref a)])) _
    refine st34 _ ?_
    show Steps p.tables e below (T34.setTop (mkF m 103 #[.val (.ref a), .val (.ref ca), .val (.int cnt), .val (.int (6 : Int32)), .val (.int (3 : Int32))] [(.ref b34), (.ref a)])) _
    refine st35 _ ?_
    show Steps p.tables e below (T35.setTop (mkF m 106 #[.val (.ref a), .val (.ref ca), .val (.int cnt), .val (.int (6 : Int32)), .val (.int (3 : Int32))] [])) _
    exact X35.returnOut hx Bd.returns (hb hby dD_106) hr
  · show QD Z a ca cnt ka kb kc k_ca h0 n0 _ T35.heap _
    rw [e35]
    exact ⟨b5, k5, b10, k10, rfl, N35, K35, g_b5, sz_b5, g_b10, sz_b10, ne_b5_b10, (((((((((((((((((E_a.wr W2).wr W4).ext E5).wr W6).keep Kc9).ext E10).wr W11).wr W15).wr W19).wr W23).wr W25).ext E26).wr W27).ext E30).wr W31).ext E34).wr W35), (Fld.other W35 ((Fld.other W31 ((Fld.other W27 ((Fld.other W25 (Fld.other W23 (Fld.other W19 (Fld.other W15 (Fld.other W11 (((Fld.other W6 (F4.ext E5) (Or.inr (slot_ne (Or.inl (hw _ (List.mem_of_getElem? (i := 14) rfl))) (Or.inr (hw _ (List.mem_of_getElem? (i := 16) rfl))) (by decide) (t := .int) (t' := (.array .int)) (by decide) (by decide)))).keep Kc9 (ninS ne_a_b5 nin0)).ext E10) (Or.inr (slot_ne (Or.inl (hw _ (List.mem_of_getElem? (i := 14) rfl))) (Or.inr (hw _ (List.mem_of_getElem? (i := 22) rfl))) (by decide) (t := .int) (t' := (.array .int)) (by decide) (by decide)))) (Or.inl ne_a_b10)) (Or.inl ne_a_b10)) (Or.inl ne_a_b10)) (Or.inr (slot_ne (Or.inl (hw _ (List.mem_of_getElem? (i := 14) rfl))) (Or.inl (hw _ (List.mem_of_getElem? (i := 24) rfl))) (by decide) (t := .int) (t' := .int) (by decide) (by decide)))).ext E26) (Or.inr (slot_ne (Or.inl (hw _ (List.mem_of_getElem? (i := 14) rfl))) (Or.inr (hw _ (List.mem_of_getElem? (i := 26) rfl))) (by decide) (t := .int) (t' := (.array .int)) (by decide) (by decide)))).ext E30) (Or.inr (slot_ne (Or.inl (hw _ (List.mem_of_getElem? (i := 14) rfl))) (Or.inr (hw _ (List.mem_of_getElem? (i := 28) rfl))) (by decide) (t := .int) (t' := (.array .int)) (by decide) (by decide)))).ext E34) (Or.inr (slot_ne (Or.inl (hw _ (List.mem_of_getElem? (i := 14) rfl))) (Or.inr (hw _ (List.mem_of_getElem? (i := 30) rfl))) (by decide) (t := .int) (t' := (.array .int)) (by decide) (by decide)))), (Fld.other W35 ((Fld.other W31 ((Fld.other W27 ((Fld.other W25 (Fld.other W23 (Fld.other W19 (Fld.other W15 (Fld.other W11 ((F6.keep Kc9 (ninS ne_a_b5 nin0)).ext E10) (Or.inr (slot_ne (Or.inr (hw _ (List.mem_of_getElem? (i := 16) rfl))) (Or.inr (hw _ (List.mem_of_getElem? (i := 22) rfl))) (by decide) (t := (.array .int)) (t' := (.array .int)) (by decide) (by decide)))) (Or.inl ne_a_b10)) (Or.inl ne_a_b10)) (Or.inl ne_a_b10)) (Or.inr (slot_ne (Or.inr (hw _ (List.mem_of_getElem? (i := 16) rfl))) (Or.inl (hw _ (List.mem_of_getElem? (i := 24) rfl))) (by decide) (t := (.array .int)) (t' := .int) (by decide) (by decide)))).ext E26) (Or.inr (slot_ne (Or.inr (hw _ (List.mem_of_getElem? (i := 16) rfl))) (Or.inr (hw _ (List.mem_of_getElem? (i := 26) rfl))) (by decide) (t := (.array .int)) (t' := (.array .int)) (by decide) (by decide)))).ext E30) (Or.inr (slot_ne (Or.inr (hw _ (List.mem_of_getElem? (i := 16) rfl))) (Or.inr (hw _ (List.mem_of_getElem? (i := 28) rfl))) (by decide) (t := (.array .int)) (t' := (.array .int)) (by decide) (by decide)))).ext E34) (Or.inr (slot_ne (Or.inr (hw _ (List.mem_of_getElem? (i := 16) rfl))) (Or.inr (hw _ (List.mem_of_getElem? (i := 30) rfl))) (by decide) (t := (.array .int)) (t' := (.array .int)) (by decide) (by decide)))), (Fld.other W35 ((Fld.other W31 ((Fld.other W27 ((Fld.other W25 (Fld.other W23 (Fld.other W19 (Fld.other W15 F11 (Or.inl ne_a_b10)) (Or.inl ne_a_b10)) (Or.inl ne_a_b10)) (Or.inr (slot_ne (Or.inr (hw _ (List.mem_of_getElem? (i := 22) rfl))) (Or.inl (hw _ (List.mem_of_getElem? (i := 24) rfl))) (by decide) (t := (.array .int)) (t' := .int) (by decide) (by decide)))).ext E26) (Or.inr (slot_ne (Or.inr (hw _ (List.mem_of_getElem? (i := 22) rfl))) (Or.inr (hw _ (List.mem_of_getElem? (i := 26) rfl))) (by decide) (t := (.array .int)) (t' := (.array .int)) (by decide) (by decide)))).ext E30) (Or.inr (slot_ne (Or.inr (hw _ (List.mem_of_getElem? (i := 22) rfl))) (Or.inr (hw _ (List.mem_of_getElem? (i := 28) rfl))) (by decide) (t := (.array .int)) (t' := (.array .int)) (by decide) (by decide)))).ext E34) (Or.inr (slot_ne (Or.inr (hw _ (List.mem_of_getElem? (i := 22) rfl))) (Or.inr (hw _ (List.mem_of_getElem? (i := 30) rfl))) (by decide) (t := (.array .int)) (t' := (.array .int)) (by decide) (by decide)))), ((((((((((((V9.ext E10).other W11 (Ne.symm ne_a_b5)).other W15 ne_b5_b10).other W19 ne_b5_b10).other W23 ne_b5_b10).other W25 (Ne.symm ne_a_b5)).ext E26).other W27 (Ne.symm ne_a_b5)).ext E30).other W31 (Ne.symm ne_a_b5)).ext E34).other W35 (Ne.symm ne_a_b5)), (((((((V23.other W25 (Ne.symm ne_a_b10)).ext E26).other W27 (Ne.symm ne_a_b10)).ext E30).other W31 (Ne.symm ne_a_b10)).ext E34).other W35 (Ne.symm ne_a_b10))⟩
theorem dC3_0 : decode prog_24_method_6_code 0 = .ok (.aload_n 0, 1) := by decide +kernel
theorem dC3_1 : decode prog_24_method_6_code 1 = .ok (.getfield 16, 3) := by decide +kernel
theorem dC3_4 : decode prog_24_method_6_code 4 = .ok (.aload_n 0, 1) := by decide +kernel
theorem dC3_5 : decode prog_24_method_6_code 5 = .ok (.getfield 13, 3) := by decide +kernel
theorem dC3_8 : decode prog_24_method_6_code 8 = .ok (.aload_n 0, 1) := by decide +kernel
theorem dC3_9 : decode prog_24_method_6_code 9 = .ok (.getfield 16, 3) := by decide +kernel
theorem dC3_12 : decode prog_24_method_6_code 12 = .ok (.iload_n 1, 1) := by decide +kernel
theorem dC3_13 : decode prog_24_method_6_code 13 = .ok (.iaload, 1) := by decide +kernel
theorem dC3_14 : decode prog_24_method_6_code 14 = .ok (.iastore, 1) := by decide +kernel
theorem dC3_15 : decode prog_24_method_6_code 15 = .ok (.aload_n 0, 1) := by decide +kernel
theorem dC3_16 : decode prog_24_method_6_code 16 = .ok (.getfield 26, 3) := by decide +kernel
theorem dC3_19 : decode prog_24_method_6_code 19 = .ok (.aload_n 0, 1) := by decide +kernel
theorem dC3_20 : decode prog_24_method_6_code 20 = .ok (.getfield 13, 3) := by decide +kernel
theorem dC3_23 : decode prog_24_method_6_code 23 = .ok (.aload_n 0, 1) := by decide +kernel
theorem dC3_24 : decode prog_24_method_6_code 24 = .ok (.getfield 26, 3) := by decide +kernel
theorem dC3_27 : decode prog_24_method_6_code 27 = .ok (.iload_n 1, 1) := by decide +kernel
theorem dC3_28 : decode prog_24_method_6_code 28 = .ok (.iaload, 1) := by decide +kernel
theorem dC3_29 : decode prog_24_method_6_code 29 = .ok (.iastore, 1) := by decide +kernel
theorem dC3_30 : decode prog_24_method_6_code 30 = .ok (.aload_n 0, 1) := by decide +kernel
theorem dC3_31 : decode prog_24_method_6_code 31 = .ok (.dup, 1) := by decide +kernel
theorem dC3_32 : decode prog_24_method_6_code 32 = .ok (.getfield 13, 3) := by decide +kernel
theorem dC3_35 : decode prog_24_method_6_code 35 = .ok (.iconst 1, 1) := by decide +kernel
theorem dC3_36 : decode prog_24_method_6_code 36 = .ok (.iadd, 1) := by decide +kernel
theorem dC3_37 : decode prog_24_method_6_code 37 = .ok (.putfield 13, 3) := by decide +kernel
theorem dC3_40 : decode prog_24_method_6_code 40 = .ok (.return_, 1) := by decide +kernel
theorem efC3 (m : MethodId) (a : Addr) (j : Int32) : entryFrame m #[(.ref a), (.int j)] 2 = mkF m 0 #[.val (.ref a), .val (.int j)] [] := by first | (simp [entryFrame, mkF, argsToLocals, Value.category]; done) | rfl
def QC3 (Z : State) (a : Addr) (j : Int32) (na : Addr) (va : Addr) (k_na : ClassId) (ln : List Int32) (k_va : ClassId) (lv : List Int32) (h0 : Heap) (n0 : Nat) (v : Option Value) (h : Heap) (L : List Loc) : Prop := v = none ∧ Fr n0 L ∧ Keep h0 h [a, na, va] ∧ Exa Z h a "com/example/covey/covey/divisive/SplitLog" ∧ Fld Z h a "com/example/covey/covey/divisive/SplitLog" "copies" "I" (.int (4 : Int32)) ∧ Fld Z h a "com/example/covey/covey/divisive/SplitLog" "nodeOf" "[I" (.ref na) ∧ Fld Z h a "com/example/covey/covey/divisive/SplitLog" "vertexOf" "[I" (.ref va) ∧ Arv Z h na k_na .int (6 : Int32) ((ln.set 3 (own_get ln j)).map Value.int) (.int (0 : Int32)) ∧ Arv Z h va k_va .int (6 : Int32) ((lv.set 3 (own_get lv j)).map Value.int) (.int (0 : Int32))
set_option maxRecDepth 65536 in
set_option maxHeartbeats 40000000 in
theorem rmC3 (l : Launch) (Z : State) (a0 : Array Value) (hw : ∀ d ∈ tables_1, d.before a0 Z = true) (ws : List Jvm.Cond) (a : Addr) (j : Int32) (na : Addr) (va : Addr) (k_na : ClassId) (ln : List Int32) (k_va : ClassId) (lv : List Int32) (h0 : Heap) (n0 : Nat) (Z0 : n0 ≤ h0.size) (E_a : Exa Z h0 a "com/example/covey/covey/divisive/SplitLog") (F_copies_a : Fld Z h0 a "com/example/covey/covey/divisive/SplitLog" "copies" "I" (.int (3 : Int32))) (F_nodeOf_a : Fld Z h0 a "com/example/covey/covey/divisive/SplitLog" "nodeOf" "[I" (.ref na)) (F_vertexOf_a : Fld Z h0 a "com/example/covey/covey/divisive/SplitLog" "vertexOf" "[I" (.ref va)) (V_na : Arv Z h0 na k_na .int (6 : Int32) (ln.map Value.int) (.int (0 : Int32))) (V_va : Arv Z h0 va k_va .int (6 : Int32) (lv.map Value.int) (.int (0 : Int32))) (g_a : n0 ≤ a) (g_na : n0 ≤ na) (g_va : n0 ≤ va) (ne_a_na : a ≠ na) (ne_a_va : a ≠ va) (ne_na_va : na ≠ va) (hlen_na : 3 < ln.length) (hlen_va : 3 < lv.length) (hj : own_in j 5) :
    MetFree l (⟨"com/example/covey/covey/divisive/SplitLog", "copy", "(I)V"⟩ : MethodName) (head1 (Jvm.Cond.code (⟨"com/example/covey/covey/divisive/SplitLog", "copy", "(I)V"⟩ : MethodName) prog_24_method_6_code 2 none :: ws) ({ frames := 0, cells := 0, slots := 0, locals := 0 } : Room)) (fun av_ U => av_ = #[(.ref a), (.int j)] ∧ Z.Warmed39 U.vm ∧ U.heap = h0) (fun _ _ _ _ _ => True) (fun _ U o U' => ∃ v L, o = .returned v ∧ QC3 Z a j na va k_na ln k_va lv h0 n0 v U'.heap L ∧ FrameEnd U o U' L ({ frames := 0, cells := 0, slots := 0, locals := 0 } : Room).cells ({ frames := 0, cells := 0, slots := 0, locals := 0 } : Room).slots) := by
  refine MetFree.of_bodySF (plainFor_of_name own_pn0) hisR ?_
  intro p e s m args below meth c s₁ Bd hml0 hP hK
  obtain ⟨rfl, hZ, hh⟩ := hP
  have hx := Bd.exec
  have hby := Bd.bytes
  have hml : c.maxLocals = 2 := hml0
  have hown : s.vm.findClass "com/example/covey/covey/divisive/SplitLog" = some m.cls := findClass_of_methodNamed Bd.named
  have hnm := (name_of_methodNamed Bd.named Bd.method).1
  have X0 : Stand p l e ({ frames := 0, cells := 0, slots := 0, locals := 0 } : Room) s m #[(.ref a), (.int j)] below meth c s₁ [] 0 0 := Stand.of_body Bd
  have e0 : s₁.heap = h0 := by rw [← hh, Bd.state]; rfl
  have N0 := Fr.nil n0
  have pre0 : ∀ t, Steps p.tables e below (s₁.setTop (mkF m 0 #[.val (.ref a), .val (.int j)] [])) t → Steps p.tables e below (s₁.setTop (entryFrame m #[(.ref a), (.int j)] 2)) t := fun t k => castTop (efC3 m a j) k
  obtain ⟨T1, X1, e1, st1⟩ := getF X0 hx hZ hown (host := "") (Or.inl (hw _ (List.mem_of_getElem? (i := 15) rfl))) Via.refl e0 F_nodeOf_a (g := (mkF m 1 #[.val (.ref a), .val (.int j)] [(.ref a)])) rfl rfl (hb hby dC3_1)
  obtain ⟨T2, X2, e2, st2⟩ := getF X1 hx hZ hown (host := "") (Or.inl (hw _ (List.mem_of_getElem? (i := 13) rfl))) Via.refl e1 F_copies_a (g := (mkF m 5 #[.val (.ref a), .val (.int j)] [(.ref a), (.ref na)])) rfl rfl (hb hby dC3_5)
  obtain ⟨T3, X3, e3, st3⟩ := getF X2 hx hZ hown (host := "") (Or.inl (hw _ (List.mem_of_getElem? (i := 15) rfl))) Via.refl e2 F_nodeOf_a (g := (mkF m 9 #[.val (.ref a), .val (.int j)] [(.ref a), (.int (3 : Int32)), (.ref na)])) rfl rfl (hb hby dC3_9)
  obtain ⟨cl4, Ar4, q4, S4, M4, Hs4, G4⟩ := (id V_na)
  have hin4 : ¬ (j < 0 ∨ cl4.slots.size ≤ (j).toNatClampNeg) := inb_of S4 (own_inb hj (m := 6) (by decide) (by decide))
  have hat4 : cl4.slots[(j).toNatClampNeg]? = some (.int (own_get ln j)) := Hs4.at hin4 (own_getV ln j)
  obtain ⟨cl5, Ar5, q5, S5, M5, Hs5, G5⟩ := (id V_na)
  have hin5 : ¬ ((3 : Int32) < 0 ∨ cl5.slots.size ≤ ((3 : Int32)).toNatClampNeg) := inb_of S5 ⟨by decide, by decide⟩
  obtain ⟨T6, h6, X6, e6, W6, st6⟩ := stI X3 hx hZ e3 Ar5 (j := (3 : Int32)) hin5 (g := (mkF m 14 #[.val (.ref a), .val (.int j)] [(.int (own_get ln j)), (.int (3 : Int32)), (.ref na)])) rfl rfl (hb hby dC3_14)
  have V6 : Arv Z h6 na k_na .int (6 : Int32) ((ln.set 3 (own_get ln j)).map Value.int) (.int (0 : Int32)) := by
    rw [List.map_set]
    exact Arv.set Ar5 q5 S5 M5 Hs5 G5 rfl W6 3 rfl (by rw [List.length_map]; exact hlen_na)
  have K6 : Keep h0 h6 [a, na, va] := (Keep.refl h0 [a, na, va]).wr W6 (Or.inl (List.mem_of_getElem? (i := 1) rfl))
  have Zs6 : n0 ≤ h6.size := Nat.le_trans Z0 (Keep.of_wr W6).1
  have N6 := Fr.snoc X6 N0 g_na
  obtain ⟨T7, X7, e7, st7⟩ := getF X6 hx hZ hown (host := "") (Or.inl (hw _ (List.mem_of_getElem? (i := 21) rfl))) Via.refl e6 (Fld.other W6 F_vertexOf_a (Or.inl ne_a_na)) (g := (mkF m 16 #[.val (.ref a), .val (.int j)] [(.ref a)])) rfl rfl (hb hby dC3_16)
  obtain ⟨T8, X8, e8, st8⟩ := getF X7 hx hZ hown (host := "") (Or.inl (hw _ (List.mem_of_getElem? (i := 13) rfl))) Via.refl e7 (Fld.other W6 F_copies_a (Or.inl ne_a_na)) (g := (mkF m 20 #[.val (.ref a), .val (.int j)] [(.ref a), (.ref va)])) rfl rfl (hb hby dC3_20)
  obtain ⟨T9, X9, e9, st9⟩ := getF X8 hx hZ hown (host := "") (Or.inl (hw _ (List.mem_of_getElem? (i := 21) rfl))) Via.refl e8 (Fld.other W6 F_vertexOf_a (Or.inl ne_a_na)) (g := (mkF m 24 #[.val (.ref a), .val (.int j)] [(.ref a), (.int (3 : Int32)), (.ref va)])) rfl rfl (hb hby dC3_24)
  obtain ⟨cl10, Ar10, q10, S10, M10, Hs10, G10⟩ := (V_va.other W6 (Ne.symm ne_na_va))
  have hin10 : ¬ (j < 0 ∨ cl10.slots.size ≤ (j).toNatClampNeg) := inb_of S10 (own_inb hj (m := 6) (by decide) (by decide))
  have hat10 : cl10.slots[(j).toNatClampNeg]? = some (.int (own_get lv j)) := Hs10.at hin10 (own_getV lv j)
  obtain ⟨cl11, Ar11, q11, S11, M11, Hs11, G11⟩ := (V_va.other W6 (Ne.symm ne_na_va))
  have hin11 : ¬ ((3 : Int32) < 0 ∨ cl11.slots.size ≤ ((3 : Int32)).toNatClampNeg) := inb_of S11 ⟨by decide, by decide⟩
  obtain ⟨T12, h12, X12, e12, W12, st12⟩ := stI X9 hx hZ e9 Ar11 (j := (3 : Int32)) hin11 (g := (mkF m 29 #[.val (.ref a), .val (.int j)] [(.int (own_get lv j)), (.int (3 : Int32)), (.ref va)])) rfl rfl (hb hby dC3_29)
  have V12 : Arv Z h12 va k_va .int (6 : Int32) ((lv.set 3 (own_get lv j)).map Value.int) (.int (0 : Int32)) := by
    rw [List.map_set]
    exact Arv.set Ar11 q11 S11 M11 Hs11 G11 rfl W12 3 rfl (by rw [List.length_map]; exact hlen_va)
  have K12 : Keep h0 h12 [a, na, va] := K6.wr W12 (Or.inl (List.mem_of_getElem? (i := 2) rfl))
  have Zs12 : n0 ≤ h12.size := Nat.le_trans Zs6 (Keep.of_wr W12).1
  have N12 := Fr.snoc X12 N6 g_va
  obtain ⟨T13, X13, e13, st13⟩ := getF X12 hx hZ hown (host := "") (Or.inl (hw _ (List.mem_of_getElem? (i := 13) rfl))) Via.refl e12 (Fld.other W12 (Fld.other W6 F_copies_a (Or.inl ne_a_na)) (Or.inl ne_a_va)) (g := (mkF m 32 #[.val (.ref a), .val (.int j)] [(.ref a), (.ref a)])) rfl rfl (hb hby dC3_32)
  obtain ⟨T14, h14, X14, e14, W14, st14⟩ := putF X13 hx hZ hown (host := "") (Or.inl (hw _ (List.mem_of_getElem? (i := 13) rfl))) Via.refl e13 (Fld.other W12 (Fld.other W6 F_copies_a (Or.inl ne_a_na)) (Or.inl ne_a_va)) ((E_a.wr W6).wr W12) (Or.inl (hw _ (List.mem_of_getElem? (i := 14) rfl))) (hw _ (List.mem_of_getElem? (i := 3) rfl)) (ty := .int) (by decide) rfl rfl (g := (mkF m 37 #[.val (.ref a), .val (.int j)] [(.int (4 : Int32)), (.ref a)])) rfl rfl (hb hby dC3_37)
  have F14 : Fld Z h14 a "com/example/covey/covey/divisive/SplitLog" "copies" "I" (.int (4 : Int32)) := Fld.same W14 (Fld.other W12 (Fld.other W6 F_copies_a (Or.inl ne_a_na)) (Or.inl ne_a_va))
  have K14 : Keep h0 h14 [a, na, va] := K12.wr W14 (Or.inl (List.mem_of_getElem? (i := 0) rfl))
  have Zs14 : n0 ≤ h14.size := Nat.le_trans Zs12 (Keep.of_wr W14).1
  have N14 := Fr.snoc X14 N12 g_a
  obtain ⟨fs, hr, hrun, hended, hW, hsame⟩ := X14.leave (v := none) (fun _ => rfl)
  refine ⟨_, _, (pre0 _ ?_), hrun, hended, _, _, rfl, ?_, ⟨_, rfl⟩, hW, hsame.mono (by decide) (by decide)⟩
  · show Steps p.tables e below (s₁.setTop (mkF m 0 #[.val (.ref a), .val (.int j)] [])) _
    refine XS.aloadN X0.here hx rfl (hb hby dC3_0) rfl rfl ?_
    show Steps p.tables e below (s₁.setTop (mkF m 1 #[.val (.ref a), .val (.int j)] [(.ref a)])) _
    refine st1 _ ?_
    show Steps p.tables e below (T1.setTop (mkF m 4 #[.val (.ref a), .val (.int j)] [(.ref na)])) _
    refine XS.aloadN X1.here hx rfl (hb hby dC3_4) rfl rfl ?_
    show Steps p.tables e below (T1.setTop (mkF m 5 #[.val (.ref a), .val (.int j)] [(.ref a), (.ref na)])) _
    refine st2 _ ?_
    show Steps p.tables e below (T2.setTop (mkF m 8 #[.val (.ref a), .val (.int j)] [(.int (3 : Int32)), (.ref na)])) _
    refine XS.aloadN X2.here hx rfl (hb hby dC3_8) rfl rfl ?_
    show Steps p.tables e below (T2.setTop (mkF m 9 #[.val (.ref a), .val (.int j)] [(.ref a), (.int (3 : Int32)), (.ref na)])) _
    refine st3 _ ?_
    show Steps p.tables e below (T3.setTop (mkF m 12 #[.val (.ref a), .val (.int j)] [(.ref na), (.int (3 : Int32)), (.ref na)])) _
    refine XS.iloadN X3.here hx rfl (hb hby dC3_12) rfl ?_
    show Steps p.tables e below (T3.setTop (mkF m 13 #[.val (.ref a), .val (.int j)] [(.int j), (.ref na), (.int (3 : Int32)), (.ref na)])) _
    refine X3.iaload hx (j := j) (v := (.int (own_get ln j))) (by rw [e3]; exact Ar4.1) (State.isArrayOf_alike hZ.alike Ar4.2.1) Ar4.2.2 hin4 hat4 (g := (mkF m 13 #[.val (.ref a), .val (.int j)] [(.int j), (.ref na), (.int (3 : Int32)), (.ref na)])) rfl rfl (hb hby dC3_13) _ ?_
    show Steps p.tables e below (T3.setTop (mkF m 14 #[.val (.ref a), .val (.int j)] [(.int (own_get ln j)), (.int (3 : Int32)), (.ref na)])) _
    refine st6 _ ?_
    show Steps p.tables e below (T6.setTop (mkF m 15 #[.val (.ref a), .val (.int j)] [])) _
    refine XS.aloadN X6.here hx rfl (hb hby dC3_15) rfl rfl ?_
    show Steps p.tables e below (T6.setTop (mkF m 16 #[.val (.ref a), .val (.int j)] [(.ref a)])) _
    refine st7 _ ?_
    show Steps p.tables e below (T7.setTop (mkF m 19 #[.val (.ref a), .val (.int j)] [(.ref va)])) _
    refine XS.aloadN X7.here hx rfl (hb hby dC3_19) rfl rfl ?_
    show Steps p.tables e below (T7.setTop (mkF m 20 #[.val (.ref a), .val (.int j)] [(.ref a), (.ref va)])) _
    refine st8 _ ?_
    show Steps p.tables e below (T8.setTop (mkF m 23 #[.val (.ref a), .val (.int j)] [(.int (3 : Int32)), (.ref va)])) _
    refine XS.aloadN X8.here hx rfl (hb hby dC3_23) rfl rfl ?_
    show Steps p.tables e below (T8.setTop (mkF m 24 #[.val (.ref a), .val (.int j)] [(.ref a), (.int (3 : Int32)), (.ref va)])) _
    refine st9 _ ?_
    show Steps p.tables e below (T9.setTop (mkF m 27 #[.val (.ref a), .val (.int j)] [(.ref va), (.int (3 : Int32)), (.ref va)])) _
    refine XS.iloadN X9.here hx rfl (hb hby dC3_27) rfl ?_
    show Steps p.tables e below (T9.setTop (mkF m 28 #[.val (.ref a), .val (.int j)] [(.int j), (.ref va), (.int (3 : Int32)), (.ref va)])) _
    refine X9.iaload hx (j := j) (v := (.int (own_get lv j))) (by rw [e9]; exact Ar10.1) (State.isArrayOf_alike hZ.alike Ar10.2.1) Ar10.2.2 hin10 hat10 (g := (mkF m 28 #[.val (.ref a), .val (.int j)] [(.int j), (.ref va), (.int (3 : Int32)), (.ref va)])) rfl rfl (hb hby dC3_28) _ ?_
    show Steps p.tables e below (T9.setTop (mkF m 29 #[.val (.ref a), .val (.int j)] [(.int (own_get lv j)), (.int (3 : Int32)), (.ref va)])) _
    refine st12 _ ?_
    show Steps p.tables e below (T12.setTop (mkF m 30 #[.val (.ref a), .val (.int j)] [])) _
    refine XS.aloadN X12.here hx rfl (hb hby dC3_30) rfl rfl ?_
    show Steps p.tables e below (T12.setTop (mkF m 31 #[.val (.ref a), .val (.int j)] [(.ref a)])) _
    refine XS.dup X12.here hx rfl (hb hby dC3_31) rfl rfl ?_
    show Steps p.tables e below (T12.setTop (mkF m 32 #[.val (.ref a), .val (.int j)] [(.ref a), (.ref a)])) _
    refine st13 _ ?_
    show Steps p.tables e below (T13.setTop (mkF m 35 #[.val (.ref a), .val (.int j)] [(.int (3 : Int32)), (.ref a)])) _
    refine XS.iconst X13.here hx rfl (hb hby dC3_35) ?_
    show Steps p.tables e below (T13.setTop (mkF m 36 #[.val (.ref a), .val (.int j)] [(.int (1 : Int32)), (.int (3 : Int32)), (.ref a)])) _
    refine XS.iadd X13.here hx rfl (hb hby dC3_36) rfl ?_
    show Steps p.tables e below (T13.setTop (mkF m 37 #[.val (.ref a), .val (.int j)] [(.int (4 : Int32)), (.ref a)])) _
    refine st14 _ ?_
    show Steps p.tables e below (T14.setTop (mkF m 40 #[.val (.ref a), .val (.int j)] [])) _
    exact X14.returnOut hx Bd.returns (hb hby dC3_40) hr
  · show QC3 Z a j na va k_na ln k_va lv h0 n0 _ T14.heap _
    rw [e14]
    exact ⟨rfl, N14, K14, (((E_a.wr W6).wr W12).wr W14), F14, (Fld.other W14 (Fld.other W12 (Fld.other W6 F_nodeOf_a (Or.inl ne_a_na)) (Or.inl ne_a_va)) (Or.inr (slot_ne (Or.inr (hw _ (List.mem_of_getElem? (i := 16) rfl))) (Or.inl (hw _ (List.mem_of_getElem? (i := 14) rfl))) (by decide) (t := (.array .int)) (t' := .int) (by decide) (by decide)))), (Fld.other W14 (Fld.other W12 (Fld.other W6 F_vertexOf_a (Or.inl ne_a_na)) (Or.inl ne_a_va)) (Or.inr (slot_ne (Or.inr (hw _ (List.mem_of_getElem? (i := 22) rfl))) (Or.inl (hw _ (List.mem_of_getElem? (i := 14) rfl))) (by decide) (t := (.array .int)) (t' := .int) (by decide) (by decide)))), ((V6.other W12 ne_na_va).other W14 (Ne.symm ne_a_na)), (V12.other W14 (Ne.symm ne_a_va))⟩
theorem dC4_0 : decode prog_24_method_6_code 0 = .ok (.aload_n 0, 1) := by decide +kernel
theorem dC4_1 : decode prog_24_method_6_code 1 = .ok (.getfield 16, 3) := by decide +kernel
theorem dC4_4 : decode prog_24_method_6_code 4 = .ok (.aload_n 0, 1) := by decide +kernel
theorem dC4_5 : decode prog_24_method_6_code 5 = .ok (.getfield 13, 3) := by decide +kernel
theorem dC4_8 : decode prog_24_method_6_code 8 = .ok (.aload_n 0, 1) := by decide +kernel
theorem dC4_9 : decode prog_24_method_6_code 9 = .ok (.getfield 16, 3) := by decide +kernel
theorem dC4_12 : decode prog_24_method_6_code 12 = .ok (.iload_n 1, 1) := by decide +kernel
theorem dC4_13 : decode prog_24_method_6_code 13 = .ok (.iaload, 1) := by decide +kernel
theorem dC4_14 : decode prog_24_method_6_code 14 = .ok (.iastore, 1) := by decide +kernel
theorem dC4_15 : decode prog_24_method_6_code 15 = .ok (.aload_n 0, 1) := by decide +kernel
theorem dC4_16 : decode prog_24_method_6_code 16 = .ok (.getfield 26, 3) := by decide +kernel
theorem dC4_19 : decode prog_24_method_6_code 19 = .ok (.aload_n 0, 1) := by decide +kernel
theorem dC4_20 : decode prog_24_method_6_code 20 = .ok (.getfield 13, 3) := by decide +kernel
theorem dC4_23 : decode prog_24_method_6_code 23 = .ok (.aload_n 0, 1) := by decide +kernel
theorem dC4_24 : decode prog_24_method_6_code 24 = .ok (.getfield 26, 3) := by decide +kernel
theorem dC4_27 : decode prog_24_method_6_code 27 = .ok (.iload_n 1, 1) := by decide +kernel
theorem dC4_28 : decode prog_24_method_6_code 28 = .ok (.iaload, 1) := by decide +kernel
theorem dC4_29 : decode prog_24_method_6_code 29 = .ok (.iastore, 1) := by decide +kernel
theorem dC4_30 : decode prog_24_method_6_code 30 = .ok (.aload_n 0, 1) := by decide +kernel
theorem dC4_31 : decode prog_24_method_6_code 31 = .ok (.dup, 1) := by decide +kernel
theorem dC4_32 : decode prog_24_method_6_code 32 = .ok (.getfield 13, 3) := by decide +kernel
theorem dC4_35 : decode prog_24_method_6_code 35 = .ok (.iconst 1, 1) := by decide +kernel
theorem dC4_36 : decode prog_24_method_6_code 36 = .ok (.iadd, 1) := by decide +kernel
theorem dC4_37 : decode prog_24_method_6_code 37 = .ok (.putfield 13, 3) := by decide +kernel
theorem dC4_40 : decode prog_24_method_6_code 40 = .ok (.return_, 1) := by decide +kernel
theorem efC4 (m : MethodId) (a : Addr) (j : Int32) : entryFrame m #[(.ref a), (.int j)] 2 = mkF m 0 #[.val (.ref a), .val (.int j)] [] := by first | (simp [entryFrame, mkF, argsToLocals, Value.category]; done) | rfl
def QC4 (Z : State) (a : Addr) (j : Int32) (na : Addr) (va : Addr) (k_na : ClassId) (ln : List Int32) (k_va : ClassId) (lv : List Int32) (h0 : Heap) (n0 : Nat) (v : Option Value) (h : Heap) (L : List Loc) : Prop := v = none ∧ Fr n0 L ∧ Keep h0 h [a, na, va] ∧ Exa Z h a "com/example/covey/covey/divisive/SplitLog" ∧ Fld Z h a "com/example/covey/covey/divisive/SplitLog" "copies" "I" (.int (5 : Int32)) ∧ Fld Z h a "com/example/covey/covey/divisive/SplitLog" "nodeOf" "[I" (.ref na) ∧ Fld Z h a "com/example/covey/covey/divisive/SplitLog" "vertexOf" "[I" (.ref va) ∧ Arv Z h na k_na .int (6 : Int32) ((ln.set 4 (own_get ln j)).map Value.int) (.int (0 : Int32)) ∧ Arv Z h va k_va .int (6 : Int32) ((lv.set 4 (own_get lv j)).map Value.int) (.int (0 : Int32))
set_option maxRecDepth 65536 in
set_option maxHeartbeats 40000000 in
theorem rmC4 (l : Launch) (Z : State) (a0 : Array Value) (hw : ∀ d ∈ tables_1, d.before a0 Z = true) (ws : List Jvm.Cond) (a : Addr) (j : Int32) (na : Addr) (va : Addr) (k_na : ClassId) (ln : List Int32) (k_va : ClassId) (lv : List Int32) (h0 : Heap) (n0 : Nat) (Z0 : n0 ≤ h0.size) (E_a : Exa Z h0 a "com/example/covey/covey/divisive/SplitLog") (F_copies_a : Fld Z h0 a "com/example/covey/covey/divisive/SplitLog" "copies" "I" (.int (4 : Int32))) (F_nodeOf_a : Fld Z h0 a "com/example/covey/covey/divisive/SplitLog" "nodeOf" "[I" (.ref na)) (F_vertexOf_a : Fld Z h0 a "com/example/covey/covey/divisive/SplitLog" "vertexOf" "[I" (.ref va)) (V_na : Arv Z h0 na k_na .int (6 : Int32) (ln.map Value.int) (.int (0 : Int32))) (V_va : Arv Z h0 va k_va .int (6 : Int32) (lv.map Value.int) (.int (0 : Int32))) (g_a : n0 ≤ a) (g_na : n0 ≤ na) (g_va : n0 ≤ va) (ne_a_na : a ≠ na) (ne_a_va : a ≠ va) (ne_na_va : na ≠ va) (hlen_na : 4 < ln.length) (hlen_va : 4 < lv.length) (hj : own_in j 5) :
    MetFree l (⟨"com/example/covey/covey/divisive/SplitLog", "copy", "(I)V"⟩ : MethodName) (head1 (Jvm.Cond.code (⟨"com/example/covey/covey/divisive/SplitLog", "copy", "(I)V"⟩ : MethodName) prog_24_method_6_code 2 none :: ws) ({ frames := 0, cells := 0, slots := 0, locals := 0 } : Room)) (fun av_ U => av_ = #[(.ref a), (.int j)] ∧ Z.Warmed39 U.vm ∧ U.heap = h0) (fun _ _ _ _ _ => True) (fun _ U o U' => ∃ v L, o = .returned v ∧ QC4 Z a j na va k_na ln k_va lv h0 n0 v U'.heap L ∧ FrameEnd U o U' L ({ frames := 0, cells := 0, slots := 0, locals := 0 } : Room).cells ({ frames := 0, cells := 0, slots := 0, locals := 0 } : Room).slots) := by
  refine MetFree.of_bodySF (plainFor_of_name own_pn0) hisR ?_
  intro p e s m args below meth c s₁ Bd hml0 hP hK
  obtain ⟨rfl, hZ, hh⟩ := hP
  have hx := Bd.exec
  have hby := Bd.bytes
  have hml : c.maxLocals = 2 := hml0
  have hown : s.vm.findClass "com/example/covey/covey/divisive/SplitLog" = some m.cls := findClass_of_methodNamed Bd.named
  have hnm := (name_of_methodNamed Bd.named Bd.method).1
  have X0 : Stand p l e ({ frames := 0, cells := 0, slots := 0, locals := 0 } : Room) s m #[(.ref a), (.int j)] below meth c s₁ [] 0 0 := Stand.of_body Bd
  have e0 : s₁.heap = h0 := by rw [← hh, Bd.state]; rfl
  have N0 := Fr.nil n0
  have pre0 : ∀ t, Steps p.tables e below (s₁.setTop (mkF m 0 #[.val (.ref a), .val (.int j)] [])) t → Steps p.tables e below (s₁.setTop (entryFrame m #[(.ref a), (.int j)] 2)) t := fun t k => castTop (efC4 m a j) k
  obtain ⟨T1, X1, e1, st1⟩ := getF X0 hx hZ hown (host := "") (Or.inl (hw _ (List.mem_of_getElem? (i := 15) rfl))) Via.refl e0 F_nodeOf_a (g := (mkF m 1 #[.val (.ref a), .val (.int j)] [(.ref a)])) rfl rfl (hb hby dC4_1)
  obtain ⟨T2, X2, e2, st2⟩ := getF X1 hx hZ hown (host := "") (Or.inl (hw _ (List.mem_of_getElem? (i := 13) rfl))) Via.refl e1 F_copies_a (g := (mkF m 5 #[.val (.ref a), .val (.int j)] [(.ref a), (.ref na)])) rfl rfl (hb hby dC4_5)
  obtain ⟨T3, X3, e3, st3⟩ := getF X2 hx hZ hown (host := "") (Or.inl (hw _ (List.mem_of_getElem? (i := 15) rfl))) Via.refl e2 F_nodeOf_a (g := (mkF m 9 #[.val (.ref a), .val (.int j)] [(.ref a), (.int (4 : Int32)), (.ref na)])) rfl rfl (hb hby dC4_9)
  obtain ⟨cl4, Ar4, q4, S4, M4, Hs4, G4⟩ := (id V_na)
  have hin4 : ¬ (j < 0 ∨ cl4.slots.size ≤ (j).toNatClampNeg) := inb_of S4 (own_inb hj (m := 6) (by decide) (by decide))
  have hat4 : cl4.slots[(j).toNatClampNeg]? = some (.int (own_get ln j)) := Hs4.at hin4 (own_getV ln j)
  obtain ⟨cl5, Ar5, q5, S5, M5, Hs5, G5⟩ := (id V_na)
  have hin5 : ¬ ((4 : Int32) < 0 ∨ cl5.slots.size ≤ ((4 : Int32)).toNatClampNeg) := inb_of S5 ⟨by decide, by decide⟩
  obtain ⟨T6, h6, X6, e6, W6, st6⟩ := stI X3 hx hZ e3 Ar5 (j := (4 : Int32)) hin5 (g := (mkF m 14 #[.val (.ref a), .val (.int j)] [(.int (own_get ln j)), (.int (4 : Int32)), (.ref na)])) rfl rfl (hb hby dC4_14)
  have V6 : Arv Z h6 na k_na .int (6 : Int32) ((ln.set 4 (own_get ln j)).map Value.int) (.int (0 : Int32)) := by
    rw [List.map_set]
    exact Arv.set Ar5 q5 S5 M5 Hs5 G5 rfl W6 4 rfl (by rw [List.length_map]; exact hlen_na)
  have K6 : Keep h0 h6 [a, na, va] := (Keep.refl h0 [a, na, va]).wr W6 (Or.inl (List.mem_of_getElem? (i := 1) rfl))
  have Zs6 : n0 ≤ h6.size := Nat.le_trans Z0 (Keep.of_wr W6).1
  have N6 := Fr.snoc X6 N0 g_na
  obtain ⟨T7, X7, e7, st7⟩ := getF X6 hx hZ hown (host := "") (Or.inl (hw _ (List.mem_of_getElem? (i := 21) rfl))) Via.refl e6 (Fld.other W6 F_vertexOf_a (Or.inl ne_a_na)) (g := (mkF m 16 #[.val (.ref a), .val (.int j)] [(.ref a)])) rfl rfl (hb hby dC4_16)
  obtain ⟨T8, X8, e8, st8⟩ := getF X7 hx hZ hown (host := "") (Or.inl (hw _ (List.mem_of_getElem? (i := 13) rfl))) Via.refl e7 (Fld.other W6 F_copies_a (Or.inl ne_a_na)) (g := (mkF m 20 #[.val (.ref a), .val (.int j)] [(.ref a), (.ref va)])) rfl rfl (hb hby dC4_20)
  obtain ⟨T9, X9, e9, st9⟩ := getF X8 hx hZ hown (host := "") (Or.inl (hw _ (List.mem_of_getElem? (i := 21) rfl))) Via.refl e8 (Fld.other W6 F_vertexOf_a (Or.inl ne_a_na)) (g := (mkF m 24 #[.val (.ref a), .val (.int j)] [(.ref a), (.int (4 : Int32)), (.ref va)])) rfl rfl (hb hby dC4_24)
  obtain ⟨cl10, Ar10, q10, S10, M10, Hs10, G10⟩ := (V_va.other W6 (Ne.symm ne_na_va))
  have hin10 : ¬ (j < 0 ∨ cl10.slots.size ≤ (j).toNatClampNeg) := inb_of S10 (own_inb hj (m := 6) (by decide) (by decide))
  have hat10 : cl10.slots[(j).toNatClampNeg]? = some (.int (own_get lv j)) := Hs10.at hin10 (own_getV lv j)
  obtain ⟨cl11, Ar11, q11, S11, M11, Hs11, G11⟩ := (V_va.other W6 (Ne.symm ne_na_va))
  have hin11 : ¬ ((4 : Int32) < 0 ∨ cl11.slots.size ≤ ((4 : Int32)).toNatClampNeg) := inb_of S11 ⟨by decide, by decide⟩
  obtain ⟨T12, h12, X12, e12, W12, st12⟩ := stI X9 hx hZ e9 Ar11 (j := (4 : Int32)) hin11 (g := (mkF m 29 #[.val (.ref a), .val (.int j)] [(.int (own_get lv j)), (.int (4 : Int32)), (.ref va)])) rfl rfl (hb hby dC4_29)
  have V12 : Arv Z h12 va k_va .int (6 : Int32) ((lv.set 4 (own_get lv j)).map Value.int) (.int (0 : Int32)) := by
    rw [List.map_set]
    exact Arv.set Ar11 q11 S11 M11 Hs11 G11 rfl W12 4 rfl (by rw [List.length_map]; exact hlen_va)
  have K12 : Keep h0 h12 [a, na, va] := K6.wr W12 (Or.inl (List.mem_of_getElem? (i := 2) rfl))
  have Zs12 : n0 ≤ h12.size := Nat.le_trans Zs6 (Keep.of_wr W12).1
  have N12 := Fr.snoc X12 N6 g_va
  obtain ⟨T13, X13, e13, st13⟩ := getF X12 hx hZ hown (host := "") (Or.inl (hw _ (List.mem_of_getElem? (i := 13) rfl))) Via.refl e12 (Fld.other W12 (Fld.other W6 F_copies_a (Or.inl ne_a_na)) (Or.inl ne_a_va)) (g := (mkF m 32 #[.val (.ref a), .val (.int j)] [(.ref a), (.ref a)])) rfl rfl (hb hby dC4_32)
  obtain ⟨T14, h14, X14, e14, W14, st14⟩ := putF X13 hx hZ hown (host := "") (Or.inl (hw _ (List.mem_of_getElem? (i := 13) rfl))) Via.refl e13 (Fld.other W12 (Fld.other W6 F_copies_a (Or.inl ne_a_na)) (Or.inl ne_a_va)) ((E_a.wr W6).wr W12) (Or.inl (hw _ (List.mem_of_getElem? (i := 14) rfl))) (hw _ (List.mem_of_getElem? (i := 3) rfl)) (ty := .int) (by decide) rfl rfl (g := (mkF m 37 #[.val (.ref a), .val (.int j)] [(.int (5 : Int32)), (.ref a)])) rfl rfl (hb hby dC4_37)
  have F14 : Fld Z h14 a "com/example/covey/covey/divisive/SplitLog" "copies" "I" (.int (5 : Int32)) := Fld.same W14 (Fld.other W12 (Fld.other W6 F_copies_a (Or.inl ne_a_na)) (Or.inl ne_a_va))
  have K14 : Keep h0 h14 [a, na, va] := K12.wr W14 (Or.inl (List.mem_of_getElem? (i := 0) rfl))
  have Zs14 : n0 ≤ h14.size := Nat.le_trans Zs12 (Keep.of_wr W14).1
  have N14 := Fr.snoc X14 N12 g_a
  obtain ⟨fs, hr, hrun, hended, hW, hsame⟩ := X14.leave (v := none) (fun _ => rfl)
  refine ⟨_, _, (pre0 _ ?_), hrun, hended, _, _, rfl, ?_, ⟨_, rfl⟩, hW, hsame.mono (by decide) (by decide)⟩
  · show Steps p.tables e below (s₁.setTop (mkF m 0 #[.val (.ref a), .val (.int j)] [])) _
    refine XS.aloadN X0.here hx rfl (hb hby dC4_0) rfl rfl ?_
    show Steps p.tables e below (s₁.setTop (mkF m 1 #[.val (.ref a), .val (.int j)] [(.ref a)])) _
    refine st1 _ ?_
    show Steps p.tables e below (T1.setTop (mkF m 4 #[.val (.ref a), .val (.int j)] [(.ref na)])) _
    refine XS.aloadN X1.here hx rfl (hb hby dC4_4) rfl rfl ?_
    show Steps p.tables e below (T1.setTop (mkF m 5 #[.val (.ref a), .val (.int j)] [(.ref a), (.ref na)])) _
    refine st2 _ ?_
    show Steps p.tables e below (T2.setTop (mkF m 8 #[.val (.ref a), .val (.int j)] [(.int (4 : Int32)), (.ref na)])) _
    refine XS.aloadN X2.here hx rfl (hb hby dC4_8) rfl rfl ?_
    show Steps p.tables e below (T2.setTop (mkF m 9 #[.val (.ref a), .val (.int j)] [(.ref a), (.int (4 : Int32)), (.ref na)])) _
    refine st3 _ ?_
    show Steps p.tables e below (T3.setTop (mkF m 12 #[.val (.ref a), .val (.int j)] [(.ref na), (.int (4 : Int32)), (.ref na)])) _
    refine XS.iloadN X3.here hx rfl (hb hby dC4_12) rfl ?_
    show Steps p.tables e below (T3.setTop (mkF m 13 #[.val (.ref a), .val (.int j)] [(.int j), (.ref na), (.int (4 : Int32)), (.ref na)])) _
    refine X3.iaload hx (j := j) (v := (.int (own_get ln j))) (by rw [e3]; exact Ar4.1) (State.isArrayOf_alike hZ.alike Ar4.2.1) Ar4.2.2 hin4 hat4 (g := (mkF m 13 #[.val (.ref a), .val (.int j)] [(.int j), (.ref na), (.int (4 : Int32)), (.ref na)])) rfl rfl (hb hby dC4_13) _ ?_
    show Steps p.tables e below (T3.setTop (mkF m 14 #[.val (.ref a), .val (.int j)] [(.int (own_get ln j)), (.int (4 : Int32)), (.ref na)])) _
    refine st6 _ ?_
    show Steps p.tables e below (T6.setTop (mkF m 15 #[.val (.ref a), .val (.int j)] [])) _
    refine XS.aloadN X6.here hx rfl (hb hby dC4_15) rfl rfl ?_
    show Steps p.tables e below (T6.setTop (mkF m 16 #[.val (.ref a), .val (.int j)] [(.ref a)])) _
    refine st7 _ ?_
    show Steps p.tables e below (T7.setTop (mkF m 19 #[.val (.ref a), .val (.int j)] [(.ref va)])) _
    refine XS.aloadN X7.here hx rfl (hb hby dC4_19) rfl rfl ?_
    show Steps p.tables e below (T7.setTop (mkF m 20 #[.val (.ref a), .val (.int j)] [(.ref a), (.ref va)])) _
    refine st8 _ ?_
    show Steps p.tables e below (T8.setTop (mkF m 23 #[.val (.ref a), .val (.int j)] [(.int (4 : Int32)), (.ref va)])) _
    refine XS.aloadN X8.here hx rfl (hb hby dC4_23) rfl rfl ?_
    show Steps p.tables e below (T8.setTop (mkF m 24 #[.val (.ref a), .val (.int j)] [(.ref a), (.int (4 : Int32)), (.ref va)])) _
    refine st9 _ ?_
    show Steps p.tables e below (T9.setTop (mkF m 27 #[.val (.ref a), .val (.int j)] [(.ref va), (.int (4 : Int32)), (.ref va)])) _
    refine XS.iloadN X9.here hx rfl (hb hby dC4_27) rfl ?_
    show Steps p.tables e below (T9.setTop (mkF m 28 #[.val (.ref a), .val (.int j)] [(.int j), (.ref va), (.int (4 : Int32)), (.ref va)])) _
    refine X9.iaload hx (j := j) (v := (.int (own_get lv j))) (by rw [e9]; exact Ar10.1) (State.isArrayOf_alike hZ.alike Ar10.2.1) Ar10.2.2 hin10 hat10 (g := (mkF m 28 #[.val (.ref a), .val (.int j)] [(.int j), (.ref va), (.int (4 : Int32)), (.ref va)])) rfl rfl (hb hby dC4_28) _ ?_
    show Steps p.tables e below (T9.setTop (mkF m 29 #[.val (.ref a), .val (.int j)] [(.int (own_get lv j)), (.int (4 : Int32)), (.ref va)])) _
    refine st12 _ ?_
    show Steps p.tables e below (T12.setTop (mkF m 30 #[.val (.ref a), .val (.int j)] [])) _
    refine XS.aloadN X12.here hx rfl (hb hby dC4_30) rfl rfl ?_
    show Steps p.tables e below (T12.setTop (mkF m 31 #[.val (.ref a), .val (.int j)] [(.ref a)])) _
    refine XS.dup X12.here hx rfl (hb hby dC4_31) rfl rfl ?_
    show Steps p.tables e below (T12.setTop (mkF m 32 #[.val (.ref a), .val (.int j)] [(.ref a), (.ref a)])) _
    refine st13 _ ?_
    show Steps p.tables e below (T13.setTop (mkF m 35 #[.val (.ref a), .val (.int j)] [(.int (4 : Int32)), (.ref a)])) _
    refine XS.iconst X13.here hx rfl (hb hby dC4_35) ?_
    show Steps p.tables e below (T13.setTop (mkF m 36 #[.val (.ref a), .val (.int j)] [(.int (1 : Int32)), (.int (4 : Int32)), (.ref a)])) _
    refine XS.iadd X13.here hx rfl (hb hby dC4_36) rfl ?_
    show Steps p.tables e below (T13.setTop (mkF m 37 #[.val (.ref a), .val (.int j)] [(.int (5 : Int32)), (.ref a)])) _
    refine st14 _ ?_
    show Steps p.tables e below (T14.setTop (mkF m 40 #[.val (.ref a), .val (.int j)] [])) _
    exact X14.returnOut hx Bd.returns (hb hby dC4_40) hr
  · show QC4 Z a j na va k_na ln k_va lv h0 n0 _ T14.heap _
    rw [e14]
    exact ⟨rfl, N14, K14, (((E_a.wr W6).wr W12).wr W14), F14, (Fld.other W14 (Fld.other W12 (Fld.other W6 F_nodeOf_a (Or.inl ne_a_na)) (Or.inl ne_a_va)) (Or.inr (slot_ne (Or.inr (hw _ (List.mem_of_getElem? (i := 16) rfl))) (Or.inl (hw _ (List.mem_of_getElem? (i := 14) rfl))) (by decide) (t := (.array .int)) (t' := .int) (by decide) (by decide)))), (Fld.other W14 (Fld.other W12 (Fld.other W6 F_vertexOf_a (Or.inl ne_a_na)) (Or.inl ne_a_va)) (Or.inr (slot_ne (Or.inr (hw _ (List.mem_of_getElem? (i := 22) rfl))) (Or.inl (hw _ (List.mem_of_getElem? (i := 14) rfl))) (by decide) (t := (.array .int)) (t' := .int) (by decide) (by decide)))), ((V6.other W12 ne_na_va).other W14 (Ne.symm ne_a_na)), (V12.other W14 (Ne.symm ne_a_va))⟩
theorem dC5_0 : decode prog_24_method_6_code 0 = .ok (.aload_n 0, 1) := by decide +kernel
theorem dC5_1 : decode prog_24_method_6_code 1 = .ok (.getfield 16, 3) := by decide +kernel
theorem dC5_4 : decode prog_24_method_6_code 4 = .ok (.aload_n 0, 1) := by decide +kernel
theorem dC5_5 : decode prog_24_method_6_code 5 = .ok (.getfield 13, 3) := by decide +kernel
theorem dC5_8 : decode prog_24_method_6_code 8 = .ok (.aload_n 0, 1) := by decide +kernel
theorem dC5_9 : decode prog_24_method_6_code 9 = .ok (.getfield 16, 3) := by decide +kernel
theorem dC5_12 : decode prog_24_method_6_code 12 = .ok (.iload_n 1, 1) := by decide +kernel
theorem dC5_13 : decode prog_24_method_6_code 13 = .ok (.iaload, 1) := by decide +kernel
theorem dC5_14 : decode prog_24_method_6_code 14 = .ok (.iastore, 1) := by decide +kernel
theorem dC5_15 : decode prog_24_method_6_code 15 = .ok (.aload_n 0, 1) := by decide +kernel
theorem dC5_16 : decode prog_24_method_6_code 16 = .ok (.getfield 26, 3) := by decide +kernel
theorem dC5_19 : decode prog_24_method_6_code 19 = .ok (.aload_n 0, 1) := by decide +kernel
theorem dC5_20 : decode prog_24_method_6_code 20 = .ok (.getfield 13, 3) := by decide +kernel
theorem dC5_23 : decode prog_24_method_6_code 23 = .ok (.aload_n 0, 1) := by decide +kernel
theorem dC5_24 : decode prog_24_method_6_code 24 = .ok (.getfield 26, 3) := by decide +kernel
theorem dC5_27 : decode prog_24_method_6_code 27 = .ok (.iload_n 1, 1) := by decide +kernel
theorem dC5_28 : decode prog_24_method_6_code 28 = .ok (.iaload, 1) := by decide +kernel
theorem dC5_29 : decode prog_24_method_6_code 29 = .ok (.iastore, 1) := by decide +kernel
theorem dC5_30 : decode prog_24_method_6_code 30 = .ok (.aload_n 0, 1) := by decide +kernel
theorem dC5_31 : decode prog_24_method_6_code 31 = .ok (.dup, 1) := by decide +kernel
theorem dC5_32 : decode prog_24_method_6_code 32 = .ok (.getfield 13, 3) := by decide +kernel
theorem dC5_35 : decode prog_24_method_6_code 35 = .ok (.iconst 1, 1) := by decide +kernel
theorem dC5_36 : decode prog_24_method_6_code 36 = .ok (.iadd, 1) := by decide +kernel
theorem dC5_37 : decode prog_24_method_6_code 37 = .ok (.putfield 13, 3) := by decide +kernel
theorem dC5_40 : decode prog_24_method_6_code 40 = .ok (.return_, 1) := by decide +kernel
theorem efC5 (m : MethodId) (a : Addr) (j : Int32) : entryFrame m #[(.ref a), (.int j)] 2 = mkF m 0 #[.val (.ref a), .val (.int j)] [] := by first | (simp [entryFrame, mkF, argsToLocals, Value.category]; done) | rfl
def QC5 (Z : State) (a : Addr) (j : Int32) (na : Addr) (va : Addr) (k_na : ClassId) (ln : List Int32) (k_va : ClassId) (lv : List Int32) (h0 : Heap) (n0 : Nat) (v : Option Value) (h : Heap) (L : List Loc) : Prop := v = none ∧ Fr n0 L ∧ Keep h0 h [a, na, va] ∧ Exa Z h a "com/example/covey/covey/divisive/SplitLog" ∧ Fld Z h a "com/example/covey/covey/divisive/SplitLog" "copies" "I" (.int (6 : Int32)) ∧ Fld Z h a "com/example/covey/covey/divisive/SplitLog" "nodeOf" "[I" (.ref na) ∧ Fld Z h a "com/example/covey/covey/divisive/SplitLog" "vertexOf" "[I" (.ref va) ∧ Arv Z h na k_na .int (6 : Int32) ((ln.set 5 (own_get ln j)).map Value.int) (.int (0 : Int32)) ∧ Arv Z h va k_va .int (6 : Int32) ((lv.set 5 (own_get lv j)).map Value.int) (.int (0 : Int32))
set_option maxRecDepth 65536 in
set_option maxHeartbeats 40000000 in
theorem rmC5 (l : Launch) (Z : State) (a0 : Array Value) (hw : ∀ d ∈ tables_1, d.before a0 Z = true) (ws : List Jvm.Cond) (a : Addr) (j : Int32) (na : Addr) (va : Addr) (k_na : ClassId) (ln : List Int32) (k_va : ClassId) (lv : List Int32) (h0 : Heap) (n0 : Nat) (Z0 : n0 ≤ h0.size) (E_a : Exa Z h0 a "com/example/covey/covey/divisive/SplitLog") (F_copies_a : Fld Z h0 a "com/example/covey/covey/divisive/SplitLog" "copies" "I" (.int (5 : Int32))) (F_nodeOf_a : Fld Z h0 a "com/example/covey/covey/divisive/SplitLog" "nodeOf" "[I" (.ref na)) (F_vertexOf_a : Fld Z h0 a "com/example/covey/covey/divisive/SplitLog" "vertexOf" "[I" (.ref va)) (V_na : Arv Z h0 na k_na .int (6 : Int32) (ln.map Value.int) (.int (0 : Int32))) (V_va : Arv Z h0 va k_va .int (6 : Int32) (lv.map Value.int) (.int (0 : Int32))) (g_a : n0 ≤ a) (g_na : n0 ≤ na) (g_va : n0 ≤ va) (ne_a_na : a ≠ na) (ne_a_va : a ≠ va) (ne_na_va : na ≠ va) (hlen_na : 5 < ln.length) (hlen_va : 5 < lv.length) (hj : own_in j 5) :
    MetFree l (⟨"com/example/covey/covey/divisive/SplitLog", "copy", "(I)V"⟩ : MethodName) (head1 (Jvm.Cond.code (⟨"com/example/covey/covey/divisive/SplitLog", "copy", "(I)V"⟩ : MethodName) prog_24_method_6_code 2 none :: ws) ({ frames := 0, cells := 0, slots := 0, locals := 0 } : Room)) (fun av_ U => av_ = #[(.ref a), (.int j)] ∧ Z.Warmed39 U.vm ∧ U.heap = h0) (fun _ _ _ _ _ => True) (fun _ U o U' => ∃ v L, o = .returned v ∧ QC5 Z a j na va k_na ln k_va lv h0 n0 v U'.heap L ∧ FrameEnd U o U' L ({ frames := 0, cells := 0, slots := 0, locals := 0 } : Room).cells ({ frames := 0, cells := 0, slots := 0, locals := 0 } : Room).slots) := by
  refine MetFree.of_bodySF (plainFor_of_name own_pn0) hisR ?_
  intro p e s m args below meth c s₁ Bd hml0 hP hK
  obtain ⟨rfl, hZ, hh⟩ := hP
  have hx := Bd.exec
  have hby := Bd.bytes
  have hml : c.maxLocals = 2 := hml0
  have hown : s.vm.findClass "com/example/covey/covey/divisive/SplitLog" = some m.cls := findClass_of_methodNamed Bd.named
  have hnm := (name_of_methodNamed Bd.named Bd.method).1
  have X0 : Stand p l e ({ frames := 0, cells := 0, slots := 0, locals := 0 } : Room) s m #[(.ref a), (.int j)] below meth c s₁ [] 0 0 := Stand.of_body Bd
  have e0 : s₁.heap = h0 := by rw [← hh, Bd.state]; rfl
  have N0 := Fr.nil n0
  have pre0 : ∀ t, Steps p.tables e below (s₁.setTop (mkF m 0 #[.val (.ref a), .val (.int j)] [])) t → Steps p.tables e below (s₁.setTop (entryFrame m #[(.ref a), (.int j)] 2)) t := fun t k => castTop (efC5 m a j) k
  obtain ⟨T1, X1, e1, st1⟩ := getF X0 hx hZ hown (host := "") (Or.inl (hw _ (List.mem_of_getElem? (i := 15) rfl))) Via.refl e0 F_nodeOf_a (g := (mkF m 1 #[.val (.ref a), .val (.int j)] [(.ref a)])) rfl rfl (hb hby dC5_1)
  obtain ⟨T2, X2, e2, st2⟩ := getF X1 hx hZ hown (host := "") (Or.inl (hw _ (List.mem_of_getElem? (i := 13) rfl))) Via.refl e1 F_copies_a (g := (mkF m 5 #[.val (.ref a), .val (.int j)] [(.ref a), (.ref na)])) rfl rfl (hb hby dC5_5)
  obtain ⟨T3, X3, e3, st3⟩ := getF X2 hx hZ hown (host := "") (Or.inl (hw _ (List.mem_of_getElem? (i := 15) rfl))) Via.refl e2 F_nodeOf_a (g := (mkF m 9 #[.val (.ref a), .val (.int j)] [(.ref a), (.int (5 : Int32)), (.ref na)])) rfl rfl (hb hby dC5_9)
  obtain ⟨cl4, Ar4, q4, S4, M4, Hs4, G4⟩ := (id V_na)
  have hin4 : ¬ (j < 0 ∨ cl4.slots.size ≤ (j).toNatClampNeg) := inb_of S4 (own_inb hj (m := 6) (by decide) (by decide))
  have hat4 : cl4.slots[(j).toNatClampNeg]? = some (.int (own_get ln j)) := Hs4.at hin4 (own_getV ln j)
  obtain ⟨cl5, Ar5, q5, S5, M5, Hs5, G5⟩ := (id V_na)
  have hin5 : ¬ ((5 : Int32) < 0 ∨ cl5.slots.size ≤ ((5 : Int32)).toNatClampNeg) := inb_of S5 ⟨by decide, by decide⟩
  obtain ⟨T6, h6, X6, e6, W6, st6⟩ := stI X3 hx hZ e3 Ar5 (j := (5 : Int32)) hin5 (g := (mkF m 14 #[.val (.ref a), .val (.int j)] [(.int (own_get ln j)), (.int (5 : Int32)), (.ref na)])) rfl rfl (hb hby dC5_14)
  have V6 : Arv Z h6 na k_na .int (6 : Int32) ((ln.set 5 (own_get ln j)).map Value.int) (.int (0 : Int32)) := by
    rw [List.map_set]
    exact Arv.set Ar5 q5 S5 M5 Hs5 G5 rfl W6 5 rfl (by rw [List.length_map]; exact hlen_na)
  have K6 : Keep h0 h6 [a, na, va] := (Keep.refl h0 [a, na, va]).wr W6 (Or.inl (List.mem_of_getElem? (i := 1) rfl))
  have Zs6 : n0 ≤ h6.size := Nat.le_trans Z0 (Keep.of_wr W6).1
  have N6 := Fr.snoc X6 N0 g_na
  obtain ⟨T7, X7, e7, st7⟩ := getF X6 hx hZ hown (host := "") (Or.inl (hw _ (List.mem_of_getElem? (i := 21) rfl))) Via.refl e6 (Fld.other W6 F_vertexOf_a (Or.inl ne_a_na)) (g := (mkF m 16 #[.val (.ref a), .val (.int j)] [(.ref a)])) rfl rfl (hb hby dC5_16)
  obtain ⟨T8, X8, e8, st8⟩ := getF X7 hx hZ hown (host := "") (Or.inl (hw _ (List.mem_of_getElem? (i := 13) rfl))) Via.refl e7 (Fld.other W6 F_copies_a (Or.inl ne_a_na)) (g := (mkF m 20 #[.val (.ref a), .val (.int j)] [(.ref a), (.ref va)])) rfl rfl (hb hby dC5_20)
  obtain ⟨T9, X9, e9, st9⟩ := getF X8 hx hZ hown (host := "") (Or.inl (hw _ (List.mem_of_getElem? (i := 21) rfl))) Via.refl e8 (Fld.other W6 F_vertexOf_a (Or.inl ne_a_na)) (g := (mkF m 24 #[.val (.ref a), .val (.int j)] [(.ref a), (.int (5 : Int32)), (.ref va)])) rfl rfl (hb hby dC5_24)
  obtain ⟨cl10, Ar10, q10, S10, M10, Hs10, G10⟩ := (V_va.other W6 (Ne.symm ne_na_va))
  have hin10 : ¬ (j < 0 ∨ cl10.slots.size ≤ (j).toNatClampNeg) := inb_of S10 (own_inb hj (m := 6) (by decide) (by decide))
  have hat10 : cl10.slots[(j).toNatClampNeg]? = some (.int (own_get lv j)) := Hs10.at hin10 (own_getV lv j)
  obtain ⟨cl11, Ar11, q11, S11, M11, Hs11, G11⟩ := (V_va.other W6 (Ne.symm ne_na_va))
  have hin11 : ¬ ((5 : Int32) < 0 ∨ cl11.slots.size ≤ ((5 : Int32)).toNatClampNeg) := inb_of S11 ⟨by decide, by decide⟩
  obtain ⟨T12, h12, X12, e12, W12, st12⟩ := stI X9 hx hZ e9 Ar11 (j := (5 : Int32)) hin11 (g := (mkF m 29 #[.val (.ref a), .val (.int j)] [(.int (own_get lv j)), (.int (5 : Int32)), (.ref va)])) rfl rfl (hb hby dC5_29)
  have V12 : Arv Z h12 va k_va .int (6 : Int32) ((lv.set 5 (own_get lv j)).map Value.int) (.int (0 : Int32)) := by
    rw [List.map_set]
    exact Arv.set Ar11 q11 S11 M11 Hs11 G11 rfl W12 5 rfl (by rw [List.length_map]; exact hlen_va)
  have K12 : Keep h0 h12 [a, na, va] := K6.wr W12 (Or.inl (List.mem_of_getElem? (i := 2) rfl))
  have Zs12 : n0 ≤ h12.size := Nat.le_trans Zs6 (Keep.of_wr W12).1
  have N12 := Fr.snoc X12 N6 g_va
  obtain ⟨T13, X13, e13, st13⟩ := getF X12 hx hZ hown (host := "") (Or.inl (hw _ (List.mem_of_getElem? (i := 13) rfl))) Via.refl e12 (Fld.other W12 (Fld.other W6 F_copies_a (Or.inl ne_a_na)) (Or.inl ne_a_va)) (g := (mkF m 32 #[.val (.ref a), .val (.int j)] [(.ref a), (.ref a)])) rfl rfl (hb hby dC5_32)
  obtain ⟨T14, h14, X14, e14, W14, st14⟩ := putF X13 hx hZ hown (host := "") (Or.inl (hw _ (List.mem_of_getElem? (i := 13) rfl))) Via.refl e13 (Fld.other W12 (Fld.other W6 F_copies_a (Or.inl ne_a_na)) (Or.inl ne_a_va)) ((E_a.wr W6).wr W12) (Or.inl (hw _ (List.mem_of_getElem? (i := 14) rfl))) (hw _ (List.mem_of_getElem? (i := 3) rfl)) (ty := .int) (by decide) rfl rfl (g := (mkF m 37 #[.val (.ref a), .val (.int j)] [(.int (6 : Int32)), (.ref a)])) rfl rfl (hb hby dC5_37)
  have F14 : Fld Z h14 a "com/example/covey/covey/divisive/SplitLog" "copies" "I" (.int (6 : Int32)) := Fld.same W14 (Fld.other W12 (Fld.other W6 F_copies_a (Or.inl ne_a_na)) (Or.inl ne_a_va))
  have K14 : Keep h0 h14 [a, na, va] := K12.wr W14 (Or.inl (List.mem_of_getElem? (i := 0) rfl))
  have Zs14 : n0 ≤ h14.size := Nat.le_trans Zs12 (Keep.of_wr W14).1
  have N14 := Fr.snoc X14 N12 g_a
  obtain ⟨fs, hr, hrun, hended, hW, hsame⟩ := X14.leave (v := none) (fun _ => rfl)
  refine ⟨_, _, (pre0 _ ?_), hrun, hended, _, _, rfl, ?_, ⟨_, rfl⟩, hW, hsame.mono (by decide) (by decide)⟩
  · show Steps p.tables e below (s₁.setTop (mkF m 0 #[.val (.ref a), .val (.int j)] [])) _
    refine XS.aloadN X0.here hx rfl (hb hby dC5_0) rfl rfl ?_
    show Steps p.tables e below (s₁.setTop (mkF m 1 #[.val (.ref a), .val (.int j)] [(.ref a)])) _
    refine st1 _ ?_
    show Steps p.tables e below (T1.setTop (mkF m 4 #[.val (.ref a), .val (.int j)] [(.ref na)])) _
    refine XS.aloadN X1.here hx rfl (hb hby dC5_4) rfl rfl ?_
    show Steps p.tables e below (T1.setTop (mkF m 5 #[.val (.ref a), .val (.int j)] [(.ref a), (.ref na)])) _
    refine st2 _ ?_
    show Steps p.tables e below (T2.setTop (mkF m 8 #[.val (.ref a), .val (.int j)] [(.int (5 : Int32)), (.ref na)])) _
    refine XS.aloadN X2.here hx rfl (hb hby dC5_8) rfl rfl ?_
    show Steps p.tables e below (T2.setTop (mkF m 9 #[.val (.ref a), .val (.int j)] [(.ref a), (.int (5 : Int32)), (.ref na)])) _
    refine st3 _ ?_
    show Steps p.tables e below (T3.setTop (mkF m 12 #[.val (.ref a), .val (.int j)] [(.ref na), (.int (5 : Int32)), (.ref na)])) _
    refine XS.iloadN X3.here hx rfl (hb hby dC5_12) rfl ?_
    show Steps p.tables e below (T3.setTop (mkF m 13 #[.val (.ref a), .val (.int j)] [(.int j), (.ref na), (.int (5 : Int32)), (.ref na)])) _
    refine X3.iaload hx (j := j) (v := (.int (own_get ln j))) (by rw [e3]; exact Ar4.1) (State.isArrayOf_alike hZ.alike Ar4.2.1) Ar4.2.2 hin4 hat4 (g := (mkF m 13 #[.val (.ref a), .val (.int j)] [(.int j), (.ref na), (.int (5 : Int32)), (.ref na)])) rfl rfl (hb hby dC5_13) _ ?_
    show Steps p.tables e below (T3.setTop (mkF m 14 #[.val (.ref a), .val (.int j)] [(.int (own_get ln j)), (.int (5 : Int32)), (.ref na)])) _
    refine st6 _ ?_
    show Steps p.tables e below (T6.setTop (mkF m 15 #[.val (.ref a), .val (.int j)] [])) _
    refine XS.aloadN X6.here hx rfl (hb hby dC5_15) rfl rfl ?_
    show Steps p.tables e below (T6.setTop (mkF m 16 #[.val (.ref a), .val (.int j)] [(.ref a)])) _
    refine st7 _ ?_
    show Steps p.tables e below (T7.setTop (mkF m 19 #[.val (.ref a), .val (.int j)] [(.ref va)])) _
    refine XS.aloadN X7.here hx rfl (hb hby dC5_19) rfl rfl ?_
    show Steps p.tables e below (T7.setTop (mkF m 20 #[.val (.ref a), .val (.int j)] [(.ref a), (.ref va)])) _
    refine st8 _ ?_
    show Steps p.tables e below (T8.setTop (mkF m 23 #[.val (.ref a), .val (.int j)] [(.int (5 : Int32)), (.ref va)])) _
    refine XS.aloadN X8.here hx rfl (hb hby dC5_23) rfl rfl ?_
    show Steps p.tables e below (T8.setTop (mkF m 24 #[.val (.ref a), .val (.int j)] [(.ref a), (.int (5 : Int32)), (.ref va)])) _
    refine st9 _ ?_
    show Steps p.tables e below (T9.setTop (mkF m 27 #[.val (.ref a), .val (.int j)] [(.ref va), (.int (5 : Int32)), (.ref va)])) _
    refine XS.iloadN X9.here hx rfl (hb hby dC5_27) rfl ?_
    show Steps p.tables e below (T9.setTop (mkF m 28 #[.val (.ref a), .val (.int j)] [(.int j), (.ref va), (.int (5 : Int32)), (.ref va)])) _
    refine X9.iaload hx (j := j) (v := (.int (own_get lv j))) (by rw [e9]; exact Ar10.1) (State.isArrayOf_alike hZ.alike Ar10.2.1) Ar10.2.2 hin10 hat10 (g := (mkF m 28 #[.val (.ref a), .val (.int j)] [(.int j), (.ref va), (.int (5 : Int32)), (.ref va)])) rfl rfl (hb hby dC5_28) _ ?_
    show Steps p.tables e below (T9.setTop (mkF m 29 #[.val (.ref a), .val (.int j)] [(.int (own_get lv j)), (.int (5 : Int32)), (.ref va)])) _
    refine st12 _ ?_
    show Steps p.tables e below (T12.setTop (mkF m 30 #[.val (.ref a), .val (.int j)] [])) _
    refine XS.aloadN X12.here hx rfl (hb hby dC5_30) rfl rfl ?_
    show Steps p.tables e below (T12.setTop (mkF m 31 #[.val (.ref a), .val (.int j)] [(.ref a)])) _
    refine XS.dup X12.here hx rfl (hb hby dC5_31) rfl rfl ?_
    show Steps p.tables e below (T12.setTop (mkF m 32 #[.val (.ref a), .val (.int j)] [(.ref a), (.ref a)])) _
    refine st13 _ ?_
    show Steps p.tables e below (T13.setTop (mkF m 35 #[.val (.ref a), .val (.int j)] [(.int (5 : Int32)), (.ref a)])) _
    refine XS.iconst X13.here hx rfl (hb hby dC5_35) ?_
    show Steps p.tables e below (T13.setTop (mkF m 36 #[.val (.ref a), .val (.int j)] [(.int (1 : Int32)), (.int (5 : Int32)), (.ref a)])) _
    refine XS.iadd X13.here hx rfl (hb hby dC5_36) rfl ?_
    show Steps p.tables e below (T13.setTop (mkF m 37 #[.val (.ref a), .val (.int j)] [(.int (6 : Int32)), (.ref a)])) _
    refine st14 _ ?_
    show Steps p.tables e below (T14.setTop (mkF m 40 #[.val (.ref a), .val (.int j)] [])) _
    exact X14.returnOut hx Bd.returns (hb hby dC5_40) hr
  · show QC5 Z a j na va k_na ln k_va lv h0 n0 _ T14.heap _
    rw [e14]
    exact ⟨rfl, N14, K14, (((E_a.wr W6).wr W12).wr W14), F14, (Fld.other W14 (Fld.other W12 (Fld.other W6 F_nodeOf_a (Or.inl ne_a_na)) (Or.inl ne_a_va)) (Or.inr (slot_ne (Or.inr (hw _ (List.mem_of_getElem? (i := 16) rfl))) (Or.inl (hw _ (List.mem_of_getElem? (i := 14) rfl))) (by decide) (t := (.array .int)) (t' := .int) (by decide) (by decide)))), (Fld.other W14 (Fld.other W12 (Fld.other W6 F_vertexOf_a (Or.inl ne_a_na)) (Or.inl ne_a_va)) (Or.inr (slot_ne (Or.inr (hw _ (List.mem_of_getElem? (i := 22) rfl))) (Or.inl (hw _ (List.mem_of_getElem? (i := 14) rfl))) (by decide) (t := (.array .int)) (t' := .int) (by decide) (by decide)))), ((V6.other W12 ne_na_va).other W14 (Ne.symm ne_a_na)), (V12.other W14 (Ne.symm ne_a_va))⟩
theorem dV_0 : decode prog_24_method_4_code 0 = .ok (.aload_n 0, 1) := by decide +kernel
theorem dV_1 : decode prog_24_method_4_code 1 = .ok (.getfield 26, 3) := by decide +kernel
theorem dV_4 : decode prog_24_method_4_code 4 = .ok (.iload_n 1, 1) := by decide +kernel
theorem dV_5 : decode prog_24_method_4_code 5 = .ok (.iaload, 1) := by decide +kernel
theorem dV_6 : decode prog_24_method_4_code 6 = .ok (.ireturn, 1) := by decide +kernel
theorem efV (m : MethodId) (a : Addr) (j : Int32) : entryFrame m #[(.ref a), (.int j)] 2 = mkF m 0 #[.val (.ref a), .val (.int j)] [] := by first | (simp [entryFrame, mkF, argsToLocals, Value.category]; done) | rfl
def QV (Z : State) (a : Addr) (j : Int32) (va : Addr) (k_va : ClassId) (lv : List Int32) (h0 : Heap) (n0 : Nat) (v : Option Value) (h : Heap) (L : List Loc) : Prop := v = some (.int (own_get lv j)) ∧ Fr n0 L ∧ h = h0
set_option maxRecDepth 65536 in
set_option maxHeartbeats 40000000 in
theorem rmV (l : Launch) (Z : State) (a0 : Array Value) (hw : ∀ d ∈ tables_1, d.before a0 Z = true) (ws : List Jvm.Cond) (a : Addr) (j : Int32) (va : Addr) (k_va : ClassId) (lv : List Int32) (h0 : Heap) (n0 : Nat) (Z0 : n0 ≤ h0.size) (E_a : Exa Z h0 a "com/example/covey/covey/divisive/SplitLog") (F_vertexOf_a : Fld Z h0 a "com/example/covey/covey/divisive/SplitLog" "vertexOf" "[I" (.ref va)) (V_va : Arv Z h0 va k_va .int (6 : Int32) (lv.map Value.int) (.int (0 : Int32))) (hj : own_in j 6) :
    MetFree l (⟨"com/example/covey/covey/divisive/SplitLog", "vertexOf", "(I)I"⟩ : MethodName) (head1 (Jvm.Cond.code (⟨"com/example/covey/covey/divisive/SplitLog", "vertexOf", "(I)I"⟩ : MethodName) prog_24_method_4_code 2 (some .int) :: ws) ({ frames := 0, cells := 0, slots := 0, locals := 0 } : Room)) (fun av_ U => av_ = #[(.ref a), (.int j)] ∧ Z.Warmed39 U.vm ∧ U.heap = h0) (fun _ _ _ _ _ => True) (fun _ U o U' => ∃ v L, o = .returned v ∧ QV Z a j va k_va lv h0 n0 v U'.heap L ∧ FrameEnd U o U' L ({ frames := 0, cells := 0, slots := 0, locals := 0 } : Room).cells ({ frames := 0, cells := 0, slots := 0, locals := 0 } : Room).slots) := by
  refine MetFree.of_bodySF (plainFor_of_name own_pn0) hisR ?_
  intro p e s m args below meth c s₁ Bd hml0 hP hK
  obtain ⟨rfl, hZ, hh⟩ := hP
  have hx := Bd.exec
  have hby := Bd.bytes
  have hml : c.maxLocals = 2 := hml0
  have hown : s.vm.findClass "com/example/covey/covey/divisive/SplitLog" = some m.cls := findClass_of_methodNamed Bd.named
  have hnm := (name_of_methodNamed Bd.named Bd.method).1
  have X0 : Stand p l e ({ frames := 0, cells := 0, slots := 0, locals := 0 } : Room) s m #[(.ref a), (.int j)] below meth c s₁ [] 0 0 := Stand.of_body Bd
  have e0 : s₁.heap = h0 := by rw [← hh, Bd.state]; rfl
  have N0 := Fr.nil n0
  have pre0 : ∀ t, Steps p.tables e below (s₁.setTop (mkF m 0 #[.val (.ref a), .val (.int j)] [])) t → Steps p.tables e below (s₁.setTop (entryFrame m #[(.ref a), (.int j)] 2)) t := fun t k => castTop (efV m a j) k
  obtain ⟨T1, X1, e1, st1⟩ := getF X0 hx hZ hown (host := "") (Or.inl (hw _ (List.mem_of_getElem? (i := 21) rfl))) Via.refl e0 F_vertexOf_a (g := (mkF m 1 #[.val (.ref a), .val (.int j)] [(.ref a)])) rfl rfl (hb hby dV_1)
  obtain ⟨cl2, Ar2, q2, S2, M2, Hs2, G2⟩ := (id V_va)
  have hin2 : ¬ (j < 0 ∨ cl2.slots.size ≤ (j).toNatClampNeg) := inb_of S2 (own_inb hj (m := 6) (by decide) (by decide))
  have hat2 : cl2.slots[(j).toNatClampNeg]? = some (.int (own_get lv j)) := Hs2.at hin2 (own_getV lv j)
  obtain ⟨fs, hr, hrun, hended, hW, hsame⟩ := X1.leave (v := some (.int (own_get lv j))) (fun h => by rw [Bd.returns] at h; cases h)
  refine ⟨_, _, (pre0 _ ?_), hrun, hended, _, _, rfl, ?_, ⟨_, rfl⟩, hW, hsame.mono (by decide) (by decide)⟩
  · show Steps p.tables e below (s₁.setTop (mkF m 0 #[.val (.ref a), .val (.int j)] [])) _
    refine XS.aloadN X0.here hx rfl (hb hby dV_0) rfl rfl ?_
    show Steps p.tables e below (s₁.setTop (mkF m 1 #[.val (.ref a), .val (.int j)] [(.ref a)])) _
    refine st1 _ ?_
    show Steps p.tables e below (T1.setTop (mkF m 4 #[.val (.ref a), .val (.int j)] [(.ref va)])) _
    refine XS.iloadN X1.here hx rfl (hb hby dV_4) rfl ?_
    show Steps p.tables e below (T1.setTop (mkF m 5 #[.val (.ref a), .val (.int j)] [(.int j), (.ref va)])) _
    refine X1.iaload hx (j := j) (v := (.int (own_get lv j))) (by rw [e1]; exact Ar2.1) (State.isArrayOf_alike hZ.alike Ar2.2.1) Ar2.2.2 hin2 hat2 (g := (mkF m 5 #[.val (.ref a), .val (.int j)] [(.int j), (.ref va)])) rfl rfl (hb hby dV_5) _ ?_
    show Steps p.tables e below (T1.setTop (mkF m 6 #[.val (.ref a), .val (.int j)] [(.int (own_get lv j))])) _
    exact retI X1 hx Bd.returns (hb hby dV_6) hr
  · show QV Z a j va k_va lv h0 n0 _ T1.heap _
    rw [e1]
    exact ⟨rfl, N0, rfl⟩
theorem own_pd0 : parseMethodDescriptor "([III)V" = some ⟨[(.array .int), .int, .int], none⟩ := by decide +kernel
theorem own_pd1 : parseMethodDescriptor "(I)V" = some ⟨[.int], none⟩ := by decide +kernel
theorem own_pd2 : parseMethodDescriptor "(I)I" = some ⟨[.int], some .int⟩ := by decide +kernel
theorem own_pn1 : plainName "com/example/covey/covey/divisive/SplitLogCopyPinLaw" = true := by first | (simp [plainName, overriddenIn]; done) | decide +kernel
theorem efL (m : MethodId) (xc : Int32) (xp : Int32) (xf : Int32) (xg : Int32) (xh : Int32) : entryFrame m #[(.int xc), (.int xp), (.int xf), (.int xg), (.int xh)] maxLocals = mkF m 0 #[.val (.int xc), .val (.int xp), .val (.int xf), .val (.int xg), .val (.int xh), .unset, .unset, .unset, .unset, .unset, .unset, .unset] [] := by first | (simp [entryFrame, mkF, argsToLocals, Value.category, maxLocals]; done) | rfl
def QL (Z : State) (xc : Int32) (xp : Int32) (xf : Int32) (xg : Int32) (xh : Int32) (h0 : Heap) (n0 : Nat) (v : Option Value) (h : Heap) (L : List Loc) : Prop := v = some (.int 1) ∧ Fr n0 L
set_option maxRecDepth 65536 in
set_option maxHeartbeats 40000000 in
theorem rmL (l : Launch) (Z : State) (a0 : Array Value) (hw : ∀ d ∈ tables_1, d.before a0 Z = true) (ws : List Jvm.Cond) (xc : Int32) (xp : Int32) (xf : Int32) (xg : Int32) (xh : Int32) (h0 : Heap) (n0 : Nat) (Z0 : n0 ≤ h0.size) :
    MetFree l x (head1 (Jvm.Cond.code x code maxLocals ret :: ws) room_1) (fun av_ U => av_ = #[(.int xc), (.int xp), (.int xf), (.int xg), (.int xh)] ∧ Z.Warmed39 U.vm ∧ U.heap = h0) (fun _ _ _ _ _ => True) (fun _ U o U' => ∃ v L, o = .returned v ∧ QL Z xc xp xf xg xh h0 n0 v U'.heap L ∧ FrameEnd U o U' L room_1.cells room_1.slots) := by
  refine MetFree.of_bodySF (plainFor_of_name own_pn1) hisR ?_
  intro p e s m args below meth c s₁ Bd hml0 hP hK
  obtain ⟨rfl, hZ, hh⟩ := hP
  have hx := Bd.exec
  have hby := Bd.bytes
  have hml : c.maxLocals = 12 := hml0
  have hown : s.vm.findClass "com/example/covey/covey/divisive/SplitLogCopyPinLaw" = some m.cls := findClass_of_methodNamed Bd.named
  have hnm := (name_of_methodNamed Bd.named Bd.method).1
  have X0 : Stand p l e room_1 s m #[(.int xc), (.int xp), (.int xf), (.int xg), (.int xh)] below meth c s₁ [] 0 0 := Stand.of_body Bd
  have e0 : s₁.heap = h0 := by rw [← hh, Bd.state]; rfl
  have N0 := Fr.nil n0
  have pre0 : ∀ t, Steps p.tables e below (s₁.setTop (mkF m 0 #[.val (.int xc), .val (.int xp), .val (.int xf), .val (.int xg), .val (.int xh), .unset, .unset, .unset, .unset, .unset, .unset, .unset] [])) t → Steps p.tables e below (s₁.setTop (entryFrame m #[(.int xc), (.int xp), (.int xf), (.int xg), (.int xh)] maxLocals)) t := fun t k => castTop (efL m xc xp xf xg xh) k
  have r1 : ∀ t, Steps p.tables e below (s₁.setTop (mkF m 10 #[.val (.int xc), .val (.int xp), .val (.int xf), .val (.int xg), .val (.int xh), .val (.int (((xc &&& (2147483647 : Int32)) % (3 : Int32)) + (1 : Int32))), .unset, .unset, .unset, .unset, .unset, .unset] [])) t → Steps p.tables e below (s₁.setTop (mkF m 0 #[.val (.int xc), .val (.int xp), .val (.int xf), .val (.int xg), .val (.int xh), .unset, .unset, .unset, .unset, .unset, .unset, .unset] [])) t := fun t kt => by
    show Steps p.tables e below (s₁.setTop (mkF m 0 #[.val (.int xc), .val (.int xp), .val (.int xf), .val (.int xg), .val (.int xh), .unset, .unset, .unset, .unset, .unset, .unset, .unset] [])) _
    refine XS.iloadN X0.here hx rfl (hb hby at_0) rfl ?_
    show Steps p.tables e below (s₁.setTop (mkF m 1 #[.val (.int xc), .val (.int xp), .val (.int xf), .val (.int xg), .val (.int xh), .unset, .unset, .unset, .unset, .unset, .unset, .unset] [(.int xc)])) _
    refine X0.ldcInt hx hown (mvT hZ (hw _ (List.mem_of_getElem? (i := 0) rfl))) (g := (mkF m 1 #[.val (.int xc), .val (.int xp), .val (.int xf), .val (.int xg), .val (.int xh), .unset, .unset, .unset, .unset, .unset, .unset, .unset] [(.int xc)])) rfl (hb hby at_1) _ ?_
    show Steps p.tables e below (s₁.setTop (mkF m 3 #[.val (.int xc), .val (.int xp), .val (.int xf), .val (.int xg), .val (.int xh), .unset, .unset, .unset, .unset, .unset, .unset, .unset] [(.int (2147483647 : Int32)), (.int xc)])) _
    refine XS.iand X0.here hx rfl (hb hby at_3) rfl ?_
    show Steps p.tables e below (s₁.setTop (mkF m 4 #[.val (.int xc), .val (.int xp), .val (.int xf), .val (.int xg), .val (.int xh), .unset, .unset, .unset, .unset, .unset, .unset, .unset] [(.int (xc &&& (2147483647 : Int32)))])) _
    refine XS.iconst X0.here hx rfl (hb hby at_4) ?_
    show Steps p.tables e below (s₁.setTop (mkF m 5 #[.val (.int xc), .val (.int xp), .val (.int xf), .val (.int xg), .val (.int xh), .unset, .unset, .unset, .unset, .unset, .unset, .unset] [(.int (3 : Int32)), (.int (xc &&& (2147483647 : Int32)))])) _
    refine iremM X0 hx rfl (hb hby at_5) rfl (by decide) ?_
    show Steps p.tables e below (s₁.setTop (mkF m 6 #[.val (.int xc), .val (.int xp), .val (.int xf), .val (.int xg), .val (.int xh), .unset, .unset, .unset, .unset, .unset, .unset, .unset] [(.int ((xc &&& (2147483647 : Int32)) % (3 : Int32)))])) _
    refine XS.iconst X0.here hx rfl (hb hby at_6) ?_
    show Steps p.tables e below (s₁.setTop (mkF m 7 #[.val (.int xc), .val (.int xp), .val (.int xf), .val (.int xg), .val (.int xh), .unset, .unset, .unset, .unset, .unset, .unset, .unset] [(.int (1 : Int32)), (.int ((xc &&& (2147483647 : Int32)) % (3 : Int32)))])) _
    refine XS.iadd X0.here hx rfl (hb hby at_7) rfl ?_
    show Steps p.tables e below (s₁.setTop (mkF m 8 #[.val (.int xc), .val (.int xp), .val (.int xf), .val (.int xg), .val (.int xh), .unset, .unset, .unset, .unset, .unset, .unset, .unset] [(.int (((xc &&& (2147483647 : Int32)) % (3 : Int32)) + (1 : Int32)))])) _
    refine XS.istore X0.here hx rfl (hb hby at_8) rfl (l' := #[.val (.int xc), .val (.int xp), .val (.int xf), .val (.int xg), .val (.int xh), .val (.int (((xc &&& (2147483647 : Int32)) % (3 : Int32)) + (1 : Int32))), .unset, .unset, .unset, .unset, .unset, .unset]) rfl ?_
    exact kt
  obtain ⟨cnt, hcnt'⟩ : ∃ zz : Int32, zz = (((xc &&& (2147483647 : Int32)) % (3 : Int32)) + (1 : Int32)) := ⟨_, rfl⟩
  have r2 : ∀ t, Steps p.tables e below (s₁.setTop (mkF m 10 #[.val (.int xc), .val (.int xp), .val (.int xf), .val (.int xg), .val (.int xh), .val (.int cnt), .unset, .unset, .unset, .unset, .unset, .unset] [])) t → Steps p.tables e below (s₁.setTop (mkF m 10 #[.val (.int xc), .val (.int xp), .val (.int xf), .val (.int xg), .val (.int xh), .val (.int (((xc &&& (2147483647 : Int32)) % (3 : Int32)) + (1 : Int32))), .unset, .unset, .unset, .unset, .unset, .unset] [])) t := fun t kt => by
    subst hcnt'
    exact kt
  have hcnt := own_cnt xc cnt hcnt'
  have hcne := own_cne hcnt
  obtain ⟨T3, h3, k3, X3, e3, E3, A3, st3⟩ := newP X0 hx hZ (hw _ (List.mem_of_getElem? (i := 1) rfl)) e0 (g := (mkF m 11 #[.val (.int xc), .val (.int xp), .val (.int xf), .val (.int xg), .val (.int xh), .val (.int cnt), .unset, .unset, .unset, .unset, .unset, .unset] [(.int (3 : Int32))])) rfl (hb hby at_11) rfl (by decide) (cap := 3) (by decide) (by decide) (by decide) (by decide)
  obtain ⟨b3, g3⟩ : ∃ z, z = h0.size := ⟨_, rfl⟩
  rw [← g3] at A3 st3
  have g_b3 : n0 ≤ b3 := Nat.le_trans Z0 (Nat.le_of_eq g3.symm)
  have sz_b3 : h0.size ≤ b3 := Nat.le_trans (Keep.refl h0 []).1 (Nat.le_of_eq g3.symm)
  have K3 : Keep h0 h3 [] := (Keep.refl h0 []).ext E3
  have Zs3 : n0 ≤ h3.size := Nat.le_trans Z0 E3.1
  have V3 : Arv Z h3 b3 k3 .int (3 : Int32) [(.int (0 : Int32)), (.int (0 : Int32)), (.int (0 : Int32))] (.int (0 : Int32)) := (Arv.new A3 (by decide)).pad (pad_rep [] (.int (0 : Int32)) 3)
  obtain ⟨cl4, Ar4, q4, S4, M4, Hs4, G4⟩ := (id V3)
  have hin4 : ¬ ((0 : Int32) < 0 ∨ cl4.slots.size ≤ ((0 : Int32)).toNatClampNeg) := inb_of S4 ⟨by decide, by decide⟩
  obtain ⟨T5, h5, X5, e5, W5, st5⟩ := stI X3 hx hZ e3 Ar4 (j := (0 : Int32)) hin4 (g := (mkF m 26 #[.val (.int xc), .val (.int xp), .val (.int xf), .val (.int xg), .val (.int xh), .val (.int cnt), .val (.ref b3), .unset, .unset, .unset, .unset, .unset] [(.int ((xp &&& (255 : Int32)) % cnt)), (.int (0 : Int32)), (.ref b3)])) rfl rfl (hb hby at_26)
  have V5 : Arv Z h5 b3 k3 .int (3 : Int32) [(.int ((xp &&& (255 : Int32)) % cnt)), (.int (0 : Int32)), (.int (0 : Int32))] (.int (0 : Int32)) := Arv.set Ar4 q4 S4 M4 Hs4 G4 rfl W5 0 rfl (Nat.le_of_ble_eq_true rfl)
  have K5 : Keep h0 h5 [] := K3.wr W5 (Or.inr sz_b3)
  have Zs5 : n0 ≤ h5.size := Nat.le_trans Zs3 (Keep.of_wr W5).1
  have N5 := Fr.snoc X5 N0 g_b3
  obtain ⟨cl6, Ar6, q6, S6, M6, Hs6, G6⟩ := (id V5)
  have hin6 : ¬ ((1 : Int32) < 0 ∨ cl6.slots.size ≤ ((1 : Int32)).toNatClampNeg) := inb_of S6 ⟨by decide, by decide⟩
  obtain ⟨T7, h7, X7, e7, W7, st7⟩ := stI X5 hx hZ e5 Ar6 (j := (1 : Int32)) hin6 (g := (mkF m 41 #[.val (.int xc), .val (.int xp), .val (.int xf), .val (.int xg), .val (.int xh), .val (.int cnt), .val (.ref b3), .unset, .unset, .unset, .unset, .unset] [(.int ((((xp.toUInt32 >>> ((8 : Int32) &&& 31).toUInt32).toInt32) &&& (255 : Int32)) % cnt)), (.int (1 : Int32)), (.ref b3)])) rfl rfl (hb hby at_41)
  have V7 : Arv Z h7 b3 k3 .int (3 : Int32) [(.int ((xp &&& (255 : Int32)) % cnt)), (.int ((((xp.toUInt32 >>> ((8 : Int32) &&& 31).toUInt32).toInt32) &&& (255 : Int32)) % cnt)), (.int (0 : Int32))] (.int (0 : Int32)) := Arv.set Ar6 q6 S6 M6 Hs6 G6 rfl W7 1 rfl (Nat.le_of_ble_eq_true rfl)
  have K7 : Keep h0 h7 [] := K5.wr W7 (Or.inr sz_b3)
  have Zs7 : n0 ≤ h7.size := Nat.le_trans Zs5 (Keep.of_wr W7).1
  have N7 := Fr.snoc X7 N5 g_b3
  obtain ⟨cl8, Ar8, q8, S8, M8, Hs8, G8⟩ := (id V7)
  have hin8 : ¬ ((2 : Int32) < 0 ∨ cl8.slots.size ≤ ((2 : Int32)).toNatClampNeg) := inb_of S8 ⟨by decide, by decide⟩
  obtain ⟨T9, h9, X9, e9, W9, st9⟩ := stI X7 hx hZ e7 Ar8 (j := (2 : Int32)) hin8 (g := (mkF m 56 #[.val (.int xc), .val (.int xp), .val (.int xf), .val (.int xg), .val (.int xh), .val (.int cnt), .val (.ref b3), .unset, .unset, .unset, .unset, .unset] [(.int ((((xp.toUInt32 >>> ((16 : Int32) &&& 31).toUInt32).toInt32) &&& (255 : Int32)) % cnt)), (.int (2 : Int32)), (.ref b3)])) rfl rfl (hb hby at_56)
  have V9 : Arv Z h9 b3 k3 .int (3 : Int32) [(.int ((xp &&& (255 : Int32)) % cnt)), (.int ((((xp.toUInt32 >>> ((8 : Int32) &&& 31).toUInt32).toInt32) &&& (255 : Int32)) % cnt)), (.int ((((xp.toUInt32 >>> ((16 : Int32) &&& 31).toUInt32).toInt32) &&& (255 : Int32)) % cnt))] (.int (0 : Int32)) := Arv.set Ar8 q8 S8 M8 Hs8 G8 rfl W9 2 rfl (Nat.le_of_ble_eq_true rfl)
  have K9 : Keep h0 h9 [] := K7.wr W9 (Or.inr sz_b3)
  have Zs9 : n0 ≤ h9.size := Nat.le_trans Zs7 (Keep.of_wr W9).1
  have N9 := Fr.snoc X9 N7 g_b3
  have r10 : ∀ t, Steps p.tables e below (T9.setTop (mkF m 65 #[.val (.int xc), .val (.int xp), .val (.int xf), .val (.int xg), .val (.int xh), .val (.int cnt), .val (.ref b3), .val (.int ((xf &&& (2147483647 : Int32)) % (3 : Int32))), .unset, .unset, .unset, .unset] [])) t → Steps p.tables e below (s₁.setTop (mkF m 10 #[.val (.int xc), .val (.int xp), .val (.int xf), .val (.int xg), .val (.int xh), .val (.int cnt), .unset, .unset, .unset, .unset, .unset, .unset] [])) t := fun t kt => by
    show Steps p.tables e below (s₁.setTop (mkF m 10 #[.val (.int xc), .val (.int xp), .val (.int xf), .val (.int xg), .val (.int xh), .val (.int cnt), .unset, .unset, .unset, .unset, .unset, .unset] [])) _
    refine XS.iconst X0.here hx rfl (hb hby at_10) ?_
    show Steps p.tables e below (s₁.setTop (mkF m 11 #[.val (.int xc), .val (.int xp), .val (.int xf), .val (.int xg), .val (.int xh), .val (.int cnt), .unset, .unset, .unset, .unset, .unset, .unset] [(.int (3 : Int32))])) _
    refine st3 _ ?_
    show Steps p.tables e below (T3.setTop (mkF m 13 #[.val (.int xc), .val (.int xp), .val (.int xf), .val (.int xg), .val (.int xh), .val (.int cnt), .unset, .unset, .unset, .unset, .unset, .unset] [(.ref b3)])) _
    refine XS.astore X3.here hx rfl (hb hby at_13) rfl rfl (l' := #[.val (.int xc), .val (.int xp), .val (.int xf), .val (.int xg), .val (.int xh), .val (.int cnt), .val (.ref b3), .unset, .unset, .unset, .unset, .unset]) rfl ?_
    show Steps p.tables e below (T3.setTop (mkF m 15 #[.val (.int xc), .val (.int xp), .val (.int xf), .val (.int xg), .val (.int xh), .val (.int cnt), .val (.ref b3), .unset, .unset, .unset, .unset, .unset] [])) _
    refine XS.aload X3.here hx rfl (hb hby at_15) rfl rfl ?_
    show Steps p.tables e below (T3.setTop (mkF m 17 #[.val (.int xc), .val (.int xp), .val (.int xf), .val (.int xg), .val (.int xh), .val (.int cnt), .val (.ref b3), .unset, .unset, .unset, .unset, .unset] [(.ref b3)])) _
    refine XS.iconst X3.here hx rfl (hb hby at_17) ?_
    show Steps p.tables e below (T3.setTop (mkF m 18 #[.val (.int xc), .val (.int xp), .val (.int xf), .val (.int xg), .val (.int xh), .val (.int cnt), .val (.ref b3), .unset, .unset, .unset, .unset, .unset] [(.int (0 : Int32)), (.ref b3)])) _
    refine XS.iloadN X3.here hx rfl (hb hby at_18) rfl ?_
    show Steps p.tables e below (T3.setTop (mkF m 19 #[.val (.int xc), .val (.int xp), .val (.int xf), .val (.int xg), .val (.int xh), .val (.int cnt), .val (.ref b3), .unset, .unset, .unset, .unset, .unset] [(.int xp), (.int (0 : Int32)), (.ref b3)])) _
    refine XS.sipush X3.here hx rfl (hb hby at_19) ?_
    show Steps p.tables e below (T3.setTop (mkF m 22 #[.val (.int xc), .val (.int xp), .val (.int xf), .val (.int xg), .val (.int xh), .val (.int cnt), .val (.ref b3), .unset, .unset, .unset, .unset, .unset] [(.int (255 : Int32)), (.int xp), (.int (0 : Int32)), (.ref b3)])) _
    refine XS.iand X3.here hx rfl (hb hby at_22) rfl ?_
    show Steps p.tables e below (T3.setTop (mkF m 23 #[.val (.int xc), .val (.int xp), .val (.int xf), .val (.int xg), .val (.int xh), .val (.int cnt), .val (.ref b3), .unset, .unset, .unset, .unset, .unset] [(.int (xp &&& (255 : Int32))), (.int (0 : Int32)), (.ref b3)])) _
    refine XS.iload X3.here hx rfl (hb hby at_23) rfl ?_
    show Steps p.tables e below (T3.setTop (mkF m 25 #[.val (.int xc), .val (.int xp), .val (.int xf), .val (.int xg), .val (.int xh), .val (.int cnt), .val (.ref b3), .unset, .unset, .unset, .unset, .unset] [(.int cnt), (.int (xp &&& (255 : Int32))), (.int (0 : Int32)), (.ref b3)])) _
    refine iremM X3 hx rfl (hb hby at_25) rfl hcne ?_
    show Steps p.tables e below (T3.setTop (mkF m 26 #[.val (.int xc), .val (.int xp), .val (.int xf), .val (.int xg), .val (.int xh), .val (.int cnt), .val (.ref b3), .unset, .unset, .unset, .unset, .unset] [(.int ((xp &&& (255 : Int32)) % cnt)), (.int (0 : Int32)), (.ref b3)])) _
    refine st5 _ ?_
    show Steps p.tables e below (T5.setTop (mkF m 27 #[.val (.int xc), .val (.int xp), .val (.int xf), .val (.int xg), .val (.int xh), .val (.int cnt), .val (.ref b3), .unset, .unset, .unset, .unset, .unset] [])) _
    refine XS.aload X5.here hx rfl (hb hby at_27) rfl rfl ?_
    show Steps p.tables e below (T5.setTop (mkF m 29 #[.val (.int xc), .val (.int xp), .val (.int xf), .val (.int xg), .val (.int xh), .val (.int cnt), .val (.ref b3), .unset, .unset, .unset, .unset, .unset] [(.ref b3)])) _
    refine XS.iconst X5.here hx rfl (hb hby at_29) ?_
    show Steps p.tables e below (T5.setTop (mkF m 30 #[.val (.int xc), .val (.int xp), .val (.int xf), .val (.int xg), .val (.int xh), .val (.int cnt), .val (.ref b3), .unset, .unset, .unset, .unset, .unset] [(.int (1 : Int32)), (.ref b3)])) _
    refine XS.iloadN X5.here hx rfl (hb hby at_30) rfl ?_
    show Steps p.tables e below (T5.setTop (mkF m 31 #[.val (.int xc), .val (.int xp), .val (.int xf), .val (.int xg), .val (.int xh), .val (.int cnt), .val (.ref b3), .unset, .unset, .unset, .unset, .unset] [(.int xp), (.int (1 : Int32)), (.ref b3)])) _
    refine XS.bipush X5.here hx rfl (hb hby at_31) ?_
    show Steps p.tables e below (T5.setTop (mkF m 33 #[.val (.int xc), .val (.int xp), .val (.int xf), .val (.int xg), .val (.int xh), .val (.int cnt), .val (.ref b3), .unset, .unset, .unset, .unset, .unset] [(.int (8 : Int32)), (.int xp), (.int (1 : Int32)), (.ref b3)])) _
    refine XS.iushr X5.here hx rfl (hb hby at_33) rfl ?_
    show Steps p.tables e below (T5.setTop (mkF m 34 #[.val (.int xc), .val (.int xp), .val (.int xf), .val (.int xg), .val (.int xh), .val (.int cnt), .val (.ref b3), .unset, .unset, .unset, .unset, .unset] [(.int ((xp.toUInt32 >>> ((8 : Int32) &&& 31).toUInt32).toInt32)), (.int (1 : Int32)), (.ref b3)])) _
    refine XS.sipush X5.here hx rfl (hb hby at_34) ?_
    show Steps p.tables e below (T5.setTop (mkF m 37 #[.val (.int xc), .val (.int xp), .val (.int xf), .val (.int xg), .val (.int xh), .val (.int cnt), .val (.ref b3), .unset, .unset, .unset, .unset, .unset] [(.int (255 : Int32)), (.int ((xp.toUInt32 >>> ((8 : Int32) &&& 31).toUInt32).toInt32)), (.int (1 : Int32)), (.ref b3)])) _
    refine XS.iand X5.here hx rfl (hb hby at_37) rfl ?_
    show Steps p.tables e below (T5.setTop (mkF m 38 #[.val (.int xc), .val (.int xp), .val (.int xf), .val (.int xg), .val (.int xh), .val (.int cnt), .val (.ref b3), .unset, .unset, .unset, .unset, .unset] [(.int (((xp.toUInt32 >>> ((8 : Int32) &&& 31).toUInt32).toInt32) &&& (255 : Int32))), (.int (1 : Int32)), (.ref b3)])) _
    refine XS.iload X5.here hx rfl (hb hby at_38) rfl ?_
    show Steps p.tables e below (T5.setTop (mkF m 40 #[.val (.int xc), .val (.int xp), .val (.int xf), .val (.int xg), .val (.int xh), .val (.int cnt), .val (.ref b3), .unset, .unset, .unset, .unset, .unset] [(.int cnt), (.int (((xp.toUInt32 >>> ((8 : Int32) &&& 31).toUInt32).toInt32) &&& (255 : Int32))), (.int (1 : Int32)), (.ref b3)])) _
    refine iremM X5 hx rfl (hb hby at_40) rfl hcne ?_
    show Steps p.tables e below (T5.setTop (mkF m 41 #[.val (.int xc), .val (.int xp), .val (.int xf), .val (.int xg), .val (.int xh), .val (.int cnt), .val (.ref b3), .unset, .unset, .unset, .unset, .unset] [(.int ((((xp.toUInt32 >>> ((8 : Int32) &&& 31).toUInt32).toInt32) &&& (255 : Int32)) % cnt)), (.int (1 : Int32)), (.ref b3)])) _
    refine st7 _ ?_
    show Steps p.tables e below (T7.setTop (mkF m 42 #[.val (.int xc), .val (.int xp), .val (.int xf), .val (.int xg), .val (.int xh), .val (.int cnt), .val (.ref b3), .unset, .unset, .unset, .unset, .unset] [])) _
    refine XS.aload X7.here hx rfl (hb hby at_42) rfl rfl ?_
    show Steps p.tables e below (T7.setTop (mkF m 44 #[.val (.int xc), .val (.int xp), .val (.int xf), .val (.int xg), .val (.int xh), .val (.int cnt), .val (.ref b3), .unset, .unset, .unset, .unset, .unset] [(.ref b3)])) _
    refine XS.iconst X7.here hx rfl (hb hby at_44) ?_
    show Steps p.tables e below (T7.setTop (mkF m 45 #[.val (.int xc), .val (.int xp), .val (.int xf), .val (.int xg), .val (.int xh), .val (.int cnt), .val (.ref b3), .unset, .unset, .unset, .unset, .unset] [(.int (2 : Int32)), (.ref b3)])) _
    refine XS.iloadN X7.here hx rfl (hb hby at_45) rfl ?_
    show Steps p.tables e below (T7.setTop (mkF m 46 #[.val (.int xc), .val (.int xp), .val (.int xf), .val (.int xg), .val (.int xh), .val (.int cnt), .val (.ref b3), .unset, .unset, .unset, .unset, .unset] [(.int xp), (.int (2 : Int32)), (.ref b3)])) _
    refine XS.bipush X7.here hx rfl (hb hby at_46) ?_
    show Steps p.tables e below (T7.setTop (mkF m 48 #[.val (.int xc), .val (.int xp), .val (.int xf), .val (.int xg), .val (.int xh), .val (.int cnt), .val (.ref b3), .unset, .unset, .unset, .unset, .unset] [(.int (16 : Int32)), (.int xp), (.int (2 : Int32)), (.ref b3)])) _
    refine XS.iushr X7.here hx rfl (hb hby at_48) rfl ?_
    show Steps p.tables e below (T7.setTop (mkF m 49 #[.val (.int xc), .val (.int xp), .val (.int xf), .val (.int xg), .val (.int xh), .val (.int cnt), .val (.ref b3), .unset, .unset, .unset, .unset, .unset] [(.int ((xp.toUInt32 >>> ((16 : Int32) &&& 31).toUInt32).toInt32)), (.int (2 : Int32)), (.ref b3)])) _
    refine XS.sipush X7.here hx rfl (hb hby at_49) ?_
    show Steps p.tables e below (T7.setTop (mkF m 52 #[.val (.int xc), .val (.int xp), .val (.int xf), .val (.int xg), .val (.int xh), .val (.int cnt), .val (.ref b3), .unset, .unset, .unset, .unset, .unset] [(.int (255 : Int32)), (.int ((xp.toUInt32 >>> ((16 : Int32) &&& 31).toUInt32).toInt32)), (.int (2 : Int32)), (.ref b3)])) _
    refine XS.iand X7.here hx rfl (hb hby at_52) rfl ?_
    show Steps p.tables e below (T7.setTop (mkF m 53 #[.val (.int xc), .val (.int xp), .val (.int xf), .val (.int xg), .val (.int xh), .val (.int cnt), .val (.ref b3), .unset, .unset, .unset, .unset, .unset] [(.int (((xp.toUInt32 >>> ((16 : Int32) &&& 31).toUInt32).toInt32) &&& (255 : Int32))), (.int (2 : Int32)), (.ref b3)])) _
    refine XS.iload X7.here hx rfl (hb hby at_53) rfl ?_
    show Steps p.tables e below (T7.setTop (mkF m 55 #[.val (.int xc), .val (.int xp), .val (.int xf), .val (.int xg), .val (.int xh), .val (.int cnt), .val (.ref b3), .unset, .unset, .unset, .unset, .unset] [(.int cnt), (.int (((xp.toUInt32 >>> ((16 : Int32) &&& 31).toUInt32).toInt32) &&& (255 : Int32))), (.int (2 : Int32)), (.ref b3)])) _
    refine iremM X7 hx rfl (hb hby at_55) rfl hcne ?_
    show Steps p.tables e below (T7.setTop (mkF m 56 #[.val (.int xc), .val (.int xp), .val (.int xf), .val (.int xg), .val (.int xh), .val (.int cnt), .val (.ref b3), .unset, .unset, .unset, .unset, .unset] [(.int ((((xp.toUInt32 >>> ((16 : Int32) &&& 31).toUInt32).toInt32) &&& (255 : Int32)) % cnt)), (.int (2 : Int32)), (.ref b3)])) _
    refine st9 _ ?_
    show Steps p.tables e below (T9.setTop (mkF m 57 #[.val (.int xc), .val (.int xp), .val (.int xf), .val (.int xg), .val (.int xh), .val (.int cnt), .val (.ref b3), .unset, .unset, .unset, .unset, .unset] [])) _
    refine XS.iloadN X9.here hx rfl (hb hby at_57) rfl ?_
    show Steps p.tables e below (T9.setTop (mkF m 58 #[.val (.int xc), .val (.int xp), .val (.int xf), .val (.int xg), .val (.int xh), .val (.int cnt), .val (.ref b3), .unset, .unset, .unset, .unset, .unset] [(.int xf)])) _
    refine X9.ldcInt hx hown (mvT hZ (hw _ (List.mem_of_getElem? (i := 0) rfl))) (g := (mkF m 58 #[.val (.int xc), .val (.int xp), .val (.int xf), .val (.int xg), .val (.int xh), .val (.int cnt), .val (.ref b3), .unset, .unset, .unset, .unset, .unset] [(.int xf)])) rfl (hb hby at_58) _ ?_
    show Steps p.tables e below (T9.setTop (mkF m 60 #[.val (.int xc), .val (.int xp), .val (.int xf), .val (.int xg), .val (.int xh), .val (.int cnt), .val (.ref b3), .unset, .unset, .unset, .unset, .unset] [(.int (2147483647 : Int32)), (.int xf)])) _
    refine XS.iand X9.here hx rfl (hb hby at_60) rfl ?_
    show Steps p.tables e below (T9.setTop (mkF m 61 #[.val (.int xc), .val (.int xp), .val (.int xf), .val (.int xg), .val (.int xh), .val (.int cnt), .val (.ref b3), .unset, .unset, .unset, .unset, .unset] [(.int (xf &&& (2147483647 : Int32)))])) _
    refine XS.iconst X9.here hx rfl (hb hby at_61) ?_
    show Steps p.tables e below (T9.setTop (mkF m 62 #[.val (.int xc), .val (.int xp), .val (.int xf), .val (.int xg), .val (.int xh), .val (.int cnt), .val (.ref b3), .unset, .unset, .unset, .unset, .unset] [(.int (3 : Int32)), (.int (xf &&& (2147483647 : Int32)))])) _
    refine iremM X9 hx rfl (hb hby at_62) rfl (by decide) ?_
    show Steps p.tables e below (T9.setTop (mkF m 63 #[.val (.int xc), .val (.int xp), .val (.int xf), .val (.int xg), .val (.int xh), .val (.int cnt), .val (.ref b3), .unset, .unset, .unset, .unset, .unset] [(.int ((xf &&& (2147483647 : Int32)) % (3 : Int32)))])) _
    refine XS.istore X9.here hx rfl (hb hby at_63) rfl (l' := #[.val (.int xc), .val (.int xp), .val (.int xf), .val (.int xg), .val (.int xh), .val (.int cnt), .val (.ref b3), .val (.int ((xf &&& (2147483647 : Int32)) % (3 : Int32))), .unset, .unset, .unset, .unset]) rfl ?_
    exact kt
  obtain ⟨ja, hja⟩ : ∃ zz : Int32, zz = ((xf &&& (2147483647 : Int32)) % (3 : Int32)) := ⟨_, rfl⟩
  have r11 : ∀ t, Steps p.tables e below (T9.setTop (mkF m 65 #[.val (.int xc), .val (.int xp), .val (.int xf), .val (.int xg), .val (.int xh), .val (.int cnt), .val (.ref b3), .val (.int ja), .unset, .unset, .unset, .unset] [])) t → Steps p.tables e below (T9.setTop (mkF m 65 #[.val (.int xc), .val (.int xp), .val (.int xf), .val (.int xg), .val (.int xh), .val (.int cnt), .val (.ref b3), .val (.int ((xf &&& (2147483647 : Int32)) % (3 : Int32))), .unset, .unset, .unset, .unset] [])) t := fun t kt => by
    subst hja
    exact kt
  have hja' : own_in ja 5 := by have q := own_rem xf 3 3 (by decide) (by decide); rw [← hja] at q; exact ⟨q.1, by omega⟩
  have r12 : ∀ t, Steps p.tables e below (T9.setTop (mkF m 73 #[.val (.int xc), .val (.int xp), .val (.int xf), .val (.int xg), .val (.int xh), .val (.int cnt), .val (.ref b3), .val (.int ja), .val (.int ((xg &&& (2147483647 : Int32)) % (4 : Int32))), .unset, .unset, .unset] [])) t → Steps p.tables e below (T9.setTop (mkF m 65 #[.val (.int xc), .val (.int xp), .val (.int xf), .val (.int xg), .val (.int xh), .val (.int cnt), .val (.ref b3), .val (.int ja), .unset, .unset, .unset, .unset] [])) t := fun t kt => by
    show Steps p.tables e below (T9.setTop (mkF m 65 #[.val (.int xc), .val (.int xp), .val (.int xf), .val (.int xg), .val (.int xh), .val (.int cnt), .val (.ref b3), .val (.int ja), .unset, .unset, .unset, .unset] [])) _
    refine XS.iloadN X9.here hx rfl (hb hby at_65) rfl ?_
    show Steps p.tables e below (T9.setTop (mkF m 66 #[.val (.int xc), .val (.int xp), .val (.int xf), .val (.int xg), .val (.int xh), .val (.int cnt), .val (.ref b3), .val (.int ja), .unset, .unset, .unset, .unset] [(.int xg)])) _
    refine X9.ldcInt hx hown (mvT hZ (hw _ (List.mem_of_getElem? (i := 0) rfl))) (g := (mkF m 66 #[.val (.int xc), .val (.int xp), .val (.int xf), .val (.int xg), .val (.int xh), .val (.int cnt), .val (.ref b3), .val (.int ja), .unset, .unset, .unset, .unset] [(.int xg)])) rfl (hb hby at_66) _ ?_
    show Steps p.tables e below (T9.setTop (mkF m 68 #[.val (.int xc), .val (.int xp), .val (.int xf), .val (.int xg), .val (.int xh), .val (.int cnt), .val (.ref b3), .val (.int ja), .unset, .unset, .unset, .unset] [(.int (2147483647 : Int32)), (.int xg)])) _
    refine XS.iand X9.here hx rfl (hb hby at_68) rfl ?_
    show Steps p.tables e below (T9.setTop (mkF m 69 #[.val (.int xc), .val (.int xp), .val (.int xf), .val (.int xg), .val (.int xh), .val (.int cnt), .val (.ref b3), .val (.int ja), .unset, .unset, .unset, .unset] [(.int (xg &&& (2147483647 : Int32)))])) _
    refine XS.iconst X9.here hx rfl (hb hby at_69) ?_
    show Steps p.tables e below (T9.setTop (mkF m 70 #[.val (.int xc), .val (.int xp), .val (.int xf), .val (.int xg), .val (.int xh), .val (.int cnt), .val (.ref b3), .val (.int ja), .unset, .unset, .unset, .unset] [(.int (4 : Int32)), (.int (xg &&& (2147483647 : Int32)))])) _
    refine iremM X9 hx rfl (hb hby at_70) rfl (by decide) ?_
    show Steps p.tables e below (T9.setTop (mkF m 71 #[.val (.int xc), .val (.int xp), .val (.int xf), .val (.int xg), .val (.int xh), .val (.int cnt), .val (.ref b3), .val (.int ja), .unset, .unset, .unset, .unset] [(.int ((xg &&& (2147483647 : Int32)) % (4 : Int32)))])) _
    refine XS.istore X9.here hx rfl (hb hby at_71) rfl (l' := #[.val (.int xc), .val (.int xp), .val (.int xf), .val (.int xg), .val (.int xh), .val (.int cnt), .val (.ref b3), .val (.int ja), .val (.int ((xg &&& (2147483647 : Int32)) % (4 : Int32))), .unset, .unset, .unset]) rfl ?_
    exact kt
  obtain ⟨jb, hjb⟩ : ∃ zz : Int32, zz = ((xg &&& (2147483647 : Int32)) % (4 : Int32)) := ⟨_, rfl⟩
  have r13 : ∀ t, Steps p.tables e below (T9.setTop (mkF m 73 #[.val (.int xc), .val (.int xp), .val (.int xf), .val (.int xg), .val (.int xh), .val (.int cnt), .val (.ref b3), .val (.int ja), .val (.int jb), .unset, .unset, .unset] [])) t → Steps p.tables e below (T9.setTop (mkF m 73 #[.val (.int xc), .val (.int xp), .val (.int xf), .val (.int xg), .val (.int xh), .val (.int cnt), .val (.ref b3), .val (.int ja), .val (.int ((xg &&& (2147483647 : Int32)) % (4 : Int32))), .unset, .unset, .unset] [])) t := fun t kt => by
    subst hjb
    exact kt
  have hjb' : own_in jb 5 := by have q := own_rem xg 4 4 (by decide) (by decide); rw [← hjb] at q; exact ⟨q.1, by omega⟩
  have r14 : ∀ t, Steps p.tables e below (T9.setTop (mkF m 82 #[.val (.int xc), .val (.int xp), .val (.int xf), .val (.int xg), .val (.int xh), .val (.int cnt), .val (.ref b3), .val (.int ja), .val (.int jb), .val (.int ((xh &&& (2147483647 : Int32)) % (5 : Int32))), .unset, .unset] [])) t → Steps p.tables e below (T9.setTop (mkF m 73 #[.val (.int xc), .val (.int xp), .val (.int xf), .val (.int xg), .val (.int xh), .val (.int cnt), .val (.ref b3), .val (.int ja), .val (.int jb), .unset, .unset, .unset] [])) t := fun t kt => by
    show Steps p.tables e below (T9.setTop (mkF m 73 #[.val (.int xc), .val (.int xp), .val (.int xf), .val (.int xg), .val (.int xh), .val (.int cnt), .val (.ref b3), .val (.int ja), .val (.int jb), .unset, .unset, .unset] [])) _
    refine XS.iload X9.here hx rfl (hb hby at_73) rfl ?_
    show Steps p.tables e below (T9.setTop (mkF m 75 #[.val (.int xc), .val (.int xp), .val (.int xf), .val (.int xg), .val (.int xh), .val (.int cnt), .val (.ref b3), .val (.int ja), .val (.int jb), .unset, .unset, .unset] [(.int xh)])) _
    refine X9.ldcInt hx hown (mvT hZ (hw _ (List.mem_of_getElem? (i := 0) rfl))) (g := (mkF m 75 #[.val (.int xc), .val (.int xp), .val (.int xf), .val (.int xg), .val (.int xh), .val (.int cnt), .val (.ref b3), .val (.int ja), .val (.int jb), .unset, .unset, .unset] [(.int xh)])) rfl (hb hby at_75) _ ?_
    show Steps p.tables e below (T9.setTop (mkF m 77 #[.val (.int xc), .val (.int xp), .val (.int xf), .val (.int xg), .val (.int xh), .val (.int cnt), .val (.ref b3), .val (.int ja), .val (.int jb), .unset, .unset, .unset] [(.int (2147483647 : Int32)), (.int xh)])) _
    refine XS.iand X9.here hx rfl (hb hby at_77) rfl ?_
    show Steps p.tables e below (T9.setTop (mkF m 78 #[.val (.int xc), .val (.int xp), .val (.int xf), .val (.int xg), .val (.int xh), .val (.int cnt), .val (.ref b3), .val (.int ja), .val (.int jb), .unset, .unset, .unset] [(.int (xh &&& (2147483647 : Int32)))])) _
    refine XS.iconst X9.here hx rfl (hb hby at_78) ?_
    show Steps p.tables e below (T9.setTop (mkF m 79 #[.val (.int xc), .val (.int xp), .val (.int xf), .val (.int xg), .val (.int xh), .val (.int cnt), .val (.ref b3), .val (.int ja), .val (.int jb), .unset, .unset, .unset] [(.int (5 : Int32)), (.int (xh &&& (2147483647 : Int32)))])) _
    refine iremM X9 hx rfl (hb hby at_79) rfl (by decide) ?_
    show Steps p.tables e below (T9.setTop (mkF m 80 #[.val (.int xc), .val (.int xp), .val (.int xf), .val (.int xg), .val (.int xh), .val (.int cnt), .val (.ref b3), .val (.int ja), .val (.int jb), .unset, .unset, .unset] [(.int ((xh &&& (2147483647 : Int32)) % (5 : Int32)))])) _
    refine XS.istore X9.here hx rfl (hb hby at_80) rfl (l' := #[.val (.int xc), .val (.int xp), .val (.int xf), .val (.int xg), .val (.int xh), .val (.int cnt), .val (.ref b3), .val (.int ja), .val (.int jb), .val (.int ((xh &&& (2147483647 : Int32)) % (5 : Int32))), .unset, .unset]) rfl ?_
    exact kt
  obtain ⟨jd, hjd⟩ : ∃ zz : Int32, zz = ((xh &&& (2147483647 : Int32)) % (5 : Int32)) := ⟨_, rfl⟩
  have r15 : ∀ t, Steps p.tables e below (T9.setTop (mkF m 82 #[.val (.int xc), .val (.int xp), .val (.int xf), .val (.int xg), .val (.int xh), .val (.int cnt), .val (.ref b3), .val (.int ja), .val (.int jb), .val (.int jd), .unset, .unset] [])) t → Steps p.tables e below (T9.setTop (mkF m 82 #[.val (.int xc), .val (.int xp), .val (.int xf), .val (.int xg), .val (.int xh), .val (.int cnt), .val (.ref b3), .val (.int ja), .val (.int jb), .val (.int ((xh &&& (2147483647 : Int32)) % (5 : Int32))), .unset, .unset] [])) t := fun t kt => by
    subst hjd
    exact kt
  have hjd' : own_in jd 5 := by have q := own_rem xh 5 5 (by decide) (by decide); rw [← hjd] at q; exact ⟨q.1, by omega⟩
  obtain ⟨T16, h16, k16, X16, e16, E16, A16, st16⟩ := newP X9 hx hZ (hw _ (List.mem_of_getElem? (i := 1) rfl)) e9 (g := (mkF m 84 #[.val (.int xc), .val (.int xp), .val (.int xf), .val (.int xg), .val (.int xh), .val (.int cnt), .val (.ref b3), .val (.int ja), .val (.int jb), .val (.int jd), .unset, .unset] [(.int (6 : Int32))])) rfl (hb hby at_84) rfl (by decide) (cap := 6) (by decide) (by decide) (by decide) (by decide)
  obtain ⟨b16, g16⟩ : ∃ z, z = h9.size := ⟨_, rfl⟩
  rw [← g16] at A16 st16
  have ne_b3_b16 : b3 ≠ b16 := Nat.ne_of_lt (Nat.lt_of_lt_of_le V9.lt (Nat.le_of_eq g16.symm))
  have g_b16 : n0 ≤ b16 := Nat.le_trans Zs9 (Nat.le_of_eq g16.symm)
  have sz_b16 : h0.size ≤ b16 := Nat.le_trans K9.1 (Nat.le_of_eq g16.symm)
  have K16 : Keep h0 h16 [] := K9.ext E16
  have Zs16 : n0 ≤ h16.size := Nat.le_trans Zs9 E16.1
  have V16 : Arv Z h16 b16 k16 .int (6 : Int32) [(.int (0 : Int32)), (.int (0 : Int32)), (.int (0 : Int32)), (.int (0 : Int32)), (.int (0 : Int32)), (.int (0 : Int32))] (.int (0 : Int32)) := (Arv.new A16 (by decide)).pad (pad_rep [] (.int (0 : Int32)) 6)
  obtain ⟨cl17, Ar17, q17, S17, M17, Hs17, G17⟩ := (id V16)
  have hin17 : ¬ ((0 : Int32) < 0 ∨ cl17.slots.size ≤ ((0 : Int32)).toNatClampNeg) := inb_of S17 ⟨by decide, by decide⟩
  obtain ⟨T18, h18, X18, e18, W18, st18⟩ := stI X16 hx hZ e16 Ar17 (j := (0 : Int32)) hin17 (g := (mkF m 92 #[.val (.int xc), .val (.int xp), .val (.int xf), .val (.int xg), .val (.int xh), .val (.int cnt), .val (.ref b3), .val (.int ja), .val (.int jb), .val (.int jd), .val (.ref b16), .unset] [(.int (0 : Int32)), (.int (0 : Int32)), (.ref b16)])) rfl rfl (hb hby at_92)
  have V18 : Arv Z h18 b16 k16 .int (6 : Int32) [(.int (0 : Int32)), (.int (0 : Int32)), (.int (0 : Int32)), (.int (0 : Int32)), (.int (0 : Int32)), (.int (0 : Int32))] (.int (0 : Int32)) := Arv.set Ar17 q17 S17 M17 Hs17 G17 rfl W18 0 rfl (Nat.le_of_ble_eq_true rfl)
  have K18 : Keep h0 h18 [] := K16.wr W18 (Or.inr sz_b16)
  have Zs18 : n0 ≤ h18.size := Nat.le_trans Zs16 (Keep.of_wr W18).1
  have N18 := Fr.snoc X18 N9 g_b16
  obtain ⟨cl19, Ar19, q19, S19, M19, Hs19, G19⟩ := (id V18)
  have hin19 : ¬ ((1 : Int32) < 0 ∨ cl19.slots.size ≤ ((1 : Int32)).toNatClampNeg) := inb_of S19 ⟨by decide, by decide⟩
  obtain ⟨T20, h20, X20, e20, W20, st20⟩ := stI X18 hx hZ e18 Ar19 (j := (1 : Int32)) hin19 (g := (mkF m 97 #[.val (.int xc), .val (.int xp), .val (.int xf), .val (.int xg), .val (.int xh), .val (.int cnt), .val (.ref b3), .val (.int ja), .val (.int jb), .val (.int jd), .val (.ref b16), .unset] [(.int (1 : Int32)), (.int (1 : Int32)), (.ref b16)])) rfl rfl (hb hby at_97)
  have V20 : Arv Z h20 b16 k16 .int (6 : Int32) [(.int (0 : Int32)), (.int (1 : Int32)), (.int (0 : Int32)), (.int (0 : Int32)), (.int (0 : Int32)), (.int (0 : Int32))] (.int (0 : Int32)) := Arv.set Ar19 q19 S19 M19 Hs19 G19 rfl W20 1 rfl (Nat.le_of_ble_eq_true rfl)
  have K20 : Keep h0 h20 [] := K18.wr W20 (Or.inr sz_b16)
  have Zs20 : n0 ≤ h20.size := Nat.le_trans Zs18 (Keep.of_wr W20).1
  have N20 := Fr.snoc X20 N18 g_b16
  obtain ⟨cl21, Ar21, q21, S21, M21, Hs21, G21⟩ := (id V20)
  have hin21 : ¬ ((2 : Int32) < 0 ∨ cl21.slots.size ≤ ((2 : Int32)).toNatClampNeg) := inb_of S21 ⟨by decide, by decide⟩
  obtain ⟨T22, h22, X22, e22, W22, st22⟩ := stI X20 hx hZ e20 Ar21 (j := (2 : Int32)) hin21 (g := (mkF m 102 #[.val (.int xc), .val (.int xp), .val (.int xf), .val (.int xg), .val (.int xh), .val (.int cnt), .val (.ref b3), .val (.int ja), .val (.int jb), .val (.int jd), .val (.ref b16), .unset] [(.int (2 : Int32)), (.int (2 : Int32)), (.ref b16)])) rfl rfl (hb hby at_102)
  have V22 : Arv Z h22 b16 k16 .int (6 : Int32) [(.int (0 : Int32)), (.int (1 : Int32)), (.int (2 : Int32)), (.int (0 : Int32)), (.int (0 : Int32)), (.int (0 : Int32))] (.int (0 : Int32)) := Arv.set Ar21 q21 S21 M21 Hs21 G21 rfl W22 2 rfl (Nat.le_of_ble_eq_true rfl)
  have K22 : Keep h0 h22 [] := K20.wr W22 (Or.inr sz_b16)
  have Zs22 : n0 ≤ h22.size := Nat.le_trans Zs20 (Keep.of_wr W22).1
  have N22 := Fr.snoc X22 N20 g_b16
  obtain ⟨cl23, Ar23, q23, S23, M23, Hs23, G23⟩ := (id V22)
  have hin23 : ¬ (ja < 0 ∨ cl23.slots.size ≤ (ja).toNatClampNeg) := inb_of S23 (own_inb hja' (m := 6) (by decide) (by decide))
  have hat23 : cl23.slots[(ja).toNatClampNeg]? = some (.int (own_get [(0 : Int32), (1 : Int32), (2 : Int32), (0 : Int32), (0 : Int32), (0 : Int32)] ja)) := Hs23.at hin23 (own_getV [(0 : Int32), (1 : Int32), (2 : Int32), (0 : Int32), (0 : Int32), (0 : Int32)] ja)
  obtain ⟨cl24, Ar24, q24, S24, M24, Hs24, G24⟩ := (id V22)
  have hin24 : ¬ ((3 : Int32) < 0 ∨ cl24.slots.size ≤ ((3 : Int32)).toNatClampNeg) := inb_of S24 ⟨by decide, by decide⟩
  obtain ⟨T25, h25, X25, e25, W25, st25⟩ := stI X22 hx hZ e22 Ar24 (j := (3 : Int32)) hin24 (g := (mkF m 111 #[.val (.int xc), .val (.int xp), .val (.int xf), .val (.int xg), .val (.int xh), .val (.int cnt), .val (.ref b3), .val (.int ja), .val (.int jb), .val (.int jd), .val (.ref b16), .unset] [(.int (own_get [(0 : Int32), (1 : Int32), (2 : Int32), (0 : Int32), (0 : Int32), (0 : Int32)] ja)), (.int (3 : Int32)), (.ref b16)])) rfl rfl (hb hby at_111)
  have V25 : Arv Z h25 b16 k16 .int (6 : Int32) [(.int (0 : Int32)), (.int (1 : Int32)), (.int (2 : Int32)), (.int (own_get [(0 : Int32), (1 : Int32), (2 : Int32), (0 : Int32), (0 : Int32), (0 : Int32)] ja)), (.int (0 : Int32)), (.int (0 : Int32))] (.int (0 : Int32)) := Arv.set Ar24 q24 S24 M24 Hs24 G24 rfl W25 3 rfl (Nat.le_of_ble_eq_true rfl)
  have K25 : Keep h0 h25 [] := K22.wr W25 (Or.inr sz_b16)
  have Zs25 : n0 ≤ h25.size := Nat.le_trans Zs22 (Keep.of_wr W25).1
  have N25 := Fr.snoc X25 N22 g_b16
  obtain ⟨cl26, Ar26, q26, S26, M26, Hs26, G26⟩ := (id V25)
  have hin26 : ¬ (jb < 0 ∨ cl26.slots.size ≤ (jb).toNatClampNeg) := inb_of S26 (own_inb hjb' (m := 6) (by decide) (by decide))
  have hat26 : cl26.slots[(jb).toNatClampNeg]? = some (.int (own_get [(0 : Int32), (1 : Int32), (2 : Int32), (own_get [(0 : Int32), (1 : Int32), (2 : Int32), (0 : Int32), (0 : Int32), (0 : Int32)] ja), (0 : Int32), (0 : Int32)] jb)) := Hs26.at hin26 (own_getV [(0 : Int32), (1 : Int32), (2 : Int32), (own_get [(0 : Int32), (1 : Int32), (2 : Int32), (0 : Int32), (0 : Int32), (0 : Int32)] ja), (0 : Int32), (0 : Int32)] jb)
  obtain ⟨cl27, Ar27, q27, S27, M27, Hs27, G27⟩ := (id V25)
  have hin27 : ¬ ((4 : Int32) < 0 ∨ cl27.slots.size ≤ ((4 : Int32)).toNatClampNeg) := inb_of S27 ⟨by decide, by decide⟩
  obtain ⟨T28, h28, X28, e28, W28, st28⟩ := stI X25 hx hZ e25 Ar27 (j := (4 : Int32)) hin27 (g := (mkF m 120 #[.val (.int xc), .val (.int xp), .val (.int xf), .val (.int xg), .val (.int xh), .val (.int cnt), .val (.ref b3), .val (.int ja), .val (.int jb), .val (.int jd), .val (.ref b16), .unset] [(.int (own_get [(0 : Int32), (1 : Int32), (2 : Int32), (own_get [(0 : Int32), (1 : Int32), (2 : Int32), (0 : Int32), (0 : Int32), (0 : Int32)] ja), (0 : Int32), (0 : Int32)] jb)), (.int (4 : Int32)), (.ref b16)])) rfl rfl (hb hby at_120)
  have V28 : Arv Z h28 b16 k16 .int (6 : Int32) [(.int (0 : Int32)), (.int (1 : Int32)), (.int (2 : Int32)), (.int (own_get [(0 : Int32), (1 : Int32), (2 : Int32), (0 : Int32), (0 : Int32), (0 : Int32)] ja)), (.int (own_get [(0 : Int32), (1 : Int32), (2 : Int32), (own_get [(0 : Int32), (1 : Int32), (2 : Int32), (0 : Int32), (0 : Int32), (0 : Int32)] ja), (0 : Int32), (0 : Int32)] jb)), (.int (0 : Int32))] (.int (0 : Int32)) := Arv.set Ar27 q27 S27 M27 Hs27 G27 rfl W28 4 rfl (Nat.le_of_ble_eq_true rfl)
  have K28 : Keep h0 h28 [] := K25.wr W28 (Or.inr sz_b16)
  have Zs28 : n0 ≤ h28.size := Nat.le_trans Zs25 (Keep.of_wr W28).1
  have N28 := Fr.snoc X28 N25 g_b16
  obtain ⟨cl29, Ar29, q29, S29, M29, Hs29, G29⟩ := (id V28)
  have hin29 : ¬ (jd < 0 ∨ cl29.slots.size ≤ (jd).toNatClampNeg) := inb_of S29 (own_inb hjd' (m := 6) (by decide) (by decide))
  have hat29 : cl29.slots[(jd).toNatClampNeg]? = some (.int (own_get [(0 : Int32), (1 : Int32), (2 : Int32), (own_get [(0 : Int32), (1 : Int32), (2 : Int32), (0 : Int32), (0 : Int32), (0 : Int32)] ja), (own_get [(0 : Int32), (1 : Int32), (2 : Int32), (own_get [(0 : Int32), (1 : Int32), (2 : Int32), (0 : Int32), (0 : Int32), (0 : Int32)] ja), (0 : Int32), (0 : Int32)] jb), (0 : Int32)] jd)) := Hs29.at hin29 (own_getV [(0 : Int32), (1 : Int32), (2 : Int32), (own_get [(0 : Int32), (1 : Int32), (2 : Int32), (0 : Int32), (0 : Int32), (0 : Int32)] ja), (own_get [(0 : Int32), (1 : Int32), (2 : Int32), (own_get [(0 : Int32), (1 : Int32), (2 : Int32), (0 : Int32), (0 : Int32), (0 : Int32)] ja), (0 : Int32), (0 : Int32)] jb), (0 : Int32)] jd)
  obtain ⟨cl30, Ar30, q30, S30, M30, Hs30, G30⟩ := (id V28)
  have hin30 : ¬ ((5 : Int32) < 0 ∨ cl30.slots.size ≤ ((5 : Int32)).toNatClampNeg) := inb_of S30 ⟨by decide, by decide⟩
  obtain ⟨T31, h31, X31, e31, W31, st31⟩ := stI X28 hx hZ e28 Ar30 (j := (5 : Int32)) hin30 (g := (mkF m 129 #[.val (.int xc), .val (.int xp), .val (.int xf), .val (.int xg), .val (.int xh), .val (.int cnt), .val (.ref b3), .val (.int ja), .val (.int jb), .val (.int jd), .val (.ref b16), .unset] [(.int (own_get [(0 : Int32), (1 : Int32), (2 : Int32), (own_get [(0 : Int32), (1 : Int32), (2 : Int32), (0 : Int32), (0 : Int32), (0 : Int32)] ja), (own_get [(0 : Int32), (1 : Int32), (2 : Int32), (own_get [(0 : Int32), (1 : Int32), (2 : Int32), (0 : Int32), (0 : Int32), (0 : Int32)] ja), (0 : Int32), (0 : Int32)] jb), (0 : Int32)] jd)), (.int (5 : Int32)), (.ref b16)])) rfl rfl (hb hby at_129)
  have V31 : Arv Z h31 b16 k16 .int (6 : Int32) [(.int (0 : Int32)), (.int (1 : Int32)), (.int (2 : Int32)), (.int (own_get [(0 : Int32), (1 : Int32), (2 : Int32), (0 : Int32), (0 : Int32), (0 : Int32)] ja)), (.int (own_get [(0 : Int32), (1 : Int32), (2 : Int32), (own_get [(0 : Int32), (1 : Int32), (2 : Int32), (0 : Int32), (0 : Int32), (0 : Int32)] ja), (0 : Int32), (0 : Int32)] jb)), (.int (own_get [(0 : Int32), (1 : Int32), (2 : Int32), (own_get [(0 : Int32), (1 : Int32), (2 : Int32), (0 : Int32), (0 : Int32), (0 : Int32)] ja), (own_get [(0 : Int32), (1 : Int32), (2 : Int32), (own_get [(0 : Int32), (1 : Int32), (2 : Int32), (0 : Int32), (0 : Int32), (0 : Int32)] ja), (0 : Int32), (0 : Int32)] jb), (0 : Int32)] jd))] (.int (0 : Int32)) := Arv.set Ar30 q30 S30 M30 Hs30 G30 rfl W31 5 rfl (Nat.le_of_ble_eq_true rfl)
  have K31 : Keep h0 h31 [] := K28.wr W31 (Or.inr sz_b16)
  have Zs31 : n0 ≤ h31.size := Nat.le_trans Zs28 (Keep.of_wr W31).1
  have N31 := Fr.snoc X31 N28 g_b16
  obtain ⟨T32, h32, X32, e32, E32, A32, D32, -, st32⟩ := newO X31 hx hZ hown (hw _ (List.mem_of_getElem? (i := 2) rfl)) (hw _ (List.mem_of_getElem? (i := 3) rfl)) (hw _ (List.mem_of_getElem? (i := 4) rfl)) e31 (g := (mkF m 130 #[.val (.int xc), .val (.int xp), .val (.int xf), .val (.int xg), .val (.int xh), .val (.int cnt), .val (.ref b3), .val (.int ja), .val (.int jb), .val (.int jd), .val (.ref b16), .unset] [])) rfl (hb hby at_130) (by decide) (by decide)
  obtain ⟨b32, g32⟩ : ∃ z, z = h31.size := ⟨_, rfl⟩
  rw [← g32] at A32 D32 st32
  have ne_b3_b32 : b3 ≠ b32 := Nat.ne_of_lt (Nat.lt_of_lt_of_le (((((((V9.ext E16).other W18 ne_b3_b16).other W20 ne_b3_b16).other W22 ne_b3_b16).other W25 ne_b3_b16).other W28 ne_b3_b16).other W31 ne_b3_b16).lt (Nat.le_of_eq g32.symm))
  have ne_b16_b32 : b16 ≠ b32 := Nat.ne_of_lt (Nat.lt_of_lt_of_le V31.lt (Nat.le_of_eq g32.symm))
  have g_b32 : n0 ≤ b32 := Nat.le_trans Zs31 (Nat.le_of_eq g32.symm)
  have sz_b32 : h0.size ≤ b32 := Nat.le_trans K31.1 (Nat.le_of_eq g32.symm)
  have K32 : Keep h0 h32 [] := K31.ext E32
  have Zs32 : n0 ≤ h32.size := Nat.le_trans Zs31 E32.1
  have F32_components : Fld Z h32 b32 "com/example/covey/covey/divisive/SplitLog" "components" "I" (.int (0 : Int32)) := D32 (Or.inr (hw _ (List.mem_of_getElem? (i := 12) rfl))) (ty := .int) (by decide)
  have F32_copies : Fld Z h32 b32 "com/example/covey/covey/divisive/SplitLog" "copies" "I" (.int (0 : Int32)) := D32 (Or.inl (hw _ (List.mem_of_getElem? (i := 14) rfl))) (ty := .int) (by decide)
  have F32_nodeOf : Fld Z h32 b32 "com/example/covey/covey/divisive/SplitLog" "nodeOf" "[I" .null := D32 (Or.inr (hw _ (List.mem_of_getElem? (i := 16) rfl))) (ty := (.array .int)) (by decide)
  have F32_vertexOf : Fld Z h32 b32 "com/example/covey/covey/divisive/SplitLog" "vertexOf" "[I" .null := D32 (Or.inr (hw _ (List.mem_of_getElem? (i := 22) rfl))) (ty := (.array .int)) (by decide)
  have F32_nodes : Fld Z h32 b32 "com/example/covey/covey/divisive/SplitLog" "nodes" "I" (.int (0 : Int32)) := D32 (Or.inl (hw _ (List.mem_of_getElem? (i := 24) rfl))) (ty := .int) (by decide)
  have F32_parent : Fld Z h32 b32 "com/example/covey/covey/divisive/SplitLog" "parent" "[I" .null := D32 (Or.inr (hw _ (List.mem_of_getElem? (i := 26) rfl))) (ty := (.array .int)) (by decide)
  have F32_firstPart : Fld Z h32 b32 "com/example/covey/covey/divisive/SplitLog" "firstPart" "[I" .null := D32 (Or.inr (hw _ (List.mem_of_getElem? (i := 28) rfl))) (ty := (.array .int)) (by decide)
  have F32_secondPart : Fld Z h32 b32 "com/example/covey/covey/divisive/SplitLog" "secondPart" "[I" .null := D32 (Or.inr (hw _ (List.mem_of_getElem? (i := 30) rfl))) (ty := (.array .int)) (by decide)
  obtain ⟨_, _, ⟨T33, L33, k33, n33⟩, -, X33, ⟨Lc33, hQ33, l33, y33, z33⟩, st33⟩ := X32.specialBack hx (y := (⟨"com/example/covey/covey/divisive/SplitLog", "<init>", "([III)V"⟩ : MethodName)) rfl hown (mvT hZ (hw _ (List.mem_of_getElem? (i := 5) rfl))) (mvT hZ (hw _ (List.mem_of_getElem? (i := 6) rfl))) (mvT hZ (hw _ (List.mem_of_getElem? (i := 7) rfl))) (by decide) (backOf (W := 1) (rmD l Z a0 hw [] b32 b3 cnt ((xp &&& (255 : Int32)) % cnt) ((((xp.toUInt32 >>> ((8 : Int32) &&& 31).toUInt32).toInt32) &&& (255 : Int32)) % cnt) ((((xp.toUInt32 >>> ((16 : Int32) &&& 31).toUInt32).toInt32) &&& (255 : Int32)) % cnt) k3 h32 n0 Zs32 A32 F32_components F32_copies F32_nodes F32_nodeOf F32_vertexOf F32_parent F32_firstPart F32_secondPart g_b32 (Ne.symm ne_b3_b32) ((((((((V9.ext E16).other W18 ne_b3_b16).other W20 ne_b3_b16).other W22 ne_b3_b16).other W25 ne_b3_b16).other W28 ne_b3_b16).other W31 ne_b3_b16).ext E32) hcnt) hZ (hw _ (List.mem_of_getElem? (i := 7) rfl)) (hw _ (List.mem_of_getElem? (i := 4) rfl)) (by decide) (by decide)) (g := (mkF m 140 #[.val (.int xc), .val (.int xp), .val (.int xf), .val (.int xg), .val (.int xh), .val (.int cnt), .val (.ref b3), .val (.int ja), .val (.int jb), .val (.int jd), .val (.ref b16), .unset] [(.int (6 : Int32)), (.int cnt), (.ref b3), (.ref b32), (.ref b32)])) rfl (by rw [hml]; rfl) (Steps.refl _) (a := b32) (argsL := [(.ref b3), (.int cnt), (.int (6 : Int32))]) (rest := [(.ref b32)]) (lenOf own_pd0 rfl) rfl (by show 2 * 0 + _ ≤ _; exact Nat.le_of_eq rfl) (hb hby at_140) (fun _ _ => ⟨rfl, e32, (by decide : 3 + 5 ≤ _), (by decide : 18 + 27 ≤ _)⟩)
  dsimp only [Pt.U, Pt.locs, Pt.cells, Pt.slots] at X33 l33 y33 z33 st33 hQ33
  subst l33 y33 z33
  obtain ⟨na_33, k_na_33, va_33, k_va_33, rfl, Nq33, Kc33, g_na_33, zq_na_33, g_va_33, zq_va_33, ne_na_33_va_33, q33_0, q33_1, q33_2, q33_3, q33_4, q33_5⟩ := hQ33
  have sz_na_33 : h0.size ≤ na_33 := Nat.le_trans K32.1 zq_na_33
  have ne_b3_na_33 : b3 ≠ na_33 := Nat.ne_of_lt (Nat.lt_of_lt_of_le ((((((((V9.ext E16).other W18 ne_b3_b16).other W20 ne_b3_b16).other W22 ne_b3_b16).other W25 ne_b3_b16).other W28 ne_b3_b16).other W31 ne_b3_b16).ext E32).lt zq_na_33)
  have ne_b16_na_33 : b16 ≠ na_33 := Nat.ne_of_lt (Nat.lt_of_lt_of_le (V31.ext E32).lt zq_na_33)
  have ne_b32_na_33 : b32 ≠ na_33 := Nat.ne_of_lt (Nat.lt_of_lt_of_le A32.lt zq_na_33)
  have sz_va_33 : h0.size ≤ va_33 := Nat.le_trans K32.1 zq_va_33
  have ne_b3_va_33 : b3 ≠ va_33 := Nat.ne_of_lt (Nat.lt_of_lt_of_le ((((((((V9.ext E16).other W18 ne_b3_b16).other W20 ne_b3_b16).other W22 ne_b3_b16).other W25 ne_b3_b16).other W28 ne_b3_b16).other W31 ne_b3_b16).ext E32).lt zq_va_33)
  have ne_b16_va_33 : b16 ≠ va_33 := Nat.ne_of_lt (Nat.lt_of_lt_of_le (V31.ext E32).lt zq_va_33)
  have ne_b32_va_33 : b32 ≠ va_33 := Nat.ne_of_lt (Nat.lt_of_lt_of_le A32.lt zq_va_33)
  have K33 : Keep h0 T33.heap [] := Keep.trans K32 Kc33 (allS (Or.inr sz_b32) all0)
  have Zs33 : n0 ≤ T33.heap.size := Nat.le_trans Zs32 Kc33.1
  have N33 := Fr.app N31 Nq33
  obtain ⟨cq34, kq34, q34a, q34b, q34c⟩ := isOf hZ rfl q33_0
  obtain ⟨_, _, ⟨T34, L34, k34, n34⟩, -, X34, ⟨Lc34, hQ34, l34, y34, z34⟩, st34⟩ := X33.virtualBack hx (y := (⟨"com/example/covey/covey/divisive/SplitLog", "copy", "(I)V"⟩ : MethodName)) (z := (⟨"com/example/covey/covey/divisive/SplitLog", "copy", "(I)V"⟩ : MethodName)) hown (mvT hZ (hw _ (List.mem_of_getElem? (i := 31) rfl))) (mvT hZ (hw _ (List.mem_of_getElem? (i := 32) rfl))) (notFace_of_selects (args := #[]) (mvT hZ (hw _ (List.mem_of_getElem? (i := 34) rfl)))) (mvT hZ (hw _ (List.mem_of_getElem? (i := 34) rfl))) (mvT hZ (hw _ (List.mem_of_getElem? (i := 33) rfl))) (by decide) (backOf (W := 0) (rmC3 l Z a0 hw [] b32 ja na_33 va_33 k_na_33 ([((xp &&& (255 : Int32)) % cnt), ((((xp.toUInt32 >>> ((8 : Int32) &&& 31).toUInt32).toInt32) &&& (255 : Int32)) % cnt), ((((xp.toUInt32 >>> ((16 : Int32) &&& 31).toUInt32).toInt32) &&& (255 : Int32)) % cnt), (0 : Int32), (0 : Int32), (0 : Int32)]) k_va_33 ([(0 : Int32), (1 : Int32), (2 : Int32), (0 : Int32), (0 : Int32), (0 : Int32)]) T33.heap n0 Zs33 q33_0 q33_1 q33_2 q33_3 q33_4 q33_5 g_b32 g_na_33 g_va_33 ne_b32_na_33 ne_b32_va_33 ne_na_33_va_33 (by simp) (by simp) (hja')) hZ (hw _ (List.mem_of_getElem? (i := 35) rfl)) (hw _ (List.mem_of_getElem? (i := 4) rfl)) (by decide) (by decide)) q34a q34c (g := (mkF m 149 #[.val (.int xc), .val (.int xp), .val (.int xf), .val (.int xg), .val (.int xh), .val (.int cnt), .val (.ref b3), .val (.int ja), .val (.int jb), .val (.int jd), .val (.ref b16), .val (.ref b32)] [(.int ja), (.ref b32)])) rfl (by rw [hml]; rfl) (Steps.refl _) (argsL := [(.int ja)]) (rest := []) (lenOf own_pd1 rfl) rfl (by show 2 * 0 + _ ≤ _; exact Nat.le_of_eq rfl) (hb hby at_149) (fun _ _ => ⟨rfl, rfl, (by decide : 8 + 0 ≤ _), (by decide : 45 + 0 ≤ _)⟩)
  dsimp only [Pt.U, Pt.locs, Pt.cells, Pt.slots] at X34 l34 y34 z34 st34 hQ34
  subst l34 y34 z34
  obtain ⟨rfl, Nq34, Kc34, q34_0, q34_1, q34_2, q34_3, q34_4, q34_5⟩ := hQ34
  have K34 : Keep h0 T34.heap [] := Keep.trans K33 Kc34 (allS (Or.inr sz_b32) (allS (Or.inr sz_na_33) (allS (Or.inr sz_va_33) all0)))
  have Zs34 : n0 ≤ T34.heap.size := Nat.le_trans Zs33 Kc34.1
  have N34 := Fr.app N33 Nq34
  obtain ⟨cq35, kq35, q35a, q35b, q35c⟩ := isOf hZ rfl q34_0
  obtain ⟨_, _, ⟨T35, L35, k35, n35⟩, -, X35, ⟨Lc35, hQ35, l35, y35, z35⟩, st35⟩ := X34.virtualBack hx (y := (⟨"com/example/covey/covey/divisive/SplitLog", "copy", "(I)V"⟩ : MethodName)) (z := (⟨"com/example/covey/covey/divisive/SplitLog", "copy", "(I)V"⟩ : MethodName)) hown (mvT hZ (hw _ (List.mem_of_getElem? (i := 31) rfl))) (mvT hZ (hw _ (List.mem_of_getElem? (i := 32) rfl))) (notFace_of_selects (args := #[]) (mvT hZ (hw _ (List.mem_of_getElem? (i := 34) rfl)))) (mvT hZ (hw _ (List.mem_of_getElem? (i := 34) rfl))) (mvT hZ (hw _ (List.mem_of_getElem? (i := 33) rfl))) (by decide) (backOf (W := 0) (rmC4 l Z a0 hw [] b32 jb na_33 va_33 k_na_33 (([((xp &&& (255 : Int32)) % cnt), ((((xp.toUInt32 >>> ((8 : Int32) &&& 31).toUInt32).toInt32) &&& (255 : Int32)) % cnt), ((((xp.toUInt32 >>> ((16 : Int32) &&& 31).toUInt32).toInt32) &&& (255 : Int32)) % cnt), (0 : Int32), (0 : Int32), (0 : Int32)]).set 3 (own_get ([((xp &&& (255 : Int32)) % cnt), ((((xp.toUInt32 >>> ((8 : Int32) &&& 31).toUInt32).toInt32) &&& (255 : Int32)) % cnt), ((((xp.toUInt32 >>> ((16 : Int32) &&& 31).toUInt32).toInt32) &&& (255 : Int32)) % cnt), (0 : Int32), (0 : Int32), (0 : Int32)]) ja)) k_va_33 (([(0 : Int32), (1 : Int32), (2 : Int32), (0 : Int32), (0 : Int32), (0 : Int32)]).set 3 (own_get ([(0 : Int32), (1 : Int32), (2 : Int32), (0 : Int32), (0 : Int32), (0 : Int32)]) ja)) T34.heap n0 Zs34 q34_0 q34_1 q34_2 q34_3 q34_4 q34_5 g_b32 g_na_33 g_va_33 ne_b32_na_33 ne_b32_va_33 ne_na_33_va_33 (by simp) (by simp) (hjb')) hZ (hw _ (List.mem_of_getElem? (i := 35) rfl)) (hw _ (List.mem_of_getElem? (i := 4) rfl)) (by decide) (by decide)) q35a q35c (g := (mkF m 156 #[.val (.int xc), .val (.int xp), .val (.int xf), .val (.int xg), .val (.int xh), .val (.int cnt), .val (.ref b3), .val (.int ja), .val (.int jb), .val (.int jd), .val (.ref b16), .val (.ref b32)] [(.int jb), (.ref b32)])) rfl (by rw [hml]; rfl) (Steps.refl _) (argsL := [(.int jb)]) (rest := []) (lenOf own_pd1 rfl) rfl (by show 2 * 0 + _ ≤ _; exact Nat.le_of_eq rfl) (hb hby at_156) (fun _ _ => ⟨rfl, rfl, (by decide : 8 + 0 ≤ _), (by decide : 45 + 0 ≤ _)⟩)
  dsimp only [Pt.U, Pt.locs, Pt.cells, Pt.slots] at X35 l35 y35 z35 st35 hQ35
  subst l35 y35 z35
  obtain ⟨rfl, Nq35, Kc35, q35_0, q35_1, q35_2, q35_3, q35_4, q35_5⟩ := hQ35
  have K35 : Keep h0 T35.heap [] := Keep.trans K34 Kc35 (allS (Or.inr sz_b32) (allS (Or.inr sz_na_33) (allS (Or.inr sz_va_33) all0)))
  have Zs35 : n0 ≤ T35.heap.size := Nat.le_trans Zs34 Kc35.1
  have N35 := Fr.app N34 Nq35
  obtain ⟨cq36, kq36, q36a, q36b, q36c⟩ := isOf hZ rfl q35_0
  obtain ⟨_, _, ⟨T36, L36, k36, n36⟩, -, X36, ⟨Lc36, hQ36, l36, y36, z36⟩, st36⟩ := X35.virtualBack hx (y := (⟨"com/example/covey/covey/divisive/SplitLog", "copy", "(I)V"⟩ : MethodName)) (z := (⟨"com/example/covey/covey/divisive/SplitLog", "copy", "(I)V"⟩ : MethodName)) hown (mvT hZ (hw _ (List.mem_of_getElem? (i := 31) rfl))) (mvT hZ (hw _ (List.mem_of_getElem? (i := 32) rfl))) (notFace_of_selects (args := #[]) (mvT hZ (hw _ (List.mem_of_getElem? (i := 34) rfl)))) (mvT hZ (hw _ (List.mem_of_getElem? (i := 34) rfl))) (mvT hZ (hw _ (List.mem_of_getElem? (i := 33) rfl))) (by decide) (backOf (W := 0) (rmC5 l Z a0 hw [] b32 jd na_33 va_33 k_na_33 ((([((xp &&& (255 : Int32)) % cnt), ((((xp.toUInt32 >>> ((8 : Int32) &&& 31).toUInt32).toInt32) &&& (255 : Int32)) % cnt), ((((xp.toUInt32 >>> ((16 : Int32) &&& 31).toUInt32).toInt32) &&& (255 : Int32)) % cnt), (0 : Int32), (0 : Int32), (0 : Int32)]).set 3 (own_get ([((xp &&& (255 : Int32)) % cnt), ((((xp.toUInt32 >>> ((8 : Int32) &&& 31).toUInt32).toInt32) &&& (255 : Int32)) % cnt), ((((xp.toUInt32 >>> ((16 : Int32) &&& 31).toUInt32).toInt32) &&& (255 : Int32)) % cnt), (0 : Int32), (0 : Int32), (0 : Int32)]) ja)).set 4 (own_get (([((xp &&& (255 : Int32)) % cnt), ((((xp.toUInt32 >>> ((8 : Int32) &&& 31).toUInt32).toInt32) &&& (255 : Int32)) % cnt), ((((xp.toUInt32 >>> ((16 : Int32) &&& 31).toUInt32).toInt32) &&& (255 : Int32)) % cnt), (0 : Int32), (0 : Int32), (0 : Int32)]).set 3 (own_get ([((xp &&& (255 : Int32)) % cnt), ((((xp.toUInt32 >>> ((8 : Int32) &&& 31).toUInt32).toInt32) &&& (255 : Int32)) % cnt), ((((xp.toUInt32 >>> ((16 : Int32) &&& 31).toUInt32).toInt32) &&& (255 : Int32)) % cnt), (0 : Int32), (0 : Int32), (0 : Int32)]) ja)) jb)) k_va_33 ((([(0 : Int32), (1 : Int32), (2 : Int32), (0 : Int32), (0 : Int32), (0 : Int32)]).set 3 (own_get ([(0 : Int32), (1 : Int32), (2 : Int32), (0 : Int32), (0 : Int32), (0 : Int32)]) ja)).set 4 (own_get (([(0 : Int32), (1 : Int32), (2 : Int32), (0 : Int32), (0 : Int32), (0 : Int32)]).set 3 (own_get ([(0 : Int32), (1 : Int32), (2 : Int32), (0 : Int32), (0 : Int32), (0 : Int32)]) ja)) jb)) T35.heap n0 Zs35 q35_0 q35_1 q35_2 q35_3 q35_4 q35_5 g_b32 g_na_33 g_va_33 ne_b32_na_33 ne_b32_va_33 ne_na_33_va_33 (by simp) (by simp) (hjd')) hZ (hw _ (List.mem_of_getElem? (i := 35) rfl)) (hw _ (List.mem_of_getElem? (i := 4) rfl)) (by decide) (by decide)) q36a q36c (g := (mkF m 163 #[.val (.int xc), .val (.int xp), .val (.int xf), .val (.int xg), .val (.int xh), .val (.int cnt), .val (.ref b3), .val (.int ja), .val (.int jb), .val (.int jd), .val (.ref b16), .val (.ref b32)] [(.int jd), (.ref b32)])) rfl (by rw [hml]; rfl) (Steps.refl _) (argsL := [(.int jd)]) (rest := []) (lenOf own_pd1 rfl) rfl (by show 2 * 0 + _ ≤ _; exact Nat.le_of_eq rfl) (hb hby at_163) (fun _ _ => ⟨rfl, rfl, (by decide : 8 + 0 ≤ _), (by decide : 45 + 0 ≤ _)⟩)
  dsimp only [Pt.U, Pt.locs, Pt.cells, Pt.slots] at X36 l36 y36 z36 st36 hQ36
  subst l36 y36 z36
  obtain ⟨rfl, Nq36, Kc36, q36_0, q36_1, q36_2, q36_3, q36_4, q36_5⟩ := hQ36
  have K36 : Keep h0 T36.heap [] := Keep.trans K35 Kc36 (allS (Or.inr sz_b32) (allS (Or.inr sz_na_33) (allS (Or.inr sz_va_33) all0)))
  have Zs36 : n0 ≤ T36.heap.size := Nat.le_trans Zs35 Kc36.1
  have N36 := Fr.app N35 Nq36
  obtain ⟨cq37, kq37, q37a, q37b, q37c⟩ := isOf hZ rfl q36_0
  obtain ⟨_, _, ⟨T37, L37, k37, n37⟩, -, X37, ⟨Lc37, hQ37, l37, y37, z37⟩, st37⟩ := X36.virtualBack hx (y := (⟨"com/example/covey/covey/divisive/SplitLog", "vertexOf", "(I)I"⟩ : MethodName)) (z := (⟨"com/example/covey/covey/divisive/SplitLog", "vertexOf", "(I)I"⟩ : MethodName)) hown (mvT hZ (hw _ (List.mem_of_getElem? (i := 36) rfl))) (mvT hZ (hw _ (List.mem_of_getElem? (i := 37) rfl))) (notFace_of_selects (args := #[]) (mvT hZ (hw _ (List.mem_of_getElem? (i := 39) rfl)))) (mvT hZ (hw _ (List.mem_of_getElem? (i := 39) rfl))) (mvT hZ (hw _ (List.mem_of_getElem? (i := 38) rfl))) (by decide) (backOf (W := 0) (rmV l Z a0 hw [] b32 (0 : Int32) va_33 k_va_33 (((([(0 : Int32), (1 : Int32), (2 : Int32), (0 : Int32), (0 : Int32), (0 : Int32)]).set 3 (own_get ([(0 : Int32), (1 : Int32), (2 : Int32), (0 : Int32), (0 : Int32), (0 : Int32)]) ja)).set 4 (own_get (([(0 : Int32), (1 : Int32), (2 : Int32), (0 : Int32), (0 : Int32), (0 : Int32)]).set 3 (own_get ([(0 : Int32), (1 : Int32), (2 : Int32), (0 : Int32), (0 : Int32), (0 : Int32)]) ja)) jb)).set 5 (own_get ((([(0 : Int32), (1 : Int32), (2 : Int32), (0 : Int32), (0 : Int32), (0 : Int32)]).set 3 (own_get ([(0 : Int32), (1 : Int32), (2 : Int32), (0 : Int32), (0 : Int32), (0 : Int32)]) ja)).set 4 (own_get (([(0 : Int32), (1 : Int32), (2 : Int32), (0 : Int32), (0 : Int32), (0 : Int32)]).set 3 (own_get ([(0 : Int32), (1 : Int32), (2 : Int32), (0 : Int32), (0 : Int32), (0 : Int32)]) ja)) jb)) jd)) T36.heap n0 Zs36 q36_0 q36_3 q36_5 ⟨by decide, by decide⟩) hZ (hw _ (List.mem_of_getElem? (i := 40) rfl)) (hw _ (List.mem_of_getElem? (i := 4) rfl)) (by decide) (by decide)) q37a q37c (g := (mkF m 169 #[.val (.int xc), .val (.int xp), .val (.int xf), .val (.int xg), .val (.int xh), .val (.int cnt), .val (.ref b3), .val (.int ja), .val (.int jb), .val (.int jd), .val (.ref b16), .val (.ref b32)] [(.int (0 : Int32)), (.ref b32)])) rfl (by rw [hml]; rfl) (Steps.refl _) (argsL := [(.int (0 : Int32))]) (rest := []) (lenOf own_pd2 rfl) rfl (by show 2 * 0 + _ ≤ _; exact Nat.le_of_eq rfl) (hb hby at_169) (fun _ _ => ⟨rfl, rfl, (by decide : 8 + 0 ≤ _), (by decide : 45 + 0 ≤ _)⟩)
  dsimp only [Pt.U, Pt.locs, Pt.cells, Pt.slots] at X37 l37 y37 z37 st37 hQ37
  subst l37 y37 z37
  obtain ⟨rfl, Nq37, e37⟩ := hQ37
  have N37 := Fr.app N36 Nq37
  obtain ⟨cl38, Ar38, q38, S38, M38, Hs38, G38⟩ := (((((V31.ext E32).keep Kc33 (ninS ne_b16_b32 nin0)).keep Kc34 (ninS ne_b16_b32 (ninS ne_b16_na_33 (ninS ne_b16_va_33 nin0)))).keep Kc35 (ninS ne_b16_b32 (ninS ne_b16_na_33 (ninS ne_b16_va_33 nin0)))).keep Kc36 (ninS ne_b16_b32 (ninS ne_b16_na_33 (ninS ne_b16_va_33 nin0))))
  have hin38 : ¬ ((0 : Int32) < 0 ∨ cl38.slots.size ≤ ((0 : Int32)).toNatClampNeg) := inb_of S38 ⟨by decide, by decide⟩
  have hat38 : cl38.slots[((0 : Int32)).toNatClampNeg]? = some (.int (0 : Int32)) := Hs38.at hin38 rfl
  obtain ⟨cq39, kq39, q39a, q39b, q39c⟩ := isOf hZ e37 q36_0
  obtain ⟨_, _, ⟨T39, L39, k39, n39⟩, -, X39, ⟨Lc39, hQ39, l39, y39, z39⟩, st39⟩ := X37.virtualBack hx (y := (⟨"com/example/covey/covey/divisive/SplitLog", "vertexOf", "(I)I"⟩ : MethodName)) (z := (⟨"com/example/covey/covey/divisive/SplitLog", "vertexOf", "(I)I"⟩ : MethodName)) hown (mvT hZ (hw _ (List.mem_of_getElem? (i := 36) rfl))) (mvT hZ (hw _ (List.mem_of_getElem? (i := 37) rfl))) (notFace_of_selects (args := #[]) (mvT hZ (hw _ (List.mem_of_getElem? (i := 39) rfl)))) (mvT hZ (hw _ (List.mem_of_getElem? (i := 39) rfl))) (mvT hZ (hw _ (List.mem_of_getElem? (i := 38) rfl))) (by decide) (backOf (W := 0) (rmV l Z a0 hw [] b32 (1 : Int32) va_33 k_va_33 (((([(0 : Int32), (1 : Int32), (2 : Int32), (0 : Int32), (0 : Int32), (0 : Int32)]).set 3 (own_get ([(0 : Int32), (1 : Int32), (2 : Int32), (0 : Int32), (0 : Int32), (0 : Int32)]) ja)).set 4 (own_get (([(0 : Int32), (1 : Int32), (2 : Int32), (0 : Int32), (0 : Int32), (0 : Int32)]).set 3 (own_get ([(0 : Int32), (1 : Int32), (2 : Int32), (0 : Int32), (0 : Int32), (0 : Int32)]) ja)) jb)).set 5 (own_get ((([(0 : Int32), (1 : Int32), (2 : Int32), (0 : Int32), (0 : Int32), (0 : Int32)]).set 3 (own_get ([(0 : Int32), (1 : Int32), (2 : Int32), (0 : Int32), (0 : Int32), (0 : Int32)]) ja)).set 4 (own_get (([(0 : Int32), (1 : Int32), (2 : Int32), (0 : Int32), (0 : Int32), (0 : Int32)]).set 3 (own_get ([(0 : Int32), (1 : Int32), (2 : Int32), (0 : Int32), (0 : Int32), (0 : Int32)]) ja)) jb)) jd)) T36.heap n0 Zs36 q36_0 q36_3 q36_5 ⟨by decide, by decide⟩) hZ (hw _ (List.mem_of_getElem? (i := 40) rfl)) (hw _ (List.mem_of_getElem? (i := 4) rfl)) (by decide) (by decide)) q39a q39c (g := (mkF m 182 #[.val (.int xc), .val (.int xp), .val (.int xf), .val (.int xg), .val (.int xh), .val (.int cnt), .val (.ref b3), .val (.int ja), .val (.int jb), .val (.int jd), .val (.ref b16), .val (.ref b32)] [(.int (1 : Int32)), (.ref b32)])) rfl (by rw [hml]; rfl) (Steps.refl _) (argsL := [(.int (1 : Int32))]) (rest := []) (lenOf own_pd2 rfl) rfl (by show 2 * 0 + _ ≤ _; exact Nat.le_of_eq rfl) (hb hby at_182) (fun _ _ => ⟨rfl, e37, (by decide : 8 + 0 ≤ _), (by decide : 45 + 0 ≤ _)⟩)
  dsimp only [Pt.U, Pt.locs, Pt.cells, Pt.slots] at X39 l39 y39 z39 st39 hQ39
  subst l39 y39 z39
  obtain ⟨rfl, Nq39, e39⟩ := hQ39
  have N39 := Fr.app N37 Nq39
  obtain ⟨cl40, Ar40, q40, S40, M40, Hs40, G40⟩ := (((((V31.ext E32).keep Kc33 (ninS ne_b16_b32 nin0)).keep Kc34 (ninS ne_b16_b32 (ninS ne_b16_na_33 (ninS ne_b16_va_33 nin0)))).keep Kc35 (ninS ne_b16_b32 (ninS ne_b16_na_33 (ninS ne_b16_va_33 nin0)))).keep Kc36 (ninS ne_b16_b32 (ninS ne_b16_na_33 (ninS ne_b16_va_33 nin0))))
  have hin40 : ¬ ((1 : Int32) < 0 ∨ cl40.slots.size ≤ ((1 : Int32)).toNatClampNeg) := inb_of S40 ⟨by decide, by decide⟩
  have hat40 : cl40.slots[((1 : Int32)).toNatClampNeg]? = some (.int (1 : Int32)) := Hs40.at hin40 rfl
  obtain ⟨cq41, kq41, q41a, q41b, q41c⟩ := isOf hZ e39 q36_0
  obtain ⟨_, _, ⟨T41, L41, k41, n41⟩, -, X41, ⟨Lc41, hQ41, l41, y41, z41⟩, st41⟩ := X39.virtualBack hx (y := (⟨"com/example/covey/covey/divisive/SplitLog", "vertexOf", "(I)I"⟩ : MethodName)) (z := (⟨"com/example/covey/covey/divisive/SplitLog", "vertexOf", "(I)I"⟩ : MethodName)) hown (mvT hZ (hw _ (List.mem_of_getElem? (i := 36) rfl))) (mvT hZ (hw _ (List.mem_of_getElem? (i := 37) rfl))) (notFace_of_selects (args := #[]) (mvT hZ (hw _ (List.mem_of_getElem? (i := 39) rfl)))) (mvT hZ (hw _ (List.mem_of_getElem? (i := 39) rfl))) (mvT hZ (hw _ (List.mem_of_getElem? (i := 38) rfl))) (by decide) (backOf (W := 0) (rmV l Z a0 hw [] b32 (2 : Int32) va_33 k_va_33 (((([(0 : Int32), (1 : Int32), (2 : Int32), (0 : Int32), (0 : Int32), (0 : Int32)]).set 3 (own_get ([(0 : Int32), (1 : Int32), (2 : Int32), (0 : Int32), (0 : Int32), (0 : Int32)]) ja)).set 4 (own_get (([(0 : Int32), (1 : Int32), (2 : Int32), (0 : Int32), (0 : Int32), (0 : Int32)]).set 3 (own_get ([(0 : Int32), (1 : Int32), (2 : Int32), (0 : Int32), (0 : Int32), (0 : Int32)]) ja)) jb)).set 5 (own_get ((([(0 : Int32), (1 : Int32), (2 : Int32), (0 : Int32), (0 : Int32), (0 : Int32)]).set 3 (own_get ([(0 : Int32), (1 : Int32), (2 : Int32), (0 : Int32), (0 : Int32), (0 : Int32)]) ja)).set 4 (own_get (([(0 : Int32), (1 : Int32), (2 : Int32), (0 : Int32), (0 : Int32), (0 : Int32)]).set 3 (own_get ([(0 : Int32), (1 : Int32), (2 : Int32), (0 : Int32), (0 : Int32), (0 : Int32)]) ja)) jb)) jd)) T36.heap n0 Zs36 q36_0 q36_3 q36_5 ⟨by decide, by decide⟩) hZ (hw _ (List.mem_of_getElem? (i := 40) rfl)) (hw _ (List.mem_of_getElem? (i := 4) rfl)) (by decide) (by decide)) q41a q41c (g := (mkF m 195 #[.val (.int xc), .val (.int xp), .val (.int xf), .val (.int xg), .val (.int xh), .val (.int cnt), .val (.ref b3), .val (.int ja), .val (.int jb), .val (.int jd), .val (.ref b16), .val (.ref b32)] [(.int (2 : Int32)), (.ref b32)])) rfl (by rw [hml]; rfl) (Steps.refl _) (argsL := [(.int (2 : Int32))]) (rest := []) (lenOf own_pd2 rfl) rfl (by show 2 * 0 + _ ≤ _; exact Nat.le_of_eq rfl) (hb hby at_195) (fun _ _ => ⟨rfl, e39, (by decide : 8 + 0 ≤ _), (by decide : 45 + 0 ≤ _)⟩)
  dsimp only [Pt.U, Pt.locs, Pt.cells, Pt.slots] at X41 l41 y41 z41 st41 hQ41
  subst l41 y41 z41
  obtain ⟨rfl, Nq41, e41⟩ := hQ41
  have N41 := Fr.app N39 Nq41
  obtain ⟨cl42, Ar42, q42, S42, M42, Hs42, G42⟩ := (((((V31.ext E32).keep Kc33 (ninS ne_b16_b32 nin0)).keep Kc34 (ninS ne_b16_b32 (ninS ne_b16_na_33 (ninS ne_b16_va_33 nin0)))).keep Kc35 (ninS ne_b16_b32 (ninS ne_b16_na_33 (ninS ne_b16_va_33 nin0)))).keep Kc36 (ninS ne_b16_b32 (ninS ne_b16_na_33 (ninS ne_b16_va_33 nin0))))
  have hin42 : ¬ ((2 : Int32) < 0 ∨ cl42.slots.size ≤ ((2 : Int32)).toNatClampNeg) := inb_of S42 ⟨by decide, by decide⟩
  have hat42 : cl42.slots[((2 : Int32)).toNatClampNeg]? = some (.int (2 : Int32)) := Hs42.at hin42 rfl
  obtain ⟨cq43, kq43, q43a, q43b, q43c⟩ := isOf hZ e41 q36_0
  obtain ⟨_, _, ⟨T43, L43, k43, n43⟩, -, X43, ⟨Lc43, hQ43, l43, y43, z43⟩, st43⟩ := X41.virtualBack hx (y := (⟨"com/example/covey/covey/divisive/SplitLog", "vertexOf", "(I)I"⟩ : MethodName)) (z := (⟨"com/example/covey/covey/divisive/SplitLog", "vertexOf", "(I)I"⟩ : MethodName)) hown (mvT hZ (hw _ (List.mem_of_getElem? (i := 36) rfl))) (mvT hZ (hw _ (List.mem_of_getElem? (i := 37) rfl))) (notFace_of_selects (args := #[]) (mvT hZ (hw _ (List.mem_of_getElem? (i := 39) rfl)))) (mvT hZ (hw _ (List.mem_of_getElem? (i := 39) rfl))) (mvT hZ (hw _ (List.mem_of_getElem? (i := 38) rfl))) (by decide) (backOf (W := 0) (rmV l Z a0 hw [] b32 (3 : Int32) va_33 k_va_33 (((([(0 : Int32), (1 : Int32), (2 : Int32), (0 : Int32), (0 : Int32), (0 : Int32)]).set 3 (own_get ([(0 : Int32), (1 : Int32), (2 : Int32), (0 : Int32), (0 : Int32), (0 : Int32)]) ja)).set 4 (own_get (([(0 : Int32), (1 : Int32), (2 : Int32), (0 : Int32), (0 : Int32), (0 : Int32)]).set 3 (own_get ([(0 : Int32), (1 : Int32), (2 : Int32), (0 : Int32), (0 : Int32), (0 : Int32)]) ja)) jb)).set 5 (own_get ((([(0 : Int32), (1 : Int32), (2 : Int32), (0 : Int32), (0 : Int32), (0 : Int32)]).set 3 (own_get ([(0 : Int32), (1 : Int32), (2 : Int32), (0 : Int32), (0 : Int32), (0 : Int32)]) ja)).set 4 (own_get (([(0 : Int32), (1 : Int32), (2 : Int32), (0 : Int32), (0 : Int32), (0 : Int32)]).set 3 (own_get ([(0 : Int32), (1 : Int32), (2 : Int32), (0 : Int32), (0 : Int32), (0 : Int32)]) ja)) jb)) jd)) T36.heap n0 Zs36 q36_0 q36_3 q36_5 ⟨by decide, by decide⟩) hZ (hw _ (List.mem_of_getElem? (i := 40) rfl)) (hw _ (List.mem_of_getElem? (i := 4) rfl)) (by decide) (by decide)) q43a q43c (g := (mkF m 208 #[.val (.int xc), .val (.int xp), .val (.int xf), .val (.int xg), .val (.int xh), .val (.int cnt), .val (.ref b3), .val (.int ja), .val (.int jb), .val (.int jd), .val (.ref b16), .val (.ref b32)] [(.int (3 : Int32)), (.ref b32)])) rfl (by rw [hml]; rfl) (Steps.refl _) (argsL := [(.int (3 : Int32))]) (rest := []) (lenOf own_pd2 rfl) rfl (by show 2 * 0 + _ ≤ _; exact Nat.le_of_eq rfl) (hb hby at_208) (fun _ _ => ⟨rfl, e41, (by decide : 8 + 0 ≤ _), (by decide : 45 + 0 ≤ _)⟩)
  dsimp only [Pt.U, Pt.locs, Pt.cells, Pt.slots] at X43 l43 y43 z43 st43 hQ43
  subst l43 y43 z43
  obtain ⟨rfl, Nq43, e43⟩ := hQ43
  have N43 := Fr.app N41 Nq43
  obtain ⟨cl44, Ar44, q44, S44, M44, Hs44, G44⟩ := (((((V31.ext E32).keep Kc33 (ninS ne_b16_b32 nin0)).keep Kc34 (ninS ne_b16_b32 (ninS ne_b16_na_33 (ninS ne_b16_va_33 nin0)))).keep Kc35 (ninS ne_b16_b32 (ninS ne_b16_na_33 (ninS ne_b16_va_33 nin0)))).keep Kc36 (ninS ne_b16_b32 (ninS ne_b16_na_33 (ninS ne_b16_va_33 nin0))))
  have hin44 : ¬ ((3 : Int32) < 0 ∨ cl44.slots.size ≤ ((3 : Int32)).toNatClampNeg) := inb_of S44 ⟨by decide, by decide⟩
  have hat44 : cl44.slots[((3 : Int32)).toNatClampNeg]? = some (.int (own_get [(0 : Int32), (1 : Int32), (2 : Int32), (0 : Int32), (0 : Int32), (0 : Int32)] ja)) := Hs44.at hin44 rfl
  obtain ⟨cq45, kq45, q45a, q45b, q45c⟩ := isOf hZ e43 q36_0
  obtain ⟨_, _, ⟨T45, L45, k45, n45⟩, -, X45, ⟨Lc45, hQ45, l45, y45, z45⟩, st45⟩ := X43.virtualBack hx (y := (⟨"com/example/covey/covey/divisive/SplitLog", "vertexOf", "(I)I"⟩ : MethodName)) (z := (⟨"com/example/covey/covey/divisive/SplitLog", "vertexOf", "(I)I"⟩ : MethodName)) hown (mvT hZ (hw _ (List.mem_of_getElem? (i := 36) rfl))) (mvT hZ (hw _ (List.mem_of_getElem? (i := 37) rfl))) (notFace_of_selects (args := #[]) (mvT hZ (hw _ (List.mem_of_getElem? (i := 39) rfl)))) (mvT hZ (hw _ (List.mem_of_getElem? (i := 39) rfl))) (mvT hZ (hw _ (List.mem_of_getElem? (i := 38) rfl))) (by decide) (backOf (W := 0) (rmV l Z a0 hw [] b32 (4 : Int32) va_33 k_va_33 (((([(0 : Int32), (1 : Int32), (2 : Int32), (0 : Int32), (0 : Int32), (0 : Int32)]).set 3 (own_get ([(0 : Int32), (1 : Int32), (2 : Int32), (0 : Int32), (0 : Int32), (0 : Int32)]) ja)).set 4 (own_get (([(0 : Int32), (1 : Int32), (2 : Int32), (0 : Int32), (0 : Int32), (0 : Int32)]).set 3 (own_get ([(0 : Int32), (1 : Int32), (2 : Int32), (0 : Int32), (0 : Int32), (0 : Int32)]) ja)) jb)).set 5 (own_get ((([(0 : Int32), (1 : Int32), (2 : Int32), (0 : Int32), (0 : Int32), (0 : Int32)]).set 3 (own_get ([(0 : Int32), (1 : Int32), (2 : Int32), (0 : Int32), (0 : Int32), (0 : Int32)]) ja)).set 4 (own_get (([(0 : Int32), (1 : Int32), (2 : Int32), (0 : Int32), (0 : Int32), (0 : Int32)]).set 3 (own_get ([(0 : Int32), (1 : Int32), (2 : Int32), (0 : Int32), (0 : Int32), (0 : Int32)]) ja)) jb)) jd)) T36.heap n0 Zs36 q36_0 q36_3 q36_5 ⟨by decide, by decide⟩) hZ (hw _ (List.mem_of_getElem? (i := 40) rfl)) (hw _ (List.mem_of_getElem? (i := 4) rfl)) (by decide) (by decide)) q45a q45c (g := (mkF m 221 #[.val (.int xc), .val (.int xp), .val (.int xf), .val (.int xg), .val (.int xh), .val (.int cnt), .val (.ref b3), .val (.int ja), .val (.int jb), .val (.int jd), .val (.ref b16), .val (.ref b32)] [(.int (4 : Int32)), (.ref b32)])) rfl (by rw [hml]; rfl) (Steps.refl _) (argsL := [(.int (4 : Int32))]) (rest := []) (lenOf own_pd2 rfl) rfl (by show 2 * 0 + _ ≤ _; exact Nat.le_of_eq rfl) (hb hby at_221) (fun _ _ => ⟨rfl, e43, (by decide : 8 + 0 ≤ _), (by decide : 45 + 0 ≤ _)⟩)
  dsimp only [Pt.U, Pt.locs, Pt.cells, Pt.slots] at X45 l45 y45 z45 st45 hQ45
  subst l45 y45 z45
  obtain ⟨rfl, Nq45, e45⟩ := hQ45
  have N45 := Fr.app N43 Nq45
  obtain ⟨cl46, Ar46, q46, S46, M46, Hs46, G46⟩ := (((((V31.ext E32).keep Kc33 (ninS ne_b16_b32 nin0)).keep Kc34 (ninS ne_b16_b32 (ninS ne_b16_na_33 (ninS ne_b16_va_33 nin0)))).keep Kc35 (ninS ne_b16_b32 (ninS ne_b16_na_33 (ninS ne_b16_va_33 nin0)))).keep Kc36 (ninS ne_b16_b32 (ninS ne_b16_na_33 (ninS ne_b16_va_33 nin0))))
  have hin46 : ¬ ((4 : Int32) < 0 ∨ cl46.slots.size ≤ ((4 : Int32)).toNatClampNeg) := inb_of S46 ⟨by decide, by decide⟩
  have hat46 : cl46.slots[((4 : Int32)).toNatClampNeg]? = some (.int (own_get [(0 : Int32), (1 : Int32), (2 : Int32), (own_get [(0 : Int32), (1 : Int32), (2 : Int32), (0 : Int32), (0 : Int32), (0 : Int32)] ja), (0 : Int32), (0 : Int32)] jb)) := Hs46.at hin46 rfl
  obtain ⟨cq47, kq47, q47a, q47b, q47c⟩ := isOf hZ e45 q36_0
  obtain ⟨_, _, ⟨T47, L47, k47, n47⟩, -, X47, ⟨Lc47, hQ47, l47, y47, z47⟩, st47⟩ := X45.virtualBack hx (y := (⟨"com/example/covey/covey/divisive/SplitLog", "vertexOf", "(I)I"⟩ : MethodName)) (z := (⟨"com/example/covey/covey/divisive/SplitLog", "vertexOf", "(I)I"⟩ : MethodName)) hown (mvT hZ (hw _ (List.mem_of_getElem? (i := 36) rfl))) (mvT hZ (hw _ (List.mem_of_getElem? (i := 37) rfl))) (notFace_of_selects (args := #[]) (mvT hZ (hw _ (List.mem_of_getElem? (i := 39) rfl)))) (mvT hZ (hw _ (List.mem_of_getElem? (i := 39) rfl))) (mvT hZ (hw _ (List.mem_of_getElem? (i := 38) rfl))) (by decide) (backOf (W := 0) (rmV l Z a0 hw [] b32 (5 : Int32) va_33 k_va_33 (((([(0 : Int32), (1 : Int32), (2 : Int32), (0 : Int32), (0 : Int32), (0 : Int32)]).set 3 (own_get ([(0 : Int32), (1 : Int32), (2 : Int32), (0 : Int32), (0 : Int32), (0 : Int32)]) ja)).set 4 (own_get (([(0 : Int32), (1 : Int32), (2 : Int32), (0 : Int32), (0 : Int32), (0 : Int32)]).set 3 (own_get ([(0 : Int32), (1 : Int32), (2 : Int32), (0 : Int32), (0 : Int32), (0 : Int32)]) ja)) jb)).set 5 (own_get ((([(0 : Int32), (1 : Int32), (2 : Int32), (0 : Int32), (0 : Int32), (0 : Int32)]).set 3 (own_get ([(0 : Int32), (1 : Int32), (2 : Int32), (0 : Int32), (0 : Int32), (0 : Int32)]) ja)).set 4 (own_get (([(0 : Int32), (1 : Int32), (2 : Int32), (0 : Int32), (0 : Int32), (0 : Int32)]).set 3 (own_get ([(0 : Int32), (1 : Int32), (2 : Int32), (0 : Int32), (0 : Int32), (0 : Int32)]) ja)) jb)) jd)) T36.heap n0 Zs36 q36_0 q36_3 q36_5 ⟨by decide, by decide⟩) hZ (hw _ (List.mem_of_getElem? (i := 40) rfl)) (hw _ (List.mem_of_getElem? (i := 4) rfl)) (by decide) (by decide)) q47a q47c (g := (mkF m 234 #[.val (.int xc), .val (.int xp), .val (.int xf), .val (.int xg), .val (.int xh), .val (.int cnt), .val (.ref b3), .val (.int ja), .val (.int jb), .val (.int jd), .val (.ref b16), .val (.ref b32)] [(.int (5 : Int32)), (.ref b32)])) rfl (by rw [hml]; rfl) (Steps.refl _) (argsL := [(.int (5 : Int32))]) (rest := []) (lenOf own_pd2 rfl) rfl (by show 2 * 0 + _ ≤ _; exact Nat.le_of_eq rfl) (hb hby at_234) (fun _ _ => ⟨rfl, e45, (by decide : 8 + 0 ≤ _), (by decide : 45 + 0 ≤ _)⟩)
  dsimp only [Pt.U, Pt.locs, Pt.cells, Pt.slots] at X47 l47 y47 z47 st47 hQ47
  subst l47 y47 z47
  obtain ⟨rfl, Nq47, e47⟩ := hQ47
  have N47 := Fr.app N45 Nq47
  obtain ⟨cl48, Ar48, q48, S48, M48, Hs48, G48⟩ := (((((V31.ext E32).keep Kc33 (ninS ne_b16_b32 nin0)).keep Kc34 (ninS ne_b16_b32 (ninS ne_b16_na_33 (ninS ne_b16_va_33 nin0)))).keep Kc35 (ninS ne_b16_b32 (ninS ne_b16_na_33 (ninS ne_b16_va_33 nin0)))).keep Kc36 (ninS ne_b16_b32 (ninS ne_b16_na_33 (ninS ne_b16_va_33 nin0))))
  have hin48 : ¬ ((5 : Int32) < 0 ∨ cl48.slots.size ≤ ((5 : Int32)).toNatClampNeg) := inb_of S48 ⟨by decide, by decide⟩
  have hat48 : cl48.slots[((5 : Int32)).toNatClampNeg]? = some (.int (own_get [(0 : Int32), (1 : Int32), (2 : Int32), (own_get [(0 : Int32), (1 : Int32), (2 : Int32), (0 : Int32), (0 : Int32), (0 : Int32)] ja), (own_get [(0 : Int32), (1 : Int32), (2 : Int32), (own_get [(0 : Int32), (1 : Int32), (2 : Int32), (0 : Int32), (0 : Int32), (0 : Int32)] ja), (0 : Int32), (0 : Int32)] jb), (0 : Int32)] jd)) := Hs48.at hin48 rfl
  obtain ⟨fs, hr, hrun, hended, hW, hsame⟩ := X47.leave (v := some (.int (1 : Int32))) (fun h => by rw [Bd.returns] at h; cases h)
  refine ⟨_, _, (pre0 _ (r1 _ (r2 _ (r10 _ (r11 _ (r12 _ (r13 _ (r14 _ (r15 _ ?_))))))))), hrun, hended, _, _, rfl, ?_, ⟨_, rfl⟩, hW, hsame.mono (by decide) (by decide)⟩
  · show Steps p.tables e below (T9.setTop (mkF m 82 #[.val (.int xc), .val (.int xp), .val (.int xf), .val (.int xg), .val (.int xh), .val (.int cnt), .val (.ref b3), .val (.int ja), .val (.int jb), .val (.int jd), .unset, .unset] [])) _
    refine XS.bipush X9.here hx rfl (hb hby at_82) ?_
    show Steps p.tables e below (T9.setTop (mkF m 84 #[.val (.int xc), .val (.int xp), .val (.int xf), .val (.int xg), .val (.int xh), .val (.int cnt), .val (.ref b3), .val (.int ja), .val (.int jb), .val (.int jd), .unset, .unset] [(.int (6 : Int32))])) _
    refine st16 _ ?_
    show Steps p.tables e below (T16.setTop (mkF m 86 #[.val (.int xc), .val (.int xp), .val (.int xf), .val (.int xg), .val (.int xh), .val (.int cnt), .val (.ref b3), .val (.int ja), .val (.int jb), .val (.int jd), .unset, .unset] [(.ref b16)])) _
    refine XS.astore X16.here hx rfl (hb hby at_86) rfl rfl (l' := #[.val (.int xc), .val (.int xp), .val (.int xf), .val (.int xg), .val (.int xh), .val (.int cnt), .val (.ref b3), .val (.int ja), .val (.int jb), .val (.int jd), .val (.ref b16), .unset]) rfl ?_
    show Steps p.tables e below (T16.setTop (mkF m 88 #[.val (.int xc), .val (.int xp), .val (.int xf), .val (.int xg), .val (.int xh), .val (.int cnt), .val (.ref b3), .val (.int ja), .val (.int jb), .val (.int jd), .val (.ref b16), .unset] [])) _
    refine XS.aload X16.here hx rfl (hb hby at_88) rfl rfl ?_
    show Steps p.tables e below (T16.setTop (mkF m 90 #[.val (.int xc), .val (.int xp), .val (.int xf), .val (.int xg), .val (.int xh), .val (.int cnt), .val (.ref b3), .val (.int ja), .val (.int jb), .val (.int jd), .val (.ref b16), .unset] [(.ref b16)])) _
    refine XS.iconst X16.here hx rfl (hb hby at_90) ?_
    show Steps p.tables e below (T16.setTop (mkF m 91 #[.val (.int xc), .val (.int xp), .val (.int xf), .val (.int xg), .val (.int xh), .val (.int cnt), .val (.ref b3), .val (.int ja), .val (.int jb), .val (.int jd), .val (.ref b16), .unset] [(.int (0 : Int32)), (.ref b16)])) _
    refine XS.iconst X16.here hx rfl (hb hby at_91) ?_
    show Steps p.tables e below (T16.setTop (mkF m 92 #[.val (.int xc), .val (.int xp), .val (.int xf), .val (.int xg), .val (.int xh), .val (.int cnt), .val (.ref b3), .val (.int ja), .val (.int jb), .val (.int jd), .val (.ref b16), .unset] [(.int (0 : Int32)), (.int (0 : Int32)), (.ref b16)])) _
    refine st18 _ ?_
    show Steps p.tables e below (T18.setTop (mkF m 93 #[.val (.int xc), .val (.int xp), .val (.int xf), .val (.int xg), .val (.int xh), .val (.int cnt), .val (.ref b3), .val (.int ja), .val (.int jb), .val (.int jd), .val (.ref b16), .unset] [])) _
    refine XS.aload X18.here hx rfl (hb hby at_93) rfl rfl ?_
    show Steps p.tables e below (T18.setTop (mkF m 95 #[.val (.int xc), .val (.int xp), .val (.int xf), .val (.int xg), .val (.int xh), .val (.int cnt), .val (.ref b3), .val (.int ja), .val (.int jb), .val (.int jd), .val (.ref b16), .unset] [(.ref b16)])) _
    refine XS.iconst X18.here hx rfl (hb hby at_95) ?_
    show Steps p.tables e below (T18.setTop (mkF m 96 #[.val (.int xc), .val (.int xp), .val (.int xf), .val (.int xg), .val (.int xh), .val (.int cnt), .val (.ref b3), .val (.int ja), .val (.int jb), .val (.int jd), .val (.ref b16), .unset] [(.int (1 : Int32)), (.ref b16)])) _
    refine XS.iconst X18.here hx rfl (hb hby at_96) ?_
    show Steps p.tables e below (T18.setTop (mkF m 97 #[.val (.int xc), .val (.int xp), .val (.int xf), .val (.int xg), .val (.int xh), .val (.int cnt), .val (.ref b3), .val (.int ja), .val (.int jb), .val (.int jd), .val (.ref b16), .unset] [(.int (1 : Int32)), (.int (1 : Int32)), (.ref b16)])) _
    refine st20 _ ?_
    show Steps p.tables e below (T20.setTop (mkF m 98 #[.val (.int xc), .val (.int xp), .val (.int xf), .val (.int xg), .val (.int xh), .val (.int cnt), .val (.ref b3), .val (.int ja), .val (.int jb), .val (.int jd), .val (.ref b16), .unset] [])) _
    refine XS.aload X20.here hx rfl (hb hby at_98) rfl rfl ?_
    show Steps p.tables e below (T20.setTop (mkF m 100 #[.val (.int xc), .val (.int xp), .val (.int xf), .val (.int xg), .val (.int xh), .val (.int cnt), .val (.ref b3), .val (.int ja), .val (.int jb), .val (.int jd), .val (.ref b16), .unset] [(.ref b16)])) _
    refine XS.iconst X20.here hx rfl (hb hby at_100) ?_
    show Steps p.tables e below (T20.setTop (mkF m 101 #[.val (.int xc), .val (.int xp), .val (.int xf), .val (.int xg), .val (.int xh), .val (.int cnt), .val (.ref b3), .val (.int ja), .val (.int jb), .val (.int jd), .val (.ref b16), .unset] [(.int (2 : Int32)), (.ref b16)])) _
    refine XS.iconst X20.here hx rfl (hb hby at_101) ?_
    show Steps p.tables e below (T20.setTop (mkF m 102 #[.val (.int xc), .val (.int xp), .val (.int xf), .val (.int xg), .val (.int xh), .val (.int cnt), .val (.ref b3), .val (.int ja), .val (.int jb), .val (.int jd), .val (.ref b16), .unset] [(.int (2 : Int32)), (.int (2 : Int32)), (.ref b16)])) _
    refine st22 _ ?_
    show Steps p.tables e below (T22.setTop (mkF m 103 #[.val (.int xc), .val (.int xp), .val (.int xf), .val (.int xg), .val (.int xh), .val (.int cnt), .val (.ref b3), .val (.int ja), .val (.int jb), .val (.int jd), .val (.ref b16), .unset] [])) _
    refine XS.aload X22.here hx rfl (hb hby at_103) rfl rfl ?_
    show Steps p.tables e below (T22.setTop (mkF m 105 #[.val (.int xc), .val (.int xp), .val (.int xf), .val (.int xg), .val (.int xh), .val (.int cnt), .val (.ref b3), .val (.int ja), .val (.int jb), .val (.int jd), .val (.ref b16), .unset] [(.ref b16)])) _
    refine XS.iconst X22.here hx rfl (hb hby at_105) ?_
    show Steps p.tables e below (T22.setTop (mkF m 106 #[.val (.int xc), .val (.int xp), .val (.int xf), .val (.int xg), .val (.int xh), .val (.int cnt), .val (.ref b3), .val (.int ja), .val (.int jb), .val (.int jd), .val (.ref b16), .unset] [(.int (3 : Int32)), (.ref b16)])) _
    refine XS.aload X22.here hx rfl (hb hby at_106) rfl rfl ?_
    show Steps p.tables e below (T22.setTop (mkF m 108 #[.val (.int xc), .val (.int xp), .val (.int xf), .val (.int xg), .val (.int xh), .val (.int cnt), .val (.ref b3), .val (.int ja), .val (.int jb), .val (.int jd), .val (.ref b16), .unset] [(.ref b16), (.int (3 : Int32)), (.ref b16)])) _
    refine XS.iload X22.here hx rfl (hb hby at_108) rfl ?_
    show Steps p.tables e below (T22.setTop (mkF m 110 #[.val (.int xc), .val (.int xp), .val (.int xf), .val (.int xg), .val (.int xh), .val (.int cnt), .val (.ref b3), .val (.int ja), .val (.int jb), .val (.int jd), .val (.ref b16), .unset] [(.int ja), (.ref b16), (.int (3 : Int32)), (.ref b16)])) _
    refine X22.iaload hx (j := ja) (v := (.int (own_get [(0 : Int32), (1 : Int32), (2 : Int32), (0 : Int32), (0 : Int32), (0 : Int32)] ja))) (by rw [e22]; exact Ar23.1) (State.isArrayOf_alike hZ.alike Ar23.2.1) Ar23.2.2 hin23 hat23 (g := (mkF m 110 #[.val (.int xc), .val (.int xp), .val (.int xf), .val (.int xg), .val (.int xh), .val (.int cnt), .val (.ref b3), .val (.int ja), .val (.int jb), .val (.int jd), .val (.ref b16), .unset] [(.int ja), (.ref b16), (.int (3 : Int32)), (.ref b16)])) rfl rfl (hb hby at_110) _ ?_
    show Steps p.tables e below (T22.setTop (mkF m 111 #[.val (.int xc), .val (.int xp), .val (.int xf), .val (.int xg), .val (.int xh), .val (.int cnt), .val (.ref b3), .val (.int ja), .val (.int jb), .val (.int jd), .val (.ref b16), .unset] [(.int (own_get [(0 : Int32), (1 : Int32), (2 : Int32), (0 : Int32), (0 : Int32), (0 : Int32)] ja)), (.int (3 : Int32)), (.ref b16)])) _
    refine st25 _ ?_
    show Steps p.tables e below (T25.setTop (mkF m 112 #[.val (.int xc), .val (.int xp), .val (.int xf), .val (.int xg), .val (.int xh), .val (.int cnt), .val (.ref b3), .val (.int ja), .val (.int jb), .val (.int jd), .val (.ref b16), .unset] [])) _
    refine XS.aload X25.here hx rfl (hb hby at_112) rfl rfl ?_
    show Steps p.tables e below (T25.setTop (mkF m 114 #[.val (.int xc), .val (.int xp), .val (.int xf), .val (.int xg), .val (.int xh), .val (.int cnt), .val (.ref b3), .val (.int ja), .val (.int jb), .val (.int jd), .val (.ref b16), .unset] [(.ref b16)])) _
    refine XS.iconst X25.here hx rfl (hb hby at_114) ?_
    show Steps p.tables e below (T25.setTop (mkF m 115 #[.val (.int xc), .val (.int xp), .val (.int xf), .val (.int xg), .val (.int xh), .val (.int cnt), .val (.ref b3), .val (.int ja), .val (.int jb), .val (.int jd), .val (.ref b16), .unset] [(.int (4 : Int32)), (.ref b16)])) _
    refine XS.aload X25.here hx rfl (hb hby at_115) rfl rfl ?_
    show Steps p.tables e below (T25.setTop (mkF m 117 #[.val (.int xc), .val (.int xp), .val (.int xf), .val (.int xg), .val (.int xh), .val (.int cnt), .val (.ref b3), .val (.int ja), .val (.int jb), .val (.int jd), .val (.ref b16), .unset] [(.ref b16), (.int (4 : Int32)), (.ref b16)])) _
    refine XS.iload X25.here hx rfl (hb hby at_117) rfl ?_
    show Steps p.tables e below (T25.setTop (mkF m 119 #[.val (.int xc), .val (.int xp), .val (.int xf), .val (.int xg), .val (.int xh), .val (.int cnt), .val (.ref b3), .val (.int ja), .val (.int jb), .val (.int jd), .val (.ref b16), .unset] [(.int jb), (.ref b16), (.int (4 : Int32)), (.ref b16)])) _
    refine X25.iaload hx (j := jb) (v := (.int (own_get [(0 : Int32), (1 : Int32), (2 : Int32), (own_get [(0 : Int32), (1 : Int32), (2 : Int32), (0 : Int32), (0 : Int32), (0 : Int32)] ja), (0 : Int32), (0 : Int32)] jb))) (by rw [e25]; exact Ar26.1) (State.isArrayOf_alike hZ.alike Ar26.2.1) Ar26.2.2 hin26 hat26 (g := (mkF m 119 #[.val (.int xc), .val (.int xp), .val (.int xf), .val (.int xg), .val (.int xh), .val (.int cnt), .val (.ref b3), .val (.int ja), .val (.int jb), .val (.int jd), .val (.ref b16), .unset] [(.int jb), (.ref b16), (.int (4 : Int32)), (.ref b16)])) rfl rfl (hb hby at_119) _ ?_
    show Steps p.tables e below (T25.setTop (mkF m 120 #[.val (.int xc), .val (.int xp), .val (.int xf), .val (.int xg), .val (.int xh), .val (.int cnt), .val (.ref b3), .val (.int ja), .val (.int jb), .val (.int jd), .val (.ref b16), .unset] [(.int (own_get [(0 : Int32), (1 : Int32), (2 : Int32), (own_get [(0 : Int32), (1 : Int32), (2 : Int32), (0 : Int32), (0 : Int32), (0 : Int32)] ja), (0 : Int32), (0 : Int32)] jb)), (.int (4 : Int32)), (.ref b16)])) _
    refine st28 _ ?_
    show Steps p.tables e below (T28.setTop (mkF m 121 #[.val (.int xc), .val (.int xp), .val (.int xf), .val (.int xg), .val (.int xh), .val (.int cnt), .val (.ref b3), .val (.int ja), .val (.int jb), .val (.int jd), .val (.ref b16), .unset] [])) _
    refine XS.aload X28.here hx rfl (hb hby at_121) rfl rfl ?_
    show Steps p.tables e below (T28.setTop (mkF m 123 #[.val (.int xc), .val (.int xp), .val (.int xf), .val (.int xg), .val (.int xh), .val (.int cnt), .val (.ref b3), .val (.int ja), .val (.int jb), .val (.int jd), .val (.ref b16), .unset] [(.ref b16)])) _
    refine XS.iconst X28.here hx rfl (hb hby at_123) ?_
    show Steps p.tables e below (T28.setTop (mkF m 124 #[.val (.int xc), .val (.int xp), .val (.int xf), .val (.int xg), .val (.int xh), .val (.int cnt), .val (.ref b3), .val (.int ja), .val (.int jb), .val (.int jd), .val (.ref b16), .unset] [(.int (5 : Int32)), (.ref b16)])) _
    refine XS.aload X28.here hx rfl (hb hby at_124) rfl rfl ?_
    show Steps p.tables e below (T28.setTop (mkF m 126 #[.val (.int xc), .val (.int xp), .val (.int xf), .val (.int xg), .val (.int xh), .val (.int cnt), .val (.ref b3), .val (.int ja), .val (.int jb), .val (.int jd), .val (.ref b16), .unset] [(.ref b16), (.int (5 : Int32)), (.ref b16)])) _
    refine XS.iload X28.here hx rfl (hb hby at_126) rfl ?_
    show Steps p.tables e below (T28.setTop (mkF m 128 #[.val (.int xc), .val (.int xp), .val (.int xf), .val (.int xg), .val (.int xh), .val (.int cnt), .val (.ref b3), .val (.int ja), .val (.int jb), .val (.int jd), .val (.ref b16), .unset] [(.int jd), (.ref b16), (.int (5 : Int32)), (.ref b16)])) _
    refine X28.iaload hx (j := jd) (v := (.int (own_get [(0 : Int32), (1 : Int32), (2 : Int32), (own_get [(0 : Int32), (1 : Int32), (2 : Int32), (0 : Int32), (0 : Int32), (0 : Int32)] ja), (own_get [(0 : Int32), (1 : Int32), (2 : Int32), (own_get [(0 : Int32), (1 : Int32), (2 : Int32), (0 : Int32), (0 : Int32), (0 : Int32)] ja), (0 : Int32), (0 : Int32)] jb), (0 : Int32)] jd))) (by rw [e28]; exact Ar29.1) (State.isArrayOf_alike hZ.alike Ar29.2.1) Ar29.2.2 hin29 hat29 (g := (mkF m 128 #[.val (.int xc), .val (.int xp), .val (.int xf), .val (.int xg), .val (.int xh), .val (.int cnt), .val (.ref b3), .val (.int ja), .val (.int jb), .val (.int jd), .val (.ref b16), .unset] [(.int jd), (.ref b16), (.int (5 : Int32)), (.ref b16)])) rfl rfl (hb hby at_128) _ ?_
    show Steps p.tables e below (T28.setTop (mkF m 129 #[.val (.int xc), .val (.int xp), .val (.int xf), .val (.int xg), .val (.int xh), .val (.int cnt), .val (.ref b3), .val (.int ja), .val (.int jb), .val (.int jd), .val (.ref b16), .unset] [(.int (own_get [(0 : Int32), (1 : Int32), (2 : Int32), (own_get [(0 : Int32), (1 : Int32), (2 : Int32), (0 : Int32), (0 : Int32), (0 : Int32)] ja), (own_get [(0 : Int32), (1 : Int32), (2 : Int32), (own_get [(0 : Int32), (1 : Int32), (2 : Int32), (0 : Int32), (0 : Int32), (0 : Int32)] ja), (0 : Int32), (0 : Int32)] jb), (0 : Int32)] jd)), (.int (5 : Int32)), (.ref b16)])) _
    refine st31 _ ?_
    show Steps p.tables e below (T31.setTop (mkF m 130 #[.val (.int xc), .val (.int xp), .val (.int xf), .val (.int xg), .val (.int xh), .val (.int cnt), .val (.ref b3), .val (.int ja), .val (.int jb), .val (.int jd), .val (.ref b16), .unset] [])) _
    refine st32 _ ?_
    show Steps p.tables e below (T32.setTop (mkF m 133 #[.val (.int xc), .val (.int xp), .val (.int xf), .val (.int xg), .val (.int xh), .val (.int cnt), .val (.ref b3), .val (.int ja), .val (.int jb), .val (.int jd), .val (.ref b16), .unset] [(.ref b32)])) _
    refine XS.dup X32.here hx rfl (hb hby at_133) rfl rfl ?_
    show Steps p.tables e below (T32.setTop (mkF m 134 #[.val (.int xc), .val (.int xp), .val (.int xf), .val (.int xg), .val (.int xh), .val (.int cnt), .val (.ref b3), .val (.int ja), .val (.int jb), .val (.int jd), .val (.ref b16), .unset] [(.ref b32), (.ref b32)])) _
    refine XS.aload X32.here hx rfl (hb hby at_134) rfl rfl ?_
    show Steps p.tables e below (T32.setTop (mkF m 136 #[.val (.int xc), .val (.int xp), .val (.int xf), .val (.int xg), .val (.int xh), .val (.int cnt), .val (.ref b3), .val (.int ja), .val (.int jb), .val (.int jd), .val (.ref b16), .unset] [(.ref b3), (.ref b32), (.ref b32)])) _
    refine XS.iload X32.here hx rfl (hb hby at_136) rfl ?_
    show Steps p.tables e below (T32.setTop (mkF m 138 #[.val (.int xc), .val (.int xp), .val (.int xf), .val (.int xg), .val (.int xh), .val (.int cnt), .val (.ref b3), .val (.int ja), .val (.int jb), .val (.int jd), .val (.ref b16), .unset] [(.int cnt), (.ref b3), (.ref b32), (.ref b32)])) _
    refine XS.bipush X32.here hx rfl (hb hby at_138) ?_
    show Steps p.tables e below (T32.setTop (mkF m 140 #[.val (.int xc), .val (.int xp), .val (.int xf), .val (.int xg), .val (.int xh), .val (.int cnt), .val (.ref b3), .val (.int ja), .val (.int jb), .val (.int jd), .val (.ref b16), .unset] [(.int (6 : Int32)), (.int cnt), (.ref b3), (.ref b32), (.ref b32)])) _
    refine st33.trans ?_
    show Steps p.tables e below (T33.setTop (mkF m 143 #[.val (.int xc), .val (.int xp), .val (.int xf), .val (.int xg), .val (.int xh), .val (.int cnt), .val (.ref b3), .val (.int ja), .val (.int jb), .val (.int jd), .val (.ref b16), .unset] [(.ref b32)])) _
    refine XS.astore X33.here hx rfl (hb hby at_143) rfl rfl (l' := #[.val (.int xc), .val (.int xp), .val (.int xf), .val (.int xg), .val (.int xh), .val (.int cnt), .val (.ref b3), .val (.int ja), .val (.int jb), .val (.int jd), .val (.ref b16), .val (.ref b32)]) rfl ?_
    show Steps p.tables e below (T33.setTop (mkF m 145 #[.val (.int xc), .val (.int xp), .val (.int xf), .val (.int xg), .val (.int xh), .val (.int cnt), .val (.ref b3), .val (.int ja), .val (.int jb), .val (.int jd), .val (.ref b16), .val (.ref b32)] [])) _
    refine XS.aload X33.here hx rfl (hb hby at_145) rfl rfl ?_
    show Steps p.tables e below (T33.setTop (mkF m 147 #[.val (.int xc), .val (.int xp), .val (.int xf), .val (.int xg), .val (.int xh), .val (.int cnt), .val (.ref b3), .val (.int ja), .val (.int jb), .val (.int jd), .val (.ref b16), .val (.ref b32)] [(.ref b32)])) _
    refine XS.iload X33.here hx rfl (hb hby at_147) rfl ?_
    show Steps p.tables e below (T33.setTop (mkF m 149 #[.val (.int xc), .val (.int xp), .val (.int xf), .val (.int xg), .val (.int xh), .val (.int cnt), .val (.ref b3), .val (.int ja), .val (.int jb), .val (.int jd), .val (.ref b16), .val (.ref b32)] [(.int ja), (.ref b32)])) _
    refine st34.trans ?_
    show Steps p.tables e below (T34.setTop (mkF m 152 #[.val (.int xc), .val (.int xp), .val (.int xf), .val (.int xg), .val (.int xh), .val (.int cnt), .val (.ref b3), .val (.int ja), .val (.int jb), .val (.int jd), .val (.ref b16), .val (.ref b32)] [])) _
    refine XS.aload X34.here hx rfl (hb hby at_152) rfl rfl ?_
    show Steps p.tables e below (T34.setTop (mkF m 154 #[.val (.int xc), .val (.int xp), .val (.int xf), .val (.int xg), .val (.int xh), .val (.int cnt), .val (.ref b3), .val (.int ja), .val (.int jb), .val (.int jd), .val (.ref b16), .val (.ref b32)] [(.ref b32)])) _
    refine XS.iload X34.here hx rfl (hb hby at_154) rfl ?_
    show Steps p.tables e below (T34.setTop (mkF m 156 #[.val (.int xc), .val (.int xp), .val (.int xf), .val (.int xg), .val (.int xh), .val (.int cnt), .val (.ref b3), .val (.int ja), .val (.int jb), .val (.int jd), .val (.ref b16), .val (.ref b32)] [(.int jb), (.ref b32)])) _
    refine st35.trans ?_
    show Steps p.tables e below (T35.setTop (mkF m 159 #[.val (.int xc), .val (.int xp), .val (.int xf), .val (.int xg), .val (.int xh), .val (.int cnt), .val (.ref b3), .val (.int ja), .val (.int jb), .val (.int jd), .val (.ref b16), .val (.ref b32)] [])) _
    refine XS.aload X35.here hx rfl (hb hby at_159) rfl rfl ?_
    show Steps p.tables e below (T35.setTop (mkF m 161 #[.val (.int xc), .val (.int xp), .val (.int xf), .val (.int xg), .val (.int xh), .val (.int cnt), .val (.ref b3), .val (.int ja), .val (.int jb), .val (.int jd), .val (.ref b16), .val (.ref b32)] [(.ref b32)])) _
    refine XS.iload X35.here hx rfl (hb hby at_161) rfl ?_
    show Steps p.tables e below (T35.setTop (mkF m 163 #[.val (.int xc), .val (.int xp), .val (.int xf), .val (.int xg), .val (.int xh), .val (.int cnt), .val (.ref b3), .val (.int ja), .val (.int jb), .val (.int jd), .val (.ref b16), .val (.ref b32)] [(.int jd), (.ref b32)])) _
    refine st36.trans ?_
    show Steps p.tables e below (T36.setTop (mkF m 166 #[.val (.int xc), .val (.int xp), .val (.int xf), .val (.int xg), .val (.int xh), .val (.int cnt), .val (.ref b3), .val (.int ja), .val (.int jb), .val (.int jd), .val (.ref b16), .val (.ref b32)] [])) _
    refine XS.aload X36.here hx rfl (hb hby at_166) rfl rfl ?_
    show Steps p.tables e below (T36.setTop (mkF m 168 #[.val (.int xc), .val (.int xp), .val (.int xf), .val (.int xg), .val (.int xh), .val (.int cnt), .val (.ref b3), .val (.int ja), .val (.int jb), .val (.int jd), .val (.ref b16), .val (.ref b32)] [(.ref b32)])) _
    refine XS.iconst X36.here hx rfl (hb hby at_168) ?_
    show Steps p.tables e below (T36.setTop (mkF m 169 #[.val (.int xc), .val (.int xp), .val (.int xf), .val (.int xg), .val (.int xh), .val (.int cnt), .val (.ref b3), .val (.int ja), .val (.int jb), .val (.int jd), .val (.ref b16), .val (.ref b32)] [(.int (0 : Int32)), (.ref b32)])) _
    refine st37.trans ?_
    show Steps p.tables e below (T37.setTop (mkF m 172 #[.val (.int xc), .val (.int xp), .val (.int xf), .val (.int xg), .val (.int xh), .val (.int cnt), .val (.ref b3), .val (.int ja), .val (.int jb), .val (.int jd), .val (.ref b16), .val (.ref b32)] [(.int (own_get (((([(0 : Int32), (1 : Int32), (2 : Int32), (0 : Int32), (0 : Int32), (0 : Int32)]).set 3 (own_get ([(0 : Int32), (1 : Int32), (2 : Int32), (0 : Int32), (0 : Int32), (0 : Int32)]) ja)).set 4 (own_get (([(0 : Int32), (1 : Int32), (2 : Int32), (0 : Int32), (0 : Int32), (0 : Int32)]).set 3 (own_get ([(0 : Int32), (1 : Int32), (2 : Int32), (0 : Int32), (0 : Int32), (0 : Int32)]) ja)) jb)).set 5 (own_get ((([(0 : Int32), (1 : Int32), (2 : Int32), (0 : Int32), (0 : Int32), (0 : Int32)]).set 3 (own_get ([(0 : Int32), (1 : Int32), (2 : Int32), (0 : Int32), (0 : Int32), (0 : Int32)]) ja)).set 4 (own_get (([(0 : Int32), (1 : Int32), (2 : Int32), (0 : Int32), (0 : Int32), (0 : Int32)]).set 3 (own_get ([(0 : Int32), (1 : Int32), (2 : Int32), (0 : Int32), (0 : Int32), (0 : Int32)]) ja)) jb)) jd)) (0 : Int32)))])) _
    refine XS.aload X37.here hx rfl (hb hby at_172) rfl rfl ?_
    show Steps p.tables e below (T37.setTop (mkF m 174 #[.val (.int xc), .val (.int xp), .val (.int xf), .val (.int xg), .val (.int xh), .val (.int cnt), .val (.ref b3), .val (.int ja), .val (.int jb), .val (.int jd), .val (.ref b16), .val (.ref b32)] [(.ref b16), (.int (own_get (((([(0 : Int32), (1 : Int32), (2 : Int32), (0 : Int32), (0 : Int32), (0 : Int32)]).set 3 (own_get ([(0 : Int32), (1 : Int32), (2 : Int32), (0 : Int32), (0 : Int32), (0 : Int32)]) ja)).set 4 (own_get (([(0 : Int32), (1 : Int32), (2 : Int32), (0 : Int32), (0 : Int32), (0 : Int32)]).set 3 (own_get ([(0 : Int32), (1 : Int32), (2 : Int32), (0 : Int32), (0 : Int32), (0 : Int32)]) ja)) jb)).set 5 (own_get ((([(0 : Int32), (1 : Int32), (2 : Int32), (0 : Int32), (0 : Int32), (0 : Int32)]).set 3 (own_get ([(0 : Int32), (1 : Int32), (2 : Int32), (0 : Int32), (0 : Int32), (0 : Int32)]) ja)).set 4 (own_get (([(0 : Int32), (1 : Int32), (2 : Int32), (0 : Int32), (0 : Int32), (0 : Int32)]).set 3 (own_get ([(0 : Int32), (1 : Int32), (2 : Int32), (0 : Int32), (0 : Int32), (0 : Int32)]) ja)) jb)) jd)) (0 : Int32)))])) _
    refine XS.iconst X37.here hx rfl (hb hby at_174) ?_
    show Steps p.tables e below (T37.setTop (mkF m 175 #[.val (.int xc), .val (.int xp), .val (.int xf), .val (.int xg), .val (.int xh), .val (.int cnt), .val (.ref b3), .val (.int ja), .val (.int jb), .val (.int jd), .val (.ref b16), .val (.ref b32)] [(.int (0 : Int32)), (.ref b16), (.int (own_get (((([(0 : Int32), (1 : Int32), (2 : Int32), (0 : Int32), (0 : Int32), (0 : Int32)]).set 3 (own_get ([(0 : Int32), (1 : Int32), (2 : Int32), (0 : Int32), (0 : Int32), (0 : Int32)]) ja)).set 4 (own_get (([(0 : Int32), (1 : Int32), (2 : Int32), (0 : Int32), (0 : Int32), (0 : Int32)]).set 3 (own_get ([(0 : Int32), (1 : Int32), (2 : Int32), (0 : Int32), (0 : Int32), (0 : Int32)]) ja)) jb)).set 5 (own_get ((([(0 : Int32), (1 : Int32), (2 : Int32), (0 : Int32), (0 : Int32), (0 : Int32)]).set 3 (own_get ([(0 : Int32), (1 : Int32), (2 : Int32), (0 : Int32), (0 : Int32), (0 : Int32)]) ja)).set 4 (own_get (([(0 : Int32), (1 : Int32), (2 : Int32), (0 : Int32), (0 : Int32), (0 : Int32)]).set 3 (own_get ([(0 : Int32), (1 : Int32), (2 : Int32), (0 : Int32), (0 : Int32), (0 : Int32)]) ja)) jb)) jd)) (0 : Int32)))])) _
    refine X37.iaload hx (j := (0 : Int32)) (v := (.int (0 : Int32))) (by rw [e37]; exact Ar38.1) (State.isArrayOf_alike hZ.alike Ar38.2.1) Ar38.2.2 hin38 hat38 (g := (mkF m 175 #[.val (.int xc), .val (.int xp), .val (.int xf), .val (.int xg), .val (.int xh), .val (.int cnt), .val (.ref b3), .val (.int ja), .val (.int jb), .val (.int jd), .val (.ref b16), .val (.ref b32)] [(.int (0 : Int32)), (.ref b16), (.int (own_get (((([(0 : Int32), (1 : Int32), (2 : Int32), (0 : Int32), (0 : Int32), (0 : Int32)]).set 3 (own_get ([(0 : Int32), (1 : Int32), (2 : Int32), (0 : Int32), (0 : Int32), (0 : Int32)]) ja)).set 4 (own_get (([(0 : Int32), (1 : Int32), (2 : Int32), (0 : Int32), (0 : Int32), (0 : Int32)]).set 3 (own_get ([(0 : Int32), (1 : Int32), (2 : Int32), (0 : Int32), (0 : Int32), (0 : Int32)]) ja)) jb)).set 5 (own_get ((([(0 : Int32), (1 : Int32), (2 : Int32), (0 : Int32), (0 : Int32), (0 : Int32)]).set 3 (own_get ([(0 : Int32), (1 : Int32), (2 : Int32), (0 : Int32), (0 : Int32), (0 : Int32)]) ja)).set 4 (own_get (([(0 : Int32), (1 : Int32), (2 : Int32), (0 : Int32), (0 : Int32), (0 : Int32)]).set 3 (own_get ([(0 : Int32), (1 : Int32), (2 : Int32), (0 : Int32), (0 : Int32), (0 : Int32)]) ja)) jb)) jd)) (0 : Int32)))])) rfl rfl (hb hby at_175) _ ?_
    show Steps p.tables e below (T37.setTop (mkF m 176 #[.val (.int xc), .val (.int xp), .val (.int xf), .val (.int xg), .val (.int xh), .val (.int cnt), .val (.ref b3), .val (.int ja), .val (.int jb), .val (.int jd), .val (.ref b16), .val (.ref b32)] [(.int (0 : Int32)), (.int (own_get (((([(0 : Int32), (1 : Int32), (2 : Int32), (0 : Int32), (0 : Int32), (0 : Int32)]).set 3 (own_get ([(0 : Int32), (1 : Int32), (2 : Int32), (0 : Int32), (0 : Int32), (0 : Int32)]) ja)).set 4 (own_get (([(0 : Int32), (1 : Int32), (2 : Int32), (0 : Int32), (0 : Int32), (0 : Int32)]).set 3 (own_get ([(0 : Int32), (1 : Int32), (2 : Int32), (0 : Int32), (0 : Int32), (0 : Int32)]) ja)) jb)).set 5 (own_get ((([(0 : Int32), (1 : Int32), (2 : Int32), (0 : Int32), (0 : Int32), (0 : Int32)]).set 3 (own_get ([(0 : Int32), (1 : Int32), (2 : Int32), (0 : Int32), (0 : Int32), (0 : Int32)]) ja)).set 4 (own_get (([(0 : Int32), (1 : Int32), (2 : Int32), (0 : Int32), (0 : Int32), (0 : Int32)]).set 3 (own_get ([(0 : Int32), (1 : Int32), (2 : Int32), (0 : Int32), (0 : Int32), (0 : Int32)]) ja)) jb)) jd)) (0 : Int32)))])) _
    refine XS.icmpNo X37.here hx rfl (hb hby at_176) rfl (teq (rfl : (own_get (((([(0 : Int32), (1 : Int32), (2 : Int32), (0 : Int32), (0 : Int32), (0 : Int32)]).set 3 (own_get ([(0 : Int32), (1 : Int32), (2 : Int32), (0 : Int32), (0 : Int32), (0 : Int32)]) ja)).set 4 (own_get (([(0 : Int32), (1 : Int32), (2 : Int32), (0 : Int32), (0 : Int32), (0 : Int32)]).set 3 (own_get ([(0 : Int32), (1 : Int32), (2 : Int32), (0 : Int32), (0 : Int32), (0 : Int32)]) ja)) jb)).set 5 (own_get ((([(0 : Int32), (1 : Int32), (2 : Int32), (0 : Int32), (0 : Int32), (0 : Int32)]).set 3 (own_get ([(0 : Int32), (1 : Int32), (2 : Int32), (0 : Int32), (0 : Int32), (0 : Int32)]) ja)).set 4 (own_get (([(0 : Int32), (1 : Int32), (2 : Int32), (0 : Int32), (0 : Int32), (0 : Int32)]).set 3 (own_get ([(0 : Int32), (1 : Int32), (2 : Int32), (0 : Int32), (0 : Int32), (0 : Int32)]) ja)) jb)) jd)) (0 : Int32)) = (0 : Int32))).2 ?_
    show Steps p.tables e below (T37.setTop (mkF m 179 #[.val (.int xc), .val (.int xp), .val (.int xf), .val (.int xg), .val (.int xh), .val (.int cnt), .val (.ref b3), .val (.int ja), .val (.int jb), .val (.int jd), .val (.ref b16), .val (.ref b32)] [])) _
    refine XS.aload X37.here hx rfl (hb hby at_179) rfl rfl ?_
    show Steps p.tables e below (T37.setTop (mkF m 181 #[.val (.int xc), .val (.int xp), .val (.int xf), .val (.int xg), .val (.int xh), .val (.int cnt), .val (.ref b3), .val (.int ja), .val (.int jb), .val (.int jd), .val (.ref b16), .val (.ref b32)] [(.ref b32)])) _
    refine XS.iconst X37.here hx rfl (hb hby at_181) ?_
    show Steps p.tables e below (T37.setTop (mkF m 182 #[.val (.int xc), .val (.int xp), .val (.int xf), .val (.int xg), .val (.int xh), .val (.int cnt), .val (.ref b3), .val (.int ja), .val (.int jb), .val (.int jd), .val (.ref b16), .val (.ref b32)] [(.int (1 : Int32)), (.ref b32)])) _
    refine st39.trans ?_
    show Steps p.tables e below (T39.setTop (mkF m 185 #[.val (.int xc), .val (.int xp), .val (.int xf), .val (.int xg), .val (.int xh), .val (.int cnt), .val (.ref b3), .val (.int ja), .val (.int jb), .val (.int jd), .val (.ref b16), .val (.ref b32)] [(.int (own_get (((([(0 : Int32), (1 : Int32), (2 : Int32), (0 : Int32), (0 : Int32), (0 : Int32)]).set 3 (own_get ([(0 : Int32), (1 : Int32), (2 : Int32), (0 : Int32), (0 : Int32), (0 : Int32)]) ja)).set 4 (own_get (([(0 : Int32), (1 : Int32), (2 : Int32), (0 : Int32), (0 : Int32), (0 : Int32)]).set 3 (own_get ([(0 : Int32), (1 : Int32), (2 : Int32), (0 : Int32), (0 : Int32), (0 : Int32)]) ja)) jb)).set 5 (own_get ((([(0 : Int32), (1 : Int32), (2 : Int32), (0 : Int32), (0 : Int32), (0 : Int32)]).set 3 (own_get ([(0 : Int32), (1 : Int32), (2 : Int32), (0 : Int32), (0 : Int32), (0 : Int32)]) ja)).set 4 (own_get (([(0 : Int32), (1 : Int32), (2 : Int32), (0 : Int32), (0 : Int32), (0 : Int32)]).set 3 (own_get ([(0 : Int32), (1 : Int32), (2 : Int32), (0 : Int32), (0 : Int32), (0 : Int32)]) ja)) jb)) jd)) (1 : Int32)))])) _
    refine XS.aload X39.here hx rfl (hb hby at_185) rfl rfl ?_
    show Steps p.tables e below (T39.setTop (mkF m 187 #[.val (.int xc), .val (.int xp), .val (.int xf), .val (.int xg), .val (.int xh), .val (.int cnt), .val (.ref b3), .val (.int ja), .val (.int jb), .val (.int jd), .val (.ref b16), .val (.ref b32)] [(.ref b16), (.int (own_get (((([(0 : Int32), (1 : Int32), (2 : Int32), (0 : Int32), (0 : Int32), (0 : Int32)]).set 3 (own_get ([(0 : Int32), (1 : Int32), (2 : Int32), (0 : Int32), (0 : Int32), (0 : Int32)]) ja)).set 4 (own_get (([(0 : Int32), (1 : Int32), (2 : Int32), (0 : Int32), (0 : Int32), (0 : Int32)]).set 3 (own_get ([(0 : Int32), (1 : Int32), (2 : Int32), (0 : Int32), (0 : Int32), (0 : Int32)]) ja)) jb)).set 5 (own_get ((([(0 : Int32), (1 : Int32), (2 : Int32), (0 : Int32), (0 : Int32), (0 : Int32)]).set 3 (own_get ([(0 : Int32), (1 : Int32), (2 : Int32), (0 : Int32), (0 : Int32), (0 : Int32)]) ja)).set 4 (own_get (([(0 : Int32), (1 : Int32), (2 : Int32), (0 : Int32), (0 : Int32), (0 : Int32)]).set 3 (own_get ([(0 : Int32), (1 : Int32), (2 : Int32), (0 : Int32), (0 : Int32), (0 : Int32)]) ja)) jb)) jd)) (1 : Int32)))])) _
    refine XS.iconst X39.here hx rfl (hb hby at_187) ?_
    show Steps p.tables e below (T39.setTop (mkF m 188 #[.val (.int xc), .val (.int xp), .val (.int xf), .val (.int xg), .val (.int xh), .val (.int cnt), .val (.ref b3), .val (.int ja), .val (.int jb), .val (.int jd), .val (.ref b16), .val (.ref b32)] [(.int (1 : Int32)), (.ref b16), (.int (own_get (((([(0 : Int32), (1 : Int32), (2 : Int32), (0 : Int32), (0 : Int32), (0 : Int32)]).set 3 (own_get ([(0 : Int32), (1 : Int32), (2 : Int32), (0 : Int32), (0 : Int32), (0 : Int32)]) ja)).set 4 (own_get (([(0 : Int32), (1 : Int32), (2 : Int32), (0 : Int32), (0 : Int32), (0 : Int32)]).set 3 (own_get ([(0 : Int32), (1 : Int32), (2 : Int32), (0 : Int32), (0 : Int32), (0 : Int32)]) ja)) jb)).set 5 (own_get ((([(0 : Int32), (1 : Int32), (2 : Int32), (0 : Int32), (0 : Int32), (0 : Int32)]).set 3 (own_get ([(0 : Int32), (1 : Int32), (2 : Int32), (0 : Int32), (0 : Int32), (0 : Int32)]) ja)).set 4 (own_get (([(0 : Int32), (1 : Int32), (2 : Int32), (0 : Int32), (0 : Int32), (0 : Int32)]).set 3 (own_get ([(0 : Int32), (1 : Int32), (2 : Int32), (0 : Int32), (0 : Int32), (0 : Int32)]) ja)) jb)) jd)) (1 : Int32)))])) _
    refine X39.iaload hx (j := (1 : Int32)) (v := (.int (1 : Int32))) (by rw [e39]; exact Ar40.1) (State.isArrayOf_alike hZ.alike Ar40.2.1) Ar40.2.2 hin40 hat40 (g := (mkF m 188 #[.val (.int xc), .val (.int xp), .val (.int xf), .val (.int xg), .val (.int xh), .val (.int cnt), .val (.ref b3), .val (.int ja), .val (.int jb), .val (.int jd), .val (.ref b16), .val (.ref b32)] [(.int (1 : Int32)), (.ref b16), (.int (own_get (((([(0 : Int32), (1 : Int32), (2 : Int32), (0 : Int32), (0 : Int32), (0 : Int32)]).set 3 (own_get ([(0 : Int32), (1 : Int32), (2 : Int32), (0 : Int32), (0 : Int32), (0 : Int32)]) ja)).set 4 (own_get (([(0 : Int32), (1 : Int32), (2 : Int32), (0 : Int32), (0 : Int32), (0 : Int32)]).set 3 (own_get ([(0 : Int32), (1 : Int32), (2 : Int32), (0 : Int32), (0 : Int32), (0 : Int32)]) ja)) jb)).set 5 (own_get ((([(0 : Int32), (1 : Int32), (2 : Int32), (0 : Int32), (0 : Int32), (0 : Int32)]).set 3 (own_get ([(0 : Int32), (1 : Int32), (2 : Int32), (0 : Int32), (0 : Int32), (0 : Int32)]) ja)).set 4 (own_get (([(0 : Int32), (1 : Int32), (2 : Int32), (0 : Int32), (0 : Int32), (0 : Int32)]).set 3 (own_get ([(0 : Int32), (1 : Int32), (2 : Int32), (0 : Int32), (0 : Int32), (0 : Int32)]) ja)) jb)) jd)) (1 : Int32)))])) rfl rfl (hb hby at_188) _ ?_
    show Steps p.tables e below (T39.setTop (mkF m 189 #[.val (.int xc), .val (.int xp), .val (.int xf), .val (.int xg), .val (.int xh), .val (.int cnt), .val (.ref b3), .val (.int ja), .val (.int jb), .val (.int jd), .val (.ref b16), .val (.ref b32)] [(.int (1 : Int32)), (.int (own_get (((([(0 : Int32), (1 : Int32), (2 : Int32), (0 : Int32), (0 : Int32), (0 : Int32)]).set 3 (own_get ([(0 : Int32), (1 : Int32), (2 : Int32), (0 : Int32), (0 : Int32), (0 : Int32)]) ja)).set 4 (own_get (([(0 : Int32), (1 : Int32), (2 : Int32), (0 : Int32), (0 : Int32), (0 : Int32)]).set 3 (own_get ([(0 : Int32), (1 : Int32), (2 : Int32), (0 : Int32), (0 : Int32), (0 : Int32)]) ja)) jb)).set 5 (own_get ((([(0 : Int32), (1 : Int32), (2 : Int32), (0 : Int32), (0 : Int32), (0 : Int32)]).set 3 (own_get ([(0 : Int32), (1 : Int32), (2 : Int32), (0 : Int32), (0 : Int32), (0 : Int32)]) ja)).set 4 (own_get (([(0 : Int32), (1 : Int32), (2 : Int32), (0 : Int32), (0 : Int32), (0 : Int32)]).set 3 (own_get ([(0 : Int32), (1 : Int32), (2 : Int32), (0 : Int32), (0 : Int32), (0 : Int32)]) ja)) jb)) jd)) (1 : Int32)))])) _
    refine XS.icmpNo X39.here hx rfl (hb hby at_189) rfl (teq (rfl : (own_get (((([(0 : Int32), (1 : Int32), (2 : Int32), (0 : Int32), (0 : Int32), (0 : Int32)]).set 3 (own_get ([(0 : Int32), (1 : Int32), (2 : Int32), (0 : Int32), (0 : Int32), (0 : Int32)]) ja)).set 4 (own_get (([(0 : Int32), (1 : Int32), (2 : Int32), (0 : Int32), (0 : Int32), (0 : Int32)]).set 3 (own_get ([(0 : Int32), (1 : Int32), (2 : Int32), (0 : Int32), (0 : Int32), (0 : Int32)]) ja)) jb)).set 5 (own_get ((([(0 : Int32), (1 : Int32), (2 : Int32), (0 : Int32), (0 : Int32), (0 : Int32)]).set 3 (own_get ([(0 : Int32), (1 : Int32), (2 : Int32), (0 : Int32), (0 : Int32), (0 : Int32)]) ja)).set 4 (own_get (([(0 : Int32), (1 : Int32), (2 : Int32), (0 : Int32), (0 : Int32), (0 : Int32)]).set 3 (own_get ([(0 : Int32), (1 : Int32), (2 : Int32), (0 : Int32), (0 : Int32), (0 : Int32)]) ja)) jb)) jd)) (1 : Int32)) = (1 : Int32))).2 ?_
    show Steps p.tables e below (T39.setTop (mkF m 192 #[.val (.int xc), .val (.int xp), .val (.int xf), .val (.int xg), .val (.int xh), .val (.int cnt), .val (.ref b3), .val (.int ja), .val (.int jb), .val (.int jd), .val (.ref b16), .val (.ref b32)] [])) _
    refine XS.aload X39.here hx rfl (hb hby at_192) rfl rfl ?_
    show Steps p.tables e below (T39.setTop (mkF m 194 #[.val (.int xc), .val (.int xp), .val (.int xf), .val (.int xg), .val (.int xh), .val (.int cnt), .val (.ref b3), .val (.int ja), .val (.int jb), .val (.int jd), .val (.ref b16), .val (.ref b32)] [(.ref b32)])) _
    refine XS.iconst X39.here hx rfl (hb hby at_194) ?_
    show Steps p.tables e below (T39.setTop (mkF m 195 #[.val (.int xc), .val (.int xp), .val (.int xf), .val (.int xg), .val (.int xh), .val (.int cnt), .val (.ref b3), .val (.int ja), .val (.int jb), .val (.int jd), .val (.ref b16), .val (.ref b32)] [(.int (2 : Int32)), (.ref b32)])) _
    refine st41.trans ?_
    show Steps p.tables e below (T41.setTop (mkF m 198 #[.val (.int xc), .val (.int xp), .val (.int xf), .val (.int xg), .val (.int xh), .val (.int cnt), .val (.ref b3), .val (.int ja), .val (.int jb), .val (.int jd), .val (.ref b16), .val (.ref b32)] [(.int (own_get (((([(0 : Int32), (1 : Int32), (2 : Int32), (0 : Int32), (0 : Int32), (0 : Int32)]).set 3 (own_get ([(0 : Int32), (1 : Int32), (2 : Int32), (0 : Int32), (0 : Int32), (0 : Int32)]) ja)).set 4 (own_get (([(0 : Int32), (1 : Int32), (2 : Int32), (0 : Int32), (0 : Int32), (0 : Int32)]).set 3 (own_get ([(0 : Int32), (1 : Int32), (2 : Int32), (0 : Int32), (0 : Int32), (0 : Int32)]) ja)) jb)).set 5 (own_get ((([(0 : Int32), (1 : Int32), (2 : Int32), (0 : Int32), (0 : Int32), (0 : Int32)]).set 3 (own_get ([(0 : Int32), (1 : Int32), (2 : Int32), (0 : Int32), (0 : Int32), (0 : Int32)]) ja)).set 4 (own_get (([(0 : Int32), (1 : Int32), (2 : Int32), (0 : Int32), (0 : Int32), (0 : Int32)]).set 3 (own_get ([(0 : Int32), (1 : Int32), (2 : Int32), (0 : Int32), (0 : Int32), (0 : Int32)]) ja)) jb)) jd)) (2 : Int32)))])) _
    refine XS.aload X41.here hx rfl (hb hby at_198) rfl rfl ?_
    show Steps p.tables e below (T41.setTop (mkF m 200 #[.val (.int xc), .val (.int xp), .val (.int xf), .val (.int xg), .val (.int xh), .val (.int cnt), .val (.ref b3), .val (.int ja), .val (.int jb), .val (.int jd), .val (.ref b16), .val (.ref b32)] [(.ref b16), (.int (own_get (((([(0 : Int32), (1 : Int32), (2 : Int32), (0 : Int32), (0 : Int32), (0 : Int32)]).set 3 (own_get ([(0 : Int32), (1 : Int32), (2 : Int32), (0 : Int32), (0 : Int32), (0 : Int32)]) ja)).set 4 (own_get (([(0 : Int32), (1 : Int32), (2 : Int32), (0 : Int32), (0 : Int32), (0 : Int32)]).set 3 (own_get ([(0 : Int32), (1 : Int32), (2 : Int32), (0 : Int32), (0 : Int32), (0 : Int32)]) ja)) jb)).set 5 (own_get ((([(0 : Int32), (1 : Int32), (2 : Int32), (0 : Int32), (0 : Int32), (0 : Int32)]).set 3 (own_get ([(0 : Int32), (1 : Int32), (2 : Int32), (0 : Int32), (0 : Int32), (0 : Int32)]) ja)).set 4 (own_get (([(0 : Int32), (1 : Int32), (2 : Int32), (0 : Int32), (0 : Int32), (0 : Int32)]).set 3 (own_get ([(0 : Int32), (1 : Int32), (2 : Int32), (0 : Int32), (0 : Int32), (0 : Int32)]) ja)) jb)) jd)) (2 : Int32)))])) _
    refine XS.iconst X41.here hx rfl (hb hby at_200) ?_
    show Steps p.tables e below (T41.setTop (mkF m 201 #[.val (.int xc), .val (.int xp), .val (.int xf), .val (.int xg), .val (.int xh), .val (.int cnt), .val (.ref b3), .val (.int ja), .val (.int jb), .val (.int jd), .val (.ref b16), .val (.ref b32)] [(.int (2 : Int32)), (.ref b16), (.int (own_get (((([(0 : Int32), (1 : Int32), (2 : Int32), (0 : Int32), (0 : Int32), (0 : Int32)]).set 3 (own_get ([(0 : Int32), (1 : Int32), (2 : Int32), (0 : Int32), (0 : Int32), (0 : Int32)]) ja)).set 4 (own_get (([(0 : Int32), (1 : Int32), (2 : Int32), (0 : Int32), (0 : Int32), (0 : Int32)]).set 3 (own_get ([(0 : Int32), (1 : Int32), (2 : Int32), (0 : Int32), (0 : Int32), (0 : Int32)]) ja)) jb)).set 5 (own_get ((([(0 : Int32), (1 : Int32), (2 : Int32), (0 : Int32), (0 : Int32), (0 : Int32)]).set 3 (own_get ([(0 : Int32), (1 : Int32), (2 : Int32), (0 : Int32), (0 : Int32), (0 : Int32)]) ja)).set 4 (own_get (([(0 : Int32), (1 : Int32), (2 : Int32), (0 : Int32), (0 : Int32), (0 : Int32)]).set 3 (own_get ([(0 : Int32), (1 : Int32), (2 : Int32), (0 : Int32), (0 : Int32), (0 : Int32)]) ja)) jb)) jd)) (2 : Int32)))])) _
    refine X41.iaload hx (j := (2 : Int32)) (v := (.int (2 : Int32))) (by rw [e41]; exact Ar42.1) (State.isArrayOf_alike hZ.alike Ar42.2.1) Ar42.2.2 hin42 hat42 (g := (mkF m 201 #[.val (.int xc), .val (.int xp), .val (.int xf), .val (.int xg), .val (.int xh), .val (.int cnt), .val (.ref b3), .val (.int ja), .val (.int jb), .val (.int jd), .val (.ref b16), .val (.ref b32)] [(.int (2 : Int32)), (.ref b16), (.int (own_get (((([(0 : Int32), (1 : Int32), (2 : Int32), (0 : Int32), (0 : Int32), (0 : Int32)]).set 3 (own_get ([(0 : Int32), (1 : Int32), (2 : Int32), (0 : Int32), (0 : Int32), (0 : Int32)]) ja)).set 4 (own_get (([(0 : Int32), (1 : Int32), (2 : Int32), (0 : Int32), (0 : Int32), (0 : Int32)]).set 3 (own_get ([(0 : Int32), (1 : Int32), (2 : Int32), (0 : Int32), (0 : Int32), (0 : Int32)]) ja)) jb)).set 5 (own_get ((([(0 : Int32), (1 : Int32), (2 : Int32), (0 : Int32), (0 : Int32), (0 : Int32)]).set 3 (own_get ([(0 : Int32), (1 : Int32), (2 : Int32), (0 : Int32), (0 : Int32), (0 : Int32)]) ja)).set 4 (own_get (([(0 : Int32), (1 : Int32), (2 : Int32), (0 : Int32), (0 : Int32), (0 : Int32)]).set 3 (own_get ([(0 : Int32), (1 : Int32), (2 : Int32), (0 : Int32), (0 : Int32), (0 : Int32)]) ja)) jb)) jd)) (2 : Int32)))])) rfl rfl (hb hby at_201) _ ?_
    show Steps p.tables e below (T41.setTop (mkF m 202 #[.val (.int xc), .val (.int xp), .val (.int xf), .val (.int xg), .val (.int xh), .val (.int cnt), .val (.ref b3), .val (.int ja), .val (.int jb), .val (.int jd), .val (.ref b16), .val (.ref b32)] [(.int (2 : Int32)), (.int (own_get (((([(0 : Int32), (1 : Int32), (2 : Int32), (0 : Int32), (0 : Int32), (0 : Int32)]).set 3 (own_get ([(0 : Int32), (1 : Int32), (2 : Int32), (0 : Int32), (0 : Int32), (0 : Int32)]) ja)).set 4 (own_get (([(0 : Int32), (1 : Int32), (2 : Int32), (0 : Int32), (0 : Int32), (0 : Int32)]).set 3 (own_get ([(0 : Int32), (1 : Int32), (2 : Int32), (0 : Int32), (0 : Int32), (0 : Int32)]) ja)) jb)).set 5 (own_get ((([(0 : Int32), (1 : Int32), (2 : Int32), (0 : Int32), (0 : Int32), (0 : Int32)]).set 3 (own_get ([(0 : Int32), (1 : Int32), (2 : Int32), (0 : Int32), (0 : Int32), (0 : Int32)]) ja)).set 4 (own_get (([(0 : Int32), (1 : Int32), (2 : Int32), (0 : Int32), (0 : Int32), (0 : Int32)]).set 3 (own_get ([(0 : Int32), (1 : Int32), (2 : Int32), (0 : Int32), (0 : Int32), (0 : Int32)]) ja)) jb)) jd)) (2 : Int32)))])) _
    refine XS.icmpNo X41.here hx rfl (hb hby at_202) rfl (teq (rfl : (own_get (((([(0 : Int32), (1 : Int32), (2 : Int32), (0 : Int32), (0 : Int32), (0 : Int32)]).set 3 (own_get ([(0 : Int32), (1 : Int32), (2 : Int32), (0 : Int32), (0 : Int32), (0 : Int32)]) ja)).set 4 (own_get (([(0 : Int32), (1 : Int32), (2 : Int32), (0 : Int32), (0 : Int32), (0 : Int32)]).set 3 (own_get ([(0 : Int32), (1 : Int32), (2 : Int32), (0 : Int32), (0 : Int32), (0 : Int32)]) ja)) jb)).set 5 (own_get ((([(0 : Int32), (1 : Int32), (2 : Int32), (0 : Int32), (0 : Int32), (0 : Int32)]).set 3 (own_get ([(0 : Int32), (1 : Int32), (2 : Int32), (0 : Int32), (0 : Int32), (0 : Int32)]) ja)).set 4 (own_get (([(0 : Int32), (1 : Int32), (2 : Int32), (0 : Int32), (0 : Int32), (0 : Int32)]).set 3 (own_get ([(0 : Int32), (1 : Int32), (2 : Int32), (0 : Int32), (0 : Int32), (0 : Int32)]) ja)) jb)) jd)) (2 : Int32)) = (2 : Int32))).2 ?_
    show Steps p.tables e below (T41.setTop (mkF m 205 #[.val (.int xc), .val (.int xp), .val (.int xf), .val (.int xg), .val (.int xh), .val (.int cnt), .val (.ref b3), .val (.int ja), .val (.int jb), .val (.int jd), .val (.ref b16), .val (.ref b32)] [])) _
    refine XS.aload X41.here hx rfl (hb hby at_205) rfl rfl ?_
    show Steps p.tables e below (T41.setTop (mkF m 207 #[.val (.int xc), .val (.int xp), .val (.int xf), .val (.int xg), .val (.int xh), .val (.int cnt), .val (.ref b3), .val (.int ja), .val (.int jb), .val (.int jd), .val (.ref b16), .val (.ref b32)] [(.ref b32)])) _
    refine XS.iconst X41.here hx rfl (hb hby at_207) ?_
    show Steps p.tables e below (T41.setTop (mkF m 208 #[.val (.int xc), .val (.int xp), .val (.int xf), .val (.int xg), .val (.int xh), .val (.int cnt), .val (.ref b3), .val (.int ja), .val (.int jb), .val (.int jd), .val (.ref b16), .val (.ref b32)] [(.int (3 : Int32)), (.ref b32)])) _
    refine st43.trans ?_
    show Steps p.tables e below (T43.setTop (mkF m 211 #[.val (.int xc), .val (.int xp), .val (.int xf), .val (.int xg), .val (.int xh), .val (.int cnt), .val (.ref b3), .val (.int ja), .val (.int jb), .val (.int jd), .val (.ref b16), .val (.ref b32)] [(.int (own_get (((([(0 : Int32), (1 : Int32), (2 : Int32), (0 : Int32), (0 : Int32), (0 : Int32)]).set 3 (own_get ([(0 : Int32), (1 : Int32), (2 : Int32), (0 : Int32), (0 : Int32), (0 : Int32)]) ja)).set 4 (own_get (([(0 : Int32), (1 : Int32), (2 : Int32), (0 : Int32), (0 : Int32), (0 : Int32)]).set 3 (own_get ([(0 : Int32), (1 : Int32), (2 : Int32), (0 : Int32), (0 : Int32), (0 : Int32)]) ja)) jb)).set 5 (own_get ((([(0 : Int32), (1 : Int32), (2 : Int32), (0 : Int32), (0 : Int32), (0 : Int32)]).set 3 (own_get ([(0 : Int32), (1 : Int32), (2 : Int32), (0 : Int32), (0 : Int32), (0 : Int32)]) ja)).set 4 (own_get (([(0 : Int32), (1 : Int32), (2 : Int32), (0 : Int32), (0 : Int32), (0 : Int32)]).set 3 (own_get ([(0 : Int32), (1 : Int32), (2 : Int32), (0 : Int32), (0 : Int32), (0 : Int32)]) ja)) jb)) jd)) (3 : Int32)))])) _
    refine XS.aload X43.here hx rfl (hb hby at_211) rfl rfl ?_
    show Steps p.tables e below (T43.setTop (mkF m 213 #[.val (.int xc), .val (.int xp), .val (.int xf), .val (.int xg), .val (.int xh), .val (.int cnt), .val (.ref b3), .val (.int ja), .val (.int jb), .val (.int jd), .val (.ref b16), .val (.ref b32)] [(.ref b16), (.int (own_get (((([(0 : Int32), (1 : Int32), (2 : Int32), (0 : Int32), (0 : Int32), (0 : Int32)]).set 3 (own_get ([(0 : Int32), (1 : Int32), (2 : Int32), (0 : Int32), (0 : Int32), (0 : Int32)]) ja)).set 4 (own_get (([(0 : Int32), (1 : Int32), (2 : Int32), (0 : Int32), (0 : Int32), (0 : Int32)]).set 3 (own_get ([(0 : Int32), (1 : Int32), (2 : Int32), (0 : Int32), (0 : Int32), (0 : Int32)]) ja)) jb)).set 5 (own_get ((([(0 : Int32), (1 : Int32), (2 : Int32), (0 : Int32), (0 : Int32), (0 : Int32)]).set 3 (own_get ([(0 : Int32), (1 : Int32), (2 : Int32), (0 : Int32), (0 : Int32), (0 : Int32)]) ja)).set 4 (own_get (([(0 : Int32), (1 : Int32), (2 : Int32), (0 : Int32), (0 : Int32), (0 : Int32)]).set 3 (own_get ([(0 : Int32), (1 : Int32), (2 : Int32), (0 : Int32), (0 : Int32), (0 : Int32)]) ja)) jb)) jd)) (3 : Int32)))])) _
    refine XS.iconst X43.here hx rfl (hb hby at_213) ?_
    show Steps p.tables e below (T43.setTop (mkF m 214 #[.val (.int xc), .val (.int xp), .val (.int xf), .val (.int xg), .val (.int xh), .val (.int cnt), .val (.ref b3), .val (.int ja), .val (.int jb), .val (.int jd), .val (.ref b16), .val (.ref b32)] [(.int (3 : Int32)), (.ref b16), (.int (own_get (((([(0 : Int32), (1 : Int32), (2 : Int32), (0 : Int32), (0 : Int32), (0 : Int32)]).set 3 (own_get ([(0 : Int32), (1 : Int32), (2 : Int32), (0 : Int32), (0 : Int32), (0 : Int32)]) ja)).set 4 (own_get (([(0 : Int32), (1 : Int32), (2 : Int32), (0 : Int32), (0 : Int32), (0 : Int32)]).set 3 (own_get ([(0 : Int32), (1 : Int32), (2 : Int32), (0 : Int32), (0 : Int32), (0 : Int32)]) ja)) jb)).set 5 (own_get ((([(0 : Int32), (1 : Int32), (2 : Int32), (0 : Int32), (0 : Int32), (0 : Int32)]).set 3 (own_get ([(0 : Int32), (1 : Int32), (2 : Int32), (0 : Int32), (0 : Int32), (0 : Int32)]) ja)).set 4 (own_get (([(0 : Int32), (1 : Int32), (2 : Int32), (0 : Int32), (0 : Int32), (0 : Int32)]).set 3 (own_get ([(0 : Int32), (1 : Int32), (2 : Int32), (0 : Int32), (0 : Int32), (0 : Int32)]) ja)) jb)) jd)) (3 : Int32)))])) _
    refine X43.iaload hx (j := (3 : Int32)) (v := (.int (own_get [(0 : Int32), (1 : Int32), (2 : Int32), (0 : Int32), (0 : Int32), (0 : Int32)] ja))) (by rw [e43]; exact Ar44.1) (State.isArrayOf_alike hZ.alike Ar44.2.1) Ar44.2.2 hin44 hat44 (g := (mkF m 214 #[.val (.int xc), .val (.int xp), .val (.int xf), .val (.int xg), .val (.int xh), .val (.int cnt), .val (.ref b3), .val (.int ja), .val (.int jb), .val (.int jd), .val (.ref b16), .val (.ref b32)] [(.int (3 : Int32)), (.ref b16), (.int (own_get (((([(0 : Int32), (1 : Int32), (2 : Int32), (0 : Int32), (0 : Int32), (0 : Int32)]).set 3 (own_get ([(0 : Int32), (1 : Int32), (2 : Int32), (0 : Int32), (0 : Int32), (0 : Int32)]) ja)).set 4 (own_get (([(0 : Int32), (1 : Int32), (2 : Int32), (0 : Int32), (0 : Int32), (0 : Int32)]).set 3 (own_get ([(0 : Int32), (1 : Int32), (2 : Int32), (0 : Int32), (0 : Int32), (0 : Int32)]) ja)) jb)).set 5 (own_get ((([(0 : Int32), (1 : Int32), (2 : Int32), (0 : Int32), (0 : Int32), (0 : Int32)]).set 3 (own_get ([(0 : Int32), (1 : Int32), (2 : Int32), (0 : Int32), (0 : Int32), (0 : Int32)]) ja)).set 4 (own_get (([(0 : Int32), (1 : Int32), (2 : Int32), (0 : Int32), (0 : Int32), (0 : Int32)]).set 3 (own_get ([(0 : Int32), (1 : Int32), (2 : Int32), (0 : Int32), (0 : Int32), (0 : Int32)]) ja)) jb)) jd)) (3 : Int32)))])) rfl rfl (hb hby at_214) _ ?_
    show Steps p.tables e below (T43.setTop (mkF m 215 #[.val (.int xc), .val (.int xp), .val (.int xf), .val (.int xg), .val (.int xh), .val (.int cnt), .val (.ref b3), .val (.int ja), .val (.int jb), .val (.int jd), .val (.ref b16), .val (.ref b32)] [(.int (own_get [(0 : Int32), (1 : Int32), (2 : Int32), (0 : Int32), (0 : Int32), (0 : Int32)] ja)), (.int (own_get (((([(0 : Int32), (1 : Int32), (2 : Int32), (0 : Int32), (0 : Int32), (0 : Int32)]).set 3 (own_get ([(0 : Int32), (1 : Int32), (2 : Int32), (0 : Int32), (0 : Int32), (0 : Int32)]) ja)).set 4 (own_get (([(0 : Int32), (1 : Int32), (2 : Int32), (0 : Int32), (0 : Int32), (0 : Int32)]).set 3 (own_get ([(0 : Int32), (1 : Int32), (2 : Int32), (0 : Int32), (0 : Int32), (0 : Int32)]) ja)) jb)).set 5 (own_get ((([(0 : Int32), (1 : Int32), (2 : Int32), (0 : Int32), (0 : Int32), (0 : Int32)]).set 3 (own_get ([(0 : Int32), (1 : Int32), (2 : Int32), (0 : Int32), (0 : Int32), (0 : Int32)]) ja)).set 4 (own_get (([(0 : Int32), (1 : Int32), (2 : Int32), (0 : Int32), (0 : Int32), (0 : Int32)]).set 3 (own_get ([(0 : Int32), (1 : Int32), (2 : Int32), (0 : Int32), (0 : Int32), (0 : Int32)]) ja)) jb)) jd)) (3 : Int32)))])) _
    refine XS.icmpNo X43.here hx rfl (hb hby at_215) rfl (teq (rfl : (own_get (((([(0 : Int32), (1 : Int32), (2 : Int32), (0 : Int32), (0 : Int32), (0 : Int32)]).set 3 (own_get ([(0 : Int32), (1 : Int32), (2 : Int32), (0 : Int32), (0 : Int32), (0 : Int32)]) ja)).set 4 (own_get (([(0 : Int32), (1 : Int32), (2 : Int32), (0 : Int32), (0 : Int32), (0 : Int32)]).set 3 (own_get ([(0 : Int32), (1 : Int32), (2 : Int32), (0 : Int32), (0 : Int32), (0 : Int32)]) ja)) jb)).set 5 (own_get ((([(0 : Int32), (1 : Int32), (2 : Int32), (0 : Int32), (0 : Int32), (0 : Int32)]).set 3 (own_get ([(0 : Int32), (1 : Int32), (2 : Int32), (0 : Int32), (0 : Int32), (0 : Int32)]) ja)).set 4 (own_get (([(0 : Int32), (1 : Int32), (2 : Int32), (0 : Int32), (0 : Int32), (0 : Int32)]).set 3 (own_get ([(0 : Int32), (1 : Int32), (2 : Int32), (0 : Int32), (0 : Int32), (0 : Int32)]) ja)) jb)) jd)) (3 : Int32)) = (own_get [(0 : Int32), (1 : Int32), (2 : Int32), (0 : Int32), (0 : Int32), (0 : Int32)] ja))).2 ?_
    show Steps p.tables e below (T43.setTop (mkF m 218 #[.val (.int xc), .val (.int xp), .val (.int xf), .val (.int xg), .val (.int xh), .val (.int cnt), .val (.ref b3), .val (.int ja), .val (.int jb), .val (.int jd), .val (.ref b16), .val (.ref b32)] [])) _
    refine XS.aload X43.here hx rfl (hb hby at_218) rfl rfl ?_
    show Steps p.tables e below (T43.setTop (mkF m 220 #[.val (.int xc), .val (.int xp), .val (.int xf), .val (.int xg), .val (.int xh), .val (.int cnt), .val (.ref b3), .val (.int ja), .val (.int jb), .val (.int jd), .val (.ref b16), .val (.ref b32)] [(.ref b32)])) _
    refine XS.iconst X43.here hx rfl (hb hby at_220) ?_
    show Steps p.tables e below (T43.setTop (mkF m 221 #[.val (.int xc), .val (.int xp), .val (.int xf), .val (.int xg), .val (.int xh), .val (.int cnt), .val (.ref b3), .val (.int ja), .val (.int jb), .val (.int jd), .val (.ref b16), .val (.ref b32)] [(.int (4 : Int32)), (.ref b32)])) _
    refine st45.trans ?_
    show Steps p.tables e below (T45.setTop (mkF m 224 #[.val (.int xc), .val (.int xp), .val (.int xf), .val (.int xg), .val (.int xh), .val (.int cnt), .val (.ref b3), .val (.int ja), .val (.int jb), .val (.int jd), .val (.ref b16), .val (.ref b32)] [(.int (own_get (((([(0 : Int32), (1 : Int32), (2 : Int32), (0 : Int32), (0 : Int32), (0 : Int32)]).set 3 (own_get ([(0 : Int32), (1 : Int32), (2 : Int32), (0 : Int32), (0 : Int32), (0 : Int32)]) ja)).set 4 (own_get (([(0 : Int32), (1 : Int32), (2 : Int32), (0 : Int32), (0 : Int32), (0 : Int32)]).set 3 (own_get ([(0 : Int32), (1 : Int32), (2 : Int32), (0 : Int32), (0 : Int32), (0 : Int32)]) ja)) jb)).set 5 (own_get ((([(0 : Int32), (1 : Int32), (2 : Int32), (0 : Int32), (0 : Int32), (0 : Int32)]).set 3 (own_get ([(0 : Int32), (1 : Int32), (2 : Int32), (0 : Int32), (0 : Int32), (0 : Int32)]) ja)).set 4 (own_get (([(0 : Int32), (1 : Int32), (2 : Int32), (0 : Int32), (0 : Int32), (0 : Int32)]).set 3 (own_get ([(0 : Int32), (1 : Int32), (2 : Int32), (0 : Int32), (0 : Int32), (0 : Int32)]) ja)) jb)) jd)) (4 : Int32)))])) _
    refine XS.aload X45.here hx rfl (hb hby at_224) rfl rfl ?_
    show Steps p.tables e below (T45.setTop (mkF m 226 #[.val (.int xc), .val (.int xp), .val (.int xf), .val (.int xg), .val (.int xh), .val (.int cnt), .val (.ref b3), .val (.int ja), .val (.int jb), .val (.int jd), .val (.ref b16), .val (.ref b32)] [(.ref b16), (.int (own_get (((([(0 : Int32), (1 : Int32), (2 : Int32), (0 : Int32), (0 : Int32), (0 : Int32)]).set 3 (own_get ([(0 : Int32), (1 : Int32), (2 : Int32), (0 : Int32), (0 : Int32), (0 : Int32)]) ja)).set 4 (own_get (([(0 : Int32), (1 : Int32), (2 : Int32), (0 : Int32), (0 : Int32), (0 : Int32)]).set 3 (own_get ([(0 : Int32), (1 : Int32), (2 : Int32), (0 : Int32), (0 : Int32), (0 : Int32)]) ja)) jb)).set 5 (own_get ((([(0 : Int32), (1 : Int32), (2 : Int32), (0 : Int32), (0 : Int32), (0 : Int32)]).set 3 (own_get ([(0 : Int32), (1 : Int32), (2 : Int32), (0 : Int32), (0 : Int32), (0 : Int32)]) ja)).set 4 (own_get (([(0 : Int32), (1 : Int32), (2 : Int32), (0 : Int32), (0 : Int32), (0 : Int32)]).set 3 (own_get ([(0 : Int32), (1 : Int32), (2 : Int32), (0 : Int32), (0 : Int32), (0 : Int32)]) ja)) jb)) jd)) (4 : Int32)))])) _
    refine XS.iconst X45.here hx rfl (hb hby at_226) ?_
    show Steps p.tables e below (T45.setTop (mkF m 227 #[.val (.int xc), .val (.int xp), .val (.int xf), .val (.int xg), .val (.int xh), .val (.int cnt), .val (.ref b3), .val (.int ja), .val (.int jb), .val (.int jd), .val (.ref b16), .val (.ref b32)] [(.int (4 : Int32)), (.ref b16), (.int (own_get (((([(0 : Int32), (1 : Int32), (2 : Int32), (0 : Int32), (0 : Int32), (0 : Int32)]).set 3 (own_get ([(0 : Int32), (1 : Int32), (2 : Int32), (0 : Int32), (0 : Int32), (0 : Int32)]) ja)).set 4 (own_get (([(0 : Int32), (1 : Int32), (2 : Int32), (0 : Int32), (0 : Int32), (0 : Int32)]).set 3 (own_get ([(0 : Int32), (1 : Int32), (2 : Int32), (0 : Int32), (0 : Int32), (0 : Int32)]) ja)) jb)).set 5 (own_get ((([(0 : Int32), (1 : Int32), (2 : Int32), (0 : Int32), (0 : Int32), (0 : Int32)]).set 3 (own_get ([(0 : Int32), (1 : Int32), (2 : Int32), (0 : Int32), (0 : Int32), (0 : Int32)]) ja)).set 4 (own_get (([(0 : Int32), (1 : Int32), (2 : Int32), (0 : Int32), (0 : Int32), (0 : Int32)]).set 3 (own_get ([(0 : Int32), (1 : Int32), (2 : Int32), (0 : Int32), (0 : Int32), (0 : Int32)]) ja)) jb)) jd)) (4 : Int32)))])) _
    refine X45.iaload hx (j := (4 : Int32)) (v := (.int (own_get [(0 : Int32), (1 : Int32), (2 : Int32), (own_get [(0 : Int32), (1 : Int32), (2 : Int32), (0 : Int32), (0 : Int32), (0 : Int32)] ja), (0 : Int32), (0 : Int32)] jb))) (by rw [e45]; exact Ar46.1) (State.isArrayOf_alike hZ.alike Ar46.2.1) Ar46.2.2 hin46 hat46 (g := (mkF m 227 #[.val (.int xc), .val (.int xp), .val (.int xf), .val (.int xg), .val (.int xh), .val (.int cnt), .val (.ref b3), .val (.int ja), .val (.int jb), .val (.int jd), .val (.ref b16), .val (.ref b32)] [(.int (4 : Int32)), (.ref b16), (.int (own_get (((([(0 : Int32), (1 : Int32), (2 : Int32), (0 : Int32), (0 : Int32), (0 : Int32)]).set 3 (own_get ([(0 : Int32), (1 : Int32), (2 : Int32), (0 : Int32), (0 : Int32), (0 : Int32)]) ja)).set 4 (own_get (([(0 : Int32), (1 : Int32), (2 : Int32), (0 : Int32), (0 : Int32), (0 : Int32)]).set 3 (own_get ([(0 : Int32), (1 : Int32), (2 : Int32), (0 : Int32), (0 : Int32), (0 : Int32)]) ja)) jb)).set 5 (own_get ((([(0 : Int32), (1 : Int32), (2 : Int32), (0 : Int32), (0 : Int32), (0 : Int32)]).set 3 (own_get ([(0 : Int32), (1 : Int32), (2 : Int32), (0 : Int32), (0 : Int32), (0 : Int32)]) ja)).set 4 (own_get (([(0 : Int32), (1 : Int32), (2 : Int32), (0 : Int32), (0 : Int32), (0 : Int32)]).set 3 (own_get ([(0 : Int32), (1 : Int32), (2 : Int32), (0 : Int32), (0 : Int32), (0 : Int32)]) ja)) jb)) jd)) (4 : Int32)))])) rfl rfl (hb hby at_227) _ ?_
    show Steps p.tables e below (T45.setTop (mkF m 228 #[.val (.int xc), .val (.int xp), .val (.int xf), .val (.int xg), .val (.int xh), .val (.int cnt), .val (.ref b3), .val (.int ja), .val (.int jb), .val (.int jd), .val (.ref b16), .val (.ref b32)] [(.int (own_get [(0 : Int32), (1 : Int32), (2 : Int32), (own_get [(0 : Int32), (1 : Int32), (2 : Int32), (0 : Int32), (0 : Int32), (0 : Int32)] ja), (0 : Int32), (0 : Int32)] jb)), (.int (own_get (((([(0 : Int32), (1 : Int32), (2 : Int32), (0 : Int32), (0 : Int32), (0 : Int32)]).set 3 (own_get ([(0 : Int32), (1 : Int32), (2 : Int32), (0 : Int32), (0 : Int32), (0 : Int32)]) ja)).set 4 (own_get (([(0 : Int32), (1 : Int32), (2 : Int32), (0 : Int32), (0 : Int32), (0 : Int32)]).set 3 (own_get ([(0 : Int32), (1 : Int32), (2 : Int32), (0 : Int32), (0 : Int32), (0 : Int32)]) ja)) jb)).set 5 (own_get ((([(0 : Int32), (1 : Int32), (2 : Int32), (0 : Int32), (0 : Int32), (0 : Int32)]).set 3 (own_get ([(0 : Int32), (1 : Int32), (2 : Int32), (0 : Int32), (0 : Int32), (0 : Int32)]) ja)).set 4 (own_get (([(0 : Int32), (1 : Int32), (2 : Int32), (0 : Int32), (0 : Int32), (0 : Int32)]).set 3 (own_get ([(0 : Int32), (1 : Int32), (2 : Int32), (0 : Int32), (0 : Int32), (0 : Int32)]) ja)) jb)) jd)) (4 : Int32)))])) _
    refine XS.icmpNo X45.here hx rfl (hb hby at_228) rfl (teq (rfl : (own_get (((([(0 : Int32), (1 : Int32), (2 : Int32), (0 : Int32), (0 : Int32), (0 : Int32)]).set 3 (own_get ([(0 : Int32), (1 : Int32), (2 : Int32), (0 : Int32), (0 : Int32), (0 : Int32)]) ja)).set 4 (own_get (([(0 : Int32), (1 : Int32), (2 : Int32), (0 : Int32), (0 : Int32), (0 : Int32)]).set 3 (own_get ([(0 : Int32), (1 : Int32), (2 : Int32), (0 : Int32), (0 : Int32), (0 : Int32)]) ja)) jb)).set 5 (own_get ((([(0 : Int32), (1 : Int32), (2 : Int32), (0 : Int32), (0 : Int32), (0 : Int32)]).set 3 (own_get ([(0 : Int32), (1 : Int32), (2 : Int32), (0 : Int32), (0 : Int32), (0 : Int32)]) ja)).set 4 (own_get (([(0 : Int32), (1 : Int32), (2 : Int32), (0 : Int32), (0 : Int32), (0 : Int32)]).set 3 (own_get ([(0 : Int32), (1 : Int32), (2 : Int32), (0 : Int32), (0 : Int32), (0 : Int32)]) ja)) jb)) jd)) (4 : Int32)) = (own_get [(0 : Int32), (1 : Int32), (2 : Int32), (own_get [(0 : Int32), (1 : Int32), (2 : Int32), (0 : Int32), (0 : Int32), (0 : Int32)] ja), (0 : Int32), (0 : Int32)] jb))).2 ?_
    show Steps p.tables e below (T45.setTop (mkF m 231 #[.val (.int xc), .val (.int xp), .val (.int xf), .val (.int xg), .val (.int xh), .val (.int cnt), .val (.ref b3), .val (.int ja), .val (.int jb), .val (.int jd), .val (.ref b16), .val (.ref b32)] [])) _
    refine XS.aload X45.here hx rfl (hb hby at_231) rfl rfl ?_
    show Steps p.tables e below (T45.setTop (mkF m 233 #[.val (.int xc), .val (.int xp), .val (.int xf), .val (.int xg), .val (.int xh), .val (.int cnt), .val (.ref b3), .val (.int ja), .val (.int jb), .val (.int jd), .val (.ref b16), .val (.ref b32)] [(.ref b32)])) _
    refine XS.iconst X45.here hx rfl (hb hby at_233) ?_
    show Steps p.tables e below (T45.setTop (mkF m 234 #[.val (.int xc), .val (.int xp), .val (.int xf), .val (.int xg), .val (.int xh), .val (.int cnt), .val (.ref b3), .val (.int ja), .val (.int jb), .val (.int jd), .val (.ref b16), .val (.ref b32)] [(.int (5 : Int32)), (.ref b32)])) _
    refine st47.trans ?_
    show Steps p.tables e below (T47.setTop (mkF m 237 #[.val (.int xc), .val (.int xp), .val (.int xf), .val (.int xg), .val (.int xh), .val (.int cnt), .val (.ref b3), .val (.int ja), .val (.int jb), .val (.int jd), .val (.ref b16), .val (.ref b32)] [(.int (own_get (((([(0 : Int32), (1 : Int32), (2 : Int32), (0 : Int32), (0 : Int32), (0 : Int32)]).set 3 (own_get ([(0 : Int32), (1 : Int32), (2 : Int32), (0 : Int32), (0 : Int32), (0 : Int32)]) ja)).set 4 (own_get (([(0 : Int32), (1 : Int32), (2 : Int32), (0 : Int32), (0 : Int32), (0 : Int32)]).set 3 (own_get ([(0 : Int32), (1 : Int32), (2 : Int32), (0 : Int32), (0 : Int32), (0 : Int32)]) ja)) jb)).set 5 (own_get ((([(0 : Int32), (1 : Int32), (2 : Int32), (0 : Int32), (0 : Int32), (0 : Int32)]).set 3 (own_get ([(0 : Int32), (1 : Int32), (2 : Int32), (0 : Int32), (0 : Int32), (0 : Int32)]) ja)).set 4 (own_get (([(0 : Int32), (1 : Int32), (2 : Int32), (0 : Int32), (0 : Int32), (0 : Int32)]).set 3 (own_get ([(0 : Int32), (1 : Int32), (2 : Int32), (0 : Int32), (0 : Int32), (0 : Int32)]) ja)) jb)) jd)) (5 : Int32)))])) _
    refine XS.aload X47.here hx rfl (hb hby at_237) rfl rfl ?_
    show Steps p.tables e below (T47.setTop (mkF m 239 #[.val (.int xc), .val (.int xp), .val (.int xf), .val (.int xg), .val (.int xh), .val (.int cnt), .val (.ref b3), .val (.int ja), .val (.int jb), .val (.int jd), .val (.ref b16), .val (.ref b32)] [(.ref b16), (.int (own_get (((([(0 : Int32), (1 : Int32), (2 : Int32), (0 : Int32), (0 : Int32), (0 : Int32)]).set 3 (own_get ([(0 : Int32), (1 : Int32), (2 : Int32), (0 : Int32), (0 : Int32), (0 : Int32)]) ja)).set 4 (own_get (([(0 : Int32), (1 : Int32), (2 : Int32), (0 : Int32), (0 : Int32), (0 : Int32)]).set 3 (own_get ([(0 : Int32), (1 : Int32), (2 : Int32), (0 : Int32), (0 : Int32), (0 : Int32)]) ja)) jb)).set 5 (own_get ((([(0 : Int32), (1 : Int32), (2 : Int32), (0 : Int32), (0 : Int32), (0 : Int32)]).set 3 (own_get ([(0 : Int32), (1 : Int32), (2 : Int32), (0 : Int32), (0 : Int32), (0 : Int32)]) ja)).set 4 (own_get (([(0 : Int32), (1 : Int32), (2 : Int32), (0 : Int32), (0 : Int32), (0 : Int32)]).set 3 (own_get ([(0 : Int32), (1 : Int32), (2 : Int32), (0 : Int32), (0 : Int32), (0 : Int32)]) ja)) jb)) jd)) (5 : Int32)))])) _
    refine XS.iconst X47.here hx rfl (hb hby at_239) ?_
    show Steps p.tables e below (T47.setTop (mkF m 240 #[.val (.int xc), .val (.int xp), .val (.int xf), .val (.int xg), .val (.int xh), .val (.int cnt), .val (.ref b3), .val (.int ja), .val (.int jb), .val (.int jd), .val (.ref b16), .val (.ref b32)] [(.int (5 : Int32)), (.ref b16), (.int (own_get (((([(0 : Int32), (1 : Int32), (2 : Int32), (0 : Int32), (0 : Int32), (0 : Int32)]).set 3 (own_get ([(0 : Int32), (1 : Int32), (2 : Int32), (0 : Int32), (0 : Int32), (0 : Int32)]) ja)).set 4 (own_get (([(0 : Int32), (1 : Int32), (2 : Int32), (0 : Int32), (0 : Int32), (0 : Int32)]).set 3 (own_get ([(0 : Int32), (1 : Int32), (2 : Int32), (0 : Int32), (0 : Int32), (0 : Int32)]) ja)) jb)).set 5 (own_get ((([(0 : Int32), (1 : Int32), (2 : Int32), (0 : Int32), (0 : Int32), (0 : Int32)]).set 3 (own_get ([(0 : Int32), (1 : Int32), (2 : Int32), (0 : Int32), (0 : Int32), (0 : Int32)]) ja)).set 4 (own_get (([(0 : Int32), (1 : Int32), (2 : Int32), (0 : Int32), (0 : Int32), (0 : Int32)]).set 3 (own_get ([(0 : Int32), (1 : Int32), (2 : Int32), (0 : Int32), (0 : Int32), (0 : Int32)]) ja)) jb)) jd)) (5 : Int32)))])) _
    refine X47.iaload hx (j := (5 : Int32)) (v := (.int (own_get [(0 : Int32), (1 : Int32), (2 : Int32), (own_get [(0 : Int32), (1 : Int32), (2 : Int32), (0 : Int32), (0 : Int32), (0 : Int32)] ja), (own_get [(0 : Int32), (1 : Int32), (2 : Int32), (own_get [(0 : Int32), (1 : Int32), (2 : Int32), (0 : Int32), (0 : Int32), (0 : Int32)] ja), (0 : Int32), (0 : Int32)] jb), (0 : Int32)] jd))) (by rw [e47]; exact Ar48.1) (State.isArrayOf_alike hZ.alike Ar48.2.1) Ar48.2.2 hin48 hat48 (g := (mkF m 240 #[.val (.int xc), .val (.int xp), .val (.int xf), .val (.int xg), .val (.int xh), .val (.int cnt), .val (.ref b3), .val (.int ja), .val (.int jb), .val (.int jd), .val (.ref b16), .val (.ref b32)] [(.int (5 : Int32)), (.ref b16), (.int (own_get (((([(0 : Int32), (1 : Int32), (2 : Int32), (0 : Int32), (0 : Int32), (0 : Int32)]).set 3 (own_get ([(0 : Int32), (1 : Int32), (2 : Int32), (0 : Int32), (0 : Int32), (0 : Int32)]) ja)).set 4 (own_get (([(0 : Int32), (1 : Int32), (2 : Int32), (0 : Int32), (0 : Int32), (0 : Int32)]).set 3 (own_get ([(0 : Int32), (1 : Int32), (2 : Int32), (0 : Int32), (0 : Int32), (0 : Int32)]) ja)) jb)).set 5 (own_get ((([(0 : Int32), (1 : Int32), (2 : Int32), (0 : Int32), (0 : Int32), (0 : Int32)]).set 3 (own_get ([(0 : Int32), (1 : Int32), (2 : Int32), (0 : Int32), (0 : Int32), (0 : Int32)]) ja)).set 4 (own_get (([(0 : Int32), (1 : Int32), (2 : Int32), (0 : Int32), (0 : Int32), (0 : Int32)]).set 3 (own_get ([(0 : Int32), (1 : Int32), (2 : Int32), (0 : Int32), (0 : Int32), (0 : Int32)]) ja)) jb)) jd)) (5 : Int32)))])) rfl rfl (hb hby at_240) _ ?_
    show Steps p.tables e below (T47.setTop (mkF m 241 #[.val (.int xc), .val (.int xp), .val (.int xf), .val (.int xg), .val (.int xh), .val (.int cnt), .val (.ref b3), .val (.int ja), .val (.int jb), .val (.int jd), .val (.ref b16), .val (.ref b32)] [(.int (own_get [(0 : Int32), (1 : Int32), (2 : Int32), (own_get [(0 : Int32), (1 : Int32), (2 : Int32), (0 : Int32), (0 : Int32), (0 : Int32)] ja), (own_get [(0 : Int32), (1 : Int32), (2 : Int32), (own_get [(0 : Int32), (1 : Int32), (2 : Int32), (0 : Int32), (0 : Int32), (0 : Int32)] ja), (0 : Int32), (0 : Int32)] jb), (0 : Int32)] jd)), (.int (own_get (((([(0 : Int32), (1 : Int32), (2 : Int32), (0 : Int32), (0 : Int32), (0 : Int32)]).set 3 (own_get ([(0 : Int32), (1 : Int32), (2 : Int32), (0 : Int32), (0 : Int32), (0 : Int32)]) ja)).set 4 (own_get (([(0 : Int32), (1 : Int32), (2 : Int32), (0 : Int32), (0 : Int32), (0 : Int32)]).set 3 (own_get ([(0 : Int32), (1 : Int32), (2 : Int32), (0 : Int32), (0 : Int32), (0 : Int32)]) ja)) jb)).set 5 (own_get ((([(0 : Int32), (1 : Int32), (2 : Int32), (0 : Int32), (0 : Int32), (0 : Int32)]).set 3 (own_get ([(0 : Int32), (1 : Int32), (2 : Int32), (0 : Int32), (0 : Int32), (0 : Int32)]) ja)).set 4 (own_get (([(0 : Int32), (1 : Int32), (2 : Int32), (0 : Int32), (0 : Int32), (0 : Int32)]).set 3 (own_get ([(0 : Int32), (1 : Int32), (2 : Int32), (0 : Int32), (0 : Int32), (0 : Int32)]) ja)) jb)) jd)) (5 : Int32)))])) _
    refine XS.icmpNo X47.here hx rfl (hb hby at_241) rfl (teq (rfl : (own_get (((([(0 : Int32), (1 : Int32), (2 : Int32), (0 : Int32), (0 : Int32), (0 : Int32)]).set 3 (own_get ([(0 : Int32), (1 : Int32), (2 : Int32), (0 : Int32), (0 : Int32), (0 : Int32)]) ja)).set 4 (own_get (([(0 : Int32), (1 : Int32), (2 : Int32), (0 : Int32), (0 : Int32), (0 : Int32)]).set 3 (own_get ([(0 : Int32), (1 : Int32), (2 : Int32), (0 : Int32), (0 : Int32), (0 : Int32)]) ja)) jb)).set 5 (own_get ((([(0 : Int32), (1 : Int32), (2 : Int32), (0 : Int32), (0 : Int32), (0 : Int32)]).set 3 (own_get ([(0 : Int32), (1 : Int32), (2 : Int32), (0 : Int32), (0 : Int32), (0 : Int32)]) ja)).set 4 (own_get (([(0 : Int32), (1 : Int32), (2 : Int32), (0 : Int32), (0 : Int32), (0 : Int32)]).set 3 (own_get ([(0 : Int32), (1 : Int32), (2 : Int32), (0 : Int32), (0 : Int32), (0 : Int32)]) ja)) jb)) jd)) (5 : Int32)) = (own_get [(0 : Int32), (1 : Int32), (2 : Int32), (own_get [(0 : Int32), (1 : Int32), (2 : Int32), (0 : Int32), (0 : Int32), (0 : Int32)] ja), (own_get [(0 : Int32), (1 : Int32), (2 : Int32), (own_get [(0 : Int32), (1 : Int32), (2 : Int32), (0 : Int32), (0 : Int32), (0 : Int32)] ja), (0 : Int32), (0 : Int32)] jb), (0 : Int32)] jd))).2 ?_
    show Steps p.tables e below (T47.setTop (mkF m 244 #[.val (.int xc), .val (.int xp), .val (.int xf), .val (.int xg), .val (.int xh), .val (.int cnt), .val (.ref b3), .val (.int ja), .val (.int jb), .val (.int jd), .val (.ref b16), .val (.ref b32)] [])) _
    refine XS.iconst X47.here hx rfl (hb hby at_244) ?_
    show Steps p.tables e below (T47.setTop (mkF m 245 #[.val (.int xc), .val (.int xp), .val (.int xf), .val (.int xg), .val (.int xh), .val (.int cnt), .val (.ref b3), .val (.int ja), .val (.int jb), .val (.int jd), .val (.ref b16), .val (.ref b32)] [(.int (1 : Int32))])) _
    refine XS.goto X47.here hx rfl (pc0 := 245) (pc' := 249) rfl (hb hby at_245) (by decide) (by decide) ?_
    show Steps p.tables e below (T47.setTop (mkF m 249 #[.val (.int xc), .val (.int xp), .val (.int xf), .val (.int xg), .val (.int xh), .val (.int cnt), .val (.ref b3), .val (.int ja), .val (.int jb), .val (.int jd), .val (.ref b16), .val (.ref b32)] [(.int (1 : Int32))])) _
    exact retN X47 hx (t := .boolean) Bd.returns (by simp) (hb hby at_249) hr
  · show QL Z xc xp xf xg xh h0 n0 _ T47.heap _
    rw [e47]
    exact ⟨rfl, N47⟩
set_option maxRecDepth 65536 in
set_option maxHeartbeats 40000000 in
theorem comes_1 {Post : Tables → Env → Array Value → State → Outcome → State → Prop} (hpost : ∀ tb e args s v u, (limb_1_1.after args s (.returned v) u = true ∧ limb_1_2.after args s (.returned v) u = true ∧ True) → FrameEnd s (.returned v) u (Jvm.fieldLocs frame_1_writes args s ++ Jvm.arrayLocs frame_1_arrays args s ++ Jvm.staticLocs frame_1_statics s) 24 192 → Post tb e args s (.returned v) u) :
    ArmFor flags0 classFile x code maxLocals ret World_1 tables_1 room_1 Calls_1 rest_1 Pre_1 Post := by
  intro l hfl _ _ p e ha hc hk s m args below hf hA hF happ hP
  obtain ⟨hcalls, hrest, hpre⟩ := hP
  obtain ⟨-, -, -, hnamed, -, -, -, hat⟩ := (Spec.applies_iff hf).mp happ
  obtain ⟨hg, hn⟩ := and_e (Cond.before_iff.mp (show (Jvm.Cond.and given_1 narrow_1).before args s = true from hpre))
  obtain ⟨hcount, gr0⟩ := and_e hg
  obtain ⟨ga0, gr1⟩ := and_e gr0
  obtain ⟨ga1, gr2⟩ := and_e gr1
  obtain ⟨ga2, gr3⟩ := and_e gr2
  obtain ⟨ga3, gr4⟩ := and_e gr3
  have ga4 := gr4
  obtain ⟨w0, w1, w2, w3, w4, rfl⟩ : ∃ w0 w1 w2 w3 w4 : Value, args = #[w0, w1, w2, w3, w4] := by
    have hs : args.size = 5 := by simpa [Cond.value, given_1] using hcount
    obtain ⟨L⟩ := args
    match L, hs with
    | [w0, w1, w2, w3, w4], _ => exact ⟨w0, w1, w2, w3, w4, rfl⟩
  have hw := fun d (hd : d ∈ tables_1) => atoms_spec (ws := Jvm.Cond.code x code maxLocals ret :: tables_1) hat d (List.mem_cons_of_mem _ hd)
  have hfit : Fit s := fun {y c} hc i hi => by
    obtain ⟨ha, rfl⟩ := Array.getElem?_eq_some_iff.mp hc
    have q := List.all_eq_true.mp ((Array.all_eq_true_iff_forall_mem.mp hF) _ (Array.getElem_mem ha)) i (List.mem_range.mpr hi)
    simpa [Array.getElem?_eq_getElem hi] using q
  obtain ⟨i0, ei0⟩ := is_v ga0
  obtain rfl : w0 = (.int i0) := Option.some.inj ei0
  obtain ⟨i1, ei1⟩ := is_v ga1
  obtain rfl : w1 = (.int i1) := Option.some.inj ei1
  obtain ⟨i2, ei2⟩ := is_v ga2
  obtain rfl : w2 = (.int i2) := Option.some.inj ei2
  obtain ⟨i3, ei3⟩ := is_v ga3
  obtain rfl : w3 = (.int i3) := Option.some.inj ei3
  obtain ⟨i4, ei4⟩ := is_v ga4
  obtain rfl : w4 = (.int i4) := Option.some.inj ei4
  obtain ⟨n, o, h1, h2, h3, _, L, rfl, ⟨rfl, N⟩, hq⟩ := rmL l s _ hw tables_1 i0 i1 i2 i3 i4 s.heap s.heap.size (Nat.le_refl _)  p e ha hc hk s m _ below hf ((Spec.applies_iff_loose hf).mp happ).1 ⟨rfl, State.Warmed39.refl s, rfl⟩ trivial
  refine ⟨n, _, h1, h2, h3, hpost _ _ _ _ _ _ ⟨Cond.after_iff.mpr rfl, Cond.after_iff.mpr (eq_i res_at (Term.int_eval (1)) rfl), trivial⟩ ⟨hq.1, hq.2.1, (hq.2.2.sift fun y hy => Or.inr (N y hy)).mono (by decide) (by decide)⟩⟩
theorem main_1_1 : Claimed_1_1 := comes_1 fun _ _ _ _ _ _ h hF => ⟨h.1, hF⟩
theorem main_1_2 : Claimed_1_2 := comes_1 fun _ _ _ _ _ _ h hF => ⟨h.2.1, hF⟩
end Jvm.Pilot.@@N@@
namespace Jvm.Pilot.@@N@@
open Jvm Jvm.ClassFile Sem Op Lib Jvm.Free Jvm.Stand Jvm.Pilot.@@N@@.Jvm.D
/-! MADE BY PROGRAM (witnessworld.py) out of the Statement's table words and the real class files: 10 classes; the members and pool entries that the words name. The judged class is class 1, her method 1. -/
namespace start1
open Jvm.ClassFile
def u (s : String) : CpInfo := .utf8 (stringToUtf16 s)
/-- a pool by its gaps: so many unusable entries, then the entry; so many at the end -/
def gap : Nat → List CpInfo → List CpInfo
  | 0, r => r
  | n + 1, r => .unusable :: gap n r
def poolList (es : List (Nat × CpInfo)) (last : Nat) : List CpInfo := es.foldr (fun e r => gap e.1 (e.2 :: r)) (gap last [])
def pool (es : List (Nat × CpInfo)) (last : Nat) : Array CpInfo := ⟨poolList es last⟩
def fileOf (pool : Array CpInfo) (this : Nat) (attrs : Array Attribute := #[]) (ms : Array MethodInfo := #[]) (fl : Nat := 33) (sup : Nat := 0) (ifs : Array Nat := #[]) (fds : Array FieldInfo := #[]) : ClassFile where
  minorVersion := 0
  majorVersion := 65
  constantPool := pool
  accessFlags := fl
  thisClass := this
  superClass := sup
  interfaces := ifs
  fields := fds
  methods := ms
  attributes := attrs
def plain (name : String) (sup : Option ClassId) : Class where
  name := name
  kind := .ordinary
  loader := none
  accessFlags := 33
  super := sup
  interfaces := #[]
  cf := none
  fields := #[]
  methods := #[]
  instanceTypes := #[]
  staticTypes := #[]
  resolved := #[]
  callSites := []
  init := .initialized
  statics := none
  mirror := none

def pool0 : Array CpInfo := pool [(5, u "<init>"), (0, u "()V"), (1, .class_ 10), (1, u "java/lang/Object")] 113

def k0c0 : Code := { maxStack := 0, maxLocals := 1, code := object_method_1_code, exceptionTable := #[], attributes := #[] }
def k0m0 : Method := { name := "<init>", desc := "()V", sig := { parameters := [], returnType := none }, accessFlags := 1, code := some k0c0 }
/-- java/lang/Object -/
def k0 : Class := { plain "java/lang/Object" none with
  accessFlags := 33
  interfaces := #[]
  cf := some (fileOf pool0 8 #[] #[{ accessFlags := 1, nameIndex := 5, descriptorIndex := 6, attributes := #[] }] 33 0 #[] #[])
  fields := #[]
  methods := #[k0m0]
  instanceTypes := #[]
  staticTypes := #[]
  resolved := Array.replicate 124 none
  statics := none }

def pool1 : Array CpInfo := pool [(2, .class_ 4), (1, u "java/lang/Object"), (0, u "<init>"), (0, u "()V"), (0, .integer 2147483647), (0, .class_ 9), (0, u "com/example/covey/covey/divisive/SplitLog"), (0, .methodref 8 11), (0, .nameAndType 5 12), (0, u "([III)V"), (0, .methodref 8 14), (0, .nameAndType 15 16), (0, u "copy"), (0, u "(I)V"), (0, .methodref 8 18), (0, .nameAndType 19 20), (0, u "vertexOf"), (0, u "(I)I"), (0, .class_ 22), (0, u "com/example/covey/covey/divisive/SplitLogCopyPinLaw"), (2, u "law"), (0, u "(IIIII)Z")] 5

def k1m0 : Method := { name := "<init>", desc := "()V", sig := { parameters := [], returnType := none }, accessFlags := 1, code := none }
def k1c1 : Code := { maxStack := 5, maxLocals := 12, code := code, exceptionTable := #[], attributes := #[] }
def k1m1 : Method := { name := "law", desc := "(IIIII)Z", sig := { parameters := [.int, .int, .int, .int, .int], returnType := some .boolean }, accessFlags := 9, code := some k1c1 }
/-- com/example/covey/covey/divisive/SplitLogCopyPinLaw -/
def k1 : Class := { plain "com/example/covey/covey/divisive/SplitLogCopyPinLaw" (some 0) with
  accessFlags := 49
  interfaces := #[]
  cf := some (fileOf pool1 21 #[] #[{ accessFlags := 1, nameIndex := 5, descriptorIndex := 6, attributes := #[] }, { accessFlags := 9, nameIndex := 25, descriptorIndex := 26, attributes := #[] }] 49 2 #[] #[])
  fields := #[]
  methods := #[k1m0, k1m1]
  instanceTypes := #[]
  staticTypes := #[]
  resolved := Array.replicate 32 none
  statics := none }

def pool2 : Array CpInfo := pool [(1, .methodref 2 3), (0, .class_ 4), (0, .nameAndType 5 6), (0, u "java/lang/Object"), (0, u "<init>"), (0, u "()V"), (0, .fieldref 8 9), (0, .class_ 10), (0, .nameAndType 11 12), (0, u "com/example/covey/covey/divisive/SplitLog"), (0, u "components"), (0, u "I"), (0, .fieldref 8 14), (0, .nameAndType 15 12), (0, u "copies"), (0, .fieldref 8 17), (0, .nameAndType 18 19), (0, u "nodeOf"), (0, u "[I"), (0, .methodref 21 22), (0, .class_ 23), (0, .nameAndType 24 25), (0, u "java/lang/System"), (0, u "arraycopy"), (0, u "(Ljava/lang/Object;ILjava/lang/Object;II)V"), (0, .fieldref 8 27), (0, .nameAndType 28 19), (0, u "vertexOf"), (0, .fieldref 8 30), (0, .nameAndType 31 12), (0, u "nodes"), (0, .fieldref 8 33), (0, .nameAndType 34 19), (0, u "parent"), (0, .fieldref 8 36), (0, .nameAndType 37 19), (0, u "firstPart"), (0, .fieldref 8 39), (0, .nameAndType 40 19), (0, u "secondPart"), (5, u "(I)V"), (2, u "splits"), (43, u "copy"), (17, u "([III)V"), (11, u "(I)I")] 26

def k2c0 : Code := { maxStack := 5, maxLocals := 5, code := prog_24_method_1_code, exceptionTable := #[], attributes := #[] }
def k2m0 : Method := { name := "<init>", desc := "([III)V", sig := { parameters := [(.array .int), .int, .int], returnType := none }, accessFlags := 0, code := some k2c0 }
def k2c1 : Code := { maxStack := 2, maxLocals := 2, code := prog_24_method_4_code, exceptionTable := #[], attributes := #[] }
def k2m1 : Method := { name := "vertexOf", desc := "(I)I", sig := { parameters := [.int], returnType := some .int }, accessFlags := 0, code := some k2c1 }
def k2c2 : Code := { maxStack := 4, maxLocals := 2, code := prog_24_method_6_code, exceptionTable := #[], attributes := #[] }
def k2m2 : Method := { name := "copy", desc := "(I)V", sig := { parameters := [.int], returnType := none }, accessFlags := 0, code := some k2c2 }
/-- com/example/covey/covey/divisive/SplitLog -/
def k2 : Class := { plain "com/example/covey/covey/divisive/SplitLog" (some 0) with
  accessFlags := 48
  interfaces := #[]
  cf := some (fileOf pool2 8 #[] #[{ accessFlags := 0, nameIndex := 5, descriptorIndex := 111, attributes := #[] }, { accessFlags := 0, nameIndex := 28, descriptorIndex := 123, attributes := #[] }, { accessFlags := 0, nameIndex := 93, descriptorIndex := 46, attributes := #[] }] 48 2 #[] #[{ accessFlags := 18, nameIndex := 18, descriptorIndex := 19, attributes := #[] }, { accessFlags := 18, nameIndex := 28, descriptorIndex := 19, attributes := #[] }, { accessFlags := 18, nameIndex := 11, descriptorIndex := 12, attributes := #[] }, { accessFlags := 2, nameIndex := 15, descriptorIndex := 12, attributes := #[] }, { accessFlags := 18, nameIndex := 34, descriptorIndex := 19, attributes := #[] }, { accessFlags := 18, nameIndex := 37, descriptorIndex := 19, attributes := #[] }, { accessFlags := 18, nameIndex := 40, descriptorIndex := 19, attributes := #[] }, { accessFlags := 2, nameIndex := 49, descriptorIndex := 12, attributes := #[] }, { accessFlags := 2, nameIndex := 31, descriptorIndex := 12, attributes := #[] }])
  fields := #[{ name := "nodeOf", type := (.array .int), accessFlags := 18, slot := 0, constantValue := 0 }, { name := "vertexOf", type := (.array .int), accessFlags := 18, slot := 1, constantValue := 0 }, { name := "components", type := .int, accessFlags := 18, slot := 2, constantValue := 0 }, { name := "copies", type := .int, accessFlags := 2, slot := 3, constantValue := 0 }, { name := "parent", type := (.array .int), accessFlags := 18, slot := 4, constantValue := 0 }, { name := "firstPart", type := (.array .int), accessFlags := 18, slot := 5, constantValue := 0 }, { name := "secondPart", type := (.array .int), accessFlags := 18, slot := 6, constantValue := 0 }, { name := "splits", type := .int, accessFlags := 2, slot := 7, constantValue := 0 }, { name := "nodes", type := .int, accessFlags := 2, slot := 8, constantValue := 0 }]
  methods := #[k2m0, k2m1, k2m2]
  instanceTypes := #[(.array .int), (.array .int), .int, .int, (.array .int), (.array .int), (.array .int), .int, .int]
  staticTypes := #[]
  resolved := Array.replicate 150 none
  statics := none }

def pool3 : Array CpInfo := pool [(2, .class_ 4), (1, u "java/lang/Object"), (0, u "<init>"), (0, u "()V"), (1, .class_ 10), (1, u "java/lang/System"), (0, u "allowSecurityManager"), (0, u "I"), (16, u "cons"), (0, u "Ljava/io/Console;"), (77, .class_ 110), (1, u "java/lang/System$CallersHolder"), (43, u "initialErrStream"), (0, u "Ljava/io/PrintStream;"), (19, u "security"), (0, u "Ljava/lang/SecurityManager;"), (31, .class_ 209), (0, u "java/lang/System$1"), (7, u "props"), (0, u "Ljava/util/Properties;"), (2, u "lineSeparator"), (0, u "Ljava/lang/String;"), (96, .class_ 321), (1, u "java/lang/System$LoggerFinder"), (5, .class_ 328), (0, u "java/lang/System$Logger"), (67, u "err"), (2, u "out"), (91, u "notSupportedJnuEncoding"), (15, u "in"), (17, u "initialIn"), (0, u "Ljava/io/InputStream;"), (35, u "bootLayer"), (0, u "Ljava/lang/ModuleLayer;"), (99, .class_ 664), (0, u "java/lang/System$2"), (9, u "NEVER"), (2, u "MAYBE"), (49, u "arraycopy"), (0, u "(Ljava/lang/Object;ILjava/lang/Object;II)V"), (72, .class_ 802), (0, u "java/lang/System$Logger$Level")] 31

def k3m0 : Method := { name := "<init>", desc := "()V", sig := { parameters := [], returnType := none }, accessFlags := 2, code := none }
def k3m1 : Method := { name := "arraycopy", desc := "(Ljava/lang/Object;ILjava/lang/Object;II)V", sig := { parameters := [(.object "java/lang/Object"), .int, (.object "java/lang/Object"), .int, .int], returnType := none }, accessFlags := 265, code := none }
/-- java/lang/System -/
def k3 : Class := { plain "java/lang/System" (some 0) with
  accessFlags := 49
  interfaces := #[]
  cf := some (fileOf pool3 8 #[.nestMembers #[319, 327, 801, 108, 663, 208]] #[{ accessFlags := 2, nameIndex := 5, descriptorIndex := 6, attributes := #[] }, { accessFlags := 265, nameIndex := 727, descriptorIndex := 728, attributes := #[] }] 49 2 #[] #[{ accessFlags := 25, nameIndex := 507, descriptorIndex := 526, attributes := #[] }, { accessFlags := 25, nameIndex := 399, descriptorIndex := 155, attributes := #[] }, { accessFlags := 25, nameIndex := 396, descriptorIndex := 155, attributes := #[] }, { accessFlags := 10, nameIndex := 525, descriptorIndex := 526, attributes := #[] }, { accessFlags := 26, nameIndex := 674, descriptorIndex := 12, attributes := #[] }, { accessFlags := 26, nameIndex := 677, descriptorIndex := 12, attributes := #[] }, { accessFlags := 10, nameIndex := 11, descriptorIndex := 12, attributes := #[] }, { accessFlags := 74, nameIndex := 175, descriptorIndex := 176, attributes := #[] }, { accessFlags := 10, nameIndex := 491, descriptorIndex := 222, attributes := #[] }, { accessFlags := 74, nameIndex := 29, descriptorIndex := 30, attributes := #[] }, { accessFlags := 74, nameIndex := 154, descriptorIndex := 155, attributes := #[] }, { accessFlags := 10, nameIndex := 217, descriptorIndex := 218, attributes := #[] }, { accessFlags := 10, nameIndex := 221, descriptorIndex := 222, attributes := #[] }, { accessFlags := 8, nameIndex := 562, descriptorIndex := 563, attributes := #[] }])
  fields := #[{ name := "in", type := (.object "java/io/InputStream"), accessFlags := 25, slot := 0, constantValue := 0 }, { name := "out", type := (.object "java/io/PrintStream"), accessFlags := 25, slot := 1, constantValue := 0 }, { name := "err", type := (.object "java/io/PrintStream"), accessFlags := 25, slot := 2, constantValue := 0 }, { name := "initialIn", type := (.object "java/io/InputStream"), accessFlags := 10, slot := 3, constantValue := 0 }, { name := "NEVER", type := .int, accessFlags := 26, slot := 4, constantValue := 0 }, { name := "MAYBE", type := .int, accessFlags := 26, slot := 5, constantValue := 0 }, { name := "allowSecurityManager", type := .int, accessFlags := 10, slot := 6, constantValue := 0 }, { name := "security", type := (.object "java/lang/SecurityManager"), accessFlags := 74, slot := 7, constantValue := 0 }, { name := "notSupportedJnuEncoding", type := (.object "java/lang/String"), accessFlags := 10, slot := 8, constantValue := 0 }, { name := "cons", type := (.object "java/io/Console"), accessFlags := 74, slot := 9, constantValue := 0 }, { name := "initialErrStream", type := (.object "java/io/PrintStream"), accessFlags := 74, slot := 10, constantValue := 0 }, { name := "props", type := (.object "java/util/Properties"), accessFlags := 10, slot := 11, constantValue := 0 }, { name := "lineSeparator", type := (.object "java/lang/String"), accessFlags := 10, slot := 12, constantValue := 0 }, { name := "bootLayer", type := (.object "java/lang/ModuleLayer"), accessFlags := 8, slot := 13, constantValue := 0 }]
  methods := #[k3m0, k3m1]
  instanceTypes := #[]
  staticTypes := #[(.object "java/io/InputStream"), (.object "java/io/PrintStream"), (.object "java/io/PrintStream"), (.object "java/io/InputStream"), .int, .int, .int, (.object "java/lang/SecurityManager"), (.object "java/lang/String"), (.object "java/io/Console"), (.object "java/io/PrintStream"), (.object "java/util/Properties"), (.object "java/lang/String"), (.object "java/lang/ModuleLayer")]
  resolved := Array.replicate 834 none
  statics := none }

def pool4 : Array CpInfo := pool [(1, u "java/lang/Cloneable"), (0, .class_ 1), (0, u "java/lang/Object"), (0, .class_ 3)] 3

/-- java/lang/Cloneable -/
def k4 : Class := { plain "java/lang/Cloneable" (some 0) with
  accessFlags := 1537
  interfaces := #[]
  cf := some (fileOf pool4 2 #[] #[] 1537 4 #[] #[])
  fields := #[]
  methods := #[]
  instanceTypes := #[]
  staticTypes := #[]
  resolved := Array.replicate 8 none
  statics := none }

def pool5 : Array CpInfo := pool [(1, u "java/io/Serializable"), (0, .class_ 1), (0, u "java/lang/Object"), (0, .class_ 3)] 3

/-- java/io/Serializable -/
def k5 : Class := { plain "java/io/Serializable" (some 0) with
  accessFlags := 1537
  interfaces := #[]
  cf := some (fileOf pool5 2 #[] #[] 1537 4 #[] #[])
  fields := #[]
  methods := #[]
  instanceTypes := #[]
  staticTypes := #[]
  resolved := Array.replicate 8 none
  statics := none }

/-- the primitive byte -/
def k6 : Class := { plain "byte" none with kind := .primitive 'B', accessFlags := 0x411 }
/-- [B -/
def k7 : Class := { plain "[B" (some 0) with kind := .array 6 .byte, interfaces := #[4, 5], accessFlags := 1041 }

/-- the primitive int -/
def k8 : Class := { plain "int" none with kind := .primitive 'I', accessFlags := 0x411 }
/-- [I -/
def k9 : Class := { plain "[I" (some 0) with kind := .array 8 .int, interfaces := #[4, 5], accessFlags := 1041 }

def heap : Heap := #[]
def classes : Array Class := #[k0, k1, k2, k3, k4, k5, k6, k7, k8, k9]
def interned : List (Array UInt16 × Addr) := []
def slotsUsed : Nat := 0
def theMethod : MethodId := ⟨1, 1⟩
def args0 : Array Value := #[.int 5, .int 70000, .int 4, .int 7, .int 9]
def aboutOver (below : List Frame) : State where
  vm := { classes := classes, interned := interned.toArray }
  heap := heap
  slotsUsed := slotsUsed
  threads := #[{ frames := .invoking theMethod args0 :: below }]
def below0 : List Frame := [.native { method := ⟨0, 0⟩, args := #[] }]
def about1 : State := aboutOver below0
def p0 : Program := .bare "" "" ""
def e0 : Env := launch0.env 0 0 0
theorem w_frames : about1.frames = Frame.invoking theMethod args0 :: below0 := rfl
set_option maxRecDepth 65536 in
theorem w_args : argsFit about1.vm theMethod args0 = true := by decide +kernel
set_option maxRecDepth 65536 in
theorem w_heap : heapFits about1 = true := by decide +kernel
set_option maxRecDepth 65536 in
theorem w_runnable : about1.curStatus? = some .runnable := by decide +kernel
set_option maxRecDepth 65536 in
theorem w_alone : about1.alone = true := by decide +kernel
set_option maxRecDepth 65536 in
theorem w_named : about1.methodNamed? x = some theMethod := by decide +kernel
set_option maxRecDepth 65536 in
theorem w_hears : about1.hears theMethod below0 = true := by decide +kernel
set_option maxRecDepth 65536 in
theorem w_ripe : about1.ripe theMethod args0 below0 = true := by decide +kernel
theorem w_running : about1.status = .running := rfl
set_option maxRecDepth 65536 in
theorem w_room : about1.hasRoom e0.platform room_1 = true :=
  launch0.hasRoom_least _ room_1 (by decide +kernel) (by decide +kernel) (by decide +kernel) (by decide +kernel) (by decide +kernel) (by decide +kernel)
theorem allAtoms_all (ts : List Jvm.Cond) (a : Array Jvm.Value) (st : Jvm.State) : (allAtoms ts).before a st = ts.all (fun c => c.before a st) := by
  induction ts with
  | nil => rfl
  | cons c t ih =>
    show (Jvm.Cond.and c (allAtoms t)).before a st = _
    rw [Jvm.Cond.before_and, ih, List.all_cons]
def words1 : List Jvm.Cond := Jvm.Cond.code x code maxLocals ret :: tables_1
/-- a 'code' word, met by the world's own term for the bytes: nothing is compared byte by byte -/
theorem code_word {y : MethodName} {bytes : ByteArray} {mx : Nat} {rt : Option FieldType} {a : Array Value} {s : State} {m : MethodId} {meth : Method} {c : Code} (h1 : s.methodNamed? y = some m) (h2 : s.vm.method? m = some meth) (h3 : meth.code = some c) (h4 : c.code = bytes)
    (h5 : (c.maxLocals == mx && c.exceptionTable.isEmpty && decide (c.maxStack ≤ mostOperands) && decide (meth.sig.returnType = rt) && !meth.locks && decide (parseMethodDescriptor y.desc = some meth.sig)) = true) : (Jvm.Cond.code y bytes mx rt).before a s = true := by
  simp only [Bool.and_eq_true, beq_iff_eq, Bool.not_eq_true', decide_eq_true_eq] at h5
  obtain ⟨⟨⟨⟨⟨g1, g2⟩, g3⟩, g4⟩, g5⟩, g6⟩ := h5
  simp [Cond.before, Cond.holds, Cond.value, h1, h2, h3, h4, g1, g2, g3, g4, g5, g6]
def isCode : Jvm.Cond → Bool
  | .code _ _ _ _ => true
  | _ => false
theorem all_split {L : List Jvm.Cond} {P : Jvm.Cond → Bool} (h1 : L.all (fun c => isCode c || P c) = true) (h2 : ∀ c ∈ L.filter isCode, P c = true) : L.all P = true := by
  refine List.all_eq_true.mpr fun c hc => ?_
  have h := List.all_eq_true.mp h1 c hc
  rcases Bool.eq_false_or_eq_true (isCode c) with hi | hi
  · exact h2 c (List.mem_filter.mpr ⟨hc, hi⟩)
  · simpa [hi] using h
set_option maxRecDepth 65536 in
theorem w_c0 : (Jvm.Cond.code x code maxLocals ret).before args0 about1 = true := code_word (m := ⟨1, 1⟩) (meth := k1m1) (c := k1c1) (by decide +kernel) rfl rfl rfl (by decide +kernel)
set_option maxRecDepth 65536 in
theorem w_c1 : (Jvm.Cond.code ({ cls := "com/example/covey/covey/divisive/SplitLog", name := "<init>", desc := "([III)V" } : Jvm.MethodName) prog_24_method_1_code (5 : Nat) (Option.none : Option Jvm.ClassFile.FieldType)).before args0 about1 = true := code_word (m := ⟨2, 0⟩) (meth := k2m0) (c := k2c0) (by decide +kernel) rfl rfl rfl (by decide +kernel)
set_option maxRecDepth 65536 in
theorem w_c2 : (Jvm.Cond.code ({ cls := "java/lang/Object", name := "<init>", desc := "()V" } : Jvm.MethodName) object_method_1_code (1 : Nat) (Option.none : Option Jvm.ClassFile.FieldType)).before args0 about1 = true := code_word (m := ⟨0, 0⟩) (meth := k0m0) (c := k0c0) (by decide +kernel) rfl rfl rfl (by decide +kernel)
set_option maxRecDepth 65536 in
theorem w_c3 : (Jvm.Cond.code ({ cls := "com/example/covey/covey/divisive/SplitLog", name := "copy", desc := "(I)V" } : Jvm.MethodName) prog_24_method_6_code (2 : Nat) (Option.none : Option Jvm.ClassFile.FieldType)).before args0 about1 = true := code_word (m := ⟨2, 2⟩) (meth := k2m2) (c := k2c2) (by decide +kernel) rfl rfl rfl (by decide +kernel)
set_option maxRecDepth 65536 in
theorem w_c4 : (Jvm.Cond.code ({ cls := "com/example/covey/covey/divisive/SplitLog", name := "vertexOf", desc := "(I)I" } : Jvm.MethodName) prog_24_method_4_code (2 : Nat) (Option.some Jvm.ClassFile.FieldType.int)).before args0 about1 = true := code_word (m := ⟨2, 1⟩) (meth := k2m1) (c := k2c1) (by decide +kernel) rfl rfl rfl (by decide +kernel)
def codes1 : List Jvm.Cond := [Jvm.Cond.code x code maxLocals ret, Jvm.Cond.code ({ cls := "com/example/covey/covey/divisive/SplitLog", name := "<init>", desc := "([III)V" } : Jvm.MethodName) prog_24_method_1_code (5 : Nat) (Option.none : Option Jvm.ClassFile.FieldType), Jvm.Cond.code ({ cls := "java/lang/Object", name := "<init>", desc := "()V" } : Jvm.MethodName) object_method_1_code (1 : Nat) (Option.none : Option Jvm.ClassFile.FieldType), Jvm.Cond.code ({ cls := "com/example/covey/covey/divisive/SplitLog", name := "copy", desc := "(I)V" } : Jvm.MethodName) prog_24_method_6_code (2 : Nat) (Option.none : Option Jvm.ClassFile.FieldType), Jvm.Cond.code ({ cls := "com/example/covey/covey/divisive/SplitLog", name := "vertexOf", desc := "(I)I" } : Jvm.MethodName) prog_24_method_4_code (2 : Nat) (Option.some Jvm.ClassFile.FieldType.int)]
set_option maxRecDepth 65536 in
theorem codes_eq : words1.filter isCode = codes1 := rfl
theorem w_codes : ∀ c ∈ words1.filter isCode, c.before args0 about1 = true := by
  rw [codes_eq]
  intro c hc
  simp only [codes1, List.mem_cons, List.not_mem_nil, or_false] at hc
  rcases hc with rfl | rfl | rfl | rfl | rfl
  · exact w_c0
  · exact w_c1
  · exact w_c2
  · exact w_c3
  · exact w_c4
set_option maxRecDepth 65536 in
theorem w_t1 : (words1.take 24).all (fun c => isCode c || c.before args0 about1) = true := by decide +kernel
set_option maxRecDepth 65536 in
theorem w_t2 : (words1.drop 24).all (fun c => isCode c || c.before args0 about1) = true := by decide +kernel
theorem w_tables : (allAtoms (Jvm.Cond.code x code maxLocals ret :: tables_1)).before args0 about1 = true := by
  rw [allAtoms_all]
  show words1.all (fun c => c.before args0 about1) = true
  refine all_split ?_ w_codes
  rw [← List.take_append_drop 24 words1, List.all_append, w_t1, w_t2]
  rfl
set_option maxRecDepth 65536 in
theorem w_case : (Jvm.Cond.and given_1 narrow_1).before args0 about1 = true := by decide +kernel
theorem w_applies : (headSpec (Jvm.Cond.code x code maxLocals ret :: tables_1) room_1).applies x e0.platform about1 = true :=
  (Spec.applies_iff w_frames).mpr ⟨w_running, w_runnable, w_alone, w_named, w_hears, w_ripe, w_room, w_tables⟩
theorem atStart : AtStart classFile x code maxLocals ret World_1 tables_1 room_1 Calls_1 rest_1 Pre_1 launch0 p0 e0 about1 theMethod args0 below0 :=
  ⟨lists_1, trivial, launch0.admits_env _ _ _, launch0.least_env, fairChoices_fair.cas, fairChoices_fair.clock, w_frames, w_args, w_heap, w_applies, trivial, trivial, w_case⟩
end start1
theorem witness_1 : WitnessClaimed_1 := ⟨start1.p0, start1.e0, start1.about1, start1.theMethod, start1.args0, start1.below0, start1.atStart⟩
end Jvm.Pilot.@@N@@
