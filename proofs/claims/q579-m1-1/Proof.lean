import JvmDerived
import JvmDerived.Pilot.@@N@@Statement
import JvmDerived.Pilot.@@N@@Code
set_option linter.unusedVariables false
set_option linter.unusedSimpArgs false
namespace Jvm.RoadKit
open Sem ClassFile Op Lib Jvm.Stand Jvm.Free Jvm.LawKit
section New
variable {p : Program} {l : Launch} {e : Env} {R : Room} {s : State} {m : MethodId} {args : Array Value} {below : List Frame} {meth : Method} {c : Code} {T : State} {locs : List Loc} {cells slots : Nat}
theorem retI (X : Stand p l e R s m args below meth c T locs cells slots) (hx : p.tables.exec = Jvm.exec) {pc : Nat} {Ls : Array Slot} {z : Int32} {rest : List Value} (hret : meth.sig.returnType = some .int) (hd : decode c.code pc = .ok (.ireturn, 1)) {fs : List Frame}
    (hl : ∀ (f : JFrame) (acts : List Action), f.method = m → f.locked = none → f.entered = [] → (doReturn e (T.setTop f) acts (some (.int z))).1 = T.setFrames fs) : Steps p.tables e below (T.setTop (mkF m pc Ls (.int z :: rest))) (T.setFrames fs) := by
  have hm' : T.vm.method? m = some meth := X.method'
  have hn : narrow .int (.int z) = .int z := rfl
  show Steps p.tables e below (T.setTop { method := m, pc := pc, locals := Ls, stack := _ :: rest, locked := none }) _
  jvm_step X.here [X.here.top, hx, hd, hm', hret, hn]
  first | (intro acts; rw [hl _ acts rfl rfl rfl]) | rw [hl _ _ rfl rfl rfl]
  exact Steps.refl _
end New
end Jvm.RoadKit
namespace Jvm.Pilot.@@N@@
open Jvm Jvm.ClassFile Sem Op Lib Jvm.Free Jvm.Stand Jvm.LawKit Jvm.RoadKit Bundle Jvm.Pilot.@@N@@.Jvm.D
theorem own_n (x : Int32) : ((x &&& (3 : Int32)) % (3 : Int32)) = (0 : Int32) ∨ ((x &&& (3 : Int32)) % (3 : Int32)) = (1 : Int32) ∨ ((x &&& (3 : Int32)) % (3 : Int32)) = (2 : Int32) := by
  have a : (x &&& (3 : Int32)).toInt = x.toInt % (2 ^ 2 : Nat) := c_mask x 3 2 (by decide) (by decide)
  have b := (c_irem (x &&& (3 : Int32)) 3 3 (by decide)).1 (by omega)
  have k0 : (0 : Int32).toInt = 0 := by decide
  have k1 : (1 : Int32).toInt = 1 := by decide
  have k2 : (2 : Int32).toInt = 2 := by decide
  have : ((x &&& (3 : Int32)) % (3 : Int32)).toInt = 0 ∨ ((x &&& (3 : Int32)) % (3 : Int32)).toInt = 1 ∨ ((x &&& (3 : Int32)) % (3 : Int32)).toInt = 2 := by omega
  rcases this with h | h | h
  · exact Or.inl (Int32.toInt_inj.mp (by rw [h, k0]))
  · exact Or.inr (Or.inl (Int32.toInt_inj.mp (by rw [h, k1])))
  · exact Or.inr (Or.inr (Int32.toInt_inj.mp (by rw [h, k2])))
def own_one (ua ub : Int64) : Int32 := if ub < ua then 0 else 1
def own_two (ua ub uc ud : Int64) : Int32 := if ub < ua then 0 else if ud < uc then 0 else 1
theorem own_pn0 : plainName "com/example/gavelwright/gavelwright/WelfareMaximizer" = true := by first | (simp [plainName, overriddenIn]; done) | decide +kernel
theorem dF00_0 : decode prog_50_method_11_code 0 = .ok (.iconst 0, 1) := by decide +kernel
theorem dF00_1 : decode prog_50_method_11_code 1 = .ok (.istore_n 2, 1) := by decide +kernel
theorem dF00_2 : decode prog_50_method_11_code 2 = .ok (.iload_n 2, 1) := by decide +kernel
theorem dF00_3 : decode prog_50_method_11_code 3 = .ok (.aload_n 1, 1) := by decide +kernel
theorem dF00_4 : decode prog_50_method_11_code 4 = .ok (.arraylength, 1) := by decide +kernel
theorem dF00_5 : decode prog_50_method_11_code 5 = .ok (.if_icmp .ge 21, 3) := by decide +kernel
theorem dF00_26 : decode prog_50_method_11_code 26 = .ok (.iconst 1, 1) := by decide +kernel
theorem dF00_27 : decode prog_50_method_11_code 27 = .ok (.ireturn, 1) := by decide +kernel
theorem efF00 (m : MethodId) (oa : Addr) (ob : Addr) : entryFrame m #[(.ref oa), (.ref ob)] 3 = mkF m 0 #[.val (.ref oa), .val (.ref ob), .unset] [] := by first | (simp [entryFrame, mkF, argsToLocals, Value.category]; done) | rfl
def QF00 (Z : State) (oa : Addr) (ob : Addr) (k_oa : ClassId) (k_ob : ClassId) (h0 : Heap) (n0 : Nat) (v : Option Value) (h : Heap) (L : List Loc) : Prop := v = some (.int (1 : Int32)) ∧ Fr n0 L ∧ h = h0
set_option maxRecDepth 65536 in
set_option maxHeartbeats 40000000 in
theorem rmF00 (l : Launch) (Z : State) (a0 : Array Value) (hw : ∀ d ∈ tables_1, d.before a0 Z = true) (ws : List Jvm.Cond) (oa : Addr) (ob : Addr) (k_oa : ClassId) (k_ob : ClassId) (h0 : Heap) (n0 : Nat) (Z0 : n0 ≤ h0.size) (V_oa : Arv Z h0 oa k_oa .long (0 : Int32) [] (.long (0 : Int64))) (V_ob : Arv Z h0 ob k_ob .long (0 : Int32) [] (.long (0 : Int64))) :
    MetFree l (⟨"com/example/gavelwright/gavelwright/WelfareMaximizer", "fits", "([J[J)Z"⟩ : MethodName) (head1 (Jvm.Cond.code (⟨"com/example/gavelwright/gavelwright/WelfareMaximizer", "fits", "([J[J)Z"⟩ : MethodName) prog_50_method_11_code 3 (some .boolean) :: ws) ({ frames := 0, cells := 0, slots := 0, locals := 0 } : Room)) (fun av_ U => av_ = #[(.ref oa), (.ref ob)] ∧ Z.Warmed39 U.vm ∧ U.heap = h0) (fun _ _ _ _ _ => True) (fun _ U o U' => ∃ v L, o = .returned v ∧ QF00 Z oa ob k_oa k_ob h0 n0 v U'.heap L ∧ FrameEnd U o U' L ({ frames := 0, cells := 0, slots := 0, locals := 0 } : Room).cells ({ frames := 0, cells := 0, slots := 0, locals := 0 } : Room).slots) := by
  refine MetFree.of_bodySF (plainFor_of_name own_pn0) hisR ?_
  intro p e s m args below meth c s₁ Bd hml0 hP hK
  obtain ⟨rfl, hZ, hh⟩ := hP
  have hx := Bd.exec
  have hby := Bd.bytes
  have hml : c.maxLocals = 3 := hml0
  have hown : s.vm.findClass "com/example/gavelwright/gavelwright/WelfareMaximizer" = some m.cls := findClass_of_methodNamed Bd.named
  have hnm := (name_of_methodNamed Bd.named Bd.method).1
  have X0 : Stand p l e ({ frames := 0, cells := 0, slots := 0, locals := 0 } : Room) s m #[(.ref oa), (.ref ob)] below meth c s₁ [] 0 0 := Stand.of_body Bd
  have e0 : s₁.heap = h0 := by rw [← hh, Bd.state]; rfl
  have N0 := Fr.nil n0
  have pre0 : ∀ t, Steps p.tables e below (s₁.setTop (mkF m 0 #[.val (.ref oa), .val (.ref ob), .unset] [])) t → Steps p.tables e below (s₁.setTop (entryFrame m #[(.ref oa), (.ref ob)] 3)) t := fun t k => castTop (efF00 m oa ob) k
  obtain ⟨cl1, Ar1, q1, S1, M1, Hs1, G1⟩ := (id V_ob)
  obtain ⟨fs, hr, hrun, hended, hW, hsame⟩ := X0.leave (v := some (.int (1 : Int32))) (fun h => by rw [Bd.returns] at h; cases h)
  refine ⟨_, _, (pre0 _ ?_), hrun, hended, _, _, rfl, ?_, ⟨_, rfl⟩, hW, hsame.mono (by decide) (by decide)⟩
  · show Steps p.tables e below (s₁.setTop (mkF m 0 #[.val (.ref oa), .val (.ref ob), .unset] [])) _
    refine XS.iconst X0.here hx rfl (hb hby dF00_0) ?_
    show Steps p.tables e below (s₁.setTop (mkF m 1 #[.val (.ref oa), .val (.ref ob), .unset] [(.int (0 : Int32))])) _
    refine XS.istoreN X0.here hx rfl (hb hby dF00_1) rfl (l' := #[.val (.ref oa), .val (.ref ob), .val (.int (0 : Int32))]) rfl ?_
    show Steps p.tables e below (s₁.setTop (mkF m 2 #[.val (.ref oa), .val (.ref ob), .val (.int (0 : Int32))] [])) _
    refine XS.iloadN X0.here hx rfl (hb hby dF00_2) rfl ?_
    show Steps p.tables e below (s₁.setTop (mkF m 3 #[.val (.ref oa), .val (.ref ob), .val (.int (0 : Int32))] [(.int (0 : Int32))])) _
    refine XS.aloadN X0.here hx rfl (hb hby dF00_3) rfl rfl ?_
    show Steps p.tables e below (s₁.setTop (mkF m 4 #[.val (.ref oa), .val (.ref ob), .val (.int (0 : Int32))] [(.ref ob), (.int (0 : Int32))])) _
    refine X0.arraylength hx (by rw [e0]; exact Ar1.1) (State.isArrayOf_alike hZ.alike Ar1.2.1) (g := (mkF m 4 #[.val (.ref oa), .val (.ref ob), .val (.int (0 : Int32))] [(.ref ob), (.int (0 : Int32))])) rfl rfl (hb hby dF00_4) _ ?_
    rw [len_of S1 M1]
    show Steps p.tables e below (s₁.setTop (mkF m 5 #[.val (.ref oa), .val (.ref ob), .val (.int (0 : Int32))] [(.int (0 : Int32)), (.int (0 : Int32))])) _
    refine XS.icmpYes X0.here hx rfl (pc0 := 5) (pc' := 26) rfl (hb hby dF00_5) rfl (flt (by decide : ¬ ((0 : Int32) < (0 : Int32)))).2.1 (by decide) (by decide) ?_
    show Steps p.tables e below (s₁.setTop (mkF m 26 #[.val (.ref oa), .val (.ref ob), .val (.int (0 : Int32))] [])) _
    refine XS.iconst X0.here hx rfl (hb hby dF00_26) ?_
    show Steps p.tables e below (s₁.setTop (mkF m 27 #[.val (.ref oa), .val (.ref ob), .val (.int (0 : Int32))] [(.int (1 : Int32))])) _
    exact retN X0 hx (t := .boolean) Bd.returns (by simp) (hb hby dF00_27) hr
  · show QF00 Z oa ob k_oa k_ob h0 n0 _ s₁.heap _
    rw [e0]
    exact ⟨rfl, N0, rfl⟩
theorem dF01_0 : decode prog_50_method_11_code 0 = .ok (.iconst 0, 1) := by decide +kernel
theorem dF01_1 : decode prog_50_method_11_code 1 = .ok (.istore_n 2, 1) := by decide +kernel
theorem dF01_2 : decode prog_50_method_11_code 2 = .ok (.iload_n 2, 1) := by decide +kernel
theorem dF01_3 : decode prog_50_method_11_code 3 = .ok (.aload_n 1, 1) := by decide +kernel
theorem dF01_4 : decode prog_50_method_11_code 4 = .ok (.arraylength, 1) := by decide +kernel
theorem dF01_5 : decode prog_50_method_11_code 5 = .ok (.if_icmp .ge 21, 3) := by decide +kernel
theorem dF01_26 : decode prog_50_method_11_code 26 = .ok (.iconst 1, 1) := by decide +kernel
theorem dF01_27 : decode prog_50_method_11_code 27 = .ok (.ireturn, 1) := by decide +kernel
theorem efF01 (m : MethodId) (oa : Addr) (ob : Addr) : entryFrame m #[(.ref oa), (.ref ob)] 3 = mkF m 0 #[.val (.ref oa), .val (.ref ob), .unset] [] := by first | (simp [entryFrame, mkF, argsToLocals, Value.category]; done) | rfl
def QF01 (Z : State) (oa : Addr) (ob : Addr) (ue : Int64) (k_oa : ClassId) (k_ob : ClassId) (h0 : Heap) (n0 : Nat) (v : Option Value) (h : Heap) (L : List Loc) : Prop := v = some (.int (1 : Int32)) ∧ Fr n0 L ∧ h = h0
set_option maxRecDepth 65536 in
set_option maxHeartbeats 40000000 in
theorem rmF01 (l : Launch) (Z : State) (a0 : Array Value) (hw : ∀ d ∈ tables_1, d.before a0 Z = true) (ws : List Jvm.Cond) (oa : Addr) (ob : Addr) (ue : Int64) (k_oa : ClassId) (k_ob : ClassId) (h0 : Heap) (n0 : Nat) (Z0 : n0 ≤ h0.size) (V_oa : Arv Z h0 oa k_oa .long (1 : Int32) [(.long ue)] (.long (0 : Int64))) (V_ob : Arv Z h0 ob k_ob .long (0 : Int32) [] (.long (0 : Int64))) :
    MetFree l (⟨"com/example/gavelwright/gavelwright/WelfareMaximizer", "fits", "([J[J)Z"⟩ : MethodName) (head1 (Jvm.Cond.code (⟨"com/example/gavelwright/gavelwright/WelfareMaximizer", "fits", "([J[J)Z"⟩ : MethodName) prog_50_method_11_code 3 (some .boolean) :: ws) ({ frames := 0, cells := 0, slots := 0, locals := 0 } : Room)) (fun av_ U => av_ = #[(.ref oa), (.ref ob)] ∧ Z.Warmed39 U.vm ∧ U.heap = h0) (fun _ _ _ _ _ => True) (fun _ U o U' => ∃ v L, o = .returned v ∧ QF01 Z oa ob ue k_oa k_ob h0 n0 v U'.heap L ∧ FrameEnd U o U' L ({ frames := 0, cells := 0, slots := 0, locals := 0 } : Room).cells ({ frames := 0, cells := 0, slots := 0, locals := 0 } : Room).slots) := by
  refine MetFree.of_bodySF (plainFor_of_name own_pn0) hisR ?_
  intro p e s m args below meth c s₁ Bd hml0 hP hK
  obtain ⟨rfl, hZ, hh⟩ := hP
  have hx := Bd.exec
  have hby := Bd.bytes
  have hml : c.maxLocals = 3 := hml0
  have hown : s.vm.findClass "com/example/gavelwright/gavelwright/WelfareMaximizer" = some m.cls := findClass_of_methodNamed Bd.named
  have hnm := (name_of_methodNamed Bd.named Bd.method).1
  have X0 : Stand p l e ({ frames := 0, cells := 0, slots := 0, locals := 0 } : Room) s m #[(.ref oa), (.ref ob)] below meth c s₁ [] 0 0 := Stand.of_body Bd
  have e0 : s₁.heap = h0 := by rw [← hh, Bd.state]; rfl
  have N0 := Fr.nil n0
  have pre0 : ∀ t, Steps p.tables e below (s₁.setTop (mkF m 0 #[.val (.ref oa), .val (.ref ob), .unset] [])) t → Steps p.tables e below (s₁.setTop (entryFrame m #[(.ref oa), (.ref ob)] 3)) t := fun t k => castTop (efF01 m oa ob) k
  obtain ⟨cl1, Ar1, q1, S1, M1, Hs1, G1⟩ := (id V_ob)
  obtain ⟨fs, hr, hrun, hended, hW, hsame⟩ := X0.leave (v := some (.int (1 : Int32))) (fun h => by rw [Bd.returns] at h; cases h)
  refine ⟨_, _, (pre0 _ ?_), hrun, hended, _, _, rfl, ?_, ⟨_, rfl⟩, hW, hsame.mono (by decide) (by decide)⟩
  · show Steps p.tables e below (s₁.setTop (mkF m 0 #[.val (.ref oa), .val (.ref ob), .unset] [])) _
    refine XS.iconst X0.here hx rfl (hb hby dF01_0) ?_
    show Steps p.tables e below (s₁.setTop (mkF m 1 #[.val (.ref oa), .val (.ref ob), .unset] [(.int (0 : Int32))])) _
    refine XS.istoreN X0.here hx rfl (hb hby dF01_1) rfl (l' := #[.val (.ref oa), .val (.ref ob), .val (.int (0 : Int32))]) rfl ?_
    show Steps p.tables e below (s₁.setTop (mkF m 2 #[.val (.ref oa), .val (.ref ob), .val (.int (0 : Int32))] [])) _
    refine XS.iloadN X0.here hx rfl (hb hby dF01_2) rfl ?_
    show Steps p.tables e below (s₁.setTop (mkF m 3 #[.val (.ref oa), .val (.ref ob), .val (.int (0 : Int32))] [(.int (0 : Int32))])) _
    refine XS.aloadN X0.here hx rfl (hb hby dF01_3) rfl rfl ?_
    show Steps p.tables e below (s₁.setTop (mkF m 4 #[.val (.ref oa), .val (.ref ob), .val (.int (0 : Int32))] [(.ref ob), (.int (0 : Int32))])) _
    refine X0.arraylength hx (by rw [e0]; exact Ar1.1) (State.isArrayOf_alike hZ.alike Ar1.2.1) (g := (mkF m 4 #[.val (.ref oa), .val (.ref ob), .val (.int (0 : Int32))] [(.ref ob), (.int (0 : Int32))])) rfl rfl (hb hby dF01_4) _ ?_
    rw [len_of S1 M1]
    show Steps p.tables e below (s₁.setTop (mkF m 5 #[.val (.ref oa), .val (.ref ob), .val (.int (0 : Int32))] [(.int (0 : Int32)), (.int (0 : Int32))])) _
    refine XS.icmpYes X0.here hx rfl (pc0 := 5) (pc' := 26) rfl (hb hby dF01_5) rfl (flt (by decide : ¬ ((0 : Int32) < (0 : Int32)))).2.1 (by decide) (by decide) ?_
    show Steps p.tables e below (s₁.setTop (mkF m 26 #[.val (.ref oa), .val (.ref ob), .val (.int (0 : Int32))] [])) _
    refine XS.iconst X0.here hx rfl (hb hby dF01_26) ?_
    show Steps p.tables e below (s₁.setTop (mkF m 27 #[.val (.ref oa), .val (.ref ob), .val (.int (0 : Int32))] [(.int (1 : Int32))])) _
    exact retN X0 hx (t := .boolean) Bd.returns (by simp) (hb hby dF01_27) hr
  · show QF01 Z oa ob ue k_oa k_ob h0 n0 _ s₁.heap _
    rw [e0]
    exact ⟨rfl, N0, rfl⟩
theorem dF10_0 : decode prog_50_method_11_code 0 = .ok (.iconst 0, 1) := by decide +kernel
theorem dF10_1 : decode prog_50_method_11_code 1 = .ok (.istore_n 2, 1) := by decide +kernel
theorem dF10_2 : decode prog_50_method_11_code 2 = .ok (.iload_n 2, 1) := by decide +kernel
theorem dF10_3 : decode prog_50_method_11_code 3 = .ok (.aload_n 1, 1) := by decide +kernel
theorem dF10_4 : decode prog_50_method_11_code 4 = .ok (.arraylength, 1) := by decide +kernel
theorem dF10_5 : decode prog_50_method_11_code 5 = .ok (.if_icmp .ge 21, 3) := by decide +kernel
theorem dF10_8 : decode prog_50_method_11_code 8 = .ok (.aload_n 0, 1) := by decide +kernel
theorem dF10_9 : decode prog_50_method_11_code 9 = .ok (.iload_n 2, 1) := by decide +kernel
theorem dF10_10 : decode prog_50_method_11_code 10 = .ok (.laload, 1) := by decide +kernel
theorem dF10_11 : decode prog_50_method_11_code 11 = .ok (.aload_n 1, 1) := by decide +kernel
theorem dF10_12 : decode prog_50_method_11_code 12 = .ok (.iload_n 2, 1) := by decide +kernel
theorem dF10_13 : decode prog_50_method_11_code 13 = .ok (.laload, 1) := by decide +kernel
theorem dF10_14 : decode prog_50_method_11_code 14 = .ok (.lcmp, 1) := by decide +kernel
theorem dF10_15 : decode prog_50_method_11_code 15 = .ok (.ifCond .le 5, 3) := by decide +kernel
theorem dF10_18 : decode prog_50_method_11_code 18 = .ok (.iconst 0, 1) := by decide +kernel
theorem dF10_19 : decode prog_50_method_11_code 19 = .ok (.ireturn, 1) := by decide +kernel
theorem dF10_20 : decode prog_50_method_11_code 20 = .ok (.iinc 2 1, 3) := by decide +kernel
theorem dF10_23 : decode prog_50_method_11_code 23 = .ok (.goto (-21), 3) := by decide +kernel
theorem dF10_26 : decode prog_50_method_11_code 26 = .ok (.iconst 1, 1) := by decide +kernel
theorem dF10_27 : decode prog_50_method_11_code 27 = .ok (.ireturn, 1) := by decide +kernel
theorem efF10 (m : MethodId) (oa : Addr) (ob : Addr) : entryFrame m #[(.ref oa), (.ref ob)] 3 = mkF m 0 #[.val (.ref oa), .val (.ref ob), .unset] [] := by first | (simp [entryFrame, mkF, argsToLocals, Value.category]; done) | rfl
def QF10 (Z : State) (oa : Addr) (ob : Addr) (ua : Int64) (ub : Int64) (k_oa : ClassId) (k_ob : ClassId) (h0 : Heap) (n0 : Nat) (v : Option Value) (h : Heap) (L : List Loc) : Prop := v = some (.int (own_one ua ub)) ∧ Fr n0 L ∧ h = h0
set_option maxRecDepth 65536 in
set_option maxHeartbeats 40000000 in
theorem rmF10 (l : Launch) (Z : State) (a0 : Array Value) (hw : ∀ d ∈ tables_1, d.before a0 Z = true) (ws : List Jvm.Cond) (oa : Addr) (ob : Addr) (ua : Int64) (ub : Int64) (k_oa : ClassId) (k_ob : ClassId) (h0 : Heap) (n0 : Nat) (Z0 : n0 ≤ h0.size) (V_oa : Arv Z h0 oa k_oa .long (1 : Int32) [(.long ua)] (.long (0 : Int64))) (V_ob : Arv Z h0 ob k_ob .long (1 : Int32) [(.long ub)] (.long (0 : Int64))) :
    MetFree l (⟨"com/example/gavelwright/gavelwright/WelfareMaximizer", "fits", "([J[J)Z"⟩ : MethodName) (head1 (Jvm.Cond.code (⟨"com/example/gavelwright/gavelwright/WelfareMaximizer", "fits", "([J[J)Z"⟩ : MethodName) prog_50_method_11_code 3 (some .boolean) :: ws) ({ frames := 0, cells := 0, slots := 0, locals := 0 } : Room)) (fun av_ U => av_ = #[(.ref oa), (.ref ob)] ∧ Z.Warmed39 U.vm ∧ U.heap = h0) (fun _ _ _ _ _ => True) (fun _ U o U' => ∃ v L, o = .returned v ∧ QF10 Z oa ob ua ub k_oa k_ob h0 n0 v U'.heap L ∧ FrameEnd U o U' L ({ frames := 0, cells := 0, slots := 0, locals := 0 } : Room).cells ({ frames := 0, cells := 0, slots := 0, locals := 0 } : Room).slots) := by
  refine MetFree.of_bodySF (plainFor_of_name own_pn0) hisR ?_
  intro p e s m args below meth c s₁ Bd hml0 hP hK
  obtain ⟨rfl, hZ, hh⟩ := hP
  have hx := Bd.exec
  have hby := Bd.bytes
  have hml : c.maxLocals = 3 := hml0
  have hown : s.vm.findClass "com/example/gavelwright/gavelwright/WelfareMaximizer" = some m.cls := findClass_of_methodNamed Bd.named
  have hnm := (name_of_methodNamed Bd.named Bd.method).1
  have X0 : Stand p l e ({ frames := 0, cells := 0, slots := 0, locals := 0 } : Room) s m #[(.ref oa), (.ref ob)] below meth c s₁ [] 0 0 := Stand.of_body Bd
  have e0 : s₁.heap = h0 := by rw [← hh, Bd.state]; rfl
  have N0 := Fr.nil n0
  have pre0 : ∀ t, Steps p.tables e below (s₁.setTop (mkF m 0 #[.val (.ref oa), .val (.ref ob), .unset] [])) t → Steps p.tables e below (s₁.setTop (entryFrame m #[(.ref oa), (.ref ob)] 3)) t := fun t k => castTop (efF10 m oa ob) k
  obtain ⟨cl1, Ar1, q1, S1, M1, Hs1, G1⟩ := (id V_ob)
  obtain ⟨cl2, Ar2, q2, S2, M2, Hs2, G2⟩ := (id V_oa)
  have hin2 : ¬ ((0 : Int32) < 0 ∨ cl2.slots.size ≤ ((0 : Int32)).toNatClampNeg) := inb_of S2 ⟨by decide, by decide⟩
  have hat2 : cl2.slots[((0 : Int32)).toNatClampNeg]? = some (.long ua) := Hs2.at hin2 rfl
  obtain ⟨cl3, Ar3, q3, S3, M3, Hs3, G3⟩ := (id V_ob)
  have hin3 : ¬ ((0 : Int32) < 0 ∨ cl3.slots.size ≤ ((0 : Int32)).toNatClampNeg) := inb_of S3 ⟨by decide, by decide⟩
  have hat3 : cl3.slots[((0 : Int32)).toNatClampNeg]? = some (.long ub) := Hs3.at hin3 rfl
  have r4 : ∀ t, Steps p.tables e below (s₁.setTop (mkF m 15 #[.val (.ref oa), .val (.ref ob), .val (.int (0 : Int32))] [(.int (lcmpW ua ub))])) t → Steps p.tables e below (s₁.setTop (mkF m 0 #[.val (.ref oa), .val (.ref ob), .unset] [])) t := fun t kt => by
    show Steps p.tables e below (s₁.setTop (mkF m 0 #[.val (.ref oa), .val (.ref ob), .unset] [])) _
    refine XS.iconst X0.here hx rfl (hb hby dF10_0) ?_
    show Steps p.tables e below (s₁.setTop (mkF m 1 #[.val (.ref oa), .val (.ref ob), .unset] [(.int (0 : Int32))])) _
    refine XS.istoreN X0.here hx rfl (hb hby dF10_1) rfl (l' := #[.val (.ref oa), .val (.ref ob), .val (.int (0 : Int32))]) rfl ?_
    show Steps p.tables e below (s₁.setTop (mkF m 2 #[.val (.ref oa), .val (.ref ob), .val (.int (0 : Int32))] [])) _
    refine XS.iloadN X0.here hx rfl (hb hby dF10_2) rfl ?_
    show Steps p.tables e below (s₁.setTop (mkF m 3 #[.val (.ref oa), .val (.ref ob), .val (.int (0 : Int32))] [(.int (0 : Int32))])) _
    refine XS.aloadN X0.here hx rfl (hb hby dF10_3) rfl rfl ?_
    show Steps p.tables e below (s₁.setTop (mkF m 4 #[.val (.ref oa), .val (.ref ob), .val (.int (0 : Int32))] [(.ref ob), (.int (0 : Int32))])) _
    refine X0.arraylength hx (by rw [e0]; exact Ar1.1) (State.isArrayOf_alike hZ.alike Ar1.2.1) (g := (mkF m 4 #[.val (.ref oa), .val (.ref ob), .val (.int (0 : Int32))] [(.ref ob), (.int (0 : Int32))])) rfl rfl (hb hby dF10_4) _ ?_
    rw [len_of S1 M1]
    show Steps p.tables e below (s₁.setTop (mkF m 5 #[.val (.ref oa), .val (.ref ob), .val (.int (0 : Int32))] [(.int (1 : Int32)), (.int (0 : Int32))])) _
    refine XS.icmpNo X0.here hx rfl (hb hby dF10_5) rfl (tlt (by decide : (0 : Int32) < (1 : Int32))).2.1 ?_
    show Steps p.tables e below (s₁.setTop (mkF m 8 #[.val (.ref oa), .val (.ref ob), .val (.int (0 : Int32))] [])) _
    refine XS.aloadN X0.here hx rfl (hb hby dF10_8) rfl rfl ?_
    show Steps p.tables e below (s₁.setTop (mkF m 9 #[.val (.ref oa), .val (.ref ob), .val (.int (0 : Int32))] [(.ref oa)])) _
    refine XS.iloadN X0.here hx rfl (hb hby dF10_9) rfl ?_
    show Steps p.tables e below (s₁.setTop (mkF m 10 #[.val (.ref oa), .val (.ref ob), .val (.int (0 : Int32))] [(.int (0 : Int32)), (.ref oa)])) _
    refine X0.laload hx (j := (0 : Int32)) (v := (.long ua)) (by rw [e0]; exact Ar2.1) (State.isArrayOf_alike hZ.alike Ar2.2.1) Ar2.2.2 hin2 hat2 (g := (mkF m 10 #[.val (.ref oa), .val (.ref ob), .val (.int (0 : Int32))] [(.int (0 : Int32)), (.ref oa)])) rfl rfl (hb hby dF10_10) _ ?_
    show Steps p.tables e below (s₁.setTop (mkF m 11 #[.val (.ref oa), .val (.ref ob), .val (.int (0 : Int32))] [(.long ua)])) _
    refine XS.aloadN X0.here hx rfl (hb hby dF10_11) rfl rfl ?_
    show Steps p.tables e below (s₁.setTop (mkF m 12 #[.val (.ref oa), .val (.ref ob), .val (.int (0 : Int32))] [(.ref ob), (.long ua)])) _
    refine XS.iloadN X0.here hx rfl (hb hby dF10_12) rfl ?_
    show Steps p.tables e below (s₁.setTop (mkF m 13 #[.val (.ref oa), .val (.ref ob), .val (.int (0 : Int32))] [(.int (0 : Int32)), (.ref ob), (.long ua)])) _
    refine X0.laload hx (j := (0 : Int32)) (v := (.long ub)) (by rw [e0]; exact Ar3.1) (State.isArrayOf_alike hZ.alike Ar3.2.1) Ar3.2.2 hin3 hat3 (g := (mkF m 13 #[.val (.ref oa), .val (.ref ob), .val (.int (0 : Int32))] [(.int (0 : Int32)), (.ref ob), (.long ua)])) rfl rfl (hb hby dF10_13) _ ?_
    show Steps p.tables e below (s₁.setTop (mkF m 14 #[.val (.ref oa), .val (.ref ob), .val (.int (0 : Int32))] [(.long ub), (.long ua)])) _
    refine XS.lcmp X0.here hx rfl (hb hby dF10_14) rfl ?_
    exact kt
  by_cases hc5 : ub < ua
  · obtain ⟨fs, hr, hrun, hended, hW, hsame⟩ := X0.leave (v := some (.int (0 : Int32))) (fun h => by rw [Bd.returns] at h; cases h)
    refine ⟨_, _, (pre0 _ (r4 _ ?_)), hrun, hended, _, _, rfl, ?_, ⟨_, rfl⟩, hW, hsame.mono (by decide) (by decide)⟩
    · show Steps p.tables e below (s₁.setTop (mkF m 15 #[.val (.ref oa), .val (.ref ob), .val (.int (0 : Int32))] [(.int (lcmpW ua ub))])) _
      refine XS.ifNo X0.here hx rfl (hb hby dF10_15) rfl ((if0 _ _).trans (tlt ((lw_gt _ _).mpr hc5)).2.2.2) ?_
      show Steps p.tables e below (s₁.setTop (mkF m 18 #[.val (.ref oa), .val (.ref ob), .val (.int (0 : Int32))] [])) _
      refine XS.iconst X0.here hx rfl (hb hby dF10_18) ?_
      show Steps p.tables e below (s₁.setTop (mkF m 19 #[.val (.ref oa), .val (.ref ob), .val (.int (0 : Int32))] [(.int (0 : Int32))])) _
      exact retN X0 hx (t := .boolean) Bd.returns (by simp) (hb hby dF10_19) hr
    · show QF10 Z oa ob ua ub k_oa k_ob h0 n0 _ s₁.heap _
      rw [e0]
      exact ⟨(by simp [own_one, hc5]), N0, rfl⟩
  · obtain ⟨cl6, Ar6, q6, S6, M6, Hs6, G6⟩ := (id V_ob)
    obtain ⟨fs, hr, hrun, hended, hW, hsame⟩ := X0.leave (v := some (.int (1 : Int32))) (fun h => by rw [Bd.returns] at h; cases h)
    refine ⟨_, _, (pre0 _ (r4 _ ?_)), hrun, hended, _, _, rfl, ?_, ⟨_, rfl⟩, hW, hsame.mono (by decide) (by decide)⟩
    · show Steps p.tables e below (s₁.setTop (mkF m 15 #[.val (.ref oa), .val (.ref ob), .val (.int (0 : Int32))] [(.int (lcmpW ua ub))])) _
      refine XS.ifYes X0.here hx rfl (pc0 := 15) (pc' := 20) rfl (hb hby dF10_15) rfl ((if0 _ _).trans (flt (fun q => hc5 ((lw_gt _ _).mp q))).2.2.2) (by decide) (by decide) ?_
      show Steps p.tables e below (s₁.setTop (mkF m 20 #[.val (.ref oa), .val (.ref ob), .val (.int (0 : Int32))] [])) _
      refine XS.iinc X0.here hx rfl (hb hby dF10_20) rfl (l' := #[.val (.ref oa), .val (.ref ob), .val (.int (1 : Int32))]) rfl ?_
      show Steps p.tables e below (s₁.setTop (mkF m 23 #[.val (.ref oa), .val (.ref ob), .val (.int (1 : Int32))] [])) _
      refine XS.goto X0.here hx rfl (pc0 := 23) (pc' := 2) rfl (hb hby dF10_23) (by decide) (by decide) ?_
      show Steps p.tables e below (s₁.setTop (mkF m 2 #[.val (.ref oa), .val (.ref ob), .val (.int (1 : Int32))] [])) _
      refine XS.iloadN X0.here hx rfl (hb hby dF10_2) rfl ?_
      show Steps p.tables e below (s₁.setTop (mkF m 3 #[.val (.ref oa), .val (.ref ob), .val (.int (1 : Int32))] [(.int (1 : Int32))])) _
      refine XS.aloadN X0.here hx rfl (hb hby dF10_3) rfl rfl ?_
      show Steps p.tables e below (s₁.setTop (mkF m 4 #[.val (.ref oa), .val (.ref ob), .val (.int (1 : Int32))] [(.ref ob), (.int (1 : Int32))])) _
      refine X0.arraylength hx (by rw [e0]; exact Ar6.1) (State.isArrayOf_alike hZ.alike Ar6.2.1) (g := (mkF m 4 #[.val (.ref oa), .val (.ref ob), .val (.int (1 : Int32))] [(.ref ob), (.int (1 : Int32))])) rfl rfl (hb hby dF10_4) _ ?_
      rw [len_of S6 M6]
      show Steps p.tables e below (s₁.setTop (mkF m 5 #[.val (.ref oa), .val (.ref ob), .val (.int (1 : Int32))] [(.int (1 : Int32)), (.int (1 : Int32))])) _
      refine XS.icmpYes X0.here hx rfl (pc0 := 5) (pc' := 26) rfl (hb hby dF10_5) rfl (flt (by decide : ¬ ((1 : Int32) < (1 : Int32)))).2.1 (by decide) (by decide) ?_
      show Steps p.tables e below (s₁.setTop (mkF m 26 #[.val (.ref oa), .val (.ref ob), .val (.int (1 : Int32))] [])) _
      refine XS.iconst X0.here hx rfl (hb hby dF10_26) ?_
      show Steps p.tables e below (s₁.setTop (mkF m 27 #[.val (.ref oa), .val (.ref ob), .val (.int (1 : Int32))] [(.int (1 : Int32))])) _
      exact retN X0 hx (t := .boolean) Bd.returns (by simp) (hb hby dF10_27) hr
    · show QF10 Z oa ob ua ub k_oa k_ob h0 n0 _ s₁.heap _
      rw [e0]
      exact ⟨(by simp [own_one, hc5]), N0, rfl⟩
theorem dF11_0 : decode prog_50_method_11_code 0 = .ok (.iconst 0, 1) := by decide +kernel
theorem dF11_1 : decode prog_50_method_11_code 1 = .ok (.istore_n 2, 1) := by decide +kernel
theorem dF11_2 : decode prog_50_method_11_code 2 = .ok (.iload_n 2, 1) := by decide +kernel
theorem dF11_3 : decode prog_50_method_11_code 3 = .ok (.aload_n 1, 1) := by decide +kernel
theorem dF11_4 : decode prog_50_method_11_code 4 = .ok (.arraylength, 1) := by decide +kernel
theorem dF11_5 : decode prog_50_method_11_code 5 = .ok (.if_icmp .ge 21, 3) := by decide +kernel
theorem dF11_8 : decode prog_50_method_11_code 8 = .ok (.aload_n 0, 1) := by decide +kernel
theorem dF11_9 : decode prog_50_method_11_code 9 = .ok (.iload_n 2, 1) := by decide +kernel
theorem dF11_10 : decode prog_50_method_11_code 10 = .ok (.laload, 1) := by decide +kernel
theorem dF11_11 : decode prog_50_method_11_code 11 = .ok (.aload_n 1, 1) := by decide +kernel
theorem dF11_12 : decode prog_50_method_11_code 12 = .ok (.iload_n 2, 1) := by decide +kernel
theorem dF11_13 : decode prog_50_method_11_code 13 = .ok (.laload, 1) := by decide +kernel
theorem dF11_14 : decode prog_50_method_11_code 14 = .ok (.lcmp, 1) := by decide +kernel
theorem dF11_15 : decode prog_50_method_11_code 15 = .ok (.ifCond .le 5, 3) := by decide +kernel
theorem dF11_18 : decode prog_50_method_11_code 18 = .ok (.iconst 0, 1) := by decide +kernel
theorem dF11_19 : decode prog_50_method_11_code 19 = .ok (.ireturn, 1) := by decide +kernel
theorem dF11_20 : decode prog_50_method_11_code 20 = .ok (.iinc 2 1, 3) := by decide +kernel
theorem dF11_23 : decode prog_50_method_11_code 23 = .ok (.goto (-21), 3) := by decide +kernel
theorem dF11_26 : decode prog_50_method_11_code 26 = .ok (.iconst 1, 1) := by decide +kernel
theorem dF11_27 : decode prog_50_method_11_code 27 = .ok (.ireturn, 1) := by decide +kernel
theorem efF11 (m : MethodId) (oa : Addr) (ob : Addr) : entryFrame m #[(.ref oa), (.ref ob)] 3 = mkF m 0 #[.val (.ref oa), .val (.ref ob), .unset] [] := by first | (simp [entryFrame, mkF, argsToLocals, Value.category]; done) | rfl
def QF11 (Z : State) (oa : Addr) (ob : Addr) (ua : Int64) (ue : Int64) (ub : Int64) (k_oa : ClassId) (k_ob : ClassId) (h0 : Heap) (n0 : Nat) (v : Option Value) (h : Heap) (L : List Loc) : Prop := v = some (.int (own_one ua ub)) ∧ Fr n0 L ∧ h = h0
set_option maxRecDepth 65536 in
set_option maxHeartbeats 40000000 in
theorem rmF11 (l : Launch) (Z : State) (a0 : Array Value) (hw : ∀ d ∈ tables_1, d.before a0 Z = true) (ws : List Jvm.Cond) (oa : Addr) (ob : Addr) (ua : Int64) (ue : Int64) (ub : Int64) (k_oa : ClassId) (k_ob : ClassId) (h0 : Heap) (n0 : Nat) (Z0 : n0 ≤ h0.size) (V_oa : Arv Z h0 oa k_oa .long (2 : Int32) [(.long ua), (.long ue)] (.long (0 : Int64))) (V_ob : Arv Z h0 ob k_ob .long (1 : Int32) [(.long ub)] (.long (0 : Int64))) :
    MetFree l (⟨"com/example/gavelwright/gavelwright/WelfareMaximizer", "fits", "([J[J)Z"⟩ : MethodName) (head1 (Jvm.Cond.code (⟨"com/example/gavelwright/gavelwright/WelfareMaximizer", "fits", "([J[J)Z"⟩ : MethodName) prog_50_method_11_code 3 (some .boolean) :: ws) ({ frames := 0, cells := 0, slots := 0, locals := 0 } : Room)) (fun av_ U => av_ = #[(.ref oa), (.ref ob)] ∧ Z.Warmed39 U.vm ∧ U.heap = h0) (fun _ _ _ _ _ => True) (fun _ U o U' => ∃ v L, o = .returned v ∧ QF11 Z oa ob ua ue ub k_oa k_ob h0 n0 v U'.heap L ∧ FrameEnd U o U' L ({ frames := 0, cells := 0, slots := 0, locals := 0 } : Room).cells ({ frames := 0, cells := 0, slots := 0, locals := 0 } : Room).slots) := by
  refine MetFree.of_bodySF (plainFor_of_name own_pn0) hisR ?_
  intro p e s m args below meth c s₁ Bd hml0 hP hK
  obtain ⟨rfl, hZ, hh⟩ := hP
  have hx := Bd.exec
  have hby := Bd.bytes
  have hml : c.maxLocals = 3 := hml0
  have hown : s.vm.findClass "com/example/gavelwright/gavelwright/WelfareMaximizer" = some m.cls := findClass_of_methodNamed Bd.named
  have hnm := (name_of_methodNamed Bd.named Bd.method).1
  have X0 : Stand p l e ({ frames := 0, cells := 0, slots := 0, locals := 0 } : Room) s m #[(.ref oa), (.ref ob)] below meth c s₁ [] 0 0 := Stand.of_body Bd
  have e0 : s₁.heap = h0 := by rw [← hh, Bd.state]; rfl
  have N0 := Fr.nil n0
  have pre0 : ∀ t, Steps p.tables e below (s₁.setTop (mkF m 0 #[.val (.ref oa), .val (.ref ob), .unset] [])) t → Steps p.tables e below (s₁.setTop (entryFrame m #[(.ref oa), (.ref ob)] 3)) t := fun t k => castTop (efF11 m oa ob) k
  obtain ⟨cl1, Ar1, q1, S1, M1, Hs1, G1⟩ := (id V_ob)
  obtain ⟨cl2, Ar2, q2, S2, M2, Hs2, G2⟩ := (id V_oa)
  have hin2 : ¬ ((0 : Int32) < 0 ∨ cl2.slots.size ≤ ((0 : Int32)).toNatClampNeg) := inb_of S2 ⟨by decide, by decide⟩
  have hat2 : cl2.slots[((0 : Int32)).toNatClampNeg]? = some (.long ua) := Hs2.at hin2 rfl
  obtain ⟨cl3, Ar3, q3, S3, M3, Hs3, G3⟩ := (id V_ob)
  have hin3 : ¬ ((0 : Int32) < 0 ∨ cl3.slots.size ≤ ((0 : Int32)).toNatClampNeg) := inb_of S3 ⟨by decide, by decide⟩
  have hat3 : cl3.slots[((0 : Int32)).toNatClampNeg]? = some (.long ub) := Hs3.at hin3 rfl
  have r4 : ∀ t, Steps p.tables e below (s₁.setTop (mkF m 15 #[.val (.ref oa), .val (.ref ob), .val (.int (0 : Int32))] [(.int (lcmpW ua ub))])) t → Steps p.tables e below (s₁.setTop (mkF m 0 #[.val (.ref oa), .val (.ref ob), .unset] [])) t := fun t kt => by
    show Steps p.tables e below (s₁.setTop (mkF m 0 #[.val (.ref oa), .val (.ref ob), .unset] [])) _
    refine XS.iconst X0.here hx rfl (hb hby dF11_0) ?_
    show Steps p.tables e below (s₁.setTop (mkF m 1 #[.val (.ref oa), .val (.ref ob), .unset] [(.int (0 : Int32))])) _
    refine XS.istoreN X0.here hx rfl (hb hby dF11_1) rfl (l' := #[.val (.ref oa), .val (.ref ob), .val (.int (0 : Int32))]) rfl ?_
    show Steps p.tables e below (s₁.setTop (mkF m 2 #[.val (.ref oa), .val (.ref ob), .val (.int (0 : Int32))] [])) _
    refine XS.iloadN X0.here hx rfl (hb hby dF11_2) rfl ?_
    show Steps p.tables e below (s₁.setTop (mkF m 3 #[.val (.ref oa), .val (.ref ob), .val (.int (0 : Int32))] [(.int (0 : Int32))])) _
    refine XS.aloadN X0.here hx rfl (hb hby dF11_3) rfl rfl ?_
    show Steps p.tables e below (s₁.setTop (mkF m 4 #[.val (.ref oa), .val (.ref ob), .val (.int (0 : Int32))] [(.ref ob), (.int (0 : Int32))])) _
    refine X0.arraylength hx (by rw [e0]; exact Ar1.1) (State.isArrayOf_alike hZ.alike Ar1.2.1) (g := (mkF m 4 #[.val (.ref oa), .val (.ref ob), .val (.int (0 : Int32))] [(.ref ob), (.int (0 : Int32))])) rfl rfl (hb hby dF11_4) _ ?_
    rw [len_of S1 M1]
    show Steps p.tables e below (s₁.setTop (mkF m 5 #[.val (.ref oa), .val (.ref ob), .val (.int (0 : Int32))] [(.int (1 : Int32)), (.int (0 : Int32))])) _
    refine XS.icmpNo X0.here hx rfl (hb hby dF11_5) rfl (tlt (by decide : (0 : Int32) < (1 : Int32))).2.1 ?_
    show Steps p.tables e below (s₁.setTop (mkF m 8 #[.val (.ref oa), .val (.ref ob), .val (.int (0 : Int32))] [])) _
    refine XS.aloadN X0.here hx rfl (hb hby dF11_8) rfl rfl ?_
    show Steps p.tables e below (s₁.setTop (mkF m 9 #[.val (.ref oa), .val (.ref ob), .val (.int (0 : Int32))] [(.ref oa)])) _
    refine XS.iloadN X0.here hx rfl (hb hby dF11_9) rfl ?_
    show Steps p.tables e below (s₁.setTop (mkF m 10 #[.val (.ref oa), .val (.ref ob), .val (.int (0 : Int32))] [(.int (0 : Int32)), (.ref oa)])) _
    refine X0.laload hx (j := (0 : Int32)) (v := (.long ua)) (by rw [e0]; exact Ar2.1) (State.isArrayOf_alike hZ.alike Ar2.2.1) Ar2.2.2 hin2 hat2 (g := (mkF m 10 #[.val (.ref oa), .val (.ref ob), .val (.int (0 : Int32))] [(.int (0 : Int32)), (.ref oa)])) rfl rfl (hb hby dF11_10) _ ?_
    show Steps p.tables e below (s₁.setTop (mkF m 11 #[.val (.ref oa), .val (.ref ob), .val (.int (0 : Int32))] [(.long ua)])) _
    refine XS.aloadN X0.here hx rfl (hb hby dF11_11) rfl rfl ?_
    show Steps p.tables e below (s₁.setTop (mkF m 12 #[.val (.ref oa), .val (.ref ob), .val (.int (0 : Int32))] [(.ref ob), (.long ua)])) _
    refine XS.iloadN X0.here hx rfl (hb hby dF11_12) rfl ?_
    show Steps p.tables e below (s₁.setTop (mkF m 13 #[.val (.ref oa), .val (.ref ob), .val (.int (0 : Int32))] [(.int (0 : Int32)), (.ref ob), (.long ua)])) _
    refine X0.laload hx (j := (0 : Int32)) (v := (.long ub)) (by rw [e0]; exact Ar3.1) (State.isArrayOf_alike hZ.alike Ar3.2.1) Ar3.2.2 hin3 hat3 (g := (mkF m 13 #[.val (.ref oa), .val (.ref ob), .val (.int (0 : Int32))] [(.int (0 : Int32)), (.ref ob), (.long ua)])) rfl rfl (hb hby dF11_13) _ ?_
    show Steps p.tables e below (s₁.setTop (mkF m 14 #[.val (.ref oa), .val (.ref ob), .val (.int (0 : Int32))] [(.long ub), (.long ua)])) _
    refine XS.lcmp X0.here hx rfl (hb hby dF11_14) rfl ?_
    exact kt
  by_cases hc5 : ub < ua
  · obtain ⟨fs, hr, hrun, hended, hW, hsame⟩ := X0.leave (v := some (.int (0 : Int32))) (fun h => by rw [Bd.returns] at h; cases h)
    refine ⟨_, _, (pre0 _ (r4 _ ?_)), hrun, hended, _, _, rfl, ?_, ⟨_, rfl⟩, hW, hsame.mono (by decide) (by decide)⟩
    · show Steps p.tables e below (s₁.setTop (mkF m 15 #[.val (.ref oa), .val (.ref ob), .val (.int (0 : Int32))] [(.int (lcmpW ua ub))])) _
      refine XS.ifNo X0.here hx rfl (hb hby dF11_15) rfl ((if0 _ _).trans (tlt ((lw_gt _ _).mpr hc5)).2.2.2) ?_
      show Steps p.tables e below (s₁.setTop (mkF m 18 #[.val (.ref oa), .val (.ref ob), .val (.int (0 : Int32))] [])) _
      refine XS.iconst X0.here hx rfl (hb hby dF11_18) ?_
      show Steps p.tables e below (s₁.setTop (mkF m 19 #[.val (.ref oa), .val (.ref ob), .val (.int (0 : Int32))] [(.int (0 : Int32))])) _
      exact retN X0 hx (t := .boolean) Bd.returns (by simp) (hb hby dF11_19) hr
    · show QF11 Z oa ob ua ue ub k_oa k_ob h0 n0 _ s₁.heap _
      rw [e0]
      exact ⟨(by simp [own_one, hc5]), N0, rfl⟩
  · obtain ⟨cl6, Ar6, q6, S6, M6, Hs6, G6⟩ := (id V_ob)
    obtain ⟨fs, hr, hrun, hended, hW, hsame⟩ := X0.leave (v := some (.int (1 : Int32))) (fun h => by rw [Bd.returns] at h; cases h)
    refine ⟨_, _, (pre0 _ (r4 _ ?_)), hrun, hended, _, _, rfl, ?_, ⟨_, rfl⟩, hW, hsame.mono (by decide) (by decide)⟩
    · show Steps p.tables e below (s₁.setTop (mkF m 15 #[.val (.ref oa), .val (.ref ob), .val (.int (0 : Int32))] [(.int (lcmpW ua ub))])) _
      refine XS.ifYes X0.here hx rfl (pc0 := 15) (pc' := 20) rfl (hb hby dF11_15) rfl ((if0 _ _).trans (flt (fun q => hc5 ((lw_gt _ _).mp q))).2.2.2) (by decide) (by decide) ?_
      show Steps p.tables e below (s₁.setTop (mkF m 20 #[.val (.ref oa), .val (.ref ob), .val (.int (0 : Int32))] [])) _
      refine XS.iinc X0.here hx rfl (hb hby dF11_20) rfl (l' := #[.val (.ref oa), .val (.ref ob), .val (.int (1 : Int32))]) rfl ?_
      show Steps p.tables e below (s₁.setTop (mkF m 23 #[.val (.ref oa), .val (.ref ob), .val (.int (1 : Int32))] [])) _
      refine XS.goto X0.here hx rfl (pc0 := 23) (pc' := 2) rfl (hb hby dF11_23) (by decide) (by decide) ?_
      show Steps p.tables e below (s₁.setTop (mkF m 2 #[.val (.ref oa), .val (.ref ob), .val (.int (1 : Int32))] [])) _
      refine XS.iloadN X0.here hx rfl (hb hby dF11_2) rfl ?_
      show Steps p.tables e below (s₁.setTop (mkF m 3 #[.val (.ref oa), .val (.ref ob), .val (.int (1 : Int32))] [(.int (1 : Int32))])) _
      refine XS.aloadN X0.here hx rfl (hb hby dF11_3) rfl rfl ?_
      show Steps p.tables e below (s₁.setTop (mkF m 4 #[.val (.ref oa), .val (.ref ob), .val (.int (1 : Int32))] [(.ref ob), (.int (1 : Int32))])) _
      refine X0.arraylength hx (by rw [e0]; exact Ar6.1) (State.isArrayOf_alike hZ.alike Ar6.2.1) (g := (mkF m 4 #[.val (.ref oa), .val (.ref ob), .val (.int (1 : Int32))] [(.ref ob), (.int (1 : Int32))])) rfl rfl (hb hby dF11_4) _ ?_
      rw [len_of S6 M6]
      show Steps p.tables e below (s₁.setTop (mkF m 5 #[.val (.ref oa), .val (.ref ob), .val (.int (1 : Int32))] [(.int (1 : Int32)), (.int (1 : Int32))])) _
      refine XS.icmpYes X0.here hx rfl (pc0 := 5) (pc' := 26) rfl (hb hby dF11_5) rfl (flt (by decide : ¬ ((1 : Int32) < (1 : Int32)))).2.1 (by decide) (by decide) ?_
      show Steps p.tables e below (s₁.setTop (mkF m 26 #[.val (.ref oa), .val (.ref ob), .val (.int (1 : Int32))] [])) _
      refine XS.iconst X0.here hx rfl (hb hby dF11_26) ?_
      show Steps p.tables e below (s₁.setTop (mkF m 27 #[.val (.ref oa), .val (.ref ob), .val (.int (1 : Int32))] [(.int (1 : Int32))])) _
      exact retN X0 hx (t := .boolean) Bd.returns (by simp) (hb hby dF11_27) hr
    · show QF11 Z oa ob ua ue ub k_oa k_ob h0 n0 _ s₁.heap _
      rw [e0]
      exact ⟨(by simp [own_one, hc5]), N0, rfl⟩
theorem dF20_0 : decode prog_50_method_11_code 0 = .ok (.iconst 0, 1) := by decide +kernel
theorem dF20_1 : decode prog_50_method_11_code 1 = .ok (.istore_n 2, 1) := by decide +kernel
theorem dF20_2 : decode prog_50_method_11_code 2 = .ok (.iload_n 2, 1) := by decide +kernel
theorem dF20_3 : decode prog_50_method_11_code 3 = .ok (.aload_n 1, 1) := by decide +kernel
theorem dF20_4 : decode prog_50_method_11_code 4 = .ok (.arraylength, 1) := by decide +kernel
theorem dF20_5 : decode prog_50_method_11_code 5 = .ok (.if_icmp .ge 21, 3) := by decide +kernel
theorem dF20_8 : decode prog_50_method_11_code 8 = .ok (.aload_n 0, 1) := by decide +kernel
theorem dF20_9 : decode prog_50_method_11_code 9 = .ok (.iload_n 2, 1) := by decide +kernel
theorem dF20_10 : decode prog_50_method_11_code 10 = .ok (.laload, 1) := by decide +kernel
theorem dF20_11 : decode prog_50_method_11_code 11 = .ok (.aload_n 1, 1) := by decide +kernel
theorem dF20_12 : decode prog_50_method_11_code 12 = .ok (.iload_n 2, 1) := by decide +kernel
theorem dF20_13 : decode prog_50_method_11_code 13 = .ok (.laload, 1) := by decide +kernel
theorem dF20_14 : decode prog_50_method_11_code 14 = .ok (.lcmp, 1) := by decide +kernel
theorem dF20_15 : decode prog_50_method_11_code 15 = .ok (.ifCond .le 5, 3) := by decide +kernel
theorem dF20_18 : decode prog_50_method_11_code 18 = .ok (.iconst 0, 1) := by decide +kernel
theorem dF20_19 : decode prog_50_method_11_code 19 = .ok (.ireturn, 1) := by decide +kernel
theorem dF20_20 : decode prog_50_method_11_code 20 = .ok (.iinc 2 1, 3) := by decide +kernel
theorem dF20_23 : decode prog_50_method_11_code 23 = .ok (.goto (-21), 3) := by decide +kernel
theorem dF20_26 : decode prog_50_method_11_code 26 = .ok (.iconst 1, 1) := by decide +kernel
theorem dF20_27 : decode prog_50_method_11_code 27 = .ok (.ireturn, 1) := by decide +kernel
theorem efF20 (m : MethodId) (oa : Addr) (ob : Addr) : entryFrame m #[(.ref oa), (.ref ob)] 3 = mkF m 0 #[.val (.ref oa), .val (.ref ob), .unset] [] := by first | (simp [entryFrame, mkF, argsToLocals, Value.category]; done) | rfl
def QF20 (Z : State) (oa : Addr) (ob : Addr) (ua : Int64) (uc : Int64) (ub : Int64) (ud : Int64) (k_oa : ClassId) (k_ob : ClassId) (h0 : Heap) (n0 : Nat) (v : Option Value) (h : Heap) (L : List Loc) : Prop := v = some (.int (own_two ua ub uc ud)) ∧ Fr n0 L ∧ h = h0
set_option maxRecDepth 65536 in
set_option maxHeartbeats 40000000 in
theorem rmF20 (l : Launch) (Z : State) (a0 : Array Value) (hw : ∀ d ∈ tables_1, d.before a0 Z = true) (ws : List Jvm.Cond) (oa : Addr) (ob : Addr) (ua : Int64) (uc : Int64) (ub : Int64) (ud : Int64) (k_oa : ClassId) (k_ob : ClassId) (h0 : Heap) (n0 : Nat) (Z0 : n0 ≤ h0.size) (V_oa : Arv Z h0 oa k_oa .long (2 : Int32) [(.long ua), (.long uc)] (.long (0 : Int64))) (V_ob : Arv Z h0 ob k_ob .long (2 : Int32) [(.long ub), (.long ud)] (.long (0 : Int64))) :
    MetFree l (⟨"com/example/gavelwright/gavelwright/WelfareMaximizer", "fits", "([J[J)Z"⟩ : MethodName) (head1 (Jvm.Cond.code (⟨"com/example/gavelwright/gavelwright/WelfareMaximizer", "fits", "([J[J)Z"⟩ : MethodName) prog_50_method_11_code 3 (some .boolean) :: ws) ({ frames := 0, cells := 0, slots := 0, locals := 0 } : Room)) (fun av_ U => av_ = #[(.ref oa), (.ref ob)] ∧ Z.Warmed39 U.vm ∧ U.heap = h0) (fun _ _ _ _ _ => True) (fun _ U o U' => ∃ v L, o = .returned v ∧ QF20 Z oa ob ua uc ub ud k_oa k_ob h0 n0 v U'.heap L ∧ FrameEnd U o U' L ({ frames := 0, cells := 0, slots := 0, locals := 0 } : Room).cells ({ frames := 0, cells := 0, slots := 0, locals := 0 } : Room).slots) := by
  refine MetFree.of_bodySF (plainFor_of_name own_pn0) hisR ?_
  intro p e s m args below meth c s₁ Bd hml0 hP hK
  obtain ⟨rfl, hZ, hh⟩ := hP
  have hx := Bd.exec
  have hby := Bd.bytes
  have hml : c.maxLocals = 3 := hml0
  have hown : s.vm.findClass "com/example/gavelwright/gavelwright/WelfareMaximizer" = some m.cls := findClass_of_methodNamed Bd.named
  have hnm := (name_of_methodNamed Bd.named Bd.method).1
  have X0 : Stand p l e ({ frames := 0, cells := 0, slots := 0, locals := 0 } : Room) s m #[(.ref oa), (.ref ob)] below meth c s₁ [] 0 0 := Stand.of_body Bd
  have e0 : s₁.heap = h0 := by rw [← hh, Bd.state]; rfl
  have N0 := Fr.nil n0
  have pre0 : ∀ t, Steps p.tables e below (s₁.setTop (mkF m 0 #[.val (.ref oa), .val (.ref ob), .unset] [])) t → Steps p.tables e below (s₁.setTop (entryFrame m #[(.ref oa), (.ref ob)] 3)) t := fun t k => castTop (efF20 m oa ob) k
  obtain ⟨cl1, Ar1, q1, S1, M1, Hs1, G1⟩ := (id V_ob)
  obtain ⟨cl2, Ar2, q2, S2, M2, Hs2, G2⟩ := (id V_oa)
  have hin2 : ¬ ((0 : Int32) < 0 ∨ cl2.slots.size ≤ ((0 : Int32)).toNatClampNeg) := inb_of S2 ⟨by decide, by decide⟩
  have hat2 : cl2.slots[((0 : Int32)).toNatClampNeg]? = some (.long ua) := Hs2.at hin2 rfl
  obtain ⟨cl3, Ar3, q3, S3, M3, Hs3, G3⟩ := (id V_ob)
  have hin3 : ¬ ((0 : Int32) < 0 ∨ cl3.slots.size ≤ ((0 : Int32)).toNatClampNeg) := inb_of S3 ⟨by decide, by decide⟩
  have hat3 : cl3.slots[((0 : Int32)).toNatClampNeg]? = some (.long ub) := Hs3.at hin3 rfl
  have r4 : ∀ t, Steps p.tables e below (s₁.setTop (mkF m 15 #[.val (.ref oa), .val (.ref ob), .val (.int (0 : Int32))] [(.int (lcmpW ua ub))])) t → Steps p.tables e below (s₁.setTop (mkF m 0 #[.val (.ref oa), .val (.ref ob), .unset] [])) t := fun t kt => by
    show Steps p.tables e below (s₁.setTop (mkF m 0 #[.val (.ref oa), .val (.ref ob), .unset] [])) _
    refine XS.iconst X0.here hx rfl (hb hby dF20_0) ?_
    show Steps p.tables e below (s₁.setTop (mkF m 1 #[.val (.ref oa), .val (.ref ob), .unset] [(.int (0 : Int32))])) _
    refine XS.istoreN X0.here hx rfl (hb hby dF20_1) rfl (l' := #[.val (.ref oa), .val (.ref ob), .val (.int (0 : Int32))]) rfl ?_
    show Steps p.tables e below (s₁.setTop (mkF m 2 #[.val (.ref oa), .val (.ref ob), .val (.int (0 : Int32))] [])) _
    refine XS.iloadN X0.here hx rfl (hb hby dF20_2) rfl ?_
    show Steps p.tables e below (s₁.setTop (mkF m 3 #[.val (.ref oa), .val (.ref ob), .val (.int (0 : Int32))] [(.int (0 : Int32))])) _
    refine XS.aloadN X0.here hx rfl (hb hby dF20_3) rfl rfl ?_
    show Steps p.tables e below (s₁.setTop (mkF m 4 #[.val (.ref oa), .val (.ref ob), .val (.int (0 : Int32))] [(.ref ob), (.int (0 : Int32))])) _
    refine X0.arraylength hx (by rw [e0]; exact Ar1.1) (State.isArrayOf_alike hZ.alike Ar1.2.1) (g := (mkF m 4 #[.val (.ref oa), .val (.ref ob), .val (.int (0 : Int32))] [(.ref ob), (.int (0 : Int32))])) rfl rfl (hb hby dF20_4) _ ?_
    rw [len_of S1 M1]
    show Steps p.tables e below (s₁.setTop (mkF m 5 #[.val (.ref oa), .val (.ref ob), .val (.int (0 : Int32))] [(.int (2 : Int32)), (.int (0 : Int32))])) _
    refine XS.icmpNo X0.here hx rfl (hb hby dF20_5) rfl (tlt (by decide : (0 : Int32) < (2 : Int32))).2.1 ?_
    show Steps p.tables e below (s₁.setTop (mkF m 8 #[.val (.ref oa), .val (.ref ob), .val (.int (0 : Int32))] [])) _
    refine XS.aloadN X0.here hx rfl (hb hby dF20_8) rfl rfl ?_
    show Steps p.tables e below (s₁.setTop (mkF m 9 #[.val (.ref oa), .val (.ref ob), .val (.int (0 : Int32))] [(.ref oa)])) _
    refine XS.iloadN X0.here hx rfl (hb hby dF20_9) rfl ?_
    show Steps p.tables e below (s₁.setTop (mkF m 10 #[.val (.ref oa), .val (.ref ob), .val (.int (0 : Int32))] [(.int (0 : Int32)), (.ref oa)])) _
    refine X0.laload hx (j := (0 : Int32)) (v := (.long ua)) (by rw [e0]; exact Ar2.1) (State.isArrayOf_alike hZ.alike Ar2.2.1) Ar2.2.2 hin2 hat2 (g := (mkF m 10 #[.val (.ref oa), .val (.ref ob), .val (.int (0 : Int32))] [(.int (0 : Int32)), (.ref oa)])) rfl rfl (hb hby dF20_10) _ ?_
    show Steps p.tables e below (s₁.setTop (mkF m 11 #[.val (.ref oa), .val (.ref ob), .val (.int (0 : Int32))] [(.long ua)])) _
    refine XS.aloadN X0.here hx rfl (hb hby dF20_11) rfl rfl ?_
    show Steps p.tables e below (s₁.setTop (mkF m 12 #[.val (.ref oa), .val (.ref ob), .val (.int (0 : Int32))] [(.ref ob), (.long ua)])) _
    refine XS.iloadN X0.here hx rfl (hb hby dF20_12) rfl ?_
    show Steps p.tables e below (s₁.setTop (mkF m 13 #[.val (.ref oa), .val (.ref ob), .val (.int (0 : Int32))] [(.int (0 : Int32)), (.ref ob), (.long ua)])) _
    refine X0.laload hx (j := (0 : Int32)) (v := (.long ub)) (by rw [e0]; exact Ar3.1) (State.isArrayOf_alike hZ.alike Ar3.2.1) Ar3.2.2 hin3 hat3 (g := (mkF m 13 #[.val (.ref oa), .val (.ref ob), .val (.int (0 : Int32))] [(.int (0 : Int32)), (.ref ob), (.long ua)])) rfl rfl (hb hby dF20_13) _ ?_
    show Steps p.tables e below (s₁.setTop (mkF m 14 #[.val (.ref oa), .val (.ref ob), .val (.int (0 : Int32))] [(.long ub), (.long ua)])) _
    refine XS.lcmp X0.here hx rfl (hb hby dF20_14) rfl ?_
    exact kt
  by_cases hc5 : ub < ua
  · obtain ⟨fs, hr, hrun, hended, hW, hsame⟩ := X0.leave (v := some (.int (0 : Int32))) (fun h => by rw [Bd.returns] at h; cases h)
    refine ⟨_, _, (pre0 _ (r4 _ ?_)), hrun, hended, _, _, rfl, ?_, ⟨_, rfl⟩, hW, hsame.mono (by decide) (by decide)⟩
    · show Steps p.tables e below (s₁.setTop (mkF m 15 #[.val (.ref oa), .val (.ref ob), .val (.int (0 : Int32))] [(.int (lcmpW ua ub))])) _
      refine XS.ifNo X0.here hx rfl (hb hby dF20_15) rfl ((if0 _ _).trans (tlt ((lw_gt _ _).mpr hc5)).2.2.2) ?_
      show Steps p.tables e below (s₁.setTop (mkF m 18 #[.val (.ref oa), .val (.ref ob), .val (.int (0 : Int32))] [])) _
      refine XS.iconst X0.here hx rfl (hb hby dF20_18) ?_
      show Steps p.tables e below (s₁.setTop (mkF m 19 #[.val (.ref oa), .val (.ref ob), .val (.int (0 : Int32))] [(.int (0 : Int32))])) _
      exact retN X0 hx (t := .boolean) Bd.returns (by simp) (hb hby dF20_19) hr
    · show QF20 Z oa ob ua uc ub ud k_oa k_ob h0 n0 _ s₁.heap _
      rw [e0]
      exact ⟨(by simp [own_two, hc5]), N0, rfl⟩
  · obtain ⟨cl6, Ar6, q6, S6, M6, Hs6, G6⟩ := (id V_ob)
    obtain ⟨cl7, Ar7, q7, S7, M7, Hs7, G7⟩ := (id V_oa)
    have hin7 : ¬ ((1 : Int32) < 0 ∨ cl7.slots.size ≤ ((1 : Int32)).toNatClampNeg) := inb_of S7 ⟨by decide, by decide⟩
    have hat7 : cl7.slots[((1 : Int32)).toNatClampNeg]? = some (.long uc) := Hs7.at hin7 rfl
    obtain ⟨cl8, Ar8, q8, S8, M8, Hs8, G8⟩ := (id V_ob)
    have hin8 : ¬ ((1 : Int32) < 0 ∨ cl8.slots.size ≤ ((1 : Int32)).toNatClampNeg) := inb_of S8 ⟨by decide, by decide⟩
    have hat8 : cl8.slots[((1 : Int32)).toNatClampNeg]? = some (.long ud) := Hs8.at hin8 rfl
    have r9 : ∀ t, Steps p.tables e below (s₁.setTop (mkF m 15 #[.val (.ref oa), .val (.ref ob), .val (.int (1 : Int32))] [(.int (lcmpW uc ud))])) t → Steps p.tables e below (s₁.setTop (mkF m 15 #[.val (.ref oa), .val (.ref ob), .val (.int (0 : Int32))] [(.int (lcmpW ua ub))])) t := fun t kt => by
      show Steps p.tables e below (s₁.setTop (mkF m 15 #[.val (.ref oa), .val (.ref ob), .val (.int (0 : Int32))] [(.int (lcmpW ua ub))])) _
      refine XS.ifYes X0.here hx rfl (pc0 := 15) (pc' := 20) rfl (hb hby dF20_15) rfl ((if0 _ _).trans (flt (fun q => hc5 ((lw_gt _ _).mp q))).2.2.2) (by decide) (by decide) ?_
      show Steps p.tables e below (s₁.setTop (mkF m 20 #[.val (.ref oa), .val (.ref ob), .val (.int (0 : Int32))] [])) _
      refine XS.iinc X0.here hx rfl (hb hby dF20_20) rfl (l' := #[.val (.ref oa), .val (.ref ob), .val (.int (1 : Int32))]) rfl ?_
      show Steps p.tables e below (s₁.setTop (mkF m 23 #[.val (.ref oa), .val (.ref ob), .val (.int (1 : Int32))] [])) _
      refine XS.goto X0.here hx rfl (pc0 := 23) (pc' := 2) rfl (hb hby dF20_23) (by decide) (by decide) ?_
      show Steps p.tables e below (s₁.setTop (mkF m 2 #[.val (.ref oa), .val (.ref ob), .val (.int (1 : Int32))] [])) _
      refine XS.iloadN X0.here hx rfl (hb hby dF20_2) rfl ?_
      show Steps p.tables e below (s₁.setTop (mkF m 3 #[.val (.ref oa), .val (.ref ob), .val (.int (1 : Int32))] [(.int (1 : Int32))])) _
      refine XS.aloadN X0.here hx rfl (hb hby dF20_3) rfl rfl ?_
      show Steps p.tables e below (s₁.setTop (mkF m 4 #[.val (.ref oa), .val (.ref ob), .val (.int (1 : Int32))] [(.ref ob), (.int (1 : Int32))])) _
      refine X0.arraylength hx (by rw [e0]; exact Ar6.1) (State.isArrayOf_alike hZ.alike Ar6.2.1) (g := (mkF m 4 #[.val (.ref oa), .val (.ref ob), .val (.int (1 : Int32))] [(.ref ob), (.int (1 : Int32))])) rfl rfl (hb hby dF20_4) _ ?_
      rw [len_of S6 M6]
      show Steps p.tables e below (s₁.setTop (mkF m 5 #[.val (.ref oa), .val (.ref ob), .val (.int (1 : Int32))] [(.int (2 : Int32)), (.int (1 : Int32))])) _
      refine XS.icmpNo X0.here hx rfl (hb hby dF20_5) rfl (tlt (by decide : (1 : Int32) < (2 : Int32))).2.1 ?_
      show Steps p.tables e below (s₁.setTop (mkF m 8 #[.val (.ref oa), .val (.ref ob), .val (.int (1 : Int32))] [])) _
      refine XS.aloadN X0.here hx rfl (hb hby dF20_8) rfl rfl ?_
      show Steps p.tables e below (s₁.setTop (mkF m 9 #[.val (.ref oa), .val (.ref ob), .val (.int (1 : Int32))] [(.ref oa)])) _
      refine XS.iloadN X0.here hx rfl (hb hby dF20_9) rfl ?_
      show Steps p.tables e below (s₁.setTop (mkF m 10 #[.val (.ref oa), .val (.ref ob), .val (.int (1 : Int32))] [(.int (1 : Int32)), (.ref oa)])) _
      refine X0.laload hx (j := (1 : Int32)) (v := (.long uc)) (by rw [e0]; exact Ar7.1) (State.isArrayOf_alike hZ.alike Ar7.2.1) Ar7.2.2 hin7 hat7 (g := (mkF m 10 #[.val (.ref oa), .val (.ref ob), .val (.int (1 : Int32))] [(.int (1 : Int32)), (.ref oa)])) rfl rfl (hb hby dF20_10) _ ?_
      show Steps p.tables e below (s₁.setTop (mkF m 11 #[.val (.ref oa), .val (.ref ob), .val (.int (1 : Int32))] [(.long uc)])) _
      refine XS.aloadN X0.here hx rfl (hb hby dF20_11) rfl rfl ?_
      show Steps p.tables e below (s₁.setTop (mkF m 12 #[.val (.ref oa), .val (.ref ob), .val (.int (1 : Int32))] [(.ref ob), (.long uc)])) _
      refine XS.iloadN X0.here hx rfl (hb hby dF20_12) rfl ?_
      show Steps p.tables e below (s₁.setTop (mkF m 13 #[.val (.ref oa), .val (.ref ob), .val (.int (1 : Int32))] [(.int (1 : Int32)), (.ref ob), (.long uc)])) _
      refine X0.laload hx (j := (1 : Int32)) (v := (.long ud)) (by rw [e0]; exact Ar8.1) (State.isArrayOf_alike hZ.alike Ar8.2.1) Ar8.2.2 hin8 hat8 (g := (mkF m 13 #[.val (.ref oa), .val (.ref ob), .val (.int (1 : Int32))] [(.int (1 : Int32)), (.ref ob), (.long uc)])) rfl rfl (hb hby dF20_13) _ ?_
      show Steps p.tables e below (s₁.setTop (mkF m 14 #[.val (.ref oa), .val (.ref ob), .val (.int (1 : Int32))] [(.long ud), (.long uc)])) _
      refine XS.lcmp X0.here hx rfl (hb hby dF20_14) rfl ?_
      exact kt
    by_cases hc10 : ud < uc
    · obtain ⟨fs, hr, hrun, hended, hW, hsame⟩ := X0.leave (v := some (.int (0 : Int32))) (fun h => by rw [Bd.returns] at h; cases h)
      refine ⟨_, _, (pre0 _ (r4 _ (r9 _ ?_))), hrun, hended, _, _, rfl, ?_, ⟨_, rfl⟩, hW, hsame.mono (by decide) (by decide)⟩
      · show Steps p.tables e below (s₁.setTop (mkF m 15 #[.val (.ref oa), .val (.ref ob), .val (.int (1 : Int32))] [(.int (lcmpW uc ud))])) _
        refine XS.ifNo X0.here hx rfl (hb hby dF20_15) rfl ((if0 _ _).trans (tlt ((lw_gt _ _).mpr hc10)).2.2.2) ?_
        show Steps p.tables e below (s₁.setTop (mkF m 18 #[.val (.ref oa), .val (.ref ob), .val (.int (1 : Int32))] [])) _
        refine XS.iconst X0.here hx rfl (hb hby dF20_18) ?_
        show Steps p.tables e below (s₁.setTop (mkF m 19 #[.val (.ref oa), .val (.ref ob), .val (.int (1 : Int32))] [(.int (0 : Int32))])) _
        exact retN X0 hx (t := .boolean) Bd.returns (by simp) (hb hby dF20_19) hr
      · show QF20 Z oa ob ua uc ub ud k_oa k_ob h0 n0 _ s₁.heap _
        rw [e0]
        exact ⟨(by simp [own_two, hc5, hc10]), N0, rfl⟩
    · obtain ⟨cl11, Ar11, q11, S11, M11, Hs11, G11⟩ := (id V_ob)
      obtain ⟨fs, hr, hrun, hended, hW, hsame⟩ := X0.leave (v := some (.int (1 : Int32))) (fun h => by rw [Bd.returns] at h; cases h)
      refine ⟨_, _, (pre0 _ (r4 _ (r9 _ ?_))), hrun, hended, _, _, rfl, ?_, ⟨_, rfl⟩, hW, hsame.mono (by decide) (by decide)⟩
      · show Steps p.tables e below (s₁.setTop (mkF m 15 #[.val (.ref oa), .val (.ref ob), .val (.int (1 : Int32))] [(.int (lcmpW uc ud))])) _
        refine XS.ifYes X0.here hx rfl (pc0 := 15) (pc' := 20) rfl (hb hby dF20_15) rfl ((if0 _ _).trans (flt (fun q => hc10 ((lw_gt _ _).mp q))).2.2.2) (by decide) (by decide) ?_
        show Steps p.tables e below (s₁.setTop (mkF m 20 #[.val (.ref oa), .val (.ref ob), .val (.int (1 : Int32))] [])) _
        refine XS.iinc X0.here hx rfl (hb hby dF20_20) rfl (l' := #[.val (.ref oa), .val (.ref ob), .val (.int (2 : Int32))]) rfl ?_
        show Steps p.tables e below (s₁.setTop (mkF m 23 #[.val (.ref oa), .val (.ref ob), .val (.int (2 : Int32))] [])) _
        refine XS.goto X0.here hx rfl (pc0 := 23) (pc' := 2) rfl (hb hby dF20_23) (by decide) (by decide) ?_
        show Steps p.tables e below (s₁.setTop (mkF m 2 #[.val (.ref oa), .val (.ref ob), .val (.int (2 : Int32))] [])) _
        refine XS.iloadN X0.here hx rfl (hb hby dF20_2) rfl ?_
        show Steps p.tables e below (s₁.setTop (mkF m 3 #[.val (.ref oa), .val (.ref ob), .val (.int (2 : Int32))] [(.int (2 : Int32))])) _
        refine XS.aloadN X0.here hx rfl (hb hby dF20_3) rfl rfl ?_
        show Steps p.tables e below (s₁.setTop (mkF m 4 #[.val (.ref oa), .val (.ref ob), .val (.int (2 : Int32))] [(.ref ob), (.int (2 : Int32))])) _
        refine X0.arraylength hx (by rw [e0]; exact Ar11.1) (State.isArrayOf_alike hZ.alike Ar11.2.1) (g := (mkF m 4 #[.val (.ref oa), .val (.ref ob), .val (.int (2 : Int32))] [(.ref ob), (.int (2 : Int32))])) rfl rfl (hb hby dF20_4) _ ?_
        rw [len_of S11 M11]
        show Steps p.tables e below (s₁.setTop (mkF m 5 #[.val (.ref oa), .val (.ref ob), .val (.int (2 : Int32))] [(.int (2 : Int32)), (.int (2 : Int32))])) _
        refine XS.icmpYes X0.here hx rfl (pc0 := 5) (pc' := 26) rfl (hb hby dF20_5) rfl (flt (by decide : ¬ ((2 : Int32) < (2 : Int32)))).2.1 (by decide) (by decide) ?_
        show Steps p.tables e below (s₁.setTop (mkF m 26 #[.val (.ref oa), .val (.ref ob), .val (.int (2 : Int32))] [])) _
        refine XS.iconst X0.here hx rfl (hb hby dF20_26) ?_
        show Steps p.tables e below (s₁.setTop (mkF m 27 #[.val (.ref oa), .val (.ref ob), .val (.int (2 : Int32))] [(.int (1 : Int32))])) _
        exact retN X0 hx (t := .boolean) Bd.returns (by simp) (hb hby dF20_27) hr
      · show QF20 Z oa ob ua uc ub ud k_oa k_ob h0 n0 _ s₁.heap _
        rw [e0]
        exact ⟨(by simp [own_two, hc5, hc10]), N0, rfl⟩
theorem dF21_0 : decode prog_50_method_11_code 0 = .ok (.iconst 0, 1) := by decide +kernel
theorem dF21_1 : decode prog_50_method_11_code 1 = .ok (.istore_n 2, 1) := by decide +kernel
theorem dF21_2 : decode prog_50_method_11_code 2 = .ok (.iload_n 2, 1) := by decide +kernel
theorem dF21_3 : decode prog_50_method_11_code 3 = .ok (.aload_n 1, 1) := by decide +kernel
theorem dF21_4 : decode prog_50_method_11_code 4 = .ok (.arraylength, 1) := by decide +kernel
theorem dF21_5 : decode prog_50_method_11_code 5 = .ok (.if_icmp .ge 21, 3) := by decide +kernel
theorem dF21_8 : decode prog_50_method_11_code 8 = .ok (.aload_n 0, 1) := by decide +kernel
theorem dF21_9 : decode prog_50_method_11_code 9 = .ok (.iload_n 2, 1) := by decide +kernel
theorem dF21_10 : decode prog_50_method_11_code 10 = .ok (.laload, 1) := by decide +kernel
theorem dF21_11 : decode prog_50_method_11_code 11 = .ok (.aload_n 1, 1) := by decide +kernel
theorem dF21_12 : decode prog_50_method_11_code 12 = .ok (.iload_n 2, 1) := by decide +kernel
theorem dF21_13 : decode prog_50_method_11_code 13 = .ok (.laload, 1) := by decide +kernel
theorem dF21_14 : decode prog_50_method_11_code 14 = .ok (.lcmp, 1) := by decide +kernel
theorem dF21_15 : decode prog_50_method_11_code 15 = .ok (.ifCond .le 5, 3) := by decide +kernel
theorem dF21_18 : decode prog_50_method_11_code 18 = .ok (.iconst 0, 1) := by decide +kernel
theorem dF21_19 : decode prog_50_method_11_code 19 = .ok (.ireturn, 1) := by decide +kernel
theorem dF21_20 : decode prog_50_method_11_code 20 = .ok (.iinc 2 1, 3) := by decide +kernel
theorem dF21_23 : decode prog_50_method_11_code 23 = .ok (.goto (-21), 3) := by decide +kernel
theorem dF21_26 : decode prog_50_method_11_code 26 = .ok (.iconst 1, 1) := by decide +kernel
theorem dF21_27 : decode prog_50_method_11_code 27 = .ok (.ireturn, 1) := by decide +kernel
theorem efF21 (m : MethodId) (oa : Addr) (ob : Addr) : entryFrame m #[(.ref oa), (.ref ob)] 3 = mkF m 0 #[.val (.ref oa), .val (.ref ob), .unset] [] := by first | (simp [entryFrame, mkF, argsToLocals, Value.category]; done) | rfl
def QF21 (Z : State) (oa : Addr) (ob : Addr) (ua : Int64) (uc : Int64) (ue : Int64) (ub : Int64) (ud : Int64) (k_oa : ClassId) (k_ob : ClassId) (h0 : Heap) (n0 : Nat) (v : Option Value) (h : Heap) (L : List Loc) : Prop := v = some (.int (own_two ua ub uc ud)) ∧ Fr n0 L ∧ h = h0
set_option maxRecDepth 65536 in
set_option maxHeartbeats 40000000 in
theorem rmF21 (l : Launch) (Z : State) (a0 : Array Value) (hw : ∀ d ∈ tables_1, d.before a0 Z = true) (ws : List Jvm.Cond) (oa : Addr) (ob : Addr) (ua : Int64) (uc : Int64) (ue : Int64) (ub : Int64) (ud : Int64) (k_oa : ClassId) (k_ob : ClassId) (h0 : Heap) (n0 : Nat) (Z0 : n0 ≤ h0.size) (V_oa : Arv Z h0 oa k_oa .long (3 : Int32) [(.long ua), (.long uc), (.long ue)] (.long (0 : Int64))) (V_ob : Arv Z h0 ob k_ob .long (2 : Int32) [(.long ub), (.long ud)] (.long (0 : Int64))) :
    MetFree l (⟨"com/example/gavelwright/gavelwright/WelfareMaximizer", "fits", "([J[J)Z"⟩ : MethodName) (head1 (Jvm.Cond.code (⟨"com/example/gavelwright/gavelwright/WelfareMaximizer", "fits", "([J[J)Z"⟩ : MethodName) prog_50_method_11_code 3 (some .boolean) :: ws) ({ frames := 0, cells := 0, slots := 0, locals := 0 } : Room)) (fun av_ U => av_ = #[(.ref oa), (.ref ob)] ∧ Z.Warmed39 U.vm ∧ U.heap = h0) (fun _ _ _ _ _ => True) (fun _ U o U' => ∃ v L, o = .returned v ∧ QF21 Z oa ob ua uc ue ub ud k_oa k_ob h0 n0 v U'.heap L ∧ FrameEnd U o U' L ({ frames := 0, cells := 0, slots := 0, locals := 0 } : Room).cells ({ frames := 0, cells := 0, slots := 0, locals := 0 } : Room).slots) := by
  refine MetFree.of_bodySF (plainFor_of_name own_pn0) hisR ?_
  intro p e s m args below meth c s₁ Bd hml0 hP hK
  obtain ⟨rfl, hZ, hh⟩ := hP
  have hx := Bd.exec
  have hby := Bd.bytes
  have hml : c.maxLocals = 3 := hml0
  have hown : s.vm.findClass "com/example/gavelwright/gavelwright/WelfareMaximizer" = some m.cls := findClass_of_methodNamed Bd.named
  have hnm := (name_of_methodNamed Bd.named Bd.method).1
  have X0 : Stand p l e ({ frames := 0, cells := 0, slots := 0, locals := 0 } : Room) s m #[(.ref oa), (.ref ob)] below meth c s₁ [] 0 0 := Stand.of_body Bd
  have e0 : s₁.heap = h0 := by rw [← hh, Bd.state]; rfl
  have N0 := Fr.nil n0
  have pre0 : ∀ t, Steps p.tables e below (s₁.setTop (mkF m 0 #[.val (.ref oa), .val (.ref ob), .unset] [])) t → Steps p.tables e below (s₁.setTop (entryFrame m #[(.ref oa), (.ref ob)] 3)) t := fun t k => castTop (efF21 m oa ob) k
  obtain ⟨cl1, Ar1, q1, S1, M1, Hs1, G1⟩ := (id V_ob)
  obtain ⟨cl2, Ar2, q2, S2, M2, Hs2, G2⟩ := (id V_oa)
  have hin2 : ¬ ((0 : Int32) < 0 ∨ cl2.slots.size ≤ ((0 : Int32)).toNatClampNeg) := inb_of S2 ⟨by decide, by decide⟩
  have hat2 : cl2.slots[((0 : Int32)).toNatClampNeg]? = some (.long ua) := Hs2.at hin2 rfl
  obtain ⟨cl3, Ar3, q3, S3, M3, Hs3, G3⟩ := (id V_ob)
  have hin3 : ¬ ((0 : Int32) < 0 ∨ cl3.slots.size ≤ ((0 : Int32)).toNatClampNeg) := inb_of S3 ⟨by decide, by decide⟩
  have hat3 : cl3.slots[((0 : Int32)).toNatClampNeg]? = some (.long ub) := Hs3.at hin3 rfl
  have r4 : ∀ t, Steps p.tables e below (s₁.setTop (mkF m 15 #[.val (.ref oa), .val (.ref ob), .val (.int (0 : Int32))] [(.int (lcmpW ua ub))])) t → Steps p.tables e below (s₁.setTop (mkF m 0 #[.val (.ref oa), .val (.ref ob), .unset] [])) t := fun t kt => by
    show Steps p.tables e below (s₁.setTop (mkF m 0 #[.val (.ref oa), .val (.ref ob), .unset] [])) _
    refine XS.iconst X0.here hx rfl (hb hby dF21_0) ?_
    show Steps p.tables e below (s₁.setTop (mkF m 1 #[.val (.ref oa), .val (.ref ob), .unset] [(.int (0 : Int32))])) _
    refine XS.istoreN X0.here hx rfl (hb hby dF21_1) rfl (l' := #[.val (.ref oa), .val (.ref ob), .val (.int (0 : Int32))]) rfl ?_
    show Steps p.tables e below (s₁.setTop (mkF m 2 #[.val (.ref oa), .val (.ref ob), .val (.int (0 : Int32))] [])) _
    refine XS.iloadN X0.here hx rfl (hb hby dF21_2) rfl ?_
    show Steps p.tables e below (s₁.setTop (mkF m 3 #[.val (.ref oa), .val (.ref ob), .val (.int (0 : Int32))] [(.int (0 : Int32))])) _
    refine XS.aloadN X0.here hx rfl (hb hby dF21_3) rfl rfl ?_
    show Steps p.tables e below (s₁.setTop (mkF m 4 #[.val (.ref oa), .val (.ref ob), .val (.int (0 : Int32))] [(.ref ob), (.int (0 : Int32))])) _
    refine X0.arraylength hx (by rw [e0]; exact Ar1.1) (State.isArrayOf_alike hZ.alike Ar1.2.1) (g := (mkF m 4 #[.val (.ref oa), .val (.ref ob), .val (.int (0 : Int32))] [(.ref ob), (.int (0 : Int32))])) rfl rfl (hb hby dF21_4) _ ?_
    rw [len_of S1 M1]
    show Steps p.tables e below (s₁.setTop (mkF m 5 #[.val (.ref oa), .val (.ref ob), .val (.int (0 : Int32))] [(.int (2 : Int32)), (.int (0 : Int32))])) _
    refine XS.icmpNo X0.here hx rfl (hb hby dF21_5) rfl (tlt (by decide : (0 : Int32) < (2 : Int32))).2.1 ?_
    show Steps p.tables e below (s₁.setTop (mkF m 8 #[.val (.ref oa), .val (.ref ob), .val (.int (0 : Int32))] [])) _
    refine XS.aloadN X0.here hx rfl (hb hby dF21_8) rfl rfl ?_
    show Steps p.tables e below (s₁.setTop (mkF m 9 #[.val (.ref oa), .val (.ref ob), .val (.int (0 : Int32))] [(.ref oa)])) _
    refine XS.iloadN X0.here hx rfl (hb hby dF21_9) rfl ?_
    show Steps p.tables e below (s₁.setTop (mkF m 10 #[.val (.ref oa), .val (.ref ob), .val (.int (0 : Int32))] [(.int (0 : Int32)), (.ref oa)])) _
    refine X0.laload hx (j := (0 : Int32)) (v := (.long ua)) (by rw [e0]; exact Ar2.1) (State.isArrayOf_alike hZ.alike Ar2.2.1) Ar2.2.2 hin2 hat2 (g := (mkF m 10 #[.val (.ref oa), .val (.ref ob), .val (.int (0 : Int32))] [(.int (0 : Int32)), (.ref oa)])) rfl rfl (hb hby dF21_10) _ ?_
    show Steps p.tables e below (s₁.setTop (mkF m 11 #[.val (.ref oa), .val (.ref ob), .val (.int (0 : Int32))] [(.long ua)])) _
    refine XS.aloadN X0.here hx rfl (hb hby dF21_11) rfl rfl ?_
    show Steps p.tables e below (s₁.setTop (mkF m 12 #[.val (.ref oa), .val (.ref ob), .val (.int (0 : Int32))] [(.ref ob), (.long ua)])) _
    refine XS.iloadN X0.here hx rfl (hb hby dF21_12) rfl ?_
    show Steps p.tables e below (s₁.setTop (mkF m 13 #[.val (.ref oa), .val (.ref ob), .val (.int (0 : Int32))] [(.int (0 : Int32)), (.ref ob), (.long ua)])) _
    refine X0.laload hx (j := (0 : Int32)) (v := (.long ub)) (by rw [e0]; exact Ar3.1) (State.isArrayOf_alike hZ.alike Ar3.2.1) Ar3.2.2 hin3 hat3 (g := (mkF m 13 #[.val (.ref oa), .val (.ref ob), .val (.int (0 : Int32))] [(.int (0 : Int32)), (.ref ob), (.long ua)])) rfl rfl (hb hby dF21_13) _ ?_
    show Steps p.tables e below (s₁.setTop (mkF m 14 #[.val (.ref oa), .val (.ref ob), .val (.int (0 : Int32))] [(.long ub), (.long ua)])) _
    refine XS.lcmp X0.here hx rfl (hb hby dF21_14) rfl ?_
    exact kt
  by_cases hc5 : ub < ua
  · obtain ⟨fs, hr, hrun, hended, hW, hsame⟩ := X0.leave (v := some (.int (0 : Int32))) (fun h => by rw [Bd.returns] at h; cases h)
    refine ⟨_, _, (pre0 _ (r4 _ ?_)), hrun, hended, _, _, rfl, ?_, ⟨_, rfl⟩, hW, hsame.mono (by decide) (by decide)⟩
    · show Steps p.tables e below (s₁.setTop (mkF m 15 #[.val (.ref oa), .val (.ref ob), .val (.int (0 : Int32))] [(.int (lcmpW ua ub))])) _
      refine XS.ifNo X0.here hx rfl (hb hby dF21_15) rfl ((if0 _ _).trans (tlt ((lw_gt _ _).mpr hc5)).2.2.2) ?_
      show Steps p.tables e below (s₁.setTop (mkF m 18 #[.val (.ref oa), .val (.ref ob), .val (.int (0 : Int32))] [])) _
      refine XS.iconst X0.here hx rfl (hb hby dF21_18) ?_
      show Steps p.tables e below (s₁.setTop (mkF m 19 #[.val (.ref oa), .val (.ref ob), .val (.int (0 : Int32))] [(.int (0 : Int32))])) _
      exact retN X0 hx (t := .boolean) Bd.returns (by simp) (hb hby dF21_19) hr
    · show QF21 Z oa ob ua uc ue ub ud k_oa k_ob h0 n0 _ s₁.heap _
      rw [e0]
      exact ⟨(by simp [own_two, hc5]), N0, rfl⟩
  · obtain ⟨cl6, Ar6, q6, S6, M6, Hs6, G6⟩ := (id V_ob)
    obtain ⟨cl7, Ar7, q7, S7, M7, Hs7, G7⟩ := (id V_oa)
    have hin7 : ¬ ((1 : Int32) < 0 ∨ cl7.slots.size ≤ ((1 : Int32)).toNatClampNeg) := inb_of S7 ⟨by decide, by decide⟩
    have hat7 : cl7.slots[((1 : Int32)).toNatClampNeg]? = some (.long uc) := Hs7.at hin7 rfl
    obtain ⟨cl8, Ar8, q8, S8, M8, Hs8, G8⟩ := (id V_ob)
    have hin8 : ¬ ((1 : Int32) < 0 ∨ cl8.slots.size ≤ ((1 : Int32)).toNatClampNeg) := inb_of S8 ⟨by decide, by decide⟩
    have hat8 : cl8.slots[((1 : Int32)).toNatClampNeg]? = some (.long ud) := Hs8.at hin8 rfl
    have r9 : ∀ t, Steps p.tables e below (s₁.setTop (mkF m 15 #[.val (.ref oa), .val (.ref ob), .val (.int (1 : Int32))] [(.int (lcmpW uc ud))])) t → Steps p.tables e below (s₁.setTop (mkF m 15 #[.val (.ref oa), .val (.ref ob), .val (.int (0 : Int32))] [(.int (lcmpW ua ub))])) t := fun t kt => by
      show Steps p.tables e below (s₁.setTop (mkF m 15 #[.val (.ref oa), .val (.ref ob), .val (.int (0 : Int32))] [(.int (lcmpW ua ub))])) _
      refine XS.ifYes X0.here hx rfl (pc0 := 15) (pc' := 20) rfl (hb hby dF21_15) rfl ((if0 _ _).trans (flt (fun q => hc5 ((lw_gt _ _).mp q))).2.2.2) (by decide) (by decide) ?_
      show Steps p.tables e below (s₁.setTop (mkF m 20 #[.val (.ref oa), .val (.ref ob), .val (.int (0 : Int32))] [])) _
      refine XS.iinc X0.here hx rfl (hb hby dF21_20) rfl (l' := #[.val (.ref oa), .val (.ref ob), .val (.int (1 : Int32))]) rfl ?_
      show Steps p.tables e below (s₁.setTop (mkF m 23 #[.val (.ref oa), .val (.ref ob), .val (.int (1 : Int32))] [])) _
      refine XS.goto X0.here hx rfl (pc0 := 23) (pc' := 2) rfl (hb hby dF21_23) (by decide) (by decide) ?_
      show Steps p.tables e below (s₁.setTop (mkF m 2 #[.val (.ref oa), .val (.ref ob), .val (.int (1 : Int32))] [])) _
      refine XS.iloadN X0.here hx rfl (hb hby dF21_2) rfl ?_
      show Steps p.tables e below (s₁.setTop (mkF m 3 #[.val (.ref oa), .val (.ref ob), .val (.int (1 : Int32))] [(.int (1 : Int32))])) _
      refine XS.aloadN X0.here hx rfl (hb hby dF21_3) rfl rfl ?_
      show Steps p.tables e below (s₁.setTop (mkF m 4 #[.val (.ref oa), .val (.ref ob), .val (.int (1 : Int32))] [(.ref ob), (.int (1 : Int32))])) _
      refine X0.arraylength hx (by rw [e0]; exact Ar6.1) (State.isArrayOf_alike hZ.alike Ar6.2.1) (g := (mkF m 4 #[.val (.ref oa), .val (.ref ob), .val (.int (1 : Int32))] [(.ref ob), (.int (1 : Int32))])) rfl rfl (hb hby dF21_4) _ ?_
      rw [len_of S6 M6]
      show Steps p.tables e below (s₁.setTop (mkF m 5 #[.val (.ref oa), .val (.ref ob), .val (.int (1 : Int32))] [(.int (2 : Int32)), (.int (1 : Int32))])) _
      refine XS.icmpNo X0.here hx rfl (hb hby dF21_5) rfl (tlt (by decide : (1 : Int32) < (2 : Int32))).2.1 ?_
      show Steps p.tables e below (s₁.setTop (mkF m 8 #[.val (.ref oa), .val (.ref ob), .val (.int (1 : Int32))] [])) _
      refine XS.aloadN X0.here hx rfl (hb hby dF21_8) rfl rfl ?_
      show Steps p.tables e below (s₁.setTop (mkF m 9 #[.val (.ref oa), .val (.ref ob), .val (.int (1 : Int32))] [(.ref oa)])) _
      refine XS.iloadN X0.here hx rfl (hb hby dF21_9) rfl ?_
      show Steps p.tables e below (s₁.setTop (mkF m 10 #[.val (.ref oa), .val (.ref ob), .val (.int (1 : Int32))] [(.int (1 : Int32)), (.ref oa)])) _
      refine X0.laload hx (j := (1 : Int32)) (v := (.long uc)) (by rw [e0]; exact Ar7.1) (State.isArrayOf_alike hZ.alike Ar7.2.1) Ar7.2.2 hin7 hat7 (g := (mkF m 10 #[.val (.ref oa), .val (.ref ob), .val (.int (1 : Int32))] [(.int (1 : Int32)), (.ref oa)])) rfl rfl (hb hby dF21_10) _ ?_
      show Steps p.tables e below (s₁.setTop (mkF m 11 #[.val (.ref oa), .val (.ref ob), .val (.int (1 : Int32))] [(.long uc)])) _
      refine XS.aloadN X0.here hx rfl (hb hby dF21_11) rfl rfl ?_
      show Steps p.tables e below (s₁.setTop (mkF m 12 #[.val (.ref oa), .val (.ref ob), .val (.int (1 : Int32))] [(.ref ob), (.long uc)])) _
      refine XS.iloadN X0.here hx rfl (hb hby dF21_12) rfl ?_
      show Steps p.tables e below (s₁.setTop (mkF m 13 #[.val (.ref oa), .val (.ref ob), .val (.int (1 : Int32))] [(.int (1 : Int32)), (.ref ob), (.long uc)])) _
      refine X0.laload hx (j := (1 : Int32)) (v := (.long ud)) (by rw [e0]; exact Ar8.1) (State.isArrayOf_alike hZ.alike Ar8.2.1) Ar8.2.2 hin8 hat8 (g := (mkF m 13 #[.val (.ref oa), .val (.ref ob), .val (.int (1 : Int32))] [(.int (1 : Int32)), (.ref ob), (.long uc)])) rfl rfl (hb hby dF21_13) _ ?_
      show Steps p.tables e below (s₁.setTop (mkF m 14 #[.val (.ref oa), .val (.ref ob), .val (.int (1 : Int32))] [(.long ud), (.long uc)])) _
      refine XS.lcmp X0.here hx rfl (hb hby dF21_14) rfl ?_
      exact kt
    by_cases hc10 : ud < uc
    · obtain ⟨fs, hr, hrun, hended, hW, hsame⟩ := X0.leave (v := some (.int (0 : Int32))) (fun h => by rw [Bd.returns] at h; cases h)
      refine ⟨_, _, (pre0 _ (r4 _ (r9 _ ?_))), hrun, hended, _, _, rfl, ?_, ⟨_, rfl⟩, hW, hsame.mono (by decide) (by decide)⟩
      · show Steps p.tables e below (s₁.setTop (mkF m 15 #[.val (.ref oa), .val (.ref ob), .val (.int (1 : Int32))] [(.int (lcmpW uc ud))])) _
        refine XS.ifNo X0.here hx rfl (hb hby dF21_15) rfl ((if0 _ _).trans (tlt ((lw_gt _ _).mpr hc10)).2.2.2) ?_
        show Steps p.tables e below (s₁.setTop (mkF m 18 #[.val (.ref oa), .val (.ref ob), .val (.int (1 : Int32))] [])) _
        refine XS.iconst X0.here hx rfl (hb hby dF21_18) ?_
        show Steps p.tables e below (s₁.setTop (mkF m 19 #[.val (.ref oa), .val (.ref ob), .val (.int (1 : Int32))] [(.int (0 : Int32))])) _
        exact retN X0 hx (t := .boolean) Bd.returns (by simp) (hb hby dF21_19) hr
      · show QF21 Z oa ob ua uc ue ub ud k_oa k_ob h0 n0 _ s₁.heap _
        rw [e0]
        exact ⟨(by simp [own_two, hc5, hc10]), N0, rfl⟩
    · obtain ⟨cl11, Ar11, q11, S11, M11, Hs11, G11⟩ := (id V_ob)
      obtain ⟨fs, hr, hrun, hended, hW, hsame⟩ := X0.leave (v := some (.int (1 : Int32))) (fun h => by rw [Bd.returns] at h; cases h)
      refine ⟨_, _, (pre0 _ (r4 _ (r9 _ ?_))), hrun, hended, _, _, rfl, ?_, ⟨_, rfl⟩, hW, hsame.mono (by decide) (by decide)⟩
      · show Steps p.tables e below (s₁.setTop (mkF m 15 #[.val (.ref oa), .val (.ref ob), .val (.int (1 : Int32))] [(.int (lcmpW uc ud))])) _
        refine XS.ifYes X0.here hx rfl (pc0 := 15) (pc' := 20) rfl (hb hby dF21_15) rfl ((if0 _ _).trans (flt (fun q => hc10 ((lw_gt _ _).mp q))).2.2.2) (by decide) (by decide) ?_
        show Steps p.tables e below (s₁.setTop (mkF m 20 #[.val (.ref oa), .val (.ref ob), .val (.int (1 : Int32))] [])) _
        refine XS.iinc X0.here hx rfl (hb hby dF21_20) rfl (l' := #[.val (.ref oa), .val (.ref ob), .val (.int (2 : Int32))]) rfl ?_
        show Steps p.tables e below (s₁.setTop (mkF m 23 #[.val (.ref oa), .val (.ref ob), .val (.int (2 : Int32))] [])) _
        refine XS.goto X0.here hx rfl (pc0 := 23) (pc' := 2) rfl (hb hby dF21_23) (by decide) (by decide) ?_
        show Steps p.tables e below (s₁.setTop (mkF m 2 #[.val (.ref oa), .val (.ref ob), .val (.int (2 : Int32))] [])) _
        refine XS.iloadN X0.here hx rfl (hb hby dF21_2) rfl ?_
        show Steps p.tables e below (s₁.setTop (mkF m 3 #[.val (.ref oa), .val (.ref ob), .val (.int (2 : Int32))] [(.int (2 : Int32))])) _
        refine XS.aloadN X0.here hx rfl (hb hby dF21_3) rfl rfl ?_
        show Steps p.tables e below (s₁.setTop (mkF m 4 #[.val (.ref oa), .val (.ref ob), .val (.int (2 : Int32))] [(.ref ob), (.int (2 : Int32))])) _
        refine X0.arraylength hx (by rw [e0]; exact Ar11.1) (State.isArrayOf_alike hZ.alike Ar11.2.1) (g := (mkF m 4 #[.val (.ref oa), .val (.ref ob), .val (.int (2 : Int32))] [(.ref ob), (.int (2 : Int32))])) rfl rfl (hb hby dF21_4) _ ?_
        rw [len_of S11 M11]
        show Steps p.tables e below (s₁.setTop (mkF m 5 #[.val (.ref oa), .val (.ref ob), .val (.int (2 : Int32))] [(.int (2 : Int32)), (.int (2 : Int32))])) _
        refine XS.icmpYes X0.here hx rfl (pc0 := 5) (pc' := 26) rfl (hb hby dF21_5) rfl (flt (by decide : ¬ ((2 : Int32) < (2 : Int32)))).2.1 (by decide) (by decide) ?_
        show Steps p.tables e below (s₁.setTop (mkF m 26 #[.val (.ref oa), .val (.ref ob), .val (.int (2 : Int32))] [])) _
        refine XS.iconst X0.here hx rfl (hb hby dF21_26) ?_
        show Steps p.tables e below (s₁.setTop (mkF m 27 #[.val (.ref oa), .val (.ref ob), .val (.int (2 : Int32))] [(.int (1 : Int32))])) _
        exact retN X0 hx (t := .boolean) Bd.returns (by simp) (hb hby dF21_27) hr
      · show QF21 Z oa ob ua uc ue ub ud k_oa k_ob h0 n0 _ s₁.heap _
        rw [e0]
        exact ⟨(by simp [own_two, hc5, hc10]), N0, rfl⟩
theorem own_pd0 : parseMethodDescriptor "([J[J)Z" = some ⟨[(.array .long), (.array .long)], some .boolean⟩ := by decide +kernel
theorem own_pn1 : plainName "com/example/gavelwright/gavelwright/WelfareMaximizerFitsPinLaw" = true := by first | (simp [plainName, overriddenIn]; done) | decide +kernel
theorem efL (m : MethodId) (sel : Int32) (xa : Int64) (xc : Int64) (xb : Int64) (xd : Int64) (xe : Int64) : entryFrame m #[(.int sel), (.long xa), (.long xc), (.long xb), (.long xd), (.long xe)] maxLocals = mkF m 0 #[.val (.int sel), .val (.long xa), .second, .val (.long xc), .second, .val (.long xb), .second, .val (.long xd), .second, .val (.long xe), .second, .unset, .unset, .unset, .unset, .unset] [] := by first | (simp [entryFrame, mkF, argsToLocals, Value.category, maxLocals]; done) | rfl
def QL (Z : State) (sel : Int32) (xa : Int64) (xc : Int64) (xb : Int64) (xd : Int64) (xe : Int64) (h0 : Heap) (n0 : Nat) (v : Option Value) (h : Heap) (L : List Loc) : Prop := v = some (.int 1) ∧ Fr n0 L
set_option maxRecDepth 65536 in
set_option maxHeartbeats 40000000 in
theorem rmL (l : Launch) (Z : State) (a0 : Array Value) (hw : ∀ d ∈ tables_1, d.before a0 Z = true) (ws : List Jvm.Cond) (sel : Int32) (xa : Int64) (xc : Int64) (xb : Int64) (xd : Int64) (xe : Int64) (h0 : Heap) (n0 : Nat) (Z0 : n0 ≤ h0.size) :
    MetFree l x (head1 (Jvm.Cond.code x code maxLocals ret :: ws) room_1) (fun av_ U => av_ = #[(.int sel), (.long xa), (.long xc), (.long xb), (.long xd), (.long xe)] ∧ Z.Warmed39 U.vm ∧ U.heap = h0) (fun _ _ _ _ _ => True) (fun _ U o U' => ∃ v L, o = .returned v ∧ QL Z sel xa xc xb xd xe h0 n0 v U'.heap L ∧ FrameEnd U o U' L room_1.cells room_1.slots) := by
  refine MetFree.of_bodySF (plainFor_of_name own_pn1) hisR ?_
  intro p e s m args below meth c s₁ Bd hml0 hP hK
  obtain ⟨rfl, hZ, hh⟩ := hP
  have hx := Bd.exec
  have hby := Bd.bytes
  have hml : c.maxLocals = 16 := hml0
  have hown : s.vm.findClass "com/example/gavelwright/gavelwright/WelfareMaximizerFitsPinLaw" = some m.cls := findClass_of_methodNamed Bd.named
  have hnm := (name_of_methodNamed Bd.named Bd.method).1
  have X0 : Stand p l e room_1 s m #[(.int sel), (.long xa), (.long xc), (.long xb), (.long xd), (.long xe)] below meth c s₁ [] 0 0 := Stand.of_body Bd
  have e0 : s₁.heap = h0 := by rw [← hh, Bd.state]; rfl
  have N0 := Fr.nil n0
  have pre0 : ∀ t, Steps p.tables e below (s₁.setTop (mkF m 0 #[.val (.int sel), .val (.long xa), .second, .val (.long xc), .second, .val (.long xb), .second, .val (.long xd), .second, .val (.long xe), .second, .unset, .unset, .unset, .unset, .unset] [])) t → Steps p.tables e below (s₁.setTop (entryFrame m #[(.int sel), (.long xa), (.long xc), (.long xb), (.long xd), (.long xe)] maxLocals)) t := fun t k => castTop (efL m sel xa xc xb xd xe) k
  have r1 : ∀ t, Steps p.tables e below (s₁.setTop (mkF m 7 #[.val (.int sel), .val (.long xa), .second, .val (.long xc), .second, .val (.long xb), .second, .val (.long xd), .second, .val (.long xe), .second, .val (.int ((sel &&& (3 : Int32)) % (3 : Int32))), .unset, .unset, .unset, .unset] [])) t → Steps p.tables e below (s₁.setTop (mkF m 0 #[.val (.int sel), .val (.long xa), .second, .val (.long xc), .second, .val (.long xb), .second, .val (.long xd), .second, .val (.long xe), .second, .unset, .unset, .unset, .unset, .unset] [])) t := fun t kt => by
    show Steps p.tables e below (s₁.setTop (mkF m 0 #[.val (.int sel), .val (.long xa), .second, .val (.long xc), .second, .val (.long xb), .second, .val (.long xd), .second, .val (.long xe), .second, .unset, .unset, .unset, .unset, .unset] [])) _
    refine XS.iloadN X0.here hx rfl (hb hby at_0) rfl ?_
    show Steps p.tables e below (s₁.setTop (mkF m 1 #[.val (.int sel), .val (.long xa), .second, .val (.long xc), .second, .val (.long xb), .second, .val (.long xd), .second, .val (.long xe), .second, .unset, .unset, .unset, .unset, .unset] [(.int sel)])) _
    refine XS.iconst X0.here hx rfl (hb hby at_1) ?_
    show Steps p.tables e below (s₁.setTop (mkF m 2 #[.val (.int sel), .val (.long xa), .second, .val (.long xc), .second, .val (.long xb), .second, .val (.long xd), .second, .val (.long xe), .second, .unset, .unset, .unset, .unset, .unset] [(.int (3 : Int32)), (.int sel)])) _
    refine XS.iand X0.here hx rfl (hb hby at_2) rfl ?_
    show Steps p.tables e below (s₁.setTop (mkF m 3 #[.val (.int sel), .val (.long xa), .second, .val (.long xc), .second, .val (.long xb), .second, .val (.long xd), .second, .val (.long xe), .second, .unset, .unset, .unset, .unset, .unset] [(.int (sel &&& (3 : Int32)))])) _
    refine XS.iconst X0.here hx rfl (hb hby at_3) ?_
    show Steps p.tables e below (s₁.setTop (mkF m 4 #[.val (.int sel), .val (.long xa), .second, .val (.long xc), .second, .val (.long xb), .second, .val (.long xd), .second, .val (.long xe), .second, .unset, .unset, .unset, .unset, .unset] [(.int (3 : Int32)), (.int (sel &&& (3 : Int32)))])) _
    refine iremM X0 hx rfl (hb hby at_4) rfl (by decide) ?_
    show Steps p.tables e below (s₁.setTop (mkF m 5 #[.val (.int sel), .val (.long xa), .second, .val (.long xc), .second, .val (.long xb), .second, .val (.long xd), .second, .val (.long xe), .second, .unset, .unset, .unset, .unset, .unset] [(.int ((sel &&& (3 : Int32)) % (3 : Int32)))])) _
    refine XS.istore X0.here hx rfl (hb hby at_5) rfl (l' := #[.val (.int sel), .val (.long xa), .second, .val (.long xc), .second, .val (.long xb), .second, .val (.long xd), .second, .val (.long xe), .second, .val (.int ((sel &&& (3 : Int32)) % (3 : Int32))), .unset, .unset, .unset, .unset]) rfl ?_
    exact kt
  rcases (own_n sel) with hk2 | hk2 | hk2
  · have r3 : ∀ t, Steps p.tables e below (s₁.setTop (mkF m 7 #[.val (.int sel), .val (.long xa), .second, .val (.long xc), .second, .val (.long xb), .second, .val (.long xd), .second, .val (.long xe), .second, .val (.int (0 : Int32)), .unset, .unset, .unset, .unset] [])) t → Steps p.tables e below (s₁.setTop (mkF m 7 #[.val (.int sel), .val (.long xa), .second, .val (.long xc), .second, .val (.long xb), .second, .val (.long xd), .second, .val (.long xe), .second, .val (.int ((sel &&& (3 : Int32)) % (3 : Int32))), .unset, .unset, .unset, .unset] [])) t := fun t kt => by
      rw [hk2]
      exact kt
    have r4 : ∀ t, Steps p.tables e below (s₁.setTop (mkF m 10 #[.val (.int sel), .val (.long xa), .second, .val (.long xc), .second, .val (.long xb), .second, .val (.long xd), .second, .val (.long xe), .second, .val (.int (0 : Int32)), .unset, .unset, .unset, .unset] [(.int (sel &&& (4 : Int32)))])) t → Steps p.tables e below (s₁.setTop (mkF m 7 #[.val (.int sel), .val (.long xa), .second, .val (.long xc), .second, .val (.long xb), .second, .val (.long xd), .second, .val (.long xe), .second, .val (.int (0 : Int32)), .unset, .unset, .unset, .unset] [])) t := fun t kt => by
      show Steps p.tables e below (s₁.setTop (mkF m 7 #[.val (.int sel), .val (.long xa), .second, .val (.long xc), .second, .val (.long xb), .second, .val (.long xd), .second, .val (.long xe), .second, .val (.int (0 : Int32)), .unset, .unset, .unset, .unset] [])) _
      refine XS.iloadN X0.here hx rfl (hb hby at_7) rfl ?_
      show Steps p.tables e below (s₁.setTop (mkF m 8 #[.val (.int sel), .val (.long xa), .second, .val (.long xc), .second, .val (.long xb), .second, .val (.long xd), .second, .val (.long xe), .second, .val (.int (0 : Int32)), .unset, .unset, .unset, .unset] [(.int sel)])) _
      refine XS.iconst X0.here hx rfl (hb hby at_8) ?_
      show Steps p.tables e below (s₁.setTop (mkF m 9 #[.val (.int sel), .val (.long xa), .second, .val (.long xc), .second, .val (.long xb), .second, .val (.long xd), .second, .val (.long xe), .second, .val (.int (0 : Int32)), .unset, .unset, .unset, .unset] [(.int (4 : Int32)), (.int sel)])) _
      refine XS.iand X0.here hx rfl (hb hby at_9) rfl ?_
      exact kt
    by_cases hc5 : (sel &&& (4 : Int32)) = (0 : Int32)
    · obtain ⟨T6, h6, k6, X6, e6, E6, A6, st6⟩ := newP X0 hx hZ (hw _ (List.mem_of_getElem? (i := 0) rfl)) e0 (g := (mkF m 33 #[.val (.int sel), .val (.long xa), .second, .val (.long xc), .second, .val (.long xb), .second, .val (.long xd), .second, .val (.long xe), .second, .val (.int (0 : Int32)), .val (.int (0 : Int32)), .unset, .unset, .unset] [(.int (0 : Int32))])) rfl (hb hby at_33) rfl (by decide) (cap := 0) (by decide) (by decide) (by decide) (by decide)
      obtain ⟨b6, g6⟩ : ∃ z, z = h0.size := ⟨_, rfl⟩
      rw [← g6] at A6 st6
      have g_b6 : n0 ≤ b6 := Nat.le_trans Z0 (Nat.le_of_eq g6.symm)
      have sz_b6 : h0.size ≤ b6 := Nat.le_trans (Keep.refl h0 []).1 (Nat.le_of_eq g6.symm)
      have K6 : Keep h0 h6 [] := (Keep.refl h0 []).ext E6
      have Zs6 : n0 ≤ h6.size := Nat.le_trans Z0 E6.1
      have V6 : Arv Z h6 b6 k6 .long (0 : Int32) [] (.long (0 : Int64)) := (Arv.new A6 (by decide)).pad (pad_rep [] (.long (0 : Int64)) 0)
      obtain ⟨T7, h7, k7, X7, e7, E7, A7, st7⟩ := newP X6 hx hZ (hw _ (List.mem_of_getElem? (i := 0) rfl)) e6 (g := (mkF m 39 #[.val (.int sel), .val (.long xa), .second, .val (.long xc), .second, .val (.long xb), .second, .val (.long xd), .second, .val (.long xe), .second, .val (.int (0 : Int32)), .val (.int (0 : Int32)), .val (.ref b6), .unset, .unset] [(.int (0 : Int32))])) rfl (hb hby at_39) rfl (by decide) (cap := 0) (by decide) (by decide) (by decide) (by decide)
      obtain ⟨b7, g7⟩ : ∃ z, z = h6.size := ⟨_, rfl⟩
      rw [← g7] at A7 st7
      have ne_b6_b7 : b6 ≠ b7 := Nat.ne_of_lt (Nat.lt_of_lt_of_le V6.lt (Nat.le_of_eq g7.symm))
      have g_b7 : n0 ≤ b7 := Nat.le_trans Zs6 (Nat.le_of_eq g7.symm)
      have sz_b7 : h0.size ≤ b7 := Nat.le_trans K6.1 (Nat.le_of_eq g7.symm)
      have K7 : Keep h0 h7 [] := K6.ext E7
      have Zs7 : n0 ≤ h7.size := Nat.le_trans Zs6 E7.1
      have V7 : Arv Z h7 b7 k7 .long (0 : Int32) [] (.long (0 : Int64)) := (Arv.new A7 (by decide)).pad (pad_rep [] (.long (0 : Int64)) 0)
      obtain ⟨_, _, ⟨T8, L8, k8, n8⟩, -, X8, ⟨Lc8, hQ8, l8, y8, z8⟩, st8⟩ := Jvm.LawKit.callS X7 hx (y := (⟨"com/example/gavelwright/gavelwright/WelfareMaximizer", "fits", "([J[J)Z"⟩ : MethodName)) hown (mvT hZ (hw _ (List.mem_of_getElem? (i := 1) rfl))) (mvT hZ (hw _ (List.mem_of_getElem? (i := 2) rfl))) (mvT hZ (hw _ (List.mem_of_getElem? (i := 3) rfl))) (mvT hZ (hw _ (List.mem_of_getElem? (i := 4) rfl))) (by decide) (backOf (W := 0) (rmF00 l Z a0 hw [] b6 b7 k6 k7 h7 n0 Zs7 (V6.ext E7) V7) hZ (hw _ (List.mem_of_getElem? (i := 4) rfl)) (hw _ (List.mem_of_getElem? (i := 3) rfl)) (by decide) (by decide)) (g := (mkF m 126 #[.val (.int sel), .val (.long xa), .second, .val (.long xc), .second, .val (.long xb), .second, .val (.long xd), .second, .val (.long xe), .second, .val (.int (0 : Int32)), .val (.int (0 : Int32)), .val (.ref b6), .val (.ref b7), .val (.int (1 : Int32))] [(.ref b7), (.ref b6)])) rfl (by rw [hml]; rfl) (argsL := [(.ref b6), (.ref b7)]) (rest := []) (lenOf own_pd0 rfl) rfl (by show 2 * 0 + _ ≤ _; exact Nat.le_of_eq rfl) (hb hby at_126) (fun _ _ => ⟨rfl, e7, (by decide : 2 + 0 ≤ _), (by decide : 0 + 0 ≤ _)⟩)
      dsimp only [Pt.U, Pt.locs, Pt.cells, Pt.slots] at X8 l8 y8 z8 st8 hQ8
      subst l8 y8 z8
      obtain ⟨rfl, Nq8, e8⟩ := hQ8
      have N8 := Fr.app N0 Nq8
      obtain ⟨fs, hr, hrun, hended, hW, hsame⟩ := X8.leave (v := some (.int (1 : Int32))) (fun h => by rw [Bd.returns] at h; cases h)
      refine ⟨_, _, (pre0 _ (r1 _ (r3 _ (r4 _ ?_)))), hrun, hended, _, _, rfl, ?_, ⟨_, rfl⟩, hW, hsame.mono (by decide) (by decide)⟩
      · show Steps p.tables e below (s₁.setTop (mkF m 10 #[.val (.int sel), .val (.long xa), .second, .val (.long xc), .second, .val (.long xb), .second, .val (.long xd), .second, .val (.long xe), .second, .val (.int (0 : Int32)), .unset, .unset, .unset, .unset] [(.int (sel &&& (4 : Int32)))])) _
        refine XS.ifYes X0.here hx rfl (pc0 := 10) (pc' := 17) rfl (hb hby at_10) rfl ((if0 _ _).trans (teq hc5).1) (by decide) (by decide) ?_
        show Steps p.tables e below (s₁.setTop (mkF m 17 #[.val (.int sel), .val (.long xa), .second, .val (.long xc), .second, .val (.long xb), .second, .val (.long xd), .second, .val (.long xe), .second, .val (.int (0 : Int32)), .unset, .unset, .unset, .unset] [])) _
        refine XS.iconst X0.here hx rfl (hb hby at_17) ?_
        show Steps p.tables e below (s₁.setTop (mkF m 18 #[.val (.int sel), .val (.long xa), .second, .val (.long xc), .second, .val (.long xb), .second, .val (.long xd), .second, .val (.long xe), .second, .val (.int (0 : Int32)), .unset, .unset, .unset, .unset] [(.int (0 : Int32))])) _
        refine XS.istore X0.here hx rfl (hb hby at_18) rfl (l' := #[.val (.int sel), .val (.long xa), .second, .val (.long xc), .second, .val (.long xb), .second, .val (.long xd), .second, .val (.long xe), .second, .val (.int (0 : Int32)), .val (.int (0 : Int32)), .unset, .unset, .unset]) rfl ?_
        show Steps p.tables e below (s₁.setTop (mkF m 20 #[.val (.int sel), .val (.long xa), .second, .val (.long xc), .second, .val (.long xb), .second, .val (.long xd), .second, .val (.long xe), .second, .val (.int (0 : Int32)), .val (.int (0 : Int32)), .unset, .unset, .unset] [])) _
        refine XS.iload X0.here hx rfl (hb hby at_20) rfl ?_
        show Steps p.tables e below (s₁.setTop (mkF m 22 #[.val (.int sel), .val (.long xa), .second, .val (.long xc), .second, .val (.long xb), .second, .val (.long xd), .second, .val (.long xe), .second, .val (.int (0 : Int32)), .val (.int (0 : Int32)), .unset, .unset, .unset] [(.int (0 : Int32))])) _
        refine XS.iload X0.here hx rfl (hb hby at_22) rfl ?_
        show Steps p.tables e below (s₁.setTop (mkF m 24 #[.val (.int sel), .val (.long xa), .second, .val (.long xc), .second, .val (.long xb), .second, .val (.long xd), .second, .val (.long xe), .second, .val (.int (0 : Int32)), .val (.int (0 : Int32)), .unset, .unset, .unset] [(.int (0 : Int32)), (.int (0 : Int32))])) _
        refine XS.ifYes X0.here hx rfl (pc0 := 24) (pc' := 31) rfl (hb hby at_24) rfl ((if0 _ _).trans (teq (by decide : (0 : Int32) = (0 : Int32))).1) (by decide) (by decide) ?_
        show Steps p.tables e below (s₁.setTop (mkF m 31 #[.val (.int sel), .val (.long xa), .second, .val (.long xc), .second, .val (.long xb), .second, .val (.long xd), .second, .val (.long xe), .second, .val (.int (0 : Int32)), .val (.int (0 : Int32)), .unset, .unset, .unset] [(.int (0 : Int32))])) _
        refine XS.iconst X0.here hx rfl (hb hby at_31) ?_
        show Steps p.tables e below (s₁.setTop (mkF m 32 #[.val (.int sel), .val (.long xa), .second, .val (.long xc), .second, .val (.long xb), .second, .val (.long xd), .second, .val (.long xe), .second, .val (.int (0 : Int32)), .val (.int (0 : Int32)), .unset, .unset, .unset] [(.int (0 : Int32)), (.int (0 : Int32))])) _
        refine XS.iadd X0.here hx rfl (hb hby at_32) rfl ?_
        show Steps p.tables e below (s₁.setTop (mkF m 33 #[.val (.int sel), .val (.long xa), .second, .val (.long xc), .second, .val (.long xb), .second, .val (.long xd), .second, .val (.long xe), .second, .val (.int (0 : Int32)), .val (.int (0 : Int32)), .unset, .unset, .unset] [(.int (0 : Int32))])) _
        refine st6 _ ?_
        show Steps p.tables e below (T6.setTop (mkF m 35 #[.val (.int sel), .val (.long xa), .second, .val (.long xc), .second, .val (.long xb), .second, .val (.long xd), .second, .val (.long xe), .second, .val (.int (0 : Int32)), .val (.int (0 : Int32)), .unset, .unset, .unset] [(.ref b6)])) _
        refine XS.astore X6.here hx rfl (hb hby at_35) rfl rfl (l' := #[.val (.int sel), .val (.long xa), .second, .val (.long xc), .second, .val (.long xb), .second, .val (.long xd), .second, .val (.long xe), .second, .val (.int (0 : Int32)), .val (.int (0 : Int32)), .val (.ref b6), .unset, .unset]) rfl ?_
        show Steps p.tables e below (T6.setTop (mkF m 37 #[.val (.int sel), .val (.long xa), .second, .val (.long xc), .second, .val (.long xb), .second, .val (.long xd), .second, .val (.long xe), .second, .val (.int (0 : Int32)), .val (.int (0 : Int32)), .val (.ref b6), .unset, .unset] [])) _
        refine XS.iload X6.here hx rfl (hb hby at_37) rfl ?_
        show Steps p.tables e below (T6.setTop (mkF m 39 #[.val (.int sel), .val (.long xa), .second, .val (.long xc), .second, .val (.long xb), .second, .val (.long xd), .second, .val (.long xe), .second, .val (.int (0 : Int32)), .val (.int (0 : Int32)), .val (.ref b6), .unset, .unset] [(.int (0 : Int32))])) _
        refine st7 _ ?_
        show Steps p.tables e below (T7.setTop (mkF m 41 #[.val (.int sel), .val (.long xa), .second, .val (.long xc), .second, .val (.long xb), .second, .val (.long xd), .second, .val (.long xe), .second, .val (.int (0 : Int32)), .val (.int (0 : Int32)), .val (.ref b6), .unset, .unset] [(.ref b7)])) _
        refine XS.astore X7.here hx rfl (hb hby at_41) rfl rfl (l' := #[.val (.int sel), .val (.long xa), .second, .val (.long xc), .second, .val (.long xb), .second, .val (.long xd), .second, .val (.long xe), .second, .val (.int (0 : Int32)), .val (.int (0 : Int32)), .val (.ref b6), .val (.ref b7), .unset]) rfl ?_
        show Steps p.tables e below (T7.setTop (mkF m 43 #[.val (.int sel), .val (.long xa), .second, .val (.long xc), .second, .val (.long xb), .second, .val (.long xd), .second, .val (.long xe), .second, .val (.int (0 : Int32)), .val (.int (0 : Int32)), .val (.ref b6), .val (.ref b7), .unset] [])) _
        refine XS.iload X7.here hx rfl (hb hby at_43) rfl ?_
        show Steps p.tables e below (T7.setTop (mkF m 45 #[.val (.int sel), .val (.long xa), .second, .val (.long xc), .second, .val (.long xb), .second, .val (.long xd), .second, .val (.long xe), .second, .val (.int (0 : Int32)), .val (.int (0 : Int32)), .val (.ref b6), .val (.ref b7), .unset] [(.int (0 : Int32))])) _
        refine XS.iconst X7.here hx rfl (hb hby at_45) ?_
        show Steps p.tables e below (T7.setTop (mkF m 46 #[.val (.int sel), .val (.long xa), .second, .val (.long xc), .second, .val (.long xb), .second, .val (.long xd), .second, .val (.long xe), .second, .val (.int (0 : Int32)), .val (.int (0 : Int32)), .val (.ref b6), .val (.ref b7), .unset] [(.int (1 : Int32)), (.int (0 : Int32))])) _
        refine XS.icmpYes X7.here hx rfl (pc0 := 46) (pc' := 60) rfl (hb hby at_46) rfl (tlt (by decide : (0 : Int32) < (1 : Int32))).1 (by decide) (by decide) ?_
        show Steps p.tables e below (T7.setTop (mkF m 60 #[.val (.int sel), .val (.long xa), .second, .val (.long xc), .second, .val (.long xb), .second, .val (.long xd), .second, .val (.long xe), .second, .val (.int (0 : Int32)), .val (.int (0 : Int32)), .val (.ref b6), .val (.ref b7), .unset] [])) _
        refine XS.iload X7.here hx rfl (hb hby at_60) rfl ?_
        show Steps p.tables e below (T7.setTop (mkF m 62 #[.val (.int sel), .val (.long xa), .second, .val (.long xc), .second, .val (.long xb), .second, .val (.long xd), .second, .val (.long xe), .second, .val (.int (0 : Int32)), .val (.int (0 : Int32)), .val (.ref b6), .val (.ref b7), .unset] [(.int (0 : Int32))])) _
        refine XS.iconst X7.here hx rfl (hb hby at_62) ?_
        show Steps p.tables e below (T7.setTop (mkF m 63 #[.val (.int sel), .val (.long xa), .second, .val (.long xc), .second, .val (.long xb), .second, .val (.long xd), .second, .val (.long xe), .second, .val (.int (0 : Int32)), .val (.int (0 : Int32)), .val (.ref b6), .val (.ref b7), .unset] [(.int (2 : Int32)), (.int (0 : Int32))])) _
        refine XS.icmpYes X7.here hx rfl (pc0 := 63) (pc' := 77) rfl (hb hby at_63) rfl (tlt (by decide : (0 : Int32) < (2 : Int32))).1 (by decide) (by decide) ?_
        show Steps p.tables e below (T7.setTop (mkF m 77 #[.val (.int sel), .val (.long xa), .second, .val (.long xc), .second, .val (.long xb), .second, .val (.long xd), .second, .val (.long xe), .second, .val (.int (0 : Int32)), .val (.int (0 : Int32)), .val (.ref b6), .val (.ref b7), .unset] [])) _
        refine XS.iload X7.here hx rfl (hb hby at_77) rfl ?_
        show Steps p.tables e below (T7.setTop (mkF m 79 #[.val (.int sel), .val (.long xa), .second, .val (.long xc), .second, .val (.long xb), .second, .val (.long xd), .second, .val (.long xe), .second, .val (.int (0 : Int32)), .val (.int (0 : Int32)), .val (.ref b6), .val (.ref b7), .unset] [(.int (0 : Int32))])) _
        refine XS.ifYes X7.here hx rfl (pc0 := 79) (pc' := 89) rfl (hb hby at_79) rfl ((if0 _ _).trans (teq (by decide : (0 : Int32) = (0 : Int32))).1) (by decide) (by decide) ?_
        show Steps p.tables e below (T7.setTop (mkF m 89 #[.val (.int sel), .val (.long xa), .second, .val (.long xc), .second, .val (.long xb), .second, .val (.long xd), .second, .val (.long xe), .second, .val (.int (0 : Int32)), .val (.int (0 : Int32)), .val (.ref b6), .val (.ref b7), .unset] [])) _
        refine XS.iload X7.here hx rfl (hb hby at_89) rfl ?_
        show Steps p.tables e below (T7.setTop (mkF m 91 #[.val (.int sel), .val (.long xa), .second, .val (.long xc), .second, .val (.long xb), .second, .val (.long xd), .second, .val (.long xe), .second, .val (.int (0 : Int32)), .val (.int (0 : Int32)), .val (.ref b6), .val (.ref b7), .unset] [(.int (0 : Int32))])) _
        refine XS.iconst X7.here hx rfl (hb hby at_91) ?_
        show Steps p.tables e below (T7.setTop (mkF m 92 #[.val (.int sel), .val (.long xa), .second, .val (.long xc), .second, .val (.long xb), .second, .val (.long xd), .second, .val (.long xe), .second, .val (.int (0 : Int32)), .val (.int (0 : Int32)), .val (.ref b6), .val (.ref b7), .unset] [(.int (1 : Int32)), (.int (0 : Int32))])) _
        refine XS.icmpYes X7.here hx rfl (pc0 := 92) (pc' := 102) rfl (hb hby at_92) rfl (tlt (by decide : (0 : Int32) < (1 : Int32))).1 (by decide) (by decide) ?_
        show Steps p.tables e below (T7.setTop (mkF m 102 #[.val (.int sel), .val (.long xa), .second, .val (.long xc), .second, .val (.long xb), .second, .val (.long xd), .second, .val (.long xe), .second, .val (.int (0 : Int32)), .val (.int (0 : Int32)), .val (.ref b6), .val (.ref b7), .unset] [])) _
        refine XS.iload X7.here hx rfl (hb hby at_102) rfl ?_
        show Steps p.tables e below (T7.setTop (mkF m 104 #[.val (.int sel), .val (.long xa), .second, .val (.long xc), .second, .val (.long xb), .second, .val (.long xd), .second, .val (.long xe), .second, .val (.int (0 : Int32)), .val (.int (0 : Int32)), .val (.ref b6), .val (.ref b7), .unset] [(.int (0 : Int32))])) _
        refine XS.iconst X7.here hx rfl (hb hby at_104) ?_
        show Steps p.tables e below (T7.setTop (mkF m 105 #[.val (.int sel), .val (.long xa), .second, .val (.long xc), .second, .val (.long xb), .second, .val (.long xd), .second, .val (.long xe), .second, .val (.int (0 : Int32)), .val (.int (0 : Int32)), .val (.ref b6), .val (.ref b7), .unset] [(.int (2 : Int32)), (.int (0 : Int32))])) _
        refine XS.icmpYes X7.here hx rfl (pc0 := 105) (pc' := 115) rfl (hb hby at_105) rfl (tlt (by decide : (0 : Int32) < (2 : Int32))).1 (by decide) (by decide) ?_
        show Steps p.tables e below (T7.setTop (mkF m 115 #[.val (.int sel), .val (.long xa), .second, .val (.long xc), .second, .val (.long xb), .second, .val (.long xd), .second, .val (.long xe), .second, .val (.int (0 : Int32)), .val (.int (0 : Int32)), .val (.ref b6), .val (.ref b7), .unset] [])) _
        refine XS.iconst X7.here hx rfl (hb hby at_115) ?_
        show Steps p.tables e below (T7.setTop (mkF m 116 #[.val (.int sel), .val (.long xa), .second, .val (.long xc), .second, .val (.long xb), .second, .val (.long xd), .second, .val (.long xe), .second, .val (.int (0 : Int32)), .val (.int (0 : Int32)), .val (.ref b6), .val (.ref b7), .unset] [(.int (1 : Int32))])) _
        refine XS.goto X7.here hx rfl (pc0 := 116) (pc' := 120) rfl (hb hby at_116) (by decide) (by decide) ?_
        show Steps p.tables e below (T7.setTop (mkF m 120 #[.val (.int sel), .val (.long xa), .second, .val (.long xc), .second, .val (.long xb), .second, .val (.long xd), .second, .val (.long xe), .second, .val (.int (0 : Int32)), .val (.int (0 : Int32)), .val (.ref b6), .val (.ref b7), .unset] [(.int (1 : Int32))])) _
        refine XS.istore X7.here hx rfl (hb hby at_120) rfl (l' := #[.val (.int sel), .val (.long xa), .second, .val (.long xc), .second, .val (.long xb), .second, .val (.long xd), .second, .val (.long xe), .second, .val (.int (0 : Int32)), .val (.int (0 : Int32)), .val (.ref b6), .val (.ref b7), .val (.int (1 : Int32))]) rfl ?_
        show Steps p.tables e below (T7.setTop (mkF m 122 #[.val (.int sel), .val (.long xa), .second, .val (.long xc), .second, .val (.long xb), .second, .val (.long xd), .second, .val (.long xe), .second, .val (.int (0 : Int32)), .val (.int (0 : Int32)), .val (.ref b6), .val (.ref b7), .val (.int (1 : Int32))] [])) _
        refine XS.aload X7.here hx rfl (hb hby at_122) rfl rfl ?_
        show Steps p.tables e below (T7.setTop (mkF m 124 #[.val (.int sel), .val (.long xa), .second, .val (.long xc), .second, .val (.long xb), .second, .val (.long xd), .second, .val (.long xe), .second, .val (.int (0 : Int32)), .val (.int (0 : Int32)), .val (.ref b6), .val (.ref b7), .val (.int (1 : Int32))] [(.ref b6)])) _
        refine XS.aload X7.here hx rfl (hb hby at_124) rfl rfl ?_
        show Steps p.tables e below (T7.setTop (mkF m 126 #[.val (.int sel), .val (.long xa), .second, .val (.long xc), .second, .val (.long xb), .second, .val (.long xd), .second, .val (.long xe), .second, .val (.int (0 : Int32)), .val (.int (0 : Int32)), .val (.ref b6), .val (.ref b7), .val (.int (1 : Int32))] [(.ref b7), (.ref b6)])) _
        refine st8 _ ?_
        show Steps p.tables e below (T8.setTop (mkF m 129 #[.val (.int sel), .val (.long xa), .second, .val (.long xc), .second, .val (.long xb), .second, .val (.long xd), .second, .val (.long xe), .second, .val (.int (0 : Int32)), .val (.int (0 : Int32)), .val (.ref b6), .val (.ref b7), .val (.int (1 : Int32))] [(.int (1 : Int32))])) _
        refine XS.iload X8.here hx rfl (hb hby at_129) rfl ?_
        show Steps p.tables e below (T8.setTop (mkF m 131 #[.val (.int sel), .val (.long xa), .second, .val (.long xc), .second, .val (.long xb), .second, .val (.long xd), .second, .val (.long xe), .second, .val (.int (0 : Int32)), .val (.int (0 : Int32)), .val (.ref b6), .val (.ref b7), .val (.int (1 : Int32))] [(.int (1 : Int32)), (.int (1 : Int32))])) _
        refine XS.icmpNo X8.here hx rfl (hb hby at_131) rfl (teq (by decide : (1 : Int32) = (1 : Int32))).2 ?_
        show Steps p.tables e below (T8.setTop (mkF m 134 #[.val (.int sel), .val (.long xa), .second, .val (.long xc), .second, .val (.long xb), .second, .val (.long xd), .second, .val (.long xe), .second, .val (.int (0 : Int32)), .val (.int (0 : Int32)), .val (.ref b6), .val (.ref b7), .val (.int (1 : Int32))] [])) _
        refine XS.iconst X8.here hx rfl (hb hby at_134) ?_
        show Steps p.tables e below (T8.setTop (mkF m 135 #[.val (.int sel), .val (.long xa), .second, .val (.long xc), .second, .val (.long xb), .second, .val (.long xd), .second, .val (.long xe), .second, .val (.int (0 : Int32)), .val (.int (0 : Int32)), .val (.ref b6), .val (.ref b7), .val (.int (1 : Int32))] [(.int (1 : Int32))])) _
        refine XS.goto X8.here hx rfl (pc0 := 135) (pc' := 139) rfl (hb hby at_135) (by decide) (by decide) ?_
        show Steps p.tables e below (T8.setTop (mkF m 139 #[.val (.int sel), .val (.long xa), .second, .val (.long xc), .second, .val (.long xb), .second, .val (.long xd), .second, .val (.long xe), .second, .val (.int (0 : Int32)), .val (.int (0 : Int32)), .val (.ref b6), .val (.ref b7), .val (.int (1 : Int32))] [(.int (1 : Int32))])) _
        exact retN X8 hx (t := .boolean) Bd.returns (by simp) (hb hby at_139) hr
      · show QL Z sel xa xc xb xd xe h0 n0 _ T8.heap _
        rw [e8]
        exact ⟨rfl, N8⟩
    · obtain ⟨T9, h9, k9, X9, e9, E9, A9, st9⟩ := newP X0 hx hZ (hw _ (List.mem_of_getElem? (i := 0) rfl)) e0 (g := (mkF m 33 #[.val (.int sel), .val (.long xa), .second, .val (.long xc), .second, .val (.long xb), .second, .val (.long xd), .second, .val (.long xe), .second, .val (.int (0 : Int32)), .val (.int (1 : Int32)), .unset, .unset, .unset] [(.int (1 : Int32))])) rfl (hb hby at_33) rfl (by decide) (cap := 1) (by decide) (by decide) (by decide) (by decide)
      obtain ⟨b9, g9⟩ : ∃ z, z = h0.size := ⟨_, rfl⟩
      rw [← g9] at A9 st9
      have g_b9 : n0 ≤ b9 := Nat.le_trans Z0 (Nat.le_of_eq g9.symm)
      have sz_b9 : h0.size ≤ b9 := Nat.le_trans (Keep.refl h0 []).1 (Nat.le_of_eq g9.symm)
      have K9 : Keep h0 h9 [] := (Keep.refl h0 []).ext E9
      have Zs9 : n0 ≤ h9.size := Nat.le_trans Z0 E9.1
      have V9 : Arv Z h9 b9 k9 .long (1 : Int32) [(.long (0 : Int64))] (.long (0 : Int64)) := (Arv.new A9 (by decide)).pad (pad_rep [] (.long (0 : Int64)) 1)
      obtain ⟨T10, h10, k10, X10, e10, E10, A10, st10⟩ := newP X9 hx hZ (hw _ (List.mem_of_getElem? (i := 0) rfl)) e9 (g := (mkF m 39 #[.val (.int sel), .val (.long xa), .second, .val (.long xc), .second, .val (.long xb), .second, .val (.long xd), .second, .val (.long xe), .second, .val (.int (0 : Int32)), .val (.int (1 : Int32)), .val (.ref b9), .unset, .unset] [(.int (0 : Int32))])) rfl (hb hby at_39) rfl (by decide) (cap := 0) (by decide) (by decide) (by decide) (by decide)
      obtain ⟨b10, g10⟩ : ∃ z, z = h9.size := ⟨_, rfl⟩
      rw [← g10] at A10 st10
      have ne_b9_b10 : b9 ≠ b10 := Nat.ne_of_lt (Nat.lt_of_lt_of_le V9.lt (Nat.le_of_eq g10.symm))
      have g_b10 : n0 ≤ b10 := Nat.le_trans Zs9 (Nat.le_of_eq g10.symm)
      have sz_b10 : h0.size ≤ b10 := Nat.le_trans K9.1 (Nat.le_of_eq g10.symm)
      have K10 : Keep h0 h10 [] := K9.ext E10
      have Zs10 : n0 ≤ h10.size := Nat.le_trans Zs9 E10.1
      have V10 : Arv Z h10 b10 k10 .long (0 : Int32) [] (.long (0 : Int64)) := (Arv.new A10 (by decide)).pad (pad_rep [] (.long (0 : Int64)) 0)
      obtain ⟨cl11, Ar11, q11, S11, M11, Hs11, G11⟩ := (V9.ext E10)
      have hin11 : ¬ ((0 : Int32) < 0 ∨ cl11.slots.size ≤ ((0 : Int32)).toNatClampNeg) := inb_of S11 ⟨by decide, by decide⟩
      obtain ⟨T12, h12, X12, e12, W12, st12⟩ := stJ X10 hx hZ e10 Ar11 (j := (0 : Int32)) hin11 (g := (mkF m 88 #[.val (.int sel), .val (.long xa), .second, .val (.long xc), .second, .val (.long xb), .second, .val (.long xd), .second, .val (.long xe), .second, .val (.int (0 : Int32)), .val (.int (1 : Int32)), .val (.ref b9), .val (.ref b10), .unset] [(.long xe), (.int (0 : Int32)), (.ref b9)])) rfl rfl (hb hby at_88)
      have V12 : Arv Z h12 b9 k9 .long (1 : Int32) [(.long xe)] (.long (0 : Int64)) := Arv.set Ar11 q11 S11 M11 Hs11 G11 rfl W12 0 rfl (Nat.le_of_ble_eq_true rfl)
      have K12 : Keep h0 h12 [] := K10.wr W12 (Or.inr sz_b9)
      have Zs12 : n0 ≤ h12.size := Nat.le_trans Zs10 (Keep.of_wr W12).1
      have N12 := Fr.snoc X12 N0 g_b9
      obtain ⟨_, _, ⟨T13, L13, k13, n13⟩, -, X13, ⟨Lc13, hQ13, l13, y13, z13⟩, st13⟩ := Jvm.LawKit.callS X12 hx (y := (⟨"com/example/gavelwright/gavelwright/WelfareMaximizer", "fits", "([J[J)Z"⟩ : MethodName)) hown (mvT hZ (hw _ (List.mem_of_getElem? (i := 1) rfl))) (mvT hZ (hw _ (List.mem_of_getElem? (i := 2) rfl))) (mvT hZ (hw _ (List.mem_of_getElem? (i := 3) rfl))) (mvT hZ (hw _ (List.mem_of_getElem? (i := 4) rfl))) (by decide) (backOf (W := 0) (rmF01 l Z a0 hw [] b9 b10 xe k9 k10 h12 n0 Zs12 V12 (V10.other W12 (Ne.symm ne_b9_b10))) hZ (hw _ (List.mem_of_getElem? (i := 4) rfl)) (hw _ (List.mem_of_getElem? (i := 3) rfl)) (by decide) (by decide)) (g := (mkF m 126 #[.val (.int sel), .val (.long xa), .second, .val (.long xc), .second, .val (.long xb), .second, .val (.long xd), .second, .val (.long xe), .second, .val (.int (0 : Int32)), .val (.int (1 : Int32)), .val (.ref b9), .val (.ref b10), .val (.int (1 : Int32))] [(.ref b10), (.ref b9)])) rfl (by rw [hml]; rfl) (argsL := [(.ref b9), (.ref b10)]) (rest := []) (lenOf own_pd0 rfl) rfl (by show 2 * 0 + _ ≤ _; exact Nat.le_of_eq rfl) (hb hby at_126) (fun _ _ => ⟨rfl, e12, (by decide : 2 + 0 ≤ _), (by decide : 1 + 0 ≤ _)⟩)
      dsimp only [Pt.U, Pt.locs, Pt.cells, Pt.slots] at X13 l13 y13 z13 st13 hQ13
      subst l13 y13 z13
      obtain ⟨rfl, Nq13, e13⟩ := hQ13
      have N13 := Fr.app N12 Nq13
      obtain ⟨fs, hr, hrun, hended, hW, hsame⟩ := X13.leave (v := some (.int (1 : Int32))) (fun h => by rw [Bd.returns] at h; cases h)
      refine ⟨_, _, (pre0 _ (r1 _ (r3 _ (r4 _ ?_)))), hrun, hended, _, _, rfl, ?_, ⟨_, rfl⟩, hW, hsame.mono (by decide) (by decide)⟩
      · show Steps p.tables e below (s₁.setTop (mkF m 10 #[.val (.int sel), .val (.long xa), .second, .val (.long xc), .second, .val (.long xb), .second, .val (.long xd), .second, .val (.long xe), .second, .val (.int (0 : Int32)), .unset, .unset, .unset, .unset] [(.int (sel &&& (4 : Int32)))])) _
        refine XS.ifNo X0.here hx rfl (hb hby at_10) rfl ((if0 _ _).trans (feq hc5).1) ?_
        show Steps p.tables e below (s₁.setTop (mkF m 13 #[.val (.int sel), .val (.long xa), .second, .val (.long xc), .second, .val (.long xb), .second, .val (.long xd), .second, .val (.long xe), .second, .val (.int (0 : Int32)), .unset, .unset, .unset, .unset] [])) _
        refine XS.iconst X0.here hx rfl (hb hby at_13) ?_
        show Steps p.tables e below (s₁.setTop (mkF m 14 #[.val (.int sel), .val (.long xa), .second, .val (.long xc), .second, .val (.long xb), .second, .val (.long xd), .second, .val (.long xe), .second, .val (.int (0 : Int32)), .unset, .unset, .unset, .unset] [(.int (1 : Int32))])) _
        refine XS.goto X0.here hx rfl (pc0 := 14) (pc' := 18) rfl (hb hby at_14) (by decide) (by decide) ?_
        show Steps p.tables e below (s₁.setTop (mkF m 18 #[.val (.int sel), .val (.long xa), .second, .val (.long xc), .second, .val (.long xb), .second, .val (.long xd), .second, .val (.long xe), .second, .val (.int (0 : Int32)), .unset, .unset, .unset, .unset] [(.int (1 : Int32))])) _
        refine XS.istore X0.here hx rfl (hb hby at_18) rfl (l' := #[.val (.int sel), .val (.long xa), .second, .val (.long xc), .second, .val (.long xb), .second, .val (.long xd), .second, .val (.long xe), .second, .val (.int (0 : Int32)), .val (.int (1 : Int32)), .unset, .unset, .unset]) rfl ?_
        show Steps p.tables e below (s₁.setTop (mkF m 20 #[.val (.int sel), .val (.long xa), .second, .val (.long xc), .second, .val (.long xb), .second, .val (.long xd), .second, .val (.long xe), .second, .val (.int (0 : Int32)), .val (.int (1 : Int32)), .unset, .unset, .unset] [])) _
        refine XS.iload X0.here hx rfl (hb hby at_20) rfl ?_
        show Steps p.tables e below (s₁.setTop (mkF m 22 #[.val (.int sel), .val (.long xa), .second, .val (.long xc), .second, .val (.long xb), .second, .val (.long xd), .second, .val (.long xe), .second, .val (.int (0 : Int32)), .val (.int (1 : Int32)), .unset, .unset, .unset] [(.int (0 : Int32))])) _
        refine XS.iload X0.here hx rfl (hb hby at_22) rfl ?_
        show Steps p.tables e below (s₁.setTop (mkF m 24 #[.val (.int sel), .val (.long xa), .second, .val (.long xc), .second, .val (.long xb), .second, .val (.long xd), .second, .val (.long xe), .second, .val (.int (0 : Int32)), .val (.int (1 : Int32)), .unset, .unset, .unset] [(.int (1 : Int32)), (.int (0 : Int32))])) _
        refine XS.ifNo X0.here hx rfl (hb hby at_24) rfl ((if0 _ _).trans (feq (by decide : ¬ ((1 : Int32) = (0 : Int32)))).1) ?_
        show Steps p.tables e below (s₁.setTop (mkF m 27 #[.val (.int sel), .val (.long xa), .second, .val (.long xc), .second, .val (.long xb), .second, .val (.long xd), .second, .val (.long xe), .second, .val (.int (0 : Int32)), .val (.int (1 : Int32)), .unset, .unset, .unset] [(.int (0 : Int32))])) _
        refine XS.iconst X0.here hx rfl (hb hby at_27) ?_
        show Steps p.tables e below (s₁.setTop (mkF m 28 #[.val (.int sel), .val (.long xa), .second, .val (.long xc), .second, .val (.long xb), .second, .val (.long xd), .second, .val (.long xe), .second, .val (.int (0 : Int32)), .val (.int (1 : Int32)), .unset, .unset, .unset] [(.int (1 : Int32)), (.int (0 : Int32))])) _
        refine XS.goto X0.here hx rfl (pc0 := 28) (pc' := 32) rfl (hb hby at_28) (by decide) (by decide) ?_
        show Steps p.tables e below (s₁.setTop (mkF m 32 #[.val (.int sel), .val (.long xa), .second, .val (.long xc), .second, .val (.long xb), .second, .val (.long xd), .second, .val (.long xe), .second, .val (.int (0 : Int32)), .val (.int (1 : Int32)), .unset, .unset, .unset] [(.int (1 : Int32)), (.int (0 : Int32))])) _
        refine XS.iadd X0.here hx rfl (hb hby at_32) rfl ?_
        show Steps p.tables e below (s₁.setTop (mkF m 33 #[.val (.int sel), .val (.long xa), .second, .val (.long xc), .second, .val (.long xb), .second, .val (.long xd), .second, .val (.long xe), .second, .val (.int (0 : Int32)), .val (.int (1 : Int32)), .unset, .unset, .unset] [(.int (1 : Int32))])) _
        refine st9 _ ?_
        show Steps p.tables e below (T9.setTop (mkF m 35 #[.val (.int sel), .val (.long xa), .second, .val (.long xc), .second, .val (.long xb), .second, .val (.long xd), .second, .val (.long xe), .second, .val (.int (0 : Int32)), .val (.int (1 : Int32)), .unset, .unset, .unset] [(.ref b9)])) _
        refine XS.astore X9.here hx rfl (hb hby at_35) rfl rfl (l' := #[.val (.int sel), .val (.long xa), .second, .val (.long xc), .second, .val (.long xb), .second, .val (.long xd), .second, .val (.long xe), .second, .val (.int (0 : Int32)), .val (.int (1 : Int32)), .val (.ref b9), .unset, .unset]) rfl ?_
        show Steps p.tables e below (T9.setTop (mkF m 37 #[.val (.int sel), .val (.long xa), .second, .val (.long xc), .second, .val (.long xb), .second, .val (.long xd), .second, .val (.long xe), .second, .val (.int (0 : Int32)), .val (.int (1 : Int32)), .val (.ref b9), .unset, .unset] [])) _
        refine XS.iload X9.here hx rfl (hb hby at_37) rfl ?_
        show Steps p.tables e below (T9.setTop (mkF m 39 #[.val (.int sel), .val (.long xa), .second, .val (.long xc), .second, .val (.long xb), .second, .val (.long xd), .second, .val (.long xe), .second, .val (.int (0 : Int32)), .val (.int (1 : Int32)), .val (.ref b9), .unset, .unset] [(.int (0 : Int32))])) _
        refine st10 _ ?_
        show Steps p.tables e below (T10.setTop (mkF m 41 #[.val (.int sel), .val (.long xa), .second, .val (.long xc), .second, .val (.long xb), .second, .val (.long xd), .second, .val (.long xe), .second, .val (.int (0 : Int32)), .val (.int (1 : Int32)), .val (.ref b9), .unset, .unset] [(.ref b10)])) _
        refine XS.astore X10.here hx rfl (hb hby at_41) rfl rfl (l' := #[.val (.int sel), .val (.long xa), .second, .val (.long xc), .second, .val (.long xb), .second, .val (.long xd), .second, .val (.long xe), .second, .val (.int (0 : Int32)), .val (.int (1 : Int32)), .val (.ref b9), .val (.ref b10), .unset]) rfl ?_
        show Steps p.tables e below (T10.setTop (mkF m 43 #[.val (.int sel), .val (.long xa), .second, .val (.long xc), .second, .val (.long xb), .second, .val (.long xd), .second, .val (.long xe), .second, .val (.int (0 : Int32)), .val (.int (1 : Int32)), .val (.ref b9), .val (.ref b10), .unset] [])) _
        refine XS.iload X10.here hx rfl (hb hby at_43) rfl ?_
        show Steps p.tables e below (T10.setTop (mkF m 45 #[.val (.int sel), .val (.long xa), .second, .val (.long xc), .second, .val (.long xb), .second, .val (.long xd), .second, .val (.long xe), .second, .val (.int (0 : Int32)), .val (.int (1 : Int32)), .val (.ref b9), .val (.ref b10), .unset] [(.int (0 : Int32))])) _
        refine XS.iconst X10.here hx rfl (hb hby at_45) ?_
        show Steps p.tables e below (T10.setTop (mkF m 46 #[.val (.int sel), .val (.long xa), .second, .val (.long xc), .second, .val (.long xb), .second, .val (.long xd), .second, .val (.long xe), .second, .val (.int (0 : Int32)), .val (.int (1 : Int32)), .val (.ref b9), .val (.ref b10), .unset] [(.int (1 : Int32)), (.int (0 : Int32))])) _
        refine XS.icmpYes X10.here hx rfl (pc0 := 46) (pc' := 60) rfl (hb hby at_46) rfl (tlt (by decide : (0 : Int32) < (1 : Int32))).1 (by decide) (by decide) ?_
        show Steps p.tables e below (T10.setTop (mkF m 60 #[.val (.int sel), .val (.long xa), .second, .val (.long xc), .second, .val (.long xb), .second, .val (.long xd), .second, .val (.long xe), .second, .val (.int (0 : Int32)), .val (.int (1 : Int32)), .val (.ref b9), .val (.ref b10), .unset] [])) _
        refine XS.iload X10.here hx rfl (hb hby at_60) rfl ?_
        show Steps p.tables e below (T10.setTop (mkF m 62 #[.val (.int sel), .val (.long xa), .second, .val (.long xc), .second, .val (.long xb), .second, .val (.long xd), .second, .val (.long xe), .second, .val (.int (0 : Int32)), .val (.int (1 : Int32)), .val (.ref b9), .val (.ref b10), .unset] [(.int (0 : Int32))])) _
        refine XS.iconst X10.here hx rfl (hb hby at_62) ?_
        show Steps p.tables e below (T10.setTop (mkF m 63 #[.val (.int sel), .val (.long xa), .second, .val (.long xc), .second, .val (.long xb), .second, .val (.long xd), .second, .val (.long xe), .second, .val (.int (0 : Int32)), .val (.int (1 : Int32)), .val (.ref b9), .val (.ref b10), .unset] [(.int (2 : Int32)), (.int (0 : Int32))])) _
        refine XS.icmpYes X10.here hx rfl (pc0 := 63) (pc' := 77) rfl (hb hby at_63) rfl (tlt (by decide : (0 : Int32) < (2 : Int32))).1 (by decide) (by decide) ?_
        show Steps p.tables e below (T10.setTop (mkF m 77 #[.val (.int sel), .val (.long xa), .second, .val (.long xc), .second, .val (.long xb), .second, .val (.long xd), .second, .val (.long xe), .second, .val (.int (0 : Int32)), .val (.int (1 : Int32)), .val (.ref b9), .val (.ref b10), .unset] [])) _
        refine XS.iload X10.here hx rfl (hb hby at_77) rfl ?_
        show Steps p.tables e below (T10.setTop (mkF m 79 #[.val (.int sel), .val (.long xa), .second, .val (.long xc), .second, .val (.long xb), .second, .val (.long xd), .second, .val (.long xe), .second, .val (.int (0 : Int32)), .val (.int (1 : Int32)), .val (.ref b9), .val (.ref b10), .unset] [(.int (1 : Int32))])) _
        refine XS.ifNo X10.here hx rfl (hb hby at_79) rfl ((if0 _ _).trans (feq (by decide : ¬ ((1 : Int32) = (0 : Int32)))).1) ?_
        show Steps p.tables e below (T10.setTop (mkF m 82 #[.val (.int sel), .val (.long xa), .second, .val (.long xc), .second, .val (.long xb), .second, .val (.long xd), .second, .val (.long xe), .second, .val (.int (0 : Int32)), .val (.int (1 : Int32)), .val (.ref b9), .val (.ref b10), .unset] [])) _
        refine XS.aload X10.here hx rfl (hb hby at_82) rfl rfl ?_
        show Steps p.tables e below (T10.setTop (mkF m 84 #[.val (.int sel), .val (.long xa), .second, .val (.long xc), .second, .val (.long xb), .second, .val (.long xd), .second, .val (.long xe), .second, .val (.int (0 : Int32)), .val (.int (1 : Int32)), .val (.ref b9), .val (.ref b10), .unset] [(.ref b9)])) _
        refine XS.iload X10.here hx rfl (hb hby at_84) rfl ?_
        show Steps p.tables e below (T10.setTop (mkF m 86 #[.val (.int sel), .val (.long xa), .second, .val (.long xc), .second, .val (.long xb), .second, .val (.long xd), .second, .val (.long xe), .second, .val (.int (0 : Int32)), .val (.int (1 : Int32)), .val (.ref b9), .val (.ref b10), .unset] [(.int (0 : Int32)), (.ref b9)])) _
        refine XS.lload X10.here hx rfl (hb hby at_86) rfl ?_
        show Steps p.tables e below (T10.setTop (mkF m 88 #[.val (.int sel), .val (.long xa), .second, .val (.long xc), .second, .val (.long xb), .second, .val (.long xd), .second, .val (.long xe), .second, .val (.int (0 : Int32)), .val (.int (1 : Int32)), .val (.ref b9), .val (.ref b10), .unset] [(.long xe), (.int (0 : Int32)), (.ref b9)])) _
        refine st12 _ ?_
        show Steps p.tables e below (T12.setTop (mkF m 89 #[.val (.int sel), .val (.long xa), .second, .val (.long xc), .second, .val (.long xb), .second, .val (.long xd), .second, .val (.long xe), .second, .val (.int (0 : Int32)), .val (.int (1 : Int32)), .val (.ref b9), .val (.ref b10), .unset] [])) _
        refine XS.iload X12.here hx rfl (hb hby at_89) rfl ?_
        show Steps p.tables e below (T12.setTop (mkF m 91 #[.val (.int sel), .val (.long xa), .second, .val (.long xc), .second, .val (.long xb), .second, .val (.long xd), .second, .val (.long xe), .second, .val (.int (0 : Int32)), .val (.int (1 : Int32)), .val (.ref b9), .val (.ref b10), .unset] [(.int (0 : Int32))])) _
        refine XS.iconst X12.here hx rfl (hb hby at_91) ?_
        show Steps p.tables e below (T12.setTop (mkF m 92 #[.val (.int sel), .val (.long xa), .second, .val (.long xc), .second, .val (.long xb), .second, .val (.long xd), .second, .val (.long xe), .second, .val (.int (0 : Int32)), .val (.int (1 : Int32)), .val (.ref b9), .val (.ref b10), .unset] [(.int (1 : Int32)), (.int (0 : Int32))])) _
        refine XS.icmpYes X12.here hx rfl (pc0 := 92) (pc' := 102) rfl (hb hby at_92) rfl (tlt (by decide : (0 : Int32) < (1 : Int32))).1 (by decide) (by decide) ?_
        show Steps p.tables e below (T12.setTop (mkF m 102 #[.val (.int sel), .val (.long xa), .second, .val (.long xc), .second, .val (.long xb), .second, .val (.long xd), .second, .val (.long xe), .second, .val (.int (0 : Int32)), .val (.int (1 : Int32)), .val (.ref b9), .val (.ref b10), .unset] [])) _
        refine XS.iload X12.here hx rfl (hb hby at_102) rfl ?_
        show Steps p.tables e below (T12.setTop (mkF m 104 #[.val (.int sel), .val (.long xa), .second, .val (.long xc), .second, .val (.long xb), .second, .val (.long xd), .second, .val (.long xe), .second, .val (.int (0 : Int32)), .val (.int (1 : Int32)), .val (.ref b9), .val (.ref b10), .unset] [(.int (0 : Int32))])) _
        refine XS.iconst X12.here hx rfl (hb hby at_104) ?_
        show Steps p.tables e below (T12.setTop (mkF m 105 #[.val (.int sel), .val (.long xa), .second, .val (.long xc), .second, .val (.long xb), .second, .val (.long xd), .second, .val (.long xe), .second, .val (.int (0 : Int32)), .val (.int (1 : Int32)), .val (.ref b9), .val (.ref b10), .unset] [(.int (2 : Int32)), (.int (0 : Int32))])) _
        refine XS.icmpYes X12.here hx rfl (pc0 := 105) (pc' := 115) rfl (hb hby at_105) rfl (tlt (by decide : (0 : Int32) < (2 : Int32))).1 (by decide) (by decide) ?_
        show Steps p.tables e below (T12.setTop (mkF m 115 #[.val (.int sel), .val (.long xa), .second, .val (.long xc), .second, .val (.long xb), .second, .val (.long xd), .second, .val (.long xe), .second, .val (.int (0 : Int32)), .val (.int (1 : Int32)), .val (.ref b9), .val (.ref b10), .unset] [])) _
        refine XS.iconst X12.here hx rfl (hb hby at_115) ?_
        show Steps p.tables e below (T12.setTop (mkF m 116 #[.val (.int sel), .val (.long xa), .second, .val (.long xc), .second, .val (.long xb), .second, .val (.long xd), .second, .val (.long xe), .second, .val (.int (0 : Int32)), .val (.int (1 : Int32)), .val (.ref b9), .val (.ref b10), .unset] [(.int (1 : Int32))])) _
        refine XS.goto X12.here hx rfl (pc0 := 116) (pc' := 120) rfl (hb hby at_116) (by decide) (by decide) ?_
        show Steps p.tables e below (T12.setTop (mkF m 120 #[.val (.int sel), .val (.long xa), .second, .val (.long xc), .second, .val (.long xb), .second, .val (.long xd), .second, .val (.long xe), .second, .val (.int (0 : Int32)), .val (.int (1 : Int32)), .val (.ref b9), .val (.ref b10), .unset] [(.int (1 : Int32))])) _
        refine XS.istore X12.here hx rfl (hb hby at_120) rfl (l' := #[.val (.int sel), .val (.long xa), .second, .val (.long xc), .second, .val (.long xb), .second, .val (.long xd), .second, .val (.long xe), .second, .val (.int (0 : Int32)), .val (.int (1 : Int32)), .val (.ref b9), .val (.ref b10), .val (.int (1 : Int32))]) rfl ?_
        show Steps p.tables e below (T12.setTop (mkF m 122 #[.val (.int sel), .val (.long xa), .second, .val (.long xc), .second, .val (.long xb), .second, .val (.long xd), .second, .val (.long xe), .second, .val (.int (0 : Int32)), .val (.int (1 : Int32)), .val (.ref b9), .val (.ref b10), .val (.int (1 : Int32))] [])) _
        refine XS.aload X12.here hx rfl (hb hby at_122) rfl rfl ?_
        show Steps p.tables e below (T12.setTop (mkF m 124 #[.val (.int sel), .val (.long xa), .second, .val (.long xc), .second, .val (.long xb), .second, .val (.long xd), .second, .val (.long xe), .second, .val (.int (0 : Int32)), .val (.int (1 : Int32)), .val (.ref b9), .val (.ref b10), .val (.int (1 : Int32))] [(.ref b9)])) _
        refine XS.aload X12.here hx rfl (hb hby at_124) rfl rfl ?_
        show Steps p.tables e below (T12.setTop (mkF m 126 #[.val (.int sel), .val (.long xa), .second, .val (.long xc), .second, .val (.long xb), .second, .val (.long xd), .second, .val (.long xe), .second, .val (.int (0 : Int32)), .val (.int (1 : Int32)), .val (.ref b9), .val (.ref b10), .val (.int (1 : Int32))] [(.ref b10), (.ref b9)])) _
        refine st13 _ ?_
        show Steps p.tables e below (T13.setTop (mkF m 129 #[.val (.int sel), .val (.long xa), .second, .val (.long xc), .second, .val (.long xb), .second, .val (.long xd), .second, .val (.long xe), .second, .val (.int (0 : Int32)), .val (.int (1 : Int32)), .val (.ref b9), .val (.ref b10), .val (.int (1 : Int32))] [(.int (1 : Int32))])) _
        refine XS.iload X13.here hx rfl (hb hby at_129) rfl ?_
        show Steps p.tables e below (T13.setTop (mkF m 131 #[.val (.int sel), .val (.long xa), .second, .val (.long xc), .second, .val (.long xb), .second, .val (.long xd), .second, .val (.long xe), .second, .val (.int (0 : Int32)), .val (.int (1 : Int32)), .val (.ref b9), .val (.ref b10), .val (.int (1 : Int32))] [(.int (1 : Int32)), (.int (1 : Int32))])) _
        refine XS.icmpNo X13.here hx rfl (hb hby at_131) rfl (teq (by decide : (1 : Int32) = (1 : Int32))).2 ?_
        show Steps p.tables e below (T13.setTop (mkF m 134 #[.val (.int sel), .val (.long xa), .second, .val (.long xc), .second, .val (.long xb), .second, .val (.long xd), .second, .val (.long xe), .second, .val (.int (0 : Int32)), .val (.int (1 : Int32)), .val (.ref b9), .val (.ref b10), .val (.int (1 : Int32))] [])) _
        refine XS.iconst X13.here hx rfl (hb hby at_134) ?_
        show Steps p.tables e below (T13.setTop (mkF m 135 #[.val (.int sel), .val (.long xa), .second, .val (.long xc), .second, .val (.long xb), .second, .val (.long xd), .second, .val (.long xe), .second, .val (.int (0 : Int32)), .val (.int (1 : Int32)), .val (.ref b9), .val (.ref b10), .val (.int (1 : Int32))] [(.int (1 : Int32))])) _
        refine XS.goto X13.here hx rfl (pc0 := 135) (pc' := 139) rfl (hb hby at_135) (by decide) (by decide) ?_
        show Steps p.tables e below (T13.setTop (mkF m 139 #[.val (.int sel), .val (.long xa), .second, .val (.long xc), .second, .val (.long xb), .second, .val (.long xd), .second, .val (.long xe), .second, .val (.int (0 : Int32)), .val (.int (1 : Int32)), .val (.ref b9), .val (.ref b10), .val (.int (1 : Int32))] [(.int (1 : Int32))])) _
        exact retN X13 hx (t := .boolean) Bd.returns (by simp) (hb hby at_139) hr
      · show QL Z sel xa xc xb xd xe h0 n0 _ T13.heap _
        rw [e13]
        exact ⟨rfl, N13⟩
  · have r14 : ∀ t, Steps p.tables e below (s₁.setTop (mkF m 7 #[.val (.int sel), .val (.long xa), .second, .val (.long xc), .second, .val (.long xb), .second, .val (.long xd), .second, .val (.long xe), .second, .val (.int (1 : Int32)), .unset, .unset, .unset, .unset] [])) t → Steps p.tables e below (s₁.setTop (mkF m 7 #[.val (.int sel), .val (.long xa), .second, .val (.long xc), .second, .val (.long xb), .second, .val (.long xd), .second, .val (.long xe), .second, .val (.int ((sel &&& (3 : Int32)) % (3 : Int32))), .unset, .unset, .unset, .unset] [])) t := fun t kt => by
      rw [hk2]
      exact kt
    have r15 : ∀ t, Steps p.tables e below (s₁.setTop (mkF m 10 #[.val (.int sel), .val (.long xa), .second, .val (.long xc), .second, .val (.long xb), .second, .val (.long xd), .second, .val (.long xe), .second, .val (.int (1 : Int32)), .unset, .unset, .unset, .unset] [(.int (sel &&& (4 : Int32)))])) t → Steps p.tables e below (s₁.setTop (mkF m 7 #[.val (.int sel), .val (.long xa), .second, .val (.long xc), .second, .val (.long xb), .second, .val (.long xd), .second, .val (.long xe), .second, .val (.int (1 : Int32)), .unset, .unset, .unset, .unset] [])) t := fun t kt => by
      show Steps p.tables e below (s₁.setTop (mkF m 7 #[.val (.int sel), .val (.long xa), .second, .val (.long xc), .second, .val (.long xb), .second, .val (.long xd), .second, .val (.long xe), .second, .val (.int (1 : Int32)), .unset, .unset, .unset, .unset] [])) _
      refine XS.iloadN X0.here hx rfl (hb hby at_7) rfl ?_
      show Steps p.tables e below (s₁.setTop (mkF m 8 #[.val (.int sel), .val (.long xa), .second, .val (.long xc), .second, .val (.long xb), .second, .val (.long xd), .second, .val (.long xe), .second, .val (.int (1 : Int32)), .unset, .unset, .unset, .unset] [(.int sel)])) _
      refine XS.iconst X0.here hx rfl (hb hby at_8) ?_
      show Steps p.tables e below (s₁.setTop (mkF m 9 #[.val (.int sel), .val (.long xa), .second, .val (.long xc), .second, .val (.long xb), .second, .val (.long xd), .second, .val (.long xe), .second, .val (.int (1 : Int32)), .unset, .unset, .unset, .unset] [(.int (4 : Int32)), (.int sel)])) _
      refine XS.iand X0.here hx rfl (hb hby at_9) rfl ?_
      exact kt
    by_cases hc16 : (sel &&& (4 : Int32)) = (0 : Int32)
    · obtain ⟨T17, h17, k17, X17, e17, E17, A17, st17⟩ := newP X0 hx hZ (hw _ (List.mem_of_getElem? (i := 0) rfl)) e0 (g := (mkF m 33 #[.val (.int sel), .val (.long xa), .second, .val (.long xc), .second, .val (.long xb), .second, .val (.long xd), .second, .val (.long xe), .second, .val (.int (1 : Int32)), .val (.int (0 : Int32)), .unset, .unset, .unset] [(.int (1 : Int32))])) rfl (hb hby at_33) rfl (by decide) (cap := 1) (by decide) (by decide) (by decide) (by decide)
      obtain ⟨b17, g17⟩ : ∃ z, z = h0.size := ⟨_, rfl⟩
      rw [← g17] at A17 st17
      have g_b17 : n0 ≤ b17 := Nat.le_trans Z0 (Nat.le_of_eq g17.symm)
      have sz_b17 : h0.size ≤ b17 := Nat.le_trans (Keep.refl h0 []).1 (Nat.le_of_eq g17.symm)
      have K17 : Keep h0 h17 [] := (Keep.refl h0 []).ext E17
      have Zs17 : n0 ≤ h17.size := Nat.le_trans Z0 E17.1
      have V17 : Arv Z h17 b17 k17 .long (1 : Int32) [(.long (0 : Int64))] (.long (0 : Int64)) := (Arv.new A17 (by decide)).pad (pad_rep [] (.long (0 : Int64)) 1)
      obtain ⟨T18, h18, k18, X18, e18, E18, A18, st18⟩ := newP X17 hx hZ (hw _ (List.mem_of_getElem? (i := 0) rfl)) e17 (g := (mkF m 39 #[.val (.int sel), .val (.long xa), .second, .val (.long xc), .second, .val (.long xb), .second, .val (.long xd), .second, .val (.long xe), .second, .val (.int (1 : Int32)), .val (.int (0 : Int32)), .val (.ref b17), .unset, .unset] [(.int (1 : Int32))])) rfl (hb hby at_39) rfl (by decide) (cap := 1) (by decide) (by decide) (by decide) (by decide)
      obtain ⟨b18, g18⟩ : ∃ z, z = h17.size := ⟨_, rfl⟩
      rw [← g18] at A18 st18
      have ne_b17_b18 : b17 ≠ b18 := Nat.ne_of_lt (Nat.lt_of_lt_of_le V17.lt (Nat.le_of_eq g18.symm))
      have g_b18 : n0 ≤ b18 := Nat.le_trans Zs17 (Nat.le_of_eq g18.symm)
      have sz_b18 : h0.size ≤ b18 := Nat.le_trans K17.1 (Nat.le_of_eq g18.symm)
      have K18 : Keep h0 h18 [] := K17.ext E18
      have Zs18 : n0 ≤ h18.size := Nat.le_trans Zs17 E18.1
      have V18 : Arv Z h18 b18 k18 .long (1 : Int32) [(.long (0 : Int64))] (.long (0 : Int64)) := (Arv.new A18 (by decide)).pad (pad_rep [] (.long (0 : Int64)) 1)
      obtain ⟨cl19, Ar19, q19, S19, M19, Hs19, G19⟩ := (V17.ext E18)
      have hin19 : ¬ ((0 : Int32) < 0 ∨ cl19.slots.size ≤ ((0 : Int32)).toNatClampNeg) := inb_of S19 ⟨by decide, by decide⟩
      obtain ⟨T20, h20, X20, e20, W20, st20⟩ := stJ X18 hx hZ e18 Ar19 (j := (0 : Int32)) hin19 (g := (mkF m 53 #[.val (.int sel), .val (.long xa), .second, .val (.long xc), .second, .val (.long xb), .second, .val (.long xd), .second, .val (.long xe), .second, .val (.int (1 : Int32)), .val (.int (0 : Int32)), .val (.ref b17), .val (.ref b18), .unset] [(.long xa), (.int (0 : Int32)), (.ref b17)])) rfl rfl (hb hby at_53)
      have V20 : Arv Z h20 b17 k17 .long (1 : Int32) [(.long xa)] (.long (0 : Int64)) := Arv.set Ar19 q19 S19 M19 Hs19 G19 rfl W20 0 rfl (Nat.le_of_ble_eq_true rfl)
      have K20 : Keep h0 h20 [] := K18.wr W20 (Or.inr sz_b17)
      have Zs20 : n0 ≤ h20.size := Nat.le_trans Zs18 (Keep.of_wr W20).1
      have N20 := Fr.snoc X20 N0 g_b17
      obtain ⟨cl21, Ar21, q21, S21, M21, Hs21, G21⟩ := (V18.other W20 (Ne.symm ne_b17_b18))
      have hin21 : ¬ ((0 : Int32) < 0 ∨ cl21.slots.size ≤ ((0 : Int32)).toNatClampNeg) := inb_of S21 ⟨by decide, by decide⟩
      obtain ⟨T22, h22, X22, e22, W22, st22⟩ := stJ X20 hx hZ e20 Ar21 (j := (0 : Int32)) hin21 (g := (mkF m 59 #[.val (.int sel), .val (.long xa), .second, .val (.long xc), .second, .val (.long xb), .second, .val (.long xd), .second, .val (.long xe), .second, .val (.int (1 : Int32)), .val (.int (0 : Int32)), .val (.ref b17), .val (.ref b18), .unset] [(.long xb), (.int (0 : Int32)), (.ref b18)])) rfl rfl (hb hby at_59)
      have V22 : Arv Z h22 b18 k18 .long (1 : Int32) [(.long xb)] (.long (0 : Int64)) := Arv.set Ar21 q21 S21 M21 Hs21 G21 rfl W22 0 rfl (Nat.le_of_ble_eq_true rfl)
      have K22 : Keep h0 h22 [] := K20.wr W22 (Or.inr sz_b18)
      have Zs22 : n0 ≤ h22.size := Nat.le_trans Zs20 (Keep.of_wr W22).1
      have N22 := Fr.snoc X22 N20 g_b18
      have r23 : ∀ t, Steps p.tables e below (T22.setTop (mkF m 99 #[.val (.int sel), .val (.long xa), .second, .val (.long xc), .second, .val (.long xb), .second, .val (.long xd), .second, .val (.long xe), .second, .val (.int (1 : Int32)), .val (.int (0 : Int32)), .val (.ref b17), .val (.ref b18), .unset] [(.int (lcmpW xa xb))])) t → Steps p.tables e below (s₁.setTop (mkF m 10 #[.val (.int sel), .val (.long xa), .second, .val (.long xc), .second, .val (.long xb), .second, .val (.long xd), .second, .val (.long xe), .second, .val (.int (1 : Int32)), .unset, .unset, .unset, .unset] [(.int (sel &&& (4 : Int32)))])) t := fun t kt => by
        show Steps p.tables e below (s₁.setTop (mkF m 10 #[.val (.int sel), .val (.long xa), .second, .val (.long xc), .second, .val (.long xb), .second, .val (.long xd), .second, .val (.long xe), .second, .val (.int (1 : Int32)), .unset, .unset, .unset, .unset] [(.int (sel &&& (4 : Int32)))])) _
        refine XS.ifYes X0.here hx rfl (pc0 := 10) (pc' := 17) rfl (hb hby at_10) rfl ((if0 _ _).trans (teq hc16).1) (by decide) (by decide) ?_
        show Steps p.tables e below (s₁.setTop (mkF m 17 #[.val (.int sel), .val (.long xa), .second, .val (.long xc), .second, .val (.long xb), .second, .val (.long xd), .second, .val (.long xe), .second, .val (.int (1 : Int32)), .unset, .unset, .unset, .unset] [])) _
        refine XS.iconst X0.here hx rfl (hb hby at_17) ?_
        show Steps p.tables e below (s₁.setTop (mkF m 18 #[.val (.int sel), .val (.long xa), .second, .val (.long xc), .second, .val (.long xb), .second, .val (.long xd), .second, .val (.long xe), .second, .val (.int (1 : Int32)), .unset, .unset, .unset, .unset] [(.int (0 : Int32))])) _
        refine XS.istore X0.here hx rfl (hb hby at_18) rfl (l' := #[.val (.int sel), .val (.long xa), .second, .val (.long xc), .second, .val (.long xb), .second, .val (.long xd), .second, .val (.long xe), .second, .val (.int (1 : Int32)), .val (.int (0 : Int32)), .unset, .unset, .unset]) rfl ?_
        show Steps p.tables e below (s₁.setTop (mkF m 20 #[.val (.int sel), .val (.long xa), .second, .val (.long xc), .second, .val (.long xb), .second, .val (.long xd), .second, .val (.long xe), .second, .val (.int (1 : Int32)), .val (.int (0 : Int32)), .unset, .unset, .unset] [])) _
        refine XS.iload X0.here hx rfl (hb hby at_20) rfl ?_
        show Steps p.tables e below (s₁.setTop (mkF m 22 #[.val (.int sel), .val (.long xa), .second, .val (.long xc), .second, .val (.long xb), .second, .val (.long xd), .second, .val (.long xe), .second, .val (.int (1 : Int32)), .val (.int (0 : Int32)), .unset, .unset, .unset] [(.int (1 : Int32))])) _
        refine XS.iload X0.here hx rfl (hb hby at_22) rfl ?_
        show Steps p.tables e below (s₁.setTop (mkF m 24 #[.val (.int sel), .val (.long xa), .second, .val (.long xc), .second, .val (.long xb), .second, .val (.long xd), .second, .val (.long xe), .second, .val (.int (1 : Int32)), .val (.int (0 : Int32)), .unset, .unset, .unset] [(.int (0 : Int32)), (.int (1 : Int32))])) _
        refine XS.ifYes X0.here hx rfl (pc0 := 24) (pc' := 31) rfl (hb hby at_24) rfl ((if0 _ _).trans (teq (by decide : (0 : Int32) = (0 : Int32))).1) (by decide) (by decide) ?_
        show Steps p.tables e below (s₁.setTop (mkF m 31 #[.val (.int sel), .val (.long xa), .second, .val (.long xc), .second, .val (.long xb), .second, .val (.long xd), .second, .val (.long xe), .second, .val (.int (1 : Int32)), .val (.int (0 : Int32)), .unset, .unset, .unset] [(.int (1 : Int32))])) _
        refine XS.iconst X0.here hx rfl (hb hby at_31) ?_
        show Steps p.tables e below (s₁.setTop (mkF m 32 #[.val (.int sel), .val (.long xa), .second, .val (.long xc), .second, .val (.long xb), .second, .val (.long xd), .second, .val (.long xe), .second, .val (.int (1 : Int32)), .val (.int (0 : Int32)), .unset, .unset, .unset] [(.int (0 : Int32)), (.int (1 : Int32))])) _
        refine XS.iadd X0.here hx rfl (hb hby at_32) rfl ?_
        show Steps p.tables e below (s₁.setTop (mkF m 33 #[.val (.int sel), .val (.long xa), .second, .val (.long xc), .second, .val (.long xb), .second, .val (.long xd), .second, .val (.long xe), .second, .val (.int (1 : Int32)), .val (.int (0 : Int32)), .unset, .unset, .unset] [(.int (1 : Int32))])) _
        refine st17 _ ?_
        show Steps p.tables e below (T17.setTop (mkF m 35 #[.val (.int sel), .val (.long xa), .second, .val (.long xc), .second, .val (.long xb), .second, .val (.long xd), .second, .val (.long xe), .second, .val (.int (1 : Int32)), .val (.int (0 : Int32)), .unset, .unset, .unset] [(.ref b17)])) _
        refine XS.astore X17.here hx rfl (hb hby at_35) rfl rfl (l' := #[.val (.int sel), .val (.long xa), .second, .val (.long xc), .second, .val (.long xb), .second, .val (.long xd), .second, .val (.long xe), .second, .val (.int (1 : Int32)), .val (.int (0 : Int32)), .val (.ref b17), .unset, .unset]) rfl ?_
        show Steps p.tables e below (T17.setTop (mkF m 37 #[.val (.int sel), .val (.long xa), .second, .val (.long xc), .second, .val (.long xb), .second, .val (.long xd), .second, .val (.long xe), .second, .val (.int (1 : Int32)), .val (.int (0 : Int32)), .val (.ref b17), .unset, .unset] [])) _
        refine XS.iload X17.here hx rfl (hb hby at_37) rfl ?_
        show Steps p.tables e below (T17.setTop (mkF m 39 #[.val (.int sel), .val (.long xa), .second, .val (.long xc), .second, .val (.long xb), .second, .val (.long xd), .second, .val (.long xe), .second, .val (.int (1 : Int32)), .val (.int (0 : Int32)), .val (.ref b17), .unset, .unset] [(.int (1 : Int32))])) _
        refine st18 _ ?_
        show Steps p.tables e below (T18.setTop (mkF m 41 #[.val (.int sel), .val (.long xa), .second, .val (.long xc), .second, .val (.long xb), .second, .val (.long xd), .second, .val (.long xe), .second, .val (.int (1 : Int32)), .val (.int (0 : Int32)), .val (.ref b17), .unset, .unset] [(.ref b18)])) _
        refine XS.astore X18.here hx rfl (hb hby at_41) rfl rfl (l' := #[.val (.int sel), .val (.long xa), .second, .val (.long xc), .second, .val (.long xb), .second, .val (.long xd), .second, .val (.long xe), .second, .val (.int (1 : Int32)), .val (.int (0 : Int32)), .val (.ref b17), .val (.ref b18), .unset]) rfl ?_
        show Steps p.tables e below (T18.setTop (mkF m 43 #[.val (.int sel), .val (.long xa), .second, .val (.long xc), .second, .val (.long xb), .second, .val (.long xd), .second, .val (.long xe), .second, .val (.int (1 : Int32)), .val (.int (0 : Int32)), .val (.ref b17), .val (.ref b18), .unset] [])) _
        refine XS.iload X18.here hx rfl (hb hby at_43) rfl ?_
        show Steps p.tables e below (T18.setTop (mkF m 45 #[.val (.int sel), .val (.long xa), .second, .val (.long xc), .second, .val (.long xb), .second, .val (.long xd), .second, .val (.long xe), .second, .val (.int (1 : Int32)), .val (.int (0 : Int32)), .val (.ref b17), .val (.ref b18), .unset] [(.int (1 : Int32))])) _
        refine XS.iconst X18.here hx rfl (hb hby at_45) ?_
        show Steps p.tables e below (T18.setTop (mkF m 46 #[.val (.int sel), .val (.long xa), .second, .val (.long xc), .second, .val (.long xb), .second, .val (.long xd), .second, .val (.long xe), .second, .val (.int (1 : Int32)), .val (.int (0 : Int32)), .val (.ref b17), .val (.ref b18), .unset] [(.int (1 : Int32)), (.int (1 : Int32))])) _
        refine XS.icmpNo X18.here hx rfl (hb hby at_46) rfl (flt (by decide : ¬ ((1 : Int32) < (1 : Int32)))).1 ?_
        show Steps p.tables e below (T18.setTop (mkF m 49 #[.val (.int sel), .val (.long xa), .second, .val (.long xc), .second, .val (.long xb), .second, .val (.long xd), .second, .val (.long xe), .second, .val (.int (1 : Int32)), .val (.int (0 : Int32)), .val (.ref b17), .val (.ref b18), .unset] [])) _
        refine XS.aload X18.here hx rfl (hb hby at_49) rfl rfl ?_
        show Steps p.tables e below (T18.setTop (mkF m 51 #[.val (.int sel), .val (.long xa), .second, .val (.long xc), .second, .val (.long xb), .second, .val (.long xd), .second, .val (.long xe), .second, .val (.int (1 : Int32)), .val (.int (0 : Int32)), .val (.ref b17), .val (.ref b18), .unset] [(.ref b17)])) _
        refine XS.iconst X18.here hx rfl (hb hby at_51) ?_
        show Steps p.tables e below (T18.setTop (mkF m 52 #[.val (.int sel), .val (.long xa), .second, .val (.long xc), .second, .val (.long xb), .second, .val (.long xd), .second, .val (.long xe), .second, .val (.int (1 : Int32)), .val (.int (0 : Int32)), .val (.ref b17), .val (.ref b18), .unset] [(.int (0 : Int32)), (.ref b17)])) _
        refine XS.lloadN X18.here hx rfl (hb hby at_52) rfl ?_
        show Steps p.tables e below (T18.setTop (mkF m 53 #[.val (.int sel), .val (.long xa), .second, .val (.long xc), .second, .val (.long xb), .second, .val (.long xd), .second, .val (.long xe), .second, .val (.int (1 : Int32)), .val (.int (0 : Int32)), .val (.ref b17), .val (.ref b18), .unset] [(.long xa), (.int (0 : Int32)), (.ref b17)])) _
        refine st20 _ ?_
        show Steps p.tables e below (T20.setTop (mkF m 54 #[.val (.int sel), .val (.long xa), .second, .val (.long xc), .second, .val (.long xb), .second, .val (.long xd), .second, .val (.long xe), .second, .val (.int (1 : Int32)), .val (.int (0 : Int32)), .val (.ref b17), .val (.ref b18), .unset] [])) _
        refine XS.aload X20.here hx rfl (hb hby at_54) rfl rfl ?_
        show Steps p.tables e below (T20.setTop (mkF m 56 #[.val (.int sel), .val (.long xa), .second, .val (.long xc), .second, .val (.long xb), .second, .val (.long xd), .second, .val (.long xe), .second, .val (.int (1 : Int32)), .val (.int (0 : Int32)), .val (.ref b17), .val (.ref b18), .unset] [(.ref b18)])) _
        refine XS.iconst X20.here hx rfl (hb hby at_56) ?_
        show Steps p.tables e below (T20.setTop (mkF m 57 #[.val (.int sel), .val (.long xa), .second, .val (.long xc), .second, .val (.long xb), .second, .val (.long xd), .second, .val (.long xe), .second, .val (.int (1 : Int32)), .val (.int (0 : Int32)), .val (.ref b17), .val (.ref b18), .unset] [(.int (0 : Int32)), (.ref b18)])) _
        refine XS.lload X20.here hx rfl (hb hby at_57) rfl ?_
        show Steps p.tables e below (T20.setTop (mkF m 59 #[.val (.int sel), .val (.long xa), .second, .val (.long xc), .second, .val (.long xb), .second, .val (.long xd), .second, .val (.long xe), .second, .val (.int (1 : Int32)), .val (.int (0 : Int32)), .val (.ref b17), .val (.ref b18), .unset] [(.long xb), (.int (0 : Int32)), (.ref b18)])) _
        refine st22 _ ?_
        show Steps p.tables e below (T22.setTop (mkF m 60 #[.val (.int sel), .val (.long xa), .second, .val (.long xc), .second, .val (.long xb), .second, .val (.long xd), .second, .val (.long xe), .second, .val (.int (1 : Int32)), .val (.int (0 : Int32)), .val (.ref b17), .val (.ref b18), .unset] [])) _
        refine XS.iload X22.here hx rfl (hb hby at_60) rfl ?_
        show Steps p.tables e below (T22.setTop (mkF m 62 #[.val (.int sel), .val (.long xa), .second, .val (.long xc), .second, .val (.long xb), .second, .val (.long xd), .second, .val (.long xe), .second, .val (.int (1 : Int32)), .val (.int (0 : Int32)), .val (.ref b17), .val (.ref b18), .unset] [(.int (1 : Int32))])) _
        refine XS.iconst X22.here hx rfl (hb hby at_62) ?_
        show Steps p.tables e below (T22.setTop (mkF m 63 #[.val (.int sel), .val (.long xa), .second, .val (.long xc), .second, .val (.long xb), .second, .val (.long xd), .second, .val (.long xe), .second, .val (.int (1 : Int32)), .val (.int (0 : Int32)), .val (.ref b17), .val (.ref b18), .unset] [(.int (2 : Int32)), (.int (1 : Int32))])) _
        refine XS.icmpYes X22.here hx rfl (pc0 := 63) (pc' := 77) rfl (hb hby at_63) rfl (tlt (by decide : (1 : Int32) < (2 : Int32))).1 (by decide) (by decide) ?_
        show Steps p.tables e below (T22.setTop (mkF m 77 #[.val (.int sel), .val (.long xa), .second, .val (.long xc), .second, .val (.long xb), .second, .val (.long xd), .second, .val (.long xe), .second, .val (.int (1 : Int32)), .val (.int (0 : Int32)), .val (.ref b17), .val (.ref b18), .unset] [])) _
        refine XS.iload X22.here hx rfl (hb hby at_77) rfl ?_
        show Steps p.tables e below (T22.setTop (mkF m 79 #[.val (.int sel), .val (.long xa), .second, .val (.long xc), .second, .val (.long xb), .second, .val (.long xd), .second, .val (.long xe), .second, .val (.int (1 : Int32)), .val (.int (0 : Int32)), .val (.ref b17), .val (.ref b18), .unset] [(.int (0 : Int32))])) _
        refine XS.ifYes X22.here hx rfl (pc0 := 79) (pc' := 89) rfl (hb hby at_79) rfl ((if0 _ _).trans (teq (by decide : (0 : Int32) = (0 : Int32))).1) (by decide) (by decide) ?_
        show Steps p.tables e below (T22.setTop (mkF m 89 #[.val (.int sel), .val (.long xa), .second, .val (.long xc), .second, .val (.long xb), .second, .val (.long xd), .second, .val (.long xe), .second, .val (.int (1 : Int32)), .val (.int (0 : Int32)), .val (.ref b17), .val (.ref b18), .unset] [])) _
        refine XS.iload X22.here hx rfl (hb hby at_89) rfl ?_
        show Steps p.tables e below (T22.setTop (mkF m 91 #[.val (.int sel), .val (.long xa), .second, .val (.long xc), .second, .val (.long xb), .second, .val (.long xd), .second, .val (.long xe), .second, .val (.int (1 : Int32)), .val (.int (0 : Int32)), .val (.ref b17), .val (.ref b18), .unset] [(.int (1 : Int32))])) _
        refine XS.iconst X22.here hx rfl (hb hby at_91) ?_
        show Steps p.tables e below (T22.setTop (mkF m 92 #[.val (.int sel), .val (.long xa), .second, .val (.long xc), .second, .val (.long xb), .second, .val (.long xd), .second, .val (.long xe), .second, .val (.int (1 : Int32)), .val (.int (0 : Int32)), .val (.ref b17), .val (.ref b18), .unset] [(.int (1 : Int32)), (.int (1 : Int32))])) _
        refine XS.icmpNo X22.here hx rfl (hb hby at_92) rfl (flt (by decide : ¬ ((1 : Int32) < (1 : Int32)))).1 ?_
        show Steps p.tables e below (T22.setTop (mkF m 95 #[.val (.int sel), .val (.long xa), .second, .val (.long xc), .second, .val (.long xb), .second, .val (.long xd), .second, .val (.long xe), .second, .val (.int (1 : Int32)), .val (.int (0 : Int32)), .val (.ref b17), .val (.ref b18), .unset] [])) _
        refine XS.lloadN X22.here hx rfl (hb hby at_95) rfl ?_
        show Steps p.tables e below (T22.setTop (mkF m 96 #[.val (.int sel), .val (.long xa), .second, .val (.long xc), .second, .val (.long xb), .second, .val (.long xd), .second, .val (.long xe), .second, .val (.int (1 : Int32)), .val (.int (0 : Int32)), .val (.ref b17), .val (.ref b18), .unset] [(.long xa)])) _
        refine XS.lload X22.here hx rfl (hb hby at_96) rfl ?_
        show Steps p.tables e below (T22.setTop (mkF m 98 #[.val (.int sel), .val (.long xa), .second, .val (.long xc), .second, .val (.long xb), .second, .val (.long xd), .second, .val (.long xe), .second, .val (.int (1 : Int32)), .val (.int (0 : Int32)), .val (.ref b17), .val (.ref b18), .unset] [(.long xb), (.long xa)])) _
        refine XS.lcmp X22.here hx rfl (hb hby at_98) rfl ?_
        exact kt
      obtain ⟨v26, hv26⟩ : ∃ zz : Int32, zz = (if xb < xa then (0 : Int32) else (1 : Int32)) := ⟨_, rfl⟩
      have r24 : ∀ t, Steps p.tables e below (T22.setTop (mkF m 120 #[.val (.int sel), .val (.long xa), .second, .val (.long xc), .second, .val (.long xb), .second, .val (.long xd), .second, .val (.long xe), .second, .val (.int (1 : Int32)), .val (.int (0 : Int32)), .val (.ref b17), .val (.ref b18), .unset] [(.int v26)])) t → Steps p.tables e below (T22.setTop (mkF m 99 #[.val (.int sel), .val (.long xa), .second, .val (.long xc), .second, .val (.long xb), .second, .val (.long xd), .second, .val (.long xe), .second, .val (.int (1 : Int32)), .val (.int (0 : Int32)), .val (.ref b17), .val (.ref b18), .unset] [(.int (lcmpW xa xb))])) t := fun t kt => by
        rw [hv26] at kt
        by_cases hd25 : xb < xa
        · simp only [if_pos hd25] at kt
          show Steps p.tables e below (T22.setTop (mkF m 99 #[.val (.int sel), .val (.long xa), .second, .val (.long xc), .second, .val (.long xb), .second, .val (.long xd), .second, .val (.long xe), .second, .val (.int (1 : Int32)), .val (.int (0 : Int32)), .val (.ref b17), .val (.ref b18), .unset] [(.int (lcmpW xa xb))])) _
          refine XS.ifYes X22.here hx rfl (pc0 := 99) (pc' := 119) rfl (hb hby at_99) rfl ((if0 _ _).trans (tlt ((lw_gt _ _).mpr hd25)).2.2.1) (by decide) (by decide) ?_
          show Steps p.tables e below (T22.setTop (mkF m 119 #[.val (.int sel), .val (.long xa), .second, .val (.long xc), .second, .val (.long xb), .second, .val (.long xd), .second, .val (.long xe), .second, .val (.int (1 : Int32)), .val (.int (0 : Int32)), .val (.ref b17), .val (.ref b18), .unset] [])) _
          refine XS.iconst X22.here hx rfl (hb hby at_119) ?_
          exact kt
        · simp only [if_neg hd25] at kt
          show Steps p.tables e below (T22.setTop (mkF m 99 #[.val (.int sel), .val (.long xa), .second, .val (.long xc), .second, .val (.long xb), .second, .val (.long xd), .second, .val (.long xe), .second, .val (.int (1 : Int32)), .val (.int (0 : Int32)), .val (.ref b17), .val (.ref b18), .unset] [(.int (lcmpW xa xb))])) _
          refine XS.ifNo X22.here hx rfl (hb hby at_99) rfl ((if0 _ _).trans (flt (fun q => hd25 ((lw_gt _ _).mp q))).2.2.1) ?_
          show Steps p.tables e below (T22.setTop (mkF m 102 #[.val (.int sel), .val (.long xa), .second, .val (.long xc), .second, .val (.long xb), .second, .val (.long xd), .second, .val (.long xe), .second, .val (.int (1 : Int32)), .val (.int (0 : Int32)), .val (.ref b17), .val (.ref b18), .unset] [])) _
          refine XS.iload X22.here hx rfl (hb hby at_102) rfl ?_
          show Steps p.tables e below (T22.setTop (mkF m 104 #[.val (.int sel), .val (.long xa), .second, .val (.long xc), .second, .val (.long xb), .second, .val (.long xd), .second, .val (.long xe), .second, .val (.int (1 : Int32)), .val (.int (0 : Int32)), .val (.ref b17), .val (.ref b18), .unset] [(.int (1 : Int32))])) _
          refine XS.iconst X22.here hx rfl (hb hby at_104) ?_
          show Steps p.tables e below (T22.setTop (mkF m 105 #[.val (.int sel), .val (.long xa), .second, .val (.long xc), .second, .val (.long xb), .second, .val (.long xd), .second, .val (.long xe), .second, .val (.int (1 : Int32)), .val (.int (0 : Int32)), .val (.ref b17), .val (.ref b18), .unset] [(.int (2 : Int32)), (.int (1 : Int32))])) _
          refine XS.icmpYes X22.here hx rfl (pc0 := 105) (pc' := 115) rfl (hb hby at_105) rfl (tlt (by decide : (1 : Int32) < (2 : Int32))).1 (by decide) (by decide) ?_
          show Steps p.tables e below (T22.setTop (mkF m 115 #[.val (.int sel), .val (.long xa), .second, .val (.long xc), .second, .val (.long xb), .second, .val (.long xd), .second, .val (.long xe), .second, .val (.int (1 : Int32)), .val (.int (0 : Int32)), .val (.ref b17), .val (.ref b18), .unset] [])) _
          refine XS.iconst X22.here hx rfl (hb hby at_115) ?_
          show Steps p.tables e below (T22.setTop (mkF m 116 #[.val (.int sel), .val (.long xa), .second, .val (.long xc), .second, .val (.long xb), .second, .val (.long xd), .second, .val (.long xe), .second, .val (.int (1 : Int32)), .val (.int (0 : Int32)), .val (.ref b17), .val (.ref b18), .unset] [(.int (1 : Int32))])) _
          refine XS.goto X22.here hx rfl (pc0 := 116) (pc' := 120) rfl (hb hby at_116) (by decide) (by decide) ?_
          exact kt
      obtain ⟨_, _, ⟨T27, L27, k27, n27⟩, -, X27, ⟨Lc27, hQ27, l27, y27, z27⟩, st27⟩ := Jvm.LawKit.callS X22 hx (y := (⟨"com/example/gavelwright/gavelwright/WelfareMaximizer", "fits", "([J[J)Z"⟩ : MethodName)) hown (mvT hZ (hw _ (List.mem_of_getElem? (i := 1) rfl))) (mvT hZ (hw _ (List.mem_of_getElem? (i := 2) rfl))) (mvT hZ (hw _ (List.mem_of_getElem? (i := 3) rfl))) (mvT hZ (hw _ (List.mem_of_getElem? (i := 4) rfl))) (by decide) (backOf (W := 0) (rmF10 l Z a0 hw [] b17 b18 xa xb k17 k18 h22 n0 Zs22 (V20.other W22 ne_b17_b18) V22) hZ (hw _ (List.mem_of_getElem? (i := 4) rfl)) (hw _ (List.mem_of_getElem? (i := 3) rfl)) (by decide) (by decide)) (g := (mkF m 126 #[.val (.int sel), .val (.long xa), .second, .val (.long xc), .second, .val (.long xb), .second, .val (.long xd), .second, .val (.long xe), .second, .val (.int (1 : Int32)), .val (.int (0 : Int32)), .val (.ref b17), .val (.ref b18), .val (.int v26)] [(.ref b18), (.ref b17)])) rfl (by rw [hml]; rfl) (argsL := [(.ref b17), (.ref b18)]) (rest := []) (lenOf own_pd0 rfl) rfl (by show 2 * 0 + _ ≤ _; exact Nat.le_of_eq rfl) (hb hby at_126) (fun _ _ => ⟨rfl, e22, (by decide : 2 + 0 ≤ _), (by decide : 2 + 0 ≤ _)⟩)
      dsimp only [Pt.U, Pt.locs, Pt.cells, Pt.slots] at X27 l27 y27 z27 st27 hQ27
      subst l27 y27 z27
      obtain ⟨rfl, Nq27, e27⟩ := hQ27
      have N27 := Fr.app N22 Nq27
      obtain ⟨fs, hr, hrun, hended, hW, hsame⟩ := X27.leave (v := some (.int (1 : Int32))) (fun h => by rw [Bd.returns] at h; cases h)
      refine ⟨_, _, (pre0 _ (r1 _ (r14 _ (r15 _ (r23 _ (r24 _ ?_)))))), hrun, hended, _, _, rfl, ?_, ⟨_, rfl⟩, hW, hsame.mono (by decide) (by decide)⟩
      · show Steps p.tables e below (T22.setTop (mkF m 120 #[.val (.int sel), .val (.long xa), .second, .val (.long xc), .second, .val (.long xb), .second, .val (.long xd), .second, .val (.long xe), .second, .val (.int (1 : Int32)), .val (.int (0 : Int32)), .val (.ref b17), .val (.ref b18), .unset] [(.int v26)])) _
        refine XS.istore X22.here hx rfl (hb hby at_120) rfl (l' := #[.val (.int sel), .val (.long xa), .second, .val (.long xc), .second, .val (.long xb), .second, .val (.long xd), .second, .val (.long xe), .second, .val (.int (1 : Int32)), .val (.int (0 : Int32)), .val (.ref b17), .val (.ref b18), .val (.int v26)]) rfl ?_
        show Steps p.tables e below (T22.setTop (mkF m 122 #[.val (.int sel), .val (.long xa), .second, .val (.long xc), .second, .val (.long xb), .second, .val (.long xd), .second, .val (.long xe), .second, .val (.int (1 : Int32)), .val (.int (0 : Int32)), .val (.ref b17), .val (.ref b18), .val (.int v26)] [])) _
        refine XS.aload X22.here hx rfl (hb hby at_122) rfl rfl ?_
        show Steps p.tables e below (T22.setTop (mkF m 124 #[.val (.int sel), .val (.long xa), .second, .val (.long xc), .second, .val (.long xb), .second, .val (.long xd), .second, .val (.long xe), .second, .val (.int (1 : Int32)), .val (.int (0 : Int32)), .val (.ref b17), .val (.ref b18), .val (.int v26)] [(.ref b17)])) _
        refine XS.aload X22.here hx rfl (hb hby at_124) rfl rfl ?_
        show Steps p.tables e below (T22.setTop (mkF m 126 #[.val (.int sel), .val (.long xa), .second, .val (.long xc), .second, .val (.long xb), .second, .val (.long xd), .second, .val (.long xe), .second, .val (.int (1 : Int32)), .val (.int (0 : Int32)), .val (.ref b17), .val (.ref b18), .val (.int v26)] [(.ref b18), (.ref b17)])) _
        refine st27 _ ?_
        show Steps p.tables e below (T27.setTop (mkF m 129 #[.val (.int sel), .val (.long xa), .second, .val (.long xc), .second, .val (.long xb), .second, .val (.long xd), .second, .val (.long xe), .second, .val (.int (1 : Int32)), .val (.int (0 : Int32)), .val (.ref b17), .val (.ref b18), .val (.int v26)] [(.int (own_one xa xb))])) _
        refine XS.iload X27.here hx rfl (hb hby at_129) rfl ?_
        show Steps p.tables e below (T27.setTop (mkF m 131 #[.val (.int sel), .val (.long xa), .second, .val (.long xc), .second, .val (.long xb), .second, .val (.long xd), .second, .val (.long xe), .second, .val (.int (1 : Int32)), .val (.int (0 : Int32)), .val (.ref b17), .val (.ref b18), .val (.int v26)] [(.int v26), (.int (own_one xa xb))])) _
        refine XS.icmpNo X27.here hx rfl (hb hby at_131) rfl (teq (by rw [hv26]; rfl)).2 ?_
        show Steps p.tables e below (T27.setTop (mkF m 134 #[.val (.int sel), .val (.long xa), .second, .val (.long xc), .second, .val (.long xb), .second, .val (.long xd), .second, .val (.long xe), .second, .val (.int (1 : Int32)), .val (.int (0 : Int32)), .val (.ref b17), .val (.ref b18), .val (.int v26)] [])) _
        refine XS.iconst X27.here hx rfl (hb hby at_134) ?_
        show Steps p.tables e below (T27.setTop (mkF m 135 #[.val (.int sel), .val (.long xa), .second, .val (.long xc), .second, .val (.long xb), .second, .val (.long xd), .second, .val (.long xe), .second, .val (.int (1 : Int32)), .val (.int (0 : Int32)), .val (.ref b17), .val (.ref b18), .val (.int v26)] [(.int (1 : Int32))])) _
        refine XS.goto X27.here hx rfl (pc0 := 135) (pc' := 139) rfl (hb hby at_135) (by decide) (by decide) ?_
        show Steps p.tables e below (T27.setTop (mkF m 139 #[.val (.int sel), .val (.long xa), .second, .val (.long xc), .second, .val (.long xb), .second, .val (.long xd), .second, .val (.long xe), .second, .val (.int (1 : Int32)), .val (.int (0 : Int32)), .val (.ref b17), .val (.ref b18), .val (.int v26)] [(.int (1 : Int32))])) _
        exact retN X27 hx (t := .boolean) Bd.returns (by simp) (hb hby at_139) hr
      · show QL Z sel xa xc xb xd xe h0 n0 _ T27.heap _
        rw [e27]
        exact ⟨rfl, N27⟩
    · obtain ⟨T28, h28, k28, X28, e28, E28, A28, st28⟩ := newP X0 hx hZ (hw _ (List.mem_of_getElem? (i := 0) rfl)) e0 (g := (mkF m 33 #[.val (.int sel), .val (.long xa), .second, .val (.long xc), .second, .val (.long xb), .second, .val (.long xd), .second, .val (.long xe), .second, .val (.int (1 : Int32)), .val (.int (1 : Int32)), .unset, .unset, .unset] [(.int (2 : Int32))])) rfl (hb hby at_33) rfl (by decide) (cap := 2) (by decide) (by decide) (by decide) (by decide)
      obtain ⟨b28, g28⟩ : ∃ z, z = h0.size := ⟨_, rfl⟩
      rw [← g28] at A28 st28
      have g_b28 : n0 ≤ b28 := Nat.le_trans Z0 (Nat.le_of_eq g28.symm)
      have sz_b28 : h0.size ≤ b28 := Nat.le_trans (Keep.refl h0 []).1 (Nat.le_of_eq g28.symm)
      have K28 : Keep h0 h28 [] := (Keep.refl h0 []).ext E28
      have Zs28 : n0 ≤ h28.size := Nat.le_trans Z0 E28.1
      have V28 : Arv Z h28 b28 k28 .long (2 : Int32) [(.long (0 : Int64)), (.long (0 : Int64))] (.long (0 : Int64)) := (Arv.new A28 (by decide)).pad (pad_rep [] (.long (0 : Int64)) 2)
      obtain ⟨T29, h29, k29, X29, e29, E29, A29, st29⟩ := newP X28 hx hZ (hw _ (List.mem_of_getElem? (i := 0) rfl)) e28 (g := (mkF m 39 #[.val (.int sel), .val (.long xa), .second, .val (.long xc), .second, .val (.long xb), .second, .val (.long xd), .second, .val (.long xe), .second, .val (.int (1 : Int32)), .val (.int (1 : Int32)), .val (.ref b28), .unset, .unset] [(.int (1 : Int32))])) rfl (hb hby at_39) rfl (by decide) (cap := 1) (by decide) (by decide) (by decide) (by decide)
      obtain ⟨b29, g29⟩ : ∃ z, z = h28.size := ⟨_, rfl⟩
      rw [← g29] at A29 st29
      have ne_b28_b29 : b28 ≠ b29 := Nat.ne_of_lt (Nat.lt_of_lt_of_le V28.lt (Nat.le_of_eq g29.symm))
      have g_b29 : n0 ≤ b29 := Nat.le_trans Zs28 (Nat.le_of_eq g29.symm)
      have sz_b29 : h0.size ≤ b29 := Nat.le_trans K28.1 (Nat.le_of_eq g29.symm)
      have K29 : Keep h0 h29 [] := K28.ext E29
      have Zs29 : n0 ≤ h29.size := Nat.le_trans Zs28 E29.1
      have V29 : Arv Z h29 b29 k29 .long (1 : Int32) [(.long (0 : Int64))] (.long (0 : Int64)) := (Arv.new A29 (by decide)).pad (pad_rep [] (.long (0 : Int64)) 1)
      obtain ⟨cl30, Ar30, q30, S30, M30, Hs30, G30⟩ := (V28.ext E29)
      have hin30 : ¬ ((0 : Int32) < 0 ∨ cl30.slots.size ≤ ((0 : Int32)).toNatClampNeg) := inb_of S30 ⟨by decide, by decide⟩
      obtain ⟨T31, h31, X31, e31, W31, st31⟩ := stJ X29 hx hZ e29 Ar30 (j := (0 : Int32)) hin30 (g := (mkF m 53 #[.val (.int sel), .val (.long xa), .second, .val (.long xc), .second, .val (.long xb), .second, .val (.long xd), .second, .val (.long xe), .second, .val (.int (1 : Int32)), .val (.int (1 : Int32)), .val (.ref b28), .val (.ref b29), .unset] [(.long xa), (.int (0 : Int32)), (.ref b28)])) rfl rfl (hb hby at_53)
      have V31 : Arv Z h31 b28 k28 .long (2 : Int32) [(.long xa), (.long (0 : Int64))] (.long (0 : Int64)) := Arv.set Ar30 q30 S30 M30 Hs30 G30 rfl W31 0 rfl (Nat.le_of_ble_eq_true rfl)
      have K31 : Keep h0 h31 [] := K29.wr W31 (Or.inr sz_b28)
      have Zs31 : n0 ≤ h31.size := Nat.le_trans Zs29 (Keep.of_wr W31).1
      have N31 := Fr.snoc X31 N0 g_b28
      obtain ⟨cl32, Ar32, q32, S32, M32, Hs32, G32⟩ := (V29.other W31 (Ne.symm ne_b28_b29))
      have hin32 : ¬ ((0 : Int32) < 0 ∨ cl32.slots.size ≤ ((0 : Int32)).toNatClampNeg) := inb_of S32 ⟨by decide, by decide⟩
      obtain ⟨T33, h33, X33, e33, W33, st33⟩ := stJ X31 hx hZ e31 Ar32 (j := (0 : Int32)) hin32 (g := (mkF m 59 #[.val (.int sel), .val (.long xa), .second, .val (.long xc), .second, .val (.long xb), .second, .val (.long xd), .second, .val (.long xe), .second, .val (.int (1 : Int32)), .val (.int (1 : Int32)), .val (.ref b28), .val (.ref b29), .unset] [(.long xb), (.int (0 : Int32)), (.ref b29)])) rfl rfl (hb hby at_59)
      have V33 : Arv Z h33 b29 k29 .long (1 : Int32) [(.long xb)] (.long (0 : Int64)) := Arv.set Ar32 q32 S32 M32 Hs32 G32 rfl W33 0 rfl (Nat.le_of_ble_eq_true rfl)
      have K33 : Keep h0 h33 [] := K31.wr W33 (Or.inr sz_b29)
      have Zs33 : n0 ≤ h33.size := Nat.le_trans Zs31 (Keep.of_wr W33).1
      have N33 := Fr.snoc X33 N31 g_b29
      obtain ⟨cl34, Ar34, q34, S34, M34, Hs34, G34⟩ := (V31.other W33 ne_b28_b29)
      have hin34 : ¬ ((1 : Int32) < 0 ∨ cl34.slots.size ≤ ((1 : Int32)).toNatClampNeg) := inb_of S34 ⟨by decide, by decide⟩
      obtain ⟨T35, h35, X35, e35, W35, st35⟩ := stJ X33 hx hZ e33 Ar34 (j := (1 : Int32)) hin34 (g := (mkF m 88 #[.val (.int sel), .val (.long xa), .second, .val (.long xc), .second, .val (.long xb), .second, .val (.long xd), .second, .val (.long xe), .second, .val (.int (1 : Int32)), .val (.int (1 : Int32)), .val (.ref b28), .val (.ref b29), .unset] [(.long xe), (.int (1 : Int32)), (.ref b28)])) rfl rfl (hb hby at_88)
      have V35 : Arv Z h35 b28 k28 .long (2 : Int32) [(.long xa), (.long xe)] (.long (0 : Int64)) := Arv.set Ar34 q34 S34 M34 Hs34 G34 rfl W35 1 rfl (Nat.le_of_ble_eq_true rfl)
      have K35 : Keep h0 h35 [] := K33.wr W35 (Or.inr sz_b28)
      have Zs35 : n0 ≤ h35.size := Nat.le_trans Zs33 (Keep.of_wr W35).1
      have N35 := Fr.snoc X35 N33 g_b28
      have r36 : ∀ t, Steps p.tables e below (T35.setTop (mkF m 99 #[.val (.int sel), .val (.long xa), .second, .val (.long xc), .second, .val (.long xb), .second, .val (.long xd), .second, .val (.long xe), .second, .val (.int (1 : Int32)), .val (.int (1 : Int32)), .val (.ref b28), .val (.ref b29), .unset] [(.int (lcmpW xa xb))])) t → Steps p.tables e below (s₁.setTop (mkF m 10 #[.val (.int sel), .val (.long xa), .second, .val (.long xc), .second, .val (.long xb), .second, .val (.long xd), .second, .val (.long xe), .second, .val (.int (1 : Int32)), .unset, .unset, .unset, .unset] [(.int (sel &&& (4 : Int32)))])) t := fun t kt => by
        show Steps p.tables e below (s₁.setTop (mkF m 10 #[.val (.int sel), .val (.long xa), .second, .val (.long xc), .second, .val (.long xb), .second, .val (.long xd), .second, .val (.long xe), .second, .val (.int (1 : Int32)), .unset, .unset, .unset, .unset] [(.int (sel &&& (4 : Int32)))])) _
        refine XS.ifNo X0.here hx rfl (hb hby at_10) rfl ((if0 _ _).trans (feq hc16).1) ?_
        show Steps p.tables e below (s₁.setTop (mkF m 13 #[.val (.int sel), .val (.long xa), .second, .val (.long xc), .second, .val (.long xb), .second, .val (.long xd), .second, .val (.long xe), .second, .val (.int (1 : Int32)), .unset, .unset, .unset, .unset] [])) _
        refine XS.iconst X0.here hx rfl (hb hby at_13) ?_
        show Steps p.tables e below (s₁.setTop (mkF m 14 #[.val (.int sel), .val (.long xa), .second, .val (.long xc), .second, .val (.long xb), .second, .val (.long xd), .second, .val (.long xe), .second, .val (.int (1 : Int32)), .unset, .unset, .unset, .unset] [(.int (1 : Int32))])) _
        refine XS.goto X0.here hx rfl (pc0 := 14) (pc' := 18) rfl (hb hby at_14) (by decide) (by decide) ?_
        show Steps p.tables e below (s₁.setTop (mkF m 18 #[.val (.int sel), .val (.long xa), .second, .val (.long xc), .second, .val (.long xb), .second, .val (.long xd), .second, .val (.long xe), .second, .val (.int (1 : Int32)), .unset, .unset, .unset, .unset] [(.int (1 : Int32))])) _
        refine XS.istore X0.here hx rfl (hb hby at_18) rfl (l' := #[.val (.int sel), .val (.long xa), .second, .val (.long xc), .second, .val (.long xb), .second, .val (.long xd), .second, .val (.long xe), .second, .val (.int (1 : Int32)), .val (.int (1 : Int32)), .unset, .unset, .unset]) rfl ?_
        show Steps p.tables e below (s₁.setTop (mkF m 20 #[.val (.int sel), .val (.long xa), .second, .val (.long xc), .second, .val (.long xb), .second, .val (.long xd), .second, .val (.long xe), .second, .val (.int (1 : Int32)), .val (.int (1 : Int32)), .unset, .unset, .unset] [])) _
        refine XS.iload X0.here hx rfl (hb hby at_20) rfl ?_
        show Steps p.tables e below (s₁.setTop (mkF m 22 #[.val (.int sel), .val (.long xa), .second, .val (.long xc), .second, .val (.long xb), .second, .val (.long xd), .second, .val (.long xe), .second, .val (.int (1 : Int32)), .val (.int (1 : Int32)), .unset, .unset, .unset] [(.int (1 : Int32))])) _
        refine XS.iload X0.here hx rfl (hb hby at_22) rfl ?_
        show Steps p.tables e below (s₁.setTop (mkF m 24 #[.val (.int sel), .val (.long xa), .second, .val (.long xc), .second, .val (.long xb), .second, .val (.long xd), .second, .val (.long xe), .second, .val (.int (1 : Int32)), .val (.int (1 : Int32)), .unset, .unset, .unset] [(.int (1 : Int32)), (.int (1 : Int32))])) _
        refine XS.ifNo X0.here hx rfl (hb hby at_24) rfl ((if0 _ _).trans (feq (by decide : ¬ ((1 : Int32) = (0 : Int32)))).1) ?_
        show Steps p.tables e below (s₁.setTop (mkF m 27 #[.val (.int sel), .val (.long xa), .second, .val (.long xc), .second, .val (.long xb), .second, .val (.long xd), .second, .val (.long xe), .second, .val (.int (1 : Int32)), .val (.int (1 : Int32)), .unset, .unset, .unset] [(.int (1 : Int32))])) _
        refine XS.iconst X0.here hx rfl (hb hby at_27) ?_
        show Steps p.tables e below (s₁.setTop (mkF m 28 #[.val (.int sel), .val (.long xa), .second, .val (.long xc), .second, .val (.long xb), .second, .val (.long xd), .second, .val (.long xe), .second, .val (.int (1 : Int32)), .val (.int (1 : Int32)), .unset, .unset, .unset] [(.int (1 : Int32)), (.int (1 : Int32))])) _
        refine XS.goto X0.here hx rfl (pc0 := 28) (pc' := 32) rfl (hb hby at_28) (by decide) (by decide) ?_
        show Steps p.tables e below (s₁.setTop (mkF m 32 #[.val (.int sel), .val (.long xa), .second, .val (.long xc), .second, .val (.long xb), .second, .val (.long xd), .second, .val (.long xe), .second, .val (.int (1 : Int32)), .val (.int (1 : Int32)), .unset, .unset, .unset] [(.int (1 : Int32)), (.int (1 : Int32))])) _
        refine XS.iadd X0.here hx rfl (hb hby at_32) rfl ?_
        show Steps p.tables e below (s₁.setTop (mkF m 33 #[.val (.int sel), .val (.long xa), .second, .val (.long xc), .second, .val (.long xb), .second, .val (.long xd), .second, .val (.long xe), .second, .val (.int (1 : Int32)), .val (.int (1 : Int32)), .unset, .unset, .unset] [(.int (2 : Int32))])) _
        refine st28 _ ?_
        show Steps p.tables e below (T28.setTop (mkF m 35 #[.val (.int sel), .val (.long xa), .second, .val (.long xc), .second, .val (.long xb), .second, .val (.long xd), .second, .val (.long xe), .second, .val (.int (1 : Int32)), .val (.int (1 : Int32)), .unset, .unset, .unset] [(.ref b28)])) _
        refine XS.astore X28.here hx rfl (hb hby at_35) rfl rfl (l' := #[.val (.int sel), .val (.long xa), .second, .val (.long xc), .second, .val (.long xb), .second, .val (.long xd), .second, .val (.long xe), .second, .val (.int (1 : Int32)), .val (.int (1 : Int32)), .val (.ref b28), .unset, .unset]) rfl ?_
        show Steps p.tables e below (T28.setTop (mkF m 37 #[.val (.int sel), .val (.long xa), .second, .val (.long xc), .second, .val (.long xb), .second, .val (.long xd), .second, .val (.long xe), .second, .val (.int (1 : Int32)), .val (.int (1 : Int32)), .val (.ref b28), .unset, .unset] [])) _
        refine XS.iload X28.here hx rfl (hb hby at_37) rfl ?_
        show Steps p.tables e below (T28.setTop (mkF m 39 #[.val (.int sel), .val (.long xa), .second, .val (.long xc), .second, .val (.long xb), .second, .val (.long xd), .second, .val (.long xe), .second, .val (.int (1 : Int32)), .val (.int (1 : Int32)), .val (.ref b28), .unset, .unset] [(.int (1 : Int32))])) _
        refine st29 _ ?_
        show Steps p.tables e below (T29.setTop (mkF m 41 #[.val (.int sel), .val (.long xa), .second, .val (.long xc), .second, .val (.long xb), .second, .val (.long xd), .second, .val (.long xe), .second, .val (.int (1 : Int32)), .val (.int (1 : Int32)), .val (.ref b28), .unset, .unset] [(.ref b29)])) _
        refine XS.astore X29.here hx rfl (hb hby at_41) rfl rfl (l' := #[.val (.int sel), .val (.long xa), .second, .val (.long xc), .second, .val (.long xb), .second, .val (.long xd), .second, .val (.long xe), .second, .val (.int (1 : Int32)), .val (.int (1 : Int32)), .val (.ref b28), .val (.ref b29), .unset]) rfl ?_
        show Steps p.tables e below (T29.setTop (mkF m 43 #[.val (.int sel), .val (.long xa), .second, .val (.long xc), .second, .val (.long xb), .second, .val (.long xd), .second, .val (.long xe), .second, .val (.int (1 : Int32)), .val (.int (1 : Int32)), .val (.ref b28), .val (.ref b29), .unset] [])) _
        refine XS.iload X29.here hx rfl (hb hby at_43) rfl ?_
        show Steps p.tables e below (T29.setTop (mkF m 45 #[.val (.int sel), .val (.long xa), .second, .val (.long xc), .second, .val (.long xb), .second, .val (.long xd), .second, .val (.long xe), .second, .val (.int (1 : Int32)), .val (.int (1 : Int32)), .val (.ref b28), .val (.ref b29), .unset] [(.int (1 : Int32))])) _
        refine XS.iconst X29.here hx rfl (hb hby at_45) ?_
        show Steps p.tables e below (T29.setTop (mkF m 46 #[.val (.int sel), .val (.long xa), .second, .val (.long xc), .second, .val (.long xb), .second, .val (.long xd), .second, .val (.long xe), .second, .val (.int (1 : Int32)), .val (.int (1 : Int32)), .val (.ref b28), .val (.ref b29), .unset] [(.int (1 : Int32)), (.int (1 : Int32))])) _
        refine XS.icmpNo X29.here hx rfl (hb hby at_46) rfl (flt (by decide : ¬ ((1 : Int32) < (1 : Int32)))).1 ?_
        show Steps p.tables e below (T29.setTop (mkF m 49 #[.val (.int sel), .val (.long xa), .second, .val (.long xc), .second, .val (.long xb), .second, .val (.long xd), .second, .val (.long xe), .second, .val (.int (1 : Int32)), .val (.int (1 : Int32)), .val (.ref b28), .val (.ref b29), .unset] [])) _
        refine XS.aload X29.here hx rfl (hb hby at_49) rfl rfl ?_
        show Steps p.tables e below (T29.setTop (mkF m 51 #[.val (.int sel), .val (.long xa), .second, .val (.long xc), .second, .val (.long xb), .second, .val (.long xd), .second, .val (.long xe), .second, .val (.int (1 : Int32)), .val (.int (1 : Int32)), .val (.ref b28), .val (.ref b29), .unset] [(.ref b28)])) _
        refine XS.iconst X29.here hx rfl (hb hby at_51) ?_
        show Steps p.tables e below (T29.setTop (mkF m 52 #[.val (.int sel), .val (.long xa), .second, .val (.long xc), .second, .val (.long xb), .second, .val (.long xd), .second, .val (.long xe), .second, .val (.int (1 : Int32)), .val (.int (1 : Int32)), .val (.ref b28), .val (.ref b29), .unset] [(.int (0 : Int32)), (.ref b28)])) _
        refine XS.lloadN X29.here hx rfl (hb hby at_52) rfl ?_
        show Steps p.tables e below (T29.setTop (mkF m 53 #[.val (.int sel), .val (.long xa), .second, .val (.long xc), .second, .val (.long xb), .second, .val (.long xd), .second, .val (.long xe), .second, .val (.int (1 : Int32)), .val (.int (1 : Int32)), .val (.ref b28), .val (.ref b29), .unset] [(.long xa), (.int (0 : Int32)), (.ref b28)])) _
        refine st31 _ ?_
        show Steps p.tables e below (T31.setTop (mkF m 54 #[.val (.int sel), .val (.long xa), .second, .val (.long xc), .second, .val (.long xb), .second, .val (.long xd), .second, .val (.long xe), .second, .val (.int (1 : Int32)), .val (.int (1 : Int32)), .val (.ref b28), .val (.ref b29), .unset] [])) _
        refine XS.aload X31.here hx rfl (hb hby at_54) rfl rfl ?_
        show Steps p.tables e below (T31.setTop (mkF m 56 #[.val (.int sel), .val (.long xa), .second, .val (.long xc), .second, .val (.long xb), .second, .val (.long xd), .second, .val (.long xe), .second, .val (.int (1 : Int32)), .val (.int (1 : Int32)), .val (.ref b28), .val (.ref b29), .unset] [(.ref b29)])) _
        refine XS.iconst X31.here hx rfl (hb hby at_56) ?_
        show Steps p.tables e below (T31.setTop (mkF m 57 #[.val (.int sel), .val (.long xa), .second, .val (.long xc), .second, .val (.long xb), .second, .val (.long xd), .second, .val (.long xe), .second, .val (.int (1 : Int32)), .val (.int (1 : Int32)), .val (.ref b28), .val (.ref b29), .unset] [(.int (0 : Int32)), (.ref b29)])) _
        refine XS.lload X31.here hx rfl (hb hby at_57) rfl ?_
        show Steps p.tables e below (T31.setTop (mkF m 59 #[.val (.int sel), .val (.long xa), .second, .val (.long xc), .second, .val (.long xb), .second, .val (.long xd), .second, .val (.long xe), .second, .val (.int (1 : Int32)), .val (.int (1 : Int32)), .val (.ref b28), .val (.ref b29), .unset] [(.long xb), (.int (0 : Int32)), (.ref b29)])) _
        refine st33 _ ?_
        show Steps p.tables e below (T33.setTop (mkF m 60 #[.val (.int sel), .val (.long xa), .second, .val (.long xc), .second, .val (.long xb), .second, .val (.long xd), .second, .val (.long xe), .second, .val (.int (1 : Int32)), .val (.int (1 : Int32)), .val (.ref b28), .val (.ref b29), .unset] [])) _
        refine XS.iload X33.here hx rfl (hb hby at_60) rfl ?_
        show Steps p.tables e below (T33.setTop (mkF m 62 #[.val (.int sel), .val (.long xa), .second, .val (.long xc), .second, .val (.long xb), .second, .val (.long xd), .second, .val (.long xe), .second, .val (.int (1 : Int32)), .val (.int (1 : Int32)), .val (.ref b28), .val (.ref b29), .unset] [(.int (1 : Int32))])) _
        refine XS.iconst X33.here hx rfl (hb hby at_62) ?_
        show Steps p.tables e below (T33.setTop (mkF m 63 #[.val (.int sel), .val (.long xa), .second, .val (.long xc), .second, .val (.long xb), .second, .val (.long xd), .second, .val (.long xe), .second, .val (.int (1 : Int32)), .val (.int (1 : Int32)), .val (.ref b28), .val (.ref b29), .unset] [(.int (2 : Int32)), (.int (1 : Int32))])) _
        refine XS.icmpYes X33.here hx rfl (pc0 := 63) (pc' := 77) rfl (hb hby at_63) rfl (tlt (by decide : (1 : Int32) < (2 : Int32))).1 (by decide) (by decide) ?_
        show Steps p.tables e below (T33.setTop (mkF m 77 #[.val (.int sel), .val (.long xa), .second, .val (.long xc), .second, .val (.long xb), .second, .val (.long xd), .second, .val (.long xe), .second, .val (.int (1 : Int32)), .val (.int (1 : Int32)), .val (.ref b28), .val (.ref b29), .unset] [])) _
        refine XS.iload X33.here hx rfl (hb hby at_77) rfl ?_
        show Steps p.tables e below (T33.setTop (mkF m 79 #[.val (.int sel), .val (.long xa), .second, .val (.long xc), .second, .val (.long xb), .second, .val (.long xd), .second, .val (.long xe), .second, .val (.int (1 : Int32)), .val (.int (1 : Int32)), .val (.ref b28), .val (.ref b29), .unset] [(.int (1 : Int32))])) _
        refine XS.ifNo X33.here hx rfl (hb hby at_79) rfl ((if0 _ _).trans (feq (by decide : ¬ ((1 : Int32) = (0 : Int32)))).1) ?_
        show Steps p.tables e below (T33.setTop (mkF m 82 #[.val (.int sel), .val (.long xa), .second, .val (.long xc), .second, .val (.long xb), .second, .val (.long xd), .second, .val (.long xe), .second, .val (.int (1 : Int32)), .val (.int (1 : Int32)), .val (.ref b28), .val (.ref b29), .unset] [])) _
        refine XS.aload X33.here hx rfl (hb hby at_82) rfl rfl ?_
        show Steps p.tables e below (T33.setTop (mkF m 84 #[.val (.int sel), .val (.long xa), .second, .val (.long xc), .second, .val (.long xb), .second, .val (.long xd), .second, .val (.long xe), .second, .val (.int (1 : Int32)), .val (.int (1 : Int32)), .val (.ref b28), .val (.ref b29), .unset] [(.ref b28)])) _
        refine XS.iload X33.here hx rfl (hb hby at_84) rfl ?_
        show Steps p.tables e below (T33.setTop (mkF m 86 #[.val (.int sel), .val (.long xa), .second, .val (.long xc), .second, .val (.long xb), .second, .val (.long xd), .second, .val (.long xe), .second, .val (.int (1 : Int32)), .val (.int (1 : Int32)), .val (.ref b28), .val (.ref b29), .unset] [(.int (1 : Int32)), (.ref b28)])) _
        refine XS.lload X33.here hx rfl (hb hby at_86) rfl ?_
        show Steps p.tables e below (T33.setTop (mkF m 88 #[.val (.int sel), .val (.long xa), .second, .val (.long xc), .second, .val (.long xb), .second, .val (.long xd), .second, .val (.long xe), .second, .val (.int (1 : Int32)), .val (.int (1 : Int32)), .val (.ref b28), .val (.ref b29), .unset] [(.long xe), (.int (1 : Int32)), (.ref b28)])) _
        refine st35 _ ?_
        show Steps p.tables e below (T35.setTop (mkF m 89 #[.val (.int sel), .val (.long xa), .second, .val (.long xc), .second, .val (.long xb), .second, .val (.long xd), .second, .val (.long xe), .second, .val (.int (1 : Int32)), .val (.int (1 : Int32)), .val (.ref b28), .val (.ref b29), .unset] [])) _
        refine XS.iload X35.here hx rfl (hb hby at_89) rfl ?_
        show Steps p.tables e below (T35.setTop (mkF m 91 #[.val (.int sel), .val (.long xa), .second, .val (.long xc), .second, .val (.long xb), .second, .val (.long xd), .second, .val (.long xe), .second, .val (.int (1 : Int32)), .val (.int (1 : Int32)), .val (.ref b28), .val (.ref b29), .unset] [(.int (1 : Int32))])) _
        refine XS.iconst X35.here hx rfl (hb hby at_91) ?_
        show Steps p.tables e below (T35.setTop (mkF m 92 #[.val (.int sel), .val (.long xa), .second, .val (.long xc), .second, .val (.long xb), .second, .val (.long xd), .second, .val (.long xe), .second, .val (.int (1 : Int32)), .val (.int (1 : Int32)), .val (.ref b28), .val (.ref b29), .unset] [(.int (1 : Int32)), (.int (1 : Int32))])) _
        refine XS.icmpNo X35.here hx rfl (hb hby at_92) rfl (flt (by decide : ¬ ((1 : Int32) < (1 : Int32)))).1 ?_
        show Steps p.tables e below (T35.setTop (mkF m 95 #[.val (.int sel), .val (.long xa), .second, .val (.long xc), .second, .val (.long xb), .second, .val (.long xd), .second, .val (.long xe), .second, .val (.int (1 : Int32)), .val (.int (1 : Int32)), .val (.ref b28), .val (.ref b29), .unset] [])) _
        refine XS.lloadN X35.here hx rfl (hb hby at_95) rfl ?_
        show Steps p.tables e below (T35.setTop (mkF m 96 #[.val (.int sel), .val (.long xa), .second, .val (.long xc), .second, .val (.long xb), .second, .val (.long xd), .second, .val (.long xe), .second, .val (.int (1 : Int32)), .val (.int (1 : Int32)), .val (.ref b28), .val (.ref b29), .unset] [(.long xa)])) _
        refine XS.lload X35.here hx rfl (hb hby at_96) rfl ?_
        show Steps p.tables e below (T35.setTop (mkF m 98 #[.val (.int sel), .val (.long xa), .second, .val (.long xc), .second, .val (.long xb), .second, .val (.long xd), .second, .val (.long xe), .second, .val (.int (1 : Int32)), .val (.int (1 : Int32)), .val (.ref b28), .val (.ref b29), .unset] [(.long xb), (.long xa)])) _
        refine XS.lcmp X35.here hx rfl (hb hby at_98) rfl ?_
        exact kt
      obtain ⟨v39, hv39⟩ : ∃ zz : Int32, zz = (if xb < xa then (0 : Int32) else (1 : Int32)) := ⟨_, rfl⟩
      have r37 : ∀ t, Steps p.tables e below (T35.setTop (mkF m 120 #[.val (.int sel), .val (.long xa), .second, .val (.long xc), .second, .val (.long xb), .second, .val (.long xd), .second, .val (.long xe), .second, .val (.int (1 : Int32)), .val (.int (1 : Int32)), .val (.ref b28), .val (.ref b29), .unset] [(.int v39)])) t → Steps p.tables e below (T35.setTop (mkF m 99 #[.val (.int sel), .val (.long xa), .second, .val (.long xc), .second, .val (.long xb), .second, .val (.long xd), .second, .val (.long xe), .second, .val (.int (1 : Int32)), .val (.int (1 : Int32)), .val (.ref b28), .val (.ref b29), .unset] [(.int (lcmpW xa xb))])) t := fun t kt => by
        rw [hv39] at kt
        by_cases hd38 : xb < xa
        · simp only [if_pos hd38] at kt
          show Steps p.tables e below (T35.setTop (mkF m 99 #[.val (.int sel), .val (.long xa), .second, .val (.long xc), .second, .val (.long xb), .second, .val (.long xd), .second, .val (.long xe), .second, .val (.int (1 : Int32)), .val (.int (1 : Int32)), .val (.ref b28), .val (.ref b29), .unset] [(.int (lcmpW xa xb))])) _
          refine XS.ifYes X35.here hx rfl (pc0 := 99) (pc' := 119) rfl (hb hby at_99) rfl ((if0 _ _).trans (tlt ((lw_gt _ _).mpr hd38)).2.2.1) (by decide) (by decide) ?_
          show Steps p.tables e below (T35.setTop (mkF m 119 #[.val (.int sel), .val (.long xa), .second, .val (.long xc), .second, .val (.long xb), .second, .val (.long xd), .second, .val (.long xe), .second, .val (.int (1 : Int32)), .val (.int (1 : Int32)), .val (.ref b28), .val (.ref b29), .unset] [])) _
          refine XS.iconst X35.here hx rfl (hb hby at_119) ?_
          exact kt
        · simp only [if_neg hd38] at kt
          show Steps p.tables e below (T35.setTop (mkF m 99 #[.val (.int sel), .val (.long xa), .second, .val (.long xc), .second, .val (.long xb), .second, .val (.long xd), .second, .val (.long xe), .second, .val (.int (1 : Int32)), .val (.int (1 : Int32)), .val (.ref b28), .val (.ref b29), .unset] [(.int (lcmpW xa xb))])) _
          refine XS.ifNo X35.here hx rfl (hb hby at_99) rfl ((if0 _ _).trans (flt (fun q => hd38 ((lw_gt _ _).mp q))).2.2.1) ?_
          show Steps p.tables e below (T35.setTop (mkF m 102 #[.val (.int sel), .val (.long xa), .second, .val (.long xc), .second, .val (.long xb), .second, .val (.long xd), .second, .val (.long xe), .second, .val (.int (1 : Int32)), .val (.int (1 : Int32)), .val (.ref b28), .val (.ref b29), .unset] [])) _
          refine XS.iload X35.here hx rfl (hb hby at_102) rfl ?_
          show Steps p.tables e below (T35.setTop (mkF m 104 #[.val (.int sel), .val (.long xa), .second, .val (.long xc), .second, .val (.long xb), .second, .val (.long xd), .second, .val (.long xe), .second, .val (.int (1 : Int32)), .val (.int (1 : Int32)), .val (.ref b28), .val (.ref b29), .unset] [(.int (1 : Int32))])) _
          refine XS.iconst X35.here hx rfl (hb hby at_104) ?_
          show Steps p.tables e below (T35.setTop (mkF m 105 #[.val (.int sel), .val (.long xa), .second, .val (.long xc), .second, .val (.long xb), .second, .val (.long xd), .second, .val (.long xe), .second, .val (.int (1 : Int32)), .val (.int (1 : Int32)), .val (.ref b28), .val (.ref b29), .unset] [(.int (2 : Int32)), (.int (1 : Int32))])) _
          refine XS.icmpYes X35.here hx rfl (pc0 := 105) (pc' := 115) rfl (hb hby at_105) rfl (tlt (by decide : (1 : Int32) < (2 : Int32))).1 (by decide) (by decide) ?_
          show Steps p.tables e below (T35.setTop (mkF m 115 #[.val (.int sel), .val (.long xa), .second, .val (.long xc), .second, .val (.long xb), .second, .val (.long xd), .second, .val (.long xe), .second, .val (.int (1 : Int32)), .val (.int (1 : Int32)), .val (.ref b28), .val (.ref b29), .unset] [])) _
          refine XS.iconst X35.here hx rfl (hb hby at_115) ?_
          show Steps p.tables e below (T35.setTop (mkF m 116 #[.val (.int sel), .val (.long xa), .second, .val (.long xc), .second, .val (.long xb), .second, .val (.long xd), .second, .val (.long xe), .second, .val (.int (1 : Int32)), .val (.int (1 : Int32)), .val (.ref b28), .val (.ref b29), .unset] [(.int (1 : Int32))])) _
          refine XS.goto X35.here hx rfl (pc0 := 116) (pc' := 120) rfl (hb hby at_116) (by decide) (by decide) ?_
          exact kt
      obtain ⟨_, _, ⟨T40, L40, k40, n40⟩, -, X40, ⟨Lc40, hQ40, l40, y40, z40⟩, st40⟩ := Jvm.LawKit.callS X35 hx (y := (⟨"com/example/gavelwright/gavelwright/WelfareMaximizer", "fits", "([J[J)Z"⟩ : MethodName)) hown (mvT hZ (hw _ (List.mem_of_getElem? (i := 1) rfl))) (mvT hZ (hw _ (List.mem_of_getElem? (i := 2) rfl))) (mvT hZ (hw _ (List.mem_of_getElem? (i := 3) rfl))) (mvT hZ (hw _ (List.mem_of_getElem? (i := 4) rfl))) (by decide) (backOf (W := 0) (rmF11 l Z a0 hw [] b28 b29 xa xe xb k28 k29 h35 n0 Zs35 V35 (V33.other W35 (Ne.symm ne_b28_b29))) hZ (hw _ (List.mem_of_getElem? (i := 4) rfl)) (hw _ (List.mem_of_getElem? (i := 3) rfl)) (by decide) (by decide)) (g := (mkF m 126 #[.val (.int sel), .val (.long xa), .second, .val (.long xc), .second, .val (.long xb), .second, .val (.long xd), .second, .val (.long xe), .second, .val (.int (1 : Int32)), .val (.int (1 : Int32)), .val (.ref b28), .val (.ref b29), .val (.int v39)] [(.ref b29), (.ref b28)])) rfl (by rw [hml]; rfl) (argsL := [(.ref b28), (.ref b29)]) (rest := []) (lenOf own_pd0 rfl) rfl (by show 2 * 0 + _ ≤ _; exact Nat.le_of_eq rfl) (hb hby at_126) (fun _ _ => ⟨rfl, e35, (by decide : 2 + 0 ≤ _), (by decide : 3 + 0 ≤ _)⟩)
      dsimp only [Pt.U, Pt.locs, Pt.cells, Pt.slots] at X40 l40 y40 z40 st40 hQ40
      subst l40 y40 z40
      obtain ⟨rfl, Nq40, e40⟩ := hQ40
      have N40 := Fr.app N35 Nq40
      obtain ⟨fs, hr, hrun, hended, hW, hsame⟩ := X40.leave (v := some (.int (1 : Int32))) (fun h => by rw [Bd.returns] at h; cases h)
      refine ⟨_, _, (pre0 _ (r1 _ (r14 _ (r15 _ (r36 _ (r37 _ ?_)))))), hrun, hended, _, _, rfl, ?_, ⟨_, rfl⟩, hW, hsame.mono (by decide) (by decide)⟩
      · show Steps p.tables e below (T35.setTop (mkF m 120 #[.val (.int sel), .val (.long xa), .second, .val (.long xc), .second, .val (.long xb), .second, .val (.long xd), .second, .val (.long xe), .second, .val (.int (1 : Int32)), .val (.int (1 : Int32)), .val (.ref b28), .val (.ref b29), .unset] [(.int v39)])) _
        refine XS.istore X35.here hx rfl (hb hby at_120) rfl (l' := #[.val (.int sel), .val (.long xa), .second, .val (.long xc), .second, .val (.long xb), .second, .val (.long xd), .second, .val (.long xe), .second, .val (.int (1 : Int32)), .val (.int (1 : Int32)), .val (.ref b28), .val (.ref b29), .val (.int v39)]) rfl ?_
        show Steps p.tables e below (T35.setTop (mkF m 122 #[.val (.int sel), .val (.long xa), .second, .val (.long xc), .second, .val (.long xb), .second, .val (.long xd), .second, .val (.long xe), .second, .val (.int (1 : Int32)), .val (.int (1 : Int32)), .val (.ref b28), .val (.ref b29), .val (.int v39)] [])) _
        refine XS.aload X35.here hx rfl (hb hby at_122) rfl rfl ?_
        show Steps p.tables e below (T35.setTop (mkF m 124 #[.val (.int sel), .val (.long xa), .second, .val (.long xc), .second, .val (.long xb), .second, .val (.long xd), .second, .val (.long xe), .second, .val (.int (1 : Int32)), .val (.int (1 : Int32)), .val (.ref b28), .val (.ref b29), .val (.int v39)] [(.ref b28)])) _
        refine XS.aload X35.here hx rfl (hb hby at_124) rfl rfl ?_
        show Steps p.tables e below (T35.setTop (mkF m 126 #[.val (.int sel), .val (.long xa), .second, .val (.long xc), .second, .val (.long xb), .second, .val (.long xd), .second, .val (.long xe), .second, .val (.int (1 : Int32)), .val (.int (1 : Int32)), .val (.ref b28), .val (.ref b29), .val (.int v39)] [(.ref b29), (.ref b28)])) _
        refine st40 _ ?_
        show Steps p.tables e below (T40.setTop (mkF m 129 #[.val (.int sel), .val (.long xa), .second, .val (.long xc), .second, .val (.long xb), .second, .val (.long xd), .second, .val (.long xe), .second, .val (.int (1 : Int32)), .val (.int (1 : Int32)), .val (.ref b28), .val (.ref b29), .val (.int v39)] [(.int (own_one xa xb))])) _
        refine XS.iload X40.here hx rfl (hb hby at_129) rfl ?_
        show Steps p.tables e below (T40.setTop (mkF m 131 #[.val (.int sel), .val (.long xa), .second, .val (.long xc), .second, .val (.long xb), .second, .val (.long xd), .second, .val (.long xe), .second, .val (.int (1 : Int32)), .val (.int (1 : Int32)), .val (.ref b28), .val (.ref b29), .val (.int v39)] [(.int v39), (.int (own_one xa xb))])) _
        refine XS.icmpNo X40.here hx rfl (hb hby at_131) rfl (teq (by rw [hv39]; rfl)).2 ?_
        show Steps p.tables e below (T40.setTop (mkF m 134 #[.val (.int sel), .val (.long xa), .second, .val (.long xc), .second, .val (.long xb), .second, .val (.long xd), .second, .val (.long xe), .second, .val (.int (1 : Int32)), .val (.int (1 : Int32)), .val (.ref b28), .val (.ref b29), .val (.int v39)] [])) _
        refine XS.iconst X40.here hx rfl (hb hby at_134) ?_
        show Steps p.tables e below (T40.setTop (mkF m 135 #[.val (.int sel), .val (.long xa), .second, .val (.long xc), .second, .val (.long xb), .second, .val (.long xd), .second, .val (.long xe), .second, .val (.int (1 : Int32)), .val (.int (1 : Int32)), .val (.ref b28), .val (.ref b29), .val (.int v39)] [(.int (1 : Int32))])) _
        refine XS.goto X40.here hx rfl (pc0 := 135) (pc' := 139) rfl (hb hby at_135) (by decide) (by decide) ?_
        show Steps p.tables e below (T40.setTop (mkF m 139 #[.val (.int sel), .val (.long xa), .second, .val (.long xc), .second, .val (.long xb), .second, .val (.long xd), .second, .val (.long xe), .second, .val (.int (1 : Int32)), .val (.int (1 : Int32)), .val (.ref b28), .val (.ref b29), .val (.int v39)] [(.int (1 : Int32))])) _
        exact retN X40 hx (t := .boolean) Bd.returns (by simp) (hb hby at_139) hr
      · show QL Z sel xa xc xb xd xe h0 n0 _ T40.heap _
        rw [e40]
        exact ⟨rfl, N40⟩
  · have r41 : ∀ t, Steps p.tables e below (s₁.setTop (mkF m 7 #[.val (.int sel), .val (.long xa), .second, .val (.long xc), .second, .val (.long xb), .second, .val (.long xd), .second, .val (.long xe), .second, .val (.int (2 : Int32)), .unset, .unset, .unset, .unset] [])) t → Steps p.tables e below (s₁.setTop (mkF m 7 #[.val (.int sel), .val (.long xa), .second, .val (.long xc), .second, .val (.long xb), .second, .val (.long xd), .second, .val (.long xe), .second, .val (.int ((sel &&& (3 : Int32)) % (3 : Int32))), .unset, .unset, .unset, .unset] [])) t := fun t kt => by
      rw [hk2]
      exact kt
    have r42 : ∀ t, Steps p.tables e below (s₁.setTop (mkF m 10 #[.val (.int sel), .val (.long xa), .second, .val (.long xc), .second, .val (.long xb), .second, .val (.long xd), .second, .val (.long xe), .second, .val (.int (2 : Int32)), .unset, .unset, .unset, .unset] [(.int (sel &&& (4 : Int32)))])) t → Steps p.tables e below (s₁.setTop (mkF m 7 #[.val (.int sel), .val (.long xa), .second, .val (.long xc), .second, .val (.long xb), .second, .val (.long xd), .second, .val (.long xe), .second, .val (.int (2 : Int32)), .unset, .unset, .unset, .unset] [])) t := fun t kt => by
      show Steps p.tables e below (s₁.setTop (mkF m 7 #[.val (.int sel), .val (.long xa), .second, .val (.long xc), .second, .val (.long xb), .second, .val (.long xd), .second, .val (.long xe), .second, .val (.int (2 : Int32)), .unset, .unset, .unset, .unset] [])) _
      refine XS.iloadN X0.here hx rfl (hb hby at_7) rfl ?_
      show Steps p.tables e below (s₁.setTop (mkF m 8 #[.val (.int sel), .val (.long xa), .second, .val (.long xc), .second, .val (.long xb), .second, .val (.long xd), .second, .val (.long xe), .second, .val (.int (2 : Int32)), .unset, .unset, .unset, .unset] [(.int sel)])) _
      refine XS.iconst X0.here hx rfl (hb hby at_8) ?_
      show Steps p.tables e below (s₁.setTop (mkF m 9 #[.val (.int sel), .val (.long xa), .second, .val (.long xc), .second, .val (.long xb), .second, .val (.long xd), .second, .val (.long xe), .second, .val (.int (2 : Int32)), .unset, .unset, .unset, .unset] [(.int (4 : Int32)), (.int sel)])) _
      refine XS.iand X0.here hx rfl (hb hby at_9) rfl ?_
      exact kt
    by_cases hc43 : (sel &&& (4 : Int32)) = (0 : Int32)
    · obtain ⟨T44, h44, k44, X44, e44, E44, A44, st44⟩ := newP X0 hx hZ (hw _ (List.mem_of_getElem? (i := 0) rfl)) e0 (g := (mkF m 33 #[.val (.int sel), .val (.long xa), .second, .val (.long xc), .second, .val (.long xb), .second, .val (.long xd), .second, .val (.long xe), .second, .val (.int (2 : Int32)), .val (.int (0 : Int32)), .unset, .unset, .unset] [(.int (2 : Int32))])) rfl (hb hby at_33) rfl (by decide) (cap := 2) (by decide) (by decide) (by decide) (by decide)
      obtain ⟨b44, g44⟩ : ∃ z, z = h0.size := ⟨_, rfl⟩
      rw [← g44] at A44 st44
      have g_b44 : n0 ≤ b44 := Nat.le_trans Z0 (Nat.le_of_eq g44.symm)
      have sz_b44 : h0.size ≤ b44 := Nat.le_trans (Keep.refl h0 []).1 (Nat.le_of_eq g44.symm)
      have K44 : Keep h0 h44 [] := (Keep.refl h0 []).ext E44
      have Zs44 : n0 ≤ h44.size := Nat.le_trans Z0 E44.1
      have V44 : Arv Z h44 b44 k44 .long (2 : Int32) [(.long (0 : Int64)), (.long (0 : Int64))] (.long (0 : Int64)) := (Arv.new A44 (by decide)).pad (pad_rep [] (.long (0 : Int64)) 2)
      obtain ⟨T45, h45, k45, X45, e45, E45, A45, st45⟩ := newP X44 hx hZ (hw _ (List.mem_of_getElem? (i := 0) rfl)) e44 (g := (mkF m 39 #[.val (.int sel), .val (.long xa), .second, .val (.long xc), .second, .val (.long xb), .second, .val (.long xd), .second, .val (.long xe), .second, .val (.int (2 : Int32)), .val (.int (0 : Int32)), .val (.ref b44), .unset, .unset] [(.int (2 : Int32))])) rfl (hb hby at_39) rfl (by decide) (cap := 2) (by decide) (by decide) (by decide) (by decide)
      obtain ⟨b45, g45⟩ : ∃ z, z = h44.size := ⟨_, rfl⟩
      rw [← g45] at A45 st45
      have ne_b44_b45 : b44 ≠ b45 := Nat.ne_of_lt (Nat.lt_of_lt_of_le V44.lt (Nat.le_of_eq g45.symm))
      have g_b45 : n0 ≤ b45 := Nat.le_trans Zs44 (Nat.le_of_eq g45.symm)
      have sz_b45 : h0.size ≤ b45 := Nat.le_trans K44.1 (Nat.le_of_eq g45.symm)
      have K45 : Keep h0 h45 [] := K44.ext E45
      have Zs45 : n0 ≤ h45.size := Nat.le_trans Zs44 E45.1
      have V45 : Arv Z h45 b45 k45 .long (2 : Int32) [(.long (0 : Int64)), (.long (0 : Int64))] (.long (0 : Int64)) := (Arv.new A45 (by decide)).pad (pad_rep [] (.long (0 : Int64)) 2)
      obtain ⟨cl46, Ar46, q46, S46, M46, Hs46, G46⟩ := (V44.ext E45)
      have hin46 : ¬ ((0 : Int32) < 0 ∨ cl46.slots.size ≤ ((0 : Int32)).toNatClampNeg) := inb_of S46 ⟨by decide, by decide⟩
      obtain ⟨T47, h47, X47, e47, W47, st47⟩ := stJ X45 hx hZ e45 Ar46 (j := (0 : Int32)) hin46 (g := (mkF m 53 #[.val (.int sel), .val (.long xa), .second, .val (.long xc), .second, .val (.long xb), .second, .val (.long xd), .second, .val (.long xe), .second, .val (.int (2 : Int32)), .val (.int (0 : Int32)), .val (.ref b44), .val (.ref b45), .unset] [(.long xa), (.int (0 : Int32)), (.ref b44)])) rfl rfl (hb hby at_53)
      have V47 : Arv Z h47 b44 k44 .long (2 : Int32) [(.long xa), (.long (0 : Int64))] (.long (0 : Int64)) := Arv.set Ar46 q46 S46 M46 Hs46 G46 rfl W47 0 rfl (Nat.le_of_ble_eq_true rfl)
      have K47 : Keep h0 h47 [] := K45.wr W47 (Or.inr sz_b44)
      have Zs47 : n0 ≤ h47.size := Nat.le_trans Zs45 (Keep.of_wr W47).1
      have N47 := Fr.snoc X47 N0 g_b44
      obtain ⟨cl48, Ar48, q48, S48, M48, Hs48, G48⟩ := (V45.other W47 (Ne.symm ne_b44_b45))
      have hin48 : ¬ ((0 : Int32) < 0 ∨ cl48.slots.size ≤ ((0 : Int32)).toNatClampNeg) := inb_of S48 ⟨by decide, by decide⟩
      obtain ⟨T49, h49, X49, e49, W49, st49⟩ := stJ X47 hx hZ e47 Ar48 (j := (0 : Int32)) hin48 (g := (mkF m 59 #[.val (.int sel), .val (.long xa), .second, .val (.long xc), .second, .val (.long xb), .second, .val (.long xd), .second, .val (.long xe), .second, .val (.int (2 : Int32)), .val (.int (0 : Int32)), .val (.ref b44), .val (.ref b45), .unset] [(.long xb), (.int (0 : Int32)), (.ref b45)])) rfl rfl (hb hby at_59)
      have V49 : Arv Z h49 b45 k45 .long (2 : Int32) [(.long xb), (.long (0 : Int64))] (.long (0 : Int64)) := Arv.set Ar48 q48 S48 M48 Hs48 G48 rfl W49 0 rfl (Nat.le_of_ble_eq_true rfl)
      have K49 : Keep h0 h49 [] := K47.wr W49 (Or.inr sz_b45)
      have Zs49 : n0 ≤ h49.size := Nat.le_trans Zs47 (Keep.of_wr W49).1
      have N49 := Fr.snoc X49 N47 g_b45
      obtain ⟨cl50, Ar50, q50, S50, M50, Hs50, G50⟩ := (V47.other W49 ne_b44_b45)
      have hin50 : ¬ ((1 : Int32) < 0 ∨ cl50.slots.size ≤ ((1 : Int32)).toNatClampNeg) := inb_of S50 ⟨by decide, by decide⟩
      obtain ⟨T51, h51, X51, e51, W51, st51⟩ := stJ X49 hx hZ e49 Ar50 (j := (1 : Int32)) hin50 (g := (mkF m 70 #[.val (.int sel), .val (.long xa), .second, .val (.long xc), .second, .val (.long xb), .second, .val (.long xd), .second, .val (.long xe), .second, .val (.int (2 : Int32)), .val (.int (0 : Int32)), .val (.ref b44), .val (.ref b45), .unset] [(.long xc), (.int (1 : Int32)), (.ref b44)])) rfl rfl (hb hby at_70)
      have V51 : Arv Z h51 b44 k44 .long (2 : Int32) [(.long xa), (.long xc)] (.long (0 : Int64)) := Arv.set Ar50 q50 S50 M50 Hs50 G50 rfl W51 1 rfl (Nat.le_of_ble_eq_true rfl)
      have K51 : Keep h0 h51 [] := K49.wr W51 (Or.inr sz_b44)
      have Zs51 : n0 ≤ h51.size := Nat.le_trans Zs49 (Keep.of_wr W51).1
      have N51 := Fr.snoc X51 N49 g_b44
      obtain ⟨cl52, Ar52, q52, S52, M52, Hs52, G52⟩ := (V49.other W51 (Ne.symm ne_b44_b45))
      have hin52 : ¬ ((1 : Int32) < 0 ∨ cl52.slots.size ≤ ((1 : Int32)).toNatClampNeg) := inb_of S52 ⟨by decide, by decide⟩
      obtain ⟨T53, h53, X53, e53, W53, st53⟩ := stJ X51 hx hZ e51 Ar52 (j := (1 : Int32)) hin52 (g := (mkF m 76 #[.val (.int sel), .val (.long xa), .second, .val (.long xc), .second, .val (.long xb), .second, .val (.long xd), .second, .val (.long xe), .second, .val (.int (2 : Int32)), .val (.int (0 : Int32)), .val (.ref b44), .val (.ref b45), .unset] [(.long xd), (.int (1 : Int32)), (.ref b45)])) rfl rfl (hb hby at_76)
      have V53 : Arv Z h53 b45 k45 .long (2 : Int32) [(.long xb), (.long xd)] (.long (0 : Int64)) := Arv.set Ar52 q52 S52 M52 Hs52 G52 rfl W53 1 rfl (Nat.le_of_ble_eq_true rfl)
      have K53 : Keep h0 h53 [] := K51.wr W53 (Or.inr sz_b45)
      have Zs53 : n0 ≤ h53.size := Nat.le_trans Zs51 (Keep.of_wr W53).1
      have N53 := Fr.snoc X53 N51 g_b45
      have r54 : ∀ t, Steps p.tables e below (T53.setTop (mkF m 99 #[.val (.int sel), .val (.long xa), .second, .val (.long xc), .second, .val (.long xb), .second, .val (.long xd), .second, .val (.long xe), .second, .val (.int (2 : Int32)), .val (.int (0 : Int32)), .val (.ref b44), .val (.ref b45), .unset] [(.int (lcmpW xa xb))])) t → Steps p.tables e below (s₁.setTop (mkF m 10 #[.val (.int sel), .val (.long xa), .second, .val (.long xc), .second, .val (.long xb), .second, .val (.long xd), .second, .val (.long xe), .second, .val (.int (2 : Int32)), .unset, .unset, .unset, .unset] [(.int (sel &&& (4 : Int32)))])) t := fun t kt => by
        show Steps p.tables e below (s₁.setTop (mkF m 10 #[.val (.int sel), .val (.long xa), .second, .val (.long xc), .second, .val (.long xb), .second, .val (.long xd), .second, .val (.long xe), .second, .val (.int (2 : Int32)), .unset, .unset, .unset, .unset] [(.int (sel &&& (4 : Int32)))])) _
        refine XS.ifYes X0.here hx rfl (pc0 := 10) (pc' := 17) rfl (hb hby at_10) rfl ((if0 _ _).trans (teq hc43).1) (by decide) (by decide) ?_
        show Steps p.tables e below (s₁.setTop (mkF m 17 #[.val (.int sel), .val (.long xa), .second, .val (.long xc), .second, .val (.long xb), .second, .val (.long xd), .second, .val (.long xe), .second, .val (.int (2 : Int32)), .unset, .unset, .unset, .unset] [])) _
        refine XS.iconst X0.here hx rfl (hb hby at_17) ?_
        show Steps p.tables e below (s₁.setTop (mkF m 18 #[.val (.int sel), .val (.long xa), .second, .val (.long xc), .second, .val (.long xb), .second, .val (.long xd), .second, .val (.long xe), .second, .val (.int (2 : Int32)), .unset, .unset, .unset, .unset] [(.int (0 : Int32))])) _
        refine XS.istore X0.here hx rfl (hb hby at_18) rfl (l' := #[.val (.int sel), .val (.long xa), .second, .val (.long xc), .second, .val (.long xb), .second, .val (.long xd), .second, .val (.long xe), .second, .val (.int (2 : Int32)), .val (.int (0 : Int32)), .unset, .unset, .unset]) rfl ?_
        show Steps p.tables e below (s₁.setTop (mkF m 20 #[.val (.int sel), .val (.long xa), .second, .val (.long xc), .second, .val (.long xb), .second, .val (.long xd), .second, .val (.long xe), .second, .val (.int (2 : Int32)), .val (.int (0 : Int32)), .unset, .unset, .unset] [])) _
        refine XS.iload X0.here hx rfl (hb hby at_20) rfl ?_
        show Steps p.tables e below (s₁.setTop (mkF m 22 #[.val (.int sel), .val (.long xa), .second, .val (.long xc), .second, .val (.long xb), .second, .val (.long xd), .second, .val (.long xe), .second, .val (.int (2 : Int32)), .val (.int (0 : Int32)), .unset, .unset, .unset] [(.int (2 : Int32))])) _
        refine XS.iload X0.here hx rfl (hb hby at_22) rfl ?_
        show Steps p.tables e below (s₁.setTop (mkF m 24 #[.val (.int sel), .val (.long xa), .second, .val (.long xc), .second, .val (.long xb), .second, .val (.long xd), .second, .val (.long xe), .second, .val (.int (2 : Int32)), .val (.int (0 : Int32)), .unset, .unset, .unset] [(.int (0 : Int32)), (.int (2 : Int32))])) _
        refine XS.ifYes X0.here hx rfl (pc0 := 24) (pc' := 31) rfl (hb hby at_24) rfl ((if0 _ _).trans (teq (by decide : (0 : Int32) = (0 : Int32))).1) (by decide) (by decide) ?_
        show Steps p.tables e below (s₁.setTop (mkF m 31 #[.val (.int sel), .val (.long xa), .second, .val (.long xc), .second, .val (.long xb), .second, .val (.long xd), .second, .val (.long xe), .second, .val (.int (2 : Int32)), .val (.int (0 : Int32)), .unset, .unset, .unset] [(.int (2 : Int32))])) _
        refine XS.iconst X0.here hx rfl (hb hby at_31) ?_
        show Steps p.tables e below (s₁.setTop (mkF m 32 #[.val (.int sel), .val (.long xa), .second, .val (.long xc), .second, .val (.long xb), .second, .val (.long xd), .second, .val (.long xe), .second, .val (.int (2 : Int32)), .val (.int (0 : Int32)), .unset, .unset, .unset] [(.int (0 : Int32)), (.int (2 : Int32))])) _
        refine XS.iadd X0.here hx rfl (hb hby at_32) rfl ?_
        show Steps p.tables e below (s₁.setTop (mkF m 33 #[.val (.int sel), .val (.long xa), .second, .val (.long xc), .second, .val (.long xb), .second, .val (.long xd), .second, .val (.long xe), .second, .val (.int (2 : Int32)), .val (.int (0 : Int32)), .unset, .unset, .unset] [(.int (2 : Int32))])) _
        refine st44 _ ?_
        show Steps p.tables e below (T44.setTop (mkF m 35 #[.val (.int sel), .val (.long xa), .second, .val (.long xc), .second, .val (.long xb), .second, .val (.long xd), .second, .val (.long xe), .second, .val (.int (2 : Int32)), .val (.int (0 : Int32)), .unset, .unset, .unset] [(.ref b44)])) _
        refine XS.astore X44.here hx rfl (hb hby at_35) rfl rfl (l' := #[.val (.int sel), .val (.long xa), .second, .val (.long xc), .second, .val (.long xb), .second, .val (.long xd), .second, .val (.long xe), .second, .val (.int (2 : Int32)), .val (.int (0 : Int32)), .val (.ref b44), .unset, .unset]) rfl ?_
        show Steps p.tables e below (T44.setTop (mkF m 37 #[.val (.int sel), .val (.long xa), .second, .val (.long xc), .second, .val (.long xb), .second, .val (.long xd), .second, .val (.long xe), .second, .val (.int (2 : Int32)), .val (.int (0 : Int32)), .val (.ref b44), .unset, .unset] [])) _
        refine XS.iload X44.here hx rfl (hb hby at_37) rfl ?_
        show Steps p.tables e below (T44.setTop (mkF m 39 #[.val (.int sel), .val (.long xa), .second, .val (.long xc), .second, .val (.long xb), .second, .val (.long xd), .second, .val (.long xe), .second, .val (.int (2 : Int32)), .val (.int (0 : Int32)), .val (.ref b44), .unset, .unset] [(.int (2 : Int32))])) _
        refine st45 _ ?_
        show Steps p.tables e below (T45.setTop (mkF m 41 #[.val (.int sel), .val (.long xa), .second, .val (.long xc), .second, .val (.long xb), .second, .val (.long xd), .second, .val (.long xe), .second, .val (.int (2 : Int32)), .val (.int (0 : Int32)), .val (.ref b44), .unset, .unset] [(.ref b45)])) _
        refine XS.astore X45.here hx rfl (hb hby at_41) rfl rfl (l' := #[.val (.int sel), .val (.long xa), .second, .val (.long xc), .second, .val (.long xb), .second, .val (.long xd), .second, .val (.long xe), .second, .val (.int (2 : Int32)), .val (.int (0 : Int32)), .val (.ref b44), .val (.ref b45), .unset]) rfl ?_
        show Steps p.tables e below (T45.setTop (mkF m 43 #[.val (.int sel), .val (.long xa), .second, .val (.long xc), .second, .val (.long xb), .second, .val (.long xd), .second, .val (.long xe), .second, .val (.int (2 : Int32)), .val (.int (0 : Int32)), .val (.ref b44), .val (.ref b45), .unset] [])) _
        refine XS.iload X45.here hx rfl (hb hby at_43) rfl ?_
        show Steps p.tables e below (T45.setTop (mkF m 45 #[.val (.int sel), .val (.long xa), .second, .val (.long xc), .second, .val (.long xb), .second, .val (.long xd), .second, .val (.long xe), .second, .val (.int (2 : Int32)), .val (.int (0 : Int32)), .val (.ref b44), .val (.ref b45), .unset] [(.int (2 : Int32))])) _
        refine XS.iconst X45.here hx rfl (hb hby at_45) ?_
        show Steps p.tables e below (T45.setTop (mkF m 46 #[.val (.int sel), .val (.long xa), .second, .val (.long xc), .second, .val (.long xb), .second, .val (.long xd), .second, .val (.long xe), .second, .val (.int (2 : Int32)), .val (.int (0 : Int32)), .val (.ref b44), .val (.ref b45), .unset] [(.int (1 : Int32)), (.int (2 : Int32))])) _
        refine XS.icmpNo X45.here hx rfl (hb hby at_46) rfl (flt (by decide : ¬ ((2 : Int32) < (1 : Int32)))).1 ?_
        show Steps p.tables e below (T45.setTop (mkF m 49 #[.val (.int sel), .val (.long xa), .second, .val (.long xc), .second, .val (.long xb), .second, .val (.long xd), .second, .val (.long xe), .second, .val (.int (2 : Int32)), .val (.int (0 : Int32)), .val (.ref b44), .val (.ref b45), .unset] [])) _
        refine XS.aload X45.here hx rfl (hb hby at_49) rfl rfl ?_
        show Steps p.tables e below (T45.setTop (mkF m 51 #[.val (.int sel), .val (.long xa), .second, .val (.long xc), .second, .val (.long xb), .second, .val (.long xd), .second, .val (.long xe), .second, .val (.int (2 : Int32)), .val (.int (0 : Int32)), .val (.ref b44), .val (.ref b45), .unset] [(.ref b44)])) _
        refine XS.iconst X45.here hx rfl (hb hby at_51) ?_
        show Steps p.tables e below (T45.setTop (mkF m 52 #[.val (.int sel), .val (.long xa), .second, .val (.long xc), .second, .val (.long xb), .second, .val (.long xd), .second, .val (.long xe), .second, .val (.int (2 : Int32)), .val (.int (0 : Int32)), .val (.ref b44), .val (.ref b45), .unset] [(.int (0 : Int32)), (.ref b44)])) _
        refine XS.lloadN X45.here hx rfl (hb hby at_52) rfl ?_
        show Steps p.tables e below (T45.setTop (mkF m 53 #[.val (.int sel), .val (.long xa), .second, .val (.long xc), .second, .val (.long xb), .second, .val (.long xd), .second, .val (.long xe), .second, .val (.int (2 : Int32)), .val (.int (0 : Int32)), .val (.ref b44), .val (.ref b45), .unset] [(.long xa), (.int (0 : Int32)), (.ref b44)])) _
        refine st47 _ ?_
        show Steps p.tables e below (T47.setTop (mkF m 54 #[.val (.int sel), .val (.long xa), .second, .val (.long xc), .second, .val (.long xb), .second, .val (.long xd), .second, .val (.long xe), .second, .val (.int (2 : Int32)), .val (.int (0 : Int32)), .val (.ref b44), .val (.ref b45), .unset] [])) _
        refine XS.aload X47.here hx rfl (hb hby at_54) rfl rfl ?_
        show Steps p.tables e below (T47.setTop (mkF m 56 #[.val (.int sel), .val (.long xa), .second, .val (.long xc), .second, .val (.long xb), .second, .val (.long xd), .second, .val (.long xe), .second, .val (.int (2 : Int32)), .val (.int (0 : Int32)), .val (.ref b44), .val (.ref b45), .unset] [(.ref b45)])) _
        refine XS.iconst X47.here hx rfl (hb hby at_56) ?_
        show Steps p.tables e below (T47.setTop (mkF m 57 #[.val (.int sel), .val (.long xa), .second, .val (.long xc), .second, .val (.long xb), .second, .val (.long xd), .second, .val (.long xe), .second, .val (.int (2 : Int32)), .val (.int (0 : Int32)), .val (.ref b44), .val (.ref b45), .unset] [(.int (0 : Int32)), (.ref b45)])) _
        refine XS.lload X47.here hx rfl (hb hby at_57) rfl ?_
        show Steps p.tables e below (T47.setTop (mkF m 59 #[.val (.int sel), .val (.long xa), .second, .val (.long xc), .second, .val (.long xb), .second, .val (.long xd), .second, .val (.long xe), .second, .val (.int (2 : Int32)), .val (.int (0 : Int32)), .val (.ref b44), .val (.ref b45), .unset] [(.long xb), (.int (0 : Int32)), (.ref b45)])) _
        refine st49 _ ?_
        show Steps p.tables e below (T49.setTop (mkF m 60 #[.val (.int sel), .val (.long xa), .second, .val (.long xc), .second, .val (.long xb), .second, .val (.long xd), .second, .val (.long xe), .second, .val (.int (2 : Int32)), .val (.int (0 : Int32)), .val (.ref b44), .val (.ref b45), .unset] [])) _
        refine XS.iload X49.here hx rfl (hb hby at_60) rfl ?_
        show Steps p.tables e below (T49.setTop (mkF m 62 #[.val (.int sel), .val (.long xa), .second, .val (.long xc), .second, .val (.long xb), .second, .val (.long xd), .second, .val (.long xe), .second, .val (.int (2 : Int32)), .val (.int (0 : Int32)), .val (.ref b44), .val (.ref b45), .unset] [(.int (2 : Int32))])) _
        refine XS.iconst X49.here hx rfl (hb hby at_62) ?_
        show Steps p.tables e below (T49.setTop (mkF m 63 #[.val (.int sel), .val (.long xa), .second, .val (.long xc), .second, .val (.long xb), .second, .val (.long xd), .second, .val (.long xe), .second, .val (.int (2 : Int32)), .val (.int (0 : Int32)), .val (.ref b44), .val (.ref b45), .unset] [(.int (2 : Int32)), (.int (2 : Int32))])) _
        refine XS.icmpNo X49.here hx rfl (hb hby at_63) rfl (flt (by decide : ¬ ((2 : Int32) < (2 : Int32)))).1 ?_
        show Steps p.tables e below (T49.setTop (mkF m 66 #[.val (.int sel), .val (.long xa), .second, .val (.long xc), .second, .val (.long xb), .second, .val (.long xd), .second, .val (.long xe), .second, .val (.int (2 : Int32)), .val (.int (0 : Int32)), .val (.ref b44), .val (.ref b45), .unset] [])) _
        refine XS.aload X49.here hx rfl (hb hby at_66) rfl rfl ?_
        show Steps p.tables e below (T49.setTop (mkF m 68 #[.val (.int sel), .val (.long xa), .second, .val (.long xc), .second, .val (.long xb), .second, .val (.long xd), .second, .val (.long xe), .second, .val (.int (2 : Int32)), .val (.int (0 : Int32)), .val (.ref b44), .val (.ref b45), .unset] [(.ref b44)])) _
        refine XS.iconst X49.here hx rfl (hb hby at_68) ?_
        show Steps p.tables e below (T49.setTop (mkF m 69 #[.val (.int sel), .val (.long xa), .second, .val (.long xc), .second, .val (.long xb), .second, .val (.long xd), .second, .val (.long xe), .second, .val (.int (2 : Int32)), .val (.int (0 : Int32)), .val (.ref b44), .val (.ref b45), .unset] [(.int (1 : Int32)), (.ref b44)])) _
        refine XS.lloadN X49.here hx rfl (hb hby at_69) rfl ?_
        show Steps p.tables e below (T49.setTop (mkF m 70 #[.val (.int sel), .val (.long xa), .second, .val (.long xc), .second, .val (.long xb), .second, .val (.long xd), .second, .val (.long xe), .second, .val (.int (2 : Int32)), .val (.int (0 : Int32)), .val (.ref b44), .val (.ref b45), .unset] [(.long xc), (.int (1 : Int32)), (.ref b44)])) _
        refine st51 _ ?_
        show Steps p.tables e below (T51.setTop (mkF m 71 #[.val (.int sel), .val (.long xa), .second, .val (.long xc), .second, .val (.long xb), .second, .val (.long xd), .second, .val (.long xe), .second, .val (.int (2 : Int32)), .val (.int (0 : Int32)), .val (.ref b44), .val (.ref b45), .unset] [])) _
        refine XS.aload X51.here hx rfl (hb hby at_71) rfl rfl ?_
        show Steps p.tables e below (T51.setTop (mkF m 73 #[.val (.int sel), .val (.long xa), .second, .val (.long xc), .second, .val (.long xb), .second, .val (.long xd), .second, .val (.long xe), .second, .val (.int (2 : Int32)), .val (.int (0 : Int32)), .val (.ref b44), .val (.ref b45), .unset] [(.ref b45)])) _
        refine XS.iconst X51.here hx rfl (hb hby at_73) ?_
        show Steps p.tables e below (T51.setTop (mkF m 74 #[.val (.int sel), .val (.long xa), .second, .val (.long xc), .second, .val (.long xb), .second, .val (.long xd), .second, .val (.long xe), .second, .val (.int (2 : Int32)), .val (.int (0 : Int32)), .val (.ref b44), .val (.ref b45), .unset] [(.int (1 : Int32)), (.ref b45)])) _
        refine XS.lload X51.here hx rfl (hb hby at_74) rfl ?_
        show Steps p.tables e below (T51.setTop (mkF m 76 #[.val (.int sel), .val (.long xa), .second, .val (.long xc), .second, .val (.long xb), .second, .val (.long xd), .second, .val (.long xe), .second, .val (.int (2 : Int32)), .val (.int (0 : Int32)), .val (.ref b44), .val (.ref b45), .unset] [(.long xd), (.int (1 : Int32)), (.ref b45)])) _
        refine st53 _ ?_
        show Steps p.tables e below (T53.setTop (mkF m 77 #[.val (.int sel), .val (.long xa), .second, .val (.long xc), .second, .val (.long xb), .second, .val (.long xd), .second, .val (.long xe), .second, .val (.int (2 : Int32)), .val (.int (0 : Int32)), .val (.ref b44), .val (.ref b45), .unset] [])) _
        refine XS.iload X53.here hx rfl (hb hby at_77) rfl ?_
        show Steps p.tables e below (T53.setTop (mkF m 79 #[.val (.int sel), .val (.long xa), .second, .val (.long xc), .second, .val (.long xb), .second, .val (.long xd), .second, .val (.long xe), .second, .val (.int (2 : Int32)), .val (.int (0 : Int32)), .val (.ref b44), .val (.ref b45), .unset] [(.int (0 : Int32))])) _
        refine XS.ifYes X53.here hx rfl (pc0 := 79) (pc' := 89) rfl (hb hby at_79) rfl ((if0 _ _).trans (teq (by decide : (0 : Int32) = (0 : Int32))).1) (by decide) (by decide) ?_
        show Steps p.tables e below (T53.setTop (mkF m 89 #[.val (.int sel), .val (.long xa), .second, .val (.long xc), .second, .val (.long xb), .second, .val (.long xd), .second, .val (.long xe), .second, .val (.int (2 : Int32)), .val (.int (0 : Int32)), .val (.ref b44), .val (.ref b45), .unset] [])) _
        refine XS.iload X53.here hx rfl (hb hby at_89) rfl ?_
        show Steps p.tables e below (T53.setTop (mkF m 91 #[.val (.int sel), .val (.long xa), .second, .val (.long xc), .second, .val (.long xb), .second, .val (.long xd), .second, .val (.long xe), .second, .val (.int (2 : Int32)), .val (.int (0 : Int32)), .val (.ref b44), .val (.ref b45), .unset] [(.int (2 : Int32))])) _
        refine XS.iconst X53.here hx rfl (hb hby at_91) ?_
        show Steps p.tables e below (T53.setTop (mkF m 92 #[.val (.int sel), .val (.long xa), .second, .val (.long xc), .second, .val (.long xb), .second, .val (.long xd), .second, .val (.long xe), .second, .val (.int (2 : Int32)), .val (.int (0 : Int32)), .val (.ref b44), .val (.ref b45), .unset] [(.int (1 : Int32)), (.int (2 : Int32))])) _
        refine XS.icmpNo X53.here hx rfl (hb hby at_92) rfl (flt (by decide : ¬ ((2 : Int32) < (1 : Int32)))).1 ?_
        show Steps p.tables e below (T53.setTop (mkF m 95 #[.val (.int sel), .val (.long xa), .second, .val (.long xc), .second, .val (.long xb), .second, .val (.long xd), .second, .val (.long xe), .second, .val (.int (2 : Int32)), .val (.int (0 : Int32)), .val (.ref b44), .val (.ref b45), .unset] [])) _
        refine XS.lloadN X53.here hx rfl (hb hby at_95) rfl ?_
        show Steps p.tables e below (T53.setTop (mkF m 96 #[.val (.int sel), .val (.long xa), .second, .val (.long xc), .second, .val (.long xb), .second, .val (.long xd), .second, .val (.long xe), .second, .val (.int (2 : Int32)), .val (.int (0 : Int32)), .val (.ref b44), .val (.ref b45), .unset] [(.long xa)])) _
        refine XS.lload X53.here hx rfl (hb hby at_96) rfl ?_
        show Steps p.tables e below (T53.setTop (mkF m 98 #[.val (.int sel), .val (.long xa), .second, .val (.long xc), .second, .val (.long xb), .second, .val (.long xd), .second, .val (.long xe), .second, .val (.int (2 : Int32)), .val (.int (0 : Int32)), .val (.ref b44), .val (.ref b45), .unset] [(.long xb), (.long xa)])) _
        refine XS.lcmp X53.here hx rfl (hb hby at_98) rfl ?_
        exact kt
      obtain ⟨v58, hv58⟩ : ∃ zz : Int32, zz = (if xb < xa then (0 : Int32) else (if xd < xc then (0 : Int32) else (1 : Int32))) := ⟨_, rfl⟩
      have r55 : ∀ t, Steps p.tables e below (T53.setTop (mkF m 120 #[.val (.int sel), .val (.long xa), .second, .val (.long xc), .second, .val (.long xb), .second, .val (.long xd), .second, .val (.long xe), .second, .val (.int (2 : Int32)), .val (.int (0 : Int32)), .val (.ref b44), .val (.ref b45), .unset] [(.int v58)])) t → Steps p.tables e below (T53.setTop (mkF m 99 #[.val (.int sel), .val (.long xa), .second, .val (.long xc), .second, .val (.long xb), .second, .val (.long xd), .second, .val (.long xe), .second, .val (.int (2 : Int32)), .val (.int (0 : Int32)), .val (.ref b44), .val (.ref b45), .unset] [(.int (lcmpW xa xb))])) t := fun t kt => by
        rw [hv58] at kt
        by_cases hd56 : xb < xa
        · simp only [if_pos hd56] at kt
          show Steps p.tables e below (T53.setTop (mkF m 99 #[.val (.int sel), .val (.long xa), .second, .val (.long xc), .second, .val (.long xb), .second, .val (.long xd), .second, .val (.long xe), .second, .val (.int (2 : Int32)), .val (.int (0 : Int32)), .val (.ref b44), .val (.ref b45), .unset] [(.int (lcmpW xa xb))])) _
          refine XS.ifYes X53.here hx rfl (pc0 := 99) (pc' := 119) rfl (hb hby at_99) rfl ((if0 _ _).trans (tlt ((lw_gt _ _).mpr hd56)).2.2.1) (by decide) (by decide) ?_
          show Steps p.tables e below (T53.setTop (mkF m 119 #[.val (.int sel), .val (.long xa), .second, .val (.long xc), .second, .val (.long xb), .second, .val (.long xd), .second, .val (.long xe), .second, .val (.int (2 : Int32)), .val (.int (0 : Int32)), .val (.ref b44), .val (.ref b45), .unset] [])) _
          refine XS.iconst X53.here hx rfl (hb hby at_119) ?_
          exact kt
        · simp only [if_neg hd56] at kt
          by_cases hd57 : xd < xc
          · simp only [if_pos hd57] at kt
            show Steps p.tables e below (T53.setTop (mkF m 99 #[.val (.int sel), .val (.long xa), .second, .val (.long xc), .second, .val (.long xb), .second, .val (.long xd), .second, .val (.long xe), .second, .val (.int (2 : Int32)), .val (.int (0 : Int32)), .val (.ref b44), .val (.ref b45), .unset] [(.int (lcmpW xa xb))])) _
            refine XS.ifNo X53.here hx rfl (hb hby at_99) rfl ((if0 _ _).trans (flt (fun q => hd56 ((lw_gt _ _).mp q))).2.2.1) ?_
            show Steps p.tables e below (T53.setTop (mkF m 102 #[.val (.int sel), .val (.long xa), .second, .val (.long xc), .second, .val (.long xb), .second, .val (.long xd), .second, .val (.long xe), .second, .val (.int (2 : Int32)), .val (.int (0 : Int32)), .val (.ref b44), .val (.ref b45), .unset] [])) _
            refine XS.iload X53.here hx rfl (hb hby at_102) rfl ?_
            show Steps p.tables e below (T53.setTop (mkF m 104 #[.val (.int sel), .val (.long xa), .second, .val (.long xc), .second, .val (.long xb), .second, .val (.long xd), .second, .val (.long xe), .second, .val (.int (2 : Int32)), .val (.int (0 : Int32)), .val (.ref b44), .val (.ref b45), .unset] [(.int (2 : Int32))])) _
            refine XS.iconst X53.here hx rfl (hb hby at_104) ?_
            show Steps p.tables e below (T53.setTop (mkF m 105 #[.val (.int sel), .val (.long xa), .second, .val (.long xc), .second, .val (.long xb), .second, .val (.long xd), .second, .val (.long xe), .second, .val (.int (2 : Int32)), .val (.int (0 : Int32)), .val (.ref b44), .val (.ref b45), .unset] [(.int (2 : Int32)), (.int (2 : Int32))])) _
            refine XS.icmpNo X53.here hx rfl (hb hby at_105) rfl (flt (by decide : ¬ ((2 : Int32) < (2 : Int32)))).1 ?_
            show Steps p.tables e below (T53.setTop (mkF m 108 #[.val (.int sel), .val (.long xa), .second, .val (.long xc), .second, .val (.long xb), .second, .val (.long xd), .second, .val (.long xe), .second, .val (.int (2 : Int32)), .val (.int (0 : Int32)), .val (.ref b44), .val (.ref b45), .unset] [])) _
            refine XS.lloadN X53.here hx rfl (hb hby at_108) rfl ?_
            show Steps p.tables e below (T53.setTop (mkF m 109 #[.val (.int sel), .val (.long xa), .second, .val (.long xc), .second, .val (.long xb), .second, .val (.long xd), .second, .val (.long xe), .second, .val (.int (2 : Int32)), .val (.int (0 : Int32)), .val (.ref b44), .val (.ref b45), .unset] [(.long xc)])) _
            refine XS.lload X53.here hx rfl (hb hby at_109) rfl ?_
            show Steps p.tables e below (T53.setTop (mkF m 111 #[.val (.int sel), .val (.long xa), .second, .val (.long xc), .second, .val (.long xb), .second, .val (.long xd), .second, .val (.long xe), .second, .val (.int (2 : Int32)), .val (.int (0 : Int32)), .val (.ref b44), .val (.ref b45), .unset] [(.long xd), (.long xc)])) _
            refine XS.lcmp X53.here hx rfl (hb hby at_111) rfl ?_
            show Steps p.tables e below (T53.setTop (mkF m 112 #[.val (.int sel), .val (.long xa), .second, .val (.long xc), .second, .val (.long xb), .second, .val (.long xd), .second, .val (.long xe), .second, .val (.int (2 : Int32)), .val (.int (0 : Int32)), .val (.ref b44), .val (.ref b45), .unset] [(.int (lcmpW xc xd))])) _
            refine XS.ifYes X53.here hx rfl (pc0 := 112) (pc' := 119) rfl (hb hby at_112) rfl ((if0 _ _).trans (tlt ((lw_gt _ _).mpr hd57)).2.2.1) (by decide) (by decide) ?_
            show Steps p.tables e below (T53.setTop (mkF m 119 #[.val (.int sel), .val (.long xa), .second, .val (.long xc), .second, .val (.long xb), .second, .val (.long xd), .second, .val (.long xe), .second, .val (.int (2 : Int32)), .val (.int (0 : Int32)), .val (.ref b44), .val (.ref b45), .unset] [])) _
            refine XS.iconst X53.here hx rfl (hb hby at_119) ?_
            exact kt
          · simp only [if_neg hd57] at kt
            show Steps p.tables e below (T53.setTop (mkF m 99 #[.val (.int sel), .val (.long xa), .second, .val (.long xc), .second, .val (.long xb), .second, .val (.long xd), .second, .val (.long xe), .second, .val (.int (2 : Int32)), .val (.int (0 : Int32)), .val (.ref b44), .val (.ref b45), .unset] [(.int (lcmpW xa xb))])) _
            refine XS.ifNo X53.here hx rfl (hb hby at_99) rfl ((if0 _ _).trans (flt (fun q => hd56 ((lw_gt _ _).mp q))).2.2.1) ?_
            show Steps p.tables e below (T53.setTop (mkF m 102 #[.val (.int sel), .val (.long xa), .second, .val (.long xc), .second, .val (.long xb), .second, .val (.long xd), .second, .val (.long xe), .second, .val (.int (2 : Int32)), .val (.int (0 : Int32)), .val (.ref b44), .val (.ref b45), .unset] [])) _
            refine XS.iload X53.here hx rfl (hb hby at_102) rfl ?_
            show Steps p.tables e below (T53.setTop (mkF m 104 #[.val (.int sel), .val (.long xa), .second, .val (.long xc), .second, .val (.long xb), .second, .val (.long xd), .second, .val (.long xe), .second, .val (.int (2 : Int32)), .val (.int (0 : Int32)), .val (.ref b44), .val (.ref b45), .unset] [(.int (2 : Int32))])) _
            refine XS.iconst X53.here hx rfl (hb hby at_104) ?_
            show Steps p.tables e below (T53.setTop (mkF m 105 #[.val (.int sel), .val (.long xa), .second, .val (.long xc), .second, .val (.long xb), .second, .val (.long xd), .second, .val (.long xe), .second, .val (.int (2 : Int32)), .val (.int (0 : Int32)), .val (.ref b44), .val (.ref b45), .unset] [(.int (2 : Int32)), (.int (2 : Int32))])) _
            refine XS.icmpNo X53.here hx rfl (hb hby at_105) rfl (flt (by decide : ¬ ((2 : Int32) < (2 : Int32)))).1 ?_
            show Steps p.tables e below (T53.setTop (mkF m 108 #[.val (.int sel), .val (.long xa), .second, .val (.long xc), .second, .val (.long xb), .second, .val (.long xd), .second, .val (.long xe), .second, .val (.int (2 : Int32)), .val (.int (0 : Int32)), .val (.ref b44), .val (.ref b45), .unset] [])) _
            refine XS.lloadN X53.here hx rfl (hb hby at_108) rfl ?_
            show Steps p.tables e below (T53.setTop (mkF m 109 #[.val (.int sel), .val (.long xa), .second, .val (.long xc), .second, .val (.long xb), .second, .val (.long xd), .second, .val (.long xe), .second, .val (.int (2 : Int32)), .val (.int (0 : Int32)), .val (.ref b44), .val (.ref b45), .unset] [(.long xc)])) _
            refine XS.lload X53.here hx rfl (hb hby at_109) rfl ?_
            show Steps p.tables e below (T53.setTop (mkF m 111 #[.val (.int sel), .val (.long xa), .second, .val (.long xc), .second, .val (.long xb), .second, .val (.long xd), .second, .val (.long xe), .second, .val (.int (2 : Int32)), .val (.int (0 : Int32)), .val (.ref b44), .val (.ref b45), .unset] [(.long xd), (.long xc)])) _
            refine XS.lcmp X53.here hx rfl (hb hby at_111) rfl ?_
            show Steps p.tables e below (T53.setTop (mkF m 112 #[.val (.int sel), .val (.long xa), .second, .val (.long xc), .second, .val (.long xb), .second, .val (.long xd), .second, .val (.long xe), .second, .val (.int (2 : Int32)), .val (.int (0 : Int32)), .val (.ref b44), .val (.ref b45), .unset] [(.int (lcmpW xc xd))])) _
            refine XS.ifNo X53.here hx rfl (hb hby at_112) rfl ((if0 _ _).trans (flt (fun q => hd57 ((lw_gt _ _).mp q))).2.2.1) ?_
            show Steps p.tables e below (T53.setTop (mkF m 115 #[.val (.int sel), .val (.long xa), .second, .val (.long xc), .second, .val (.long xb), .second, .val (.long xd), .second, .val (.long xe), .second, .val (.int (2 : Int32)), .val (.int (0 : Int32)), .val (.ref b44), .val (.ref b45), .unset] [])) _
            refine XS.iconst X53.here hx rfl (hb hby at_115) ?_
            show Steps p.tables e below (T53.setTop (mkF m 116 #[.val (.int sel), .val (.long xa), .second, .val (.long xc), .second, .val (.long xb), .second, .val (.long xd), .second, .val (.long xe), .second, .val (.int (2 : Int32)), .val (.int (0 : Int32)), .val (.ref b44), .val (.ref b45), .unset] [(.int (1 : Int32))])) _
            refine XS.goto X53.here hx rfl (pc0 := 116) (pc' := 120) rfl (hb hby at_116) (by decide) (by decide) ?_
            exact kt
      obtain ⟨_, _, ⟨T59, L59, k59, n59⟩, -, X59, ⟨Lc59, hQ59, l59, y59, z59⟩, st59⟩ := Jvm.LawKit.callS X53 hx (y := (⟨"com/example/gavelwright/gavelwright/WelfareMaximizer", "fits", "([J[J)Z"⟩ : MethodName)) hown (mvT hZ (hw _ (List.mem_of_getElem? (i := 1) rfl))) (mvT hZ (hw _ (List.mem_of_getElem? (i := 2) rfl))) (mvT hZ (hw _ (List.mem_of_getElem? (i := 3) rfl))) (mvT hZ (hw _ (List.mem_of_getElem? (i := 4) rfl))) (by decide) (backOf (W := 0) (rmF20 l Z a0 hw [] b44 b45 xa xc xb xd k44 k45 h53 n0 Zs53 (V51.other W53 ne_b44_b45) V53) hZ (hw _ (List.mem_of_getElem? (i := 4) rfl)) (hw _ (List.mem_of_getElem? (i := 3) rfl)) (by decide) (by decide)) (g := (mkF m 126 #[.val (.int sel), .val (.long xa), .second, .val (.long xc), .second, .val (.long xb), .second, .val (.long xd), .second, .val (.long xe), .second, .val (.int (2 : Int32)), .val (.int (0 : Int32)), .val (.ref b44), .val (.ref b45), .val (.int v58)] [(.ref b45), (.ref b44)])) rfl (by rw [hml]; rfl) (argsL := [(.ref b44), (.ref b45)]) (rest := []) (lenOf own_pd0 rfl) rfl (by show 2 * 0 + _ ≤ _; exact Nat.le_of_eq rfl) (hb hby at_126) (fun _ _ => ⟨rfl, e53, (by decide : 2 + 0 ≤ _), (by decide : 4 + 0 ≤ _)⟩)
      dsimp only [Pt.U, Pt.locs, Pt.cells, Pt.slots] at X59 l59 y59 z59 st59 hQ59
      subst l59 y59 z59
      obtain ⟨rfl, Nq59, e59⟩ := hQ59
      have N59 := Fr.app N53 Nq59
      obtain ⟨fs, hr, hrun, hended, hW, hsame⟩ := X59.leave (v := some (.int (1 : Int32))) (fun h => by rw [Bd.returns] at h; cases h)
      refine ⟨_, _, (pre0 _ (r1 _ (r41 _ (r42 _ (r54 _ (r55 _ ?_)))))), hrun, hended, _, _, rfl, ?_, ⟨_, rfl⟩, hW, hsame.mono (by decide) (by decide)⟩
      · show Steps p.tables e below (T53.setTop (mkF m 120 #[.val (.int sel), .val (.long xa), .second, .val (.long xc), .second, .val (.long xb), .second, .val (.long xd), .second, .val (.long xe), .second, .val (.int (2 : Int32)), .val (.int (0 : Int32)), .val (.ref b44), .val (.ref b45), .unset] [(.int v58)])) _
        refine XS.istore X53.here hx rfl (hb hby at_120) rfl (l' := #[.val (.int sel), .val (.long xa), .second, .val (.long xc), .second, .val (.long xb), .second, .val (.long xd), .second, .val (.long xe), .second, .val (.int (2 : Int32)), .val (.int (0 : Int32)), .val (.ref b44), .val (.ref b45), .val (.int v58)]) rfl ?_
        show Steps p.tables e below (T53.setTop (mkF m 122 #[.val (.int sel), .val (.long xa), .second, .val (.long xc), .second, .val (.long xb), .second, .val (.long xd), .second, .val (.long xe), .second, .val (.int (2 : Int32)), .val (.int (0 : Int32)), .val (.ref b44), .val (.ref b45), .val (.int v58)] [])) _
        refine XS.aload X53.here hx rfl (hb hby at_122) rfl rfl ?_
        show Steps p.tables e below (T53.setTop (mkF m 124 #[.val (.int sel), .val (.long xa), .second, .val (.long xc), .second, .val (.long xb), .second, .val (.long xd), .second, .val (.long xe), .second, .val (.int (2 : Int32)), .val (.int (0 : Int32)), .val (.ref b44), .val (.ref b45), .val (.int v58)] [(.ref b44)])) _
        refine XS.aload X53.here hx rfl (hb hby at_124) rfl rfl ?_
        show Steps p.tables e below (T53.setTop (mkF m 126 #[.val (.int sel), .val (.long xa), .second, .val (.long xc), .second, .val (.long xb), .second, .val (.long xd), .second, .val (.long xe), .second, .val (.int (2 : Int32)), .val (.int (0 : Int32)), .val (.ref b44), .val (.ref b45), .val (.int v58)] [(.ref b45), (.ref b44)])) _
        refine st59 _ ?_
        show Steps p.tables e below (T59.setTop (mkF m 129 #[.val (.int sel), .val (.long xa), .second, .val (.long xc), .second, .val (.long xb), .second, .val (.long xd), .second, .val (.long xe), .second, .val (.int (2 : Int32)), .val (.int (0 : Int32)), .val (.ref b44), .val (.ref b45), .val (.int v58)] [(.int (own_two xa xb xc xd))])) _
        refine XS.iload X59.here hx rfl (hb hby at_129) rfl ?_
        show Steps p.tables e below (T59.setTop (mkF m 131 #[.val (.int sel), .val (.long xa), .second, .val (.long xc), .second, .val (.long xb), .second, .val (.long xd), .second, .val (.long xe), .second, .val (.int (2 : Int32)), .val (.int (0 : Int32)), .val (.ref b44), .val (.ref b45), .val (.int v58)] [(.int v58), (.int (own_two xa xb xc xd))])) _
        refine XS.icmpNo X59.here hx rfl (hb hby at_131) rfl (teq (by rw [hv58]; rfl)).2 ?_
        show Steps p.tables e below (T59.setTop (mkF m 134 #[.val (.int sel), .val (.long xa), .second, .val (.long xc), .second, .val (.long xb), .second, .val (.long xd), .second, .val (.long xe), .second, .val (.int (2 : Int32)), .val (.int (0 : Int32)), .val (.ref b44), .val (.ref b45), .val (.int v58)] [])) _
        refine XS.iconst X59.here hx rfl (hb hby at_134) ?_
        show Steps p.tables e below (T59.setTop (mkF m 135 #[.val (.int sel), .val (.long xa), .second, .val (.long xc), .second, .val (.long xb), .second, .val (.long xd), .second, .val (.long xe), .second, .val (.int (2 : Int32)), .val (.int (0 : Int32)), .val (.ref b44), .val (.ref b45), .val (.int v58)] [(.int (1 : Int32))])) _
        refine XS.goto X59.here hx rfl (pc0 := 135) (pc' := 139) rfl (hb hby at_135) (by decide) (by decide) ?_
        show Steps p.tables e below (T59.setTop (mkF m 139 #[.val (.int sel), .val (.long xa), .second, .val (.long xc), .second, .val (.long xb), .second, .val (.long xd), .second, .val (.long xe), .second, .val (.int (2 : Int32)), .val (.int (0 : Int32)), .val (.ref b44), .val (.ref b45), .val (.int v58)] [(.int (1 : Int32))])) _
        exact retN X59 hx (t := .boolean) Bd.returns (by simp) (hb hby at_139) hr
      · show QL Z sel xa xc xb xd xe h0 n0 _ T59.heap _
        rw [e59]
        exact ⟨rfl, N59⟩
    · obtain ⟨T60, h60, k60, X60, e60, E60, A60, st60⟩ := newP X0 hx hZ (hw _ (List.mem_of_getElem? (i := 0) rfl)) e0 (g := (mkF m 33 #[.val (.int sel), .val (.long xa), .second, .val (.long xc), .second, .val (.long xb), .second, .val (.long xd), .second, .val (.long xe), .second, .val (.int (2 : Int32)), .val (.int (1 : Int32)), .unset, .unset, .unset] [(.int (3 : Int32))])) rfl (hb hby at_33) rfl (by decide) (cap := 3) (by decide) (by decide) (by decide) (by decide)
      obtain ⟨b60, g60⟩ : ∃ z, z = h0.size := ⟨_, rfl⟩
      rw [← g60] at A60 st60
      have g_b60 : n0 ≤ b60 := Nat.le_trans Z0 (Nat.le_of_eq g60.symm)
      have sz_b60 : h0.size ≤ b60 := Nat.le_trans (Keep.refl h0 []).1 (Nat.le_of_eq g60.symm)
      have K60 : Keep h0 h60 [] := (Keep.refl h0 []).ext E60
      have Zs60 : n0 ≤ h60.size := Nat.le_trans Z0 E60.1
      have V60 : Arv Z h60 b60 k60 .long (3 : Int32) [(.long (0 : Int64)), (.long (0 : Int64)), (.long (0 : Int64))] (.long (0 : Int64)) := (Arv.new A60 (by decide)).pad (pad_rep [] (.long (0 : Int64)) 3)
      obtain ⟨T61, h61, k61, X61, e61, E61, A61, st61⟩ := newP X60 hx hZ (hw _ (List.mem_of_getElem? (i := 0) rfl)) e60 (g := (mkF m 39 #[.val (.int sel), .val (.long xa), .second, .val (.long xc), .second, .val (.long xb), .second, .val (.long xd), .second, .val (.long xe), .second, .val (.int (2 : Int32)), .val (.int (1 : Int32)), .val (.ref b60), .unset, .unset] [(.int (2 : Int32))])) rfl (hb hby at_39) rfl (by decide) (cap := 2) (by decide) (by decide) (by decide) (by decide)
      obtain ⟨b61, g61⟩ : ∃ z, z = h60.size := ⟨_, rfl⟩
      rw [← g61] at A61 st61
      have ne_b60_b61 : b60 ≠ b61 := Nat.ne_of_lt (Nat.lt_of_lt_of_le V60.lt (Nat.le_of_eq g61.symm))
      have g_b61 : n0 ≤ b61 := Nat.le_trans Zs60 (Nat.le_of_eq g61.symm)
      have sz_b61 : h0.size ≤ b61 := Nat.le_trans K60.1 (Nat.le_of_eq g61.symm)
      have K61 : Keep h0 h61 [] := K60.ext E61
      have Zs61 : n0 ≤ h61.size := Nat.le_trans Zs60 E61.1
      have V61 : Arv Z h61 b61 k61 .long (2 : Int32) [(.long (0 : Int64)), (.long (0 : Int64))] (.long (0 : Int64)) := (Arv.new A61 (by decide)).pad (pad_rep [] (.long (0 : Int64)) 2)
      obtain ⟨cl62, Ar62, q62, S62, M62, Hs62, G62⟩ := (V60.ext E61)
      have hin62 : ¬ ((0 : Int32) < 0 ∨ cl62.slots.size ≤ ((0 : Int32)).toNatClampNeg) := inb_of S62 ⟨by decide, by decide⟩
      obtain ⟨T63, h63, X63, e63, W63, st63⟩ := stJ X61 hx hZ e61 Ar62 (j := (0 : Int32)) hin62 (g := (mkF m 53 #[.val (.int sel), .val (.long xa), .second, .val (.long xc), .second, .val (.long xb), .second, .val (.long xd), .second, .val (.long xe), .second, .val (.int (2 : Int32)), .val (.int (1 : Int32)), .val (.ref b60), .val (.ref b61), .unset] [(.long xa), (.int (0 : Int32)), (.ref b60)])) rfl rfl (hb hby at_53)
      have V63 : Arv Z h63 b60 k60 .long (3 : Int32) [(.long xa), (.long (0 : Int64)), (.long (0 : Int64))] (.long (0 : Int64)) := Arv.set Ar62 q62 S62 M62 Hs62 G62 rfl W63 0 rfl (Nat.le_of_ble_eq_true rfl)
      have K63 : Keep h0 h63 [] := K61.wr W63 (Or.inr sz_b60)
      have Zs63 : n0 ≤ h63.size := Nat.le_trans Zs61 (Keep.of_wr W63).1
      have N63 := Fr.snoc X63 N0 g_b60
      obtain ⟨cl64, Ar64, q64, S64, M64, Hs64, G64⟩ := (V61.other W63 (Ne.symm ne_b60_b61))
      have hin64 : ¬ ((0 : Int32) < 0 ∨ cl64.slots.size ≤ ((0 : Int32)).toNatClampNeg) := inb_of S64 ⟨by decide, by decide⟩
      obtain ⟨T65, h65, X65, e65, W65, st65⟩ := stJ X63 hx hZ e63 Ar64 (j := (0 : Int32)) hin64 (g := (mkF m 59 #[.val (.int sel), .val (.long xa), .second, .val (.long xc), .second, .val (.long xb), .second, .val (.long xd), .second, .val (.long xe), .second, .val (.int (2 : Int32)), .val (.int (1 : Int32)), .val (.ref b60), .val (.ref b61), .unset] [(.long xb), (.int (0 : Int32)), (.ref b61)])) rfl rfl (hb hby at_59)
      have V65 : Arv Z h65 b61 k61 .long (2 : Int32) [(.long xb), (.long (0 : Int64))] (.long (0 : Int64)) := Arv.set Ar64 q64 S64 M64 Hs64 G64 rfl W65 0 rfl (Nat.le_of_ble_eq_true rfl)
      have K65 : Keep h0 h65 [] := K63.wr W65 (Or.inr sz_b61)
      have Zs65 : n0 ≤ h65.size := Nat.le_trans Zs63 (Keep.of_wr W65).1
      have N65 := Fr.snoc X65 N63 g_b61
      obtain ⟨cl66, Ar66, q66, S66, M66, Hs66, G66⟩ := (V63.other W65 ne_b60_b61)
      have hin66 : ¬ ((1 : Int32) < 0 ∨ cl66.slots.size ≤ ((1 : Int32)).toNatClampNeg) := inb_of S66 ⟨by decide, by decide⟩
      obtain ⟨T67, h67, X67, e67, W67, st67⟩ := stJ X65 hx hZ e65 Ar66 (j := (1 : Int32)) hin66 (g := (mkF m 70 #[.val (.int sel), .val (.long xa), .second, .val (.long xc), .second, .val (.long xb), .second, .val (.long xd), .second, .val (.long xe), .second, .val (.int (2 : Int32)), .val (.int (1 : Int32)), .val (.ref b60), .val (.ref b61), .unset] [(.long xc), (.int (1 : Int32)), (.ref b60)])) rfl rfl (hb hby at_70)
      have V67 : Arv Z h67 b60 k60 .long (3 : Int32) [(.long xa), (.long xc), (.long (0 : Int64))] (.long (0 : Int64)) := Arv.set Ar66 q66 S66 M66 Hs66 G66 rfl W67 1 rfl (Nat.le_of_ble_eq_true rfl)
      have K67 : Keep h0 h67 [] := K65.wr W67 (Or.inr sz_b60)
      have Zs67 : n0 ≤ h67.size := Nat.le_trans Zs65 (Keep.of_wr W67).1
      have N67 := Fr.snoc X67 N65 g_b60
      obtain ⟨cl68, Ar68, q68, S68, M68, Hs68, G68⟩ := (V65.other W67 (Ne.symm ne_b60_b61))
      have hin68 : ¬ ((1 : Int32) < 0 ∨ cl68.slots.size ≤ ((1 : Int32)).toNatClampNeg) := inb_of S68 ⟨by decide, by decide⟩
      obtain ⟨T69, h69, X69, e69, W69, st69⟩ := stJ X67 hx hZ e67 Ar68 (j := (1 : Int32)) hin68 (g := (mkF m 76 #[.val (.int sel), .val (.long xa), .second, .val (.long xc), .second, .val (.long xb), .second, .val (.long xd), .second, .val (.long xe), .second, .val (.int (2 : Int32)), .val (.int (1 : Int32)), .val (.ref b60), .val (.ref b61), .unset] [(.long xd), (.int (1 : Int32)), (.ref b61)])) rfl rfl (hb hby at_76)
      have V69 : Arv Z h69 b61 k61 .long (2 : Int32) [(.long xb), (.long xd)] (.long (0 : Int64)) := Arv.set Ar68 q68 S68 M68 Hs68 G68 rfl W69 1 rfl (Nat.le_of_ble_eq_true rfl)
      have K69 : Keep h0 h69 [] := K67.wr W69 (Or.inr sz_b61)
      have Zs69 : n0 ≤ h69.size := Nat.le_trans Zs67 (Keep.of_wr W69).1
      have N69 := Fr.snoc X69 N67 g_b61
      obtain ⟨cl70, Ar70, q70, S70, M70, Hs70, G70⟩ := (V67.other W69 ne_b60_b61)
      have hin70 : ¬ ((2 : Int32) < 0 ∨ cl70.slots.size ≤ ((2 : Int32)).toNatClampNeg) := inb_of S70 ⟨by decide, by decide⟩
      obtain ⟨T71, h71, X71, e71, W71, st71⟩ := stJ X69 hx hZ e69 Ar70 (j := (2 : Int32)) hin70 (g := (mkF m 88 #[.val (.int sel), .val (.long xa), .second, .val (.long xc), .second, .val (.long xb), .second, .val (.long xd), .second, .val (.long xe), .second, .val (.int (2 : Int32)), .val (.int (1 : Int32)), .val (.ref b60), .val (.ref b61), .unset] [(.long xe), (.int (2 : Int32)), (.ref b60)])) rfl rfl (hb hby at_88)
      have V71 : Arv Z h71 b60 k60 .long (3 : Int32) [(.long xa), (.long xc), (.long xe)] (.long (0 : Int64)) := Arv.set Ar70 q70 S70 M70 Hs70 G70 rfl W71 2 rfl (Nat.le_of_ble_eq_true rfl)
      have K71 : Keep h0 h71 [] := K69.wr W71 (Or.inr sz_b60)
      have Zs71 : n0 ≤ h71.size := Nat.le_trans Zs69 (Keep.of_wr W71).1
      have N71 := Fr.snoc X71 N69 g_b60
      have r72 : ∀ t, Steps p.tables e below (T71.setTop (mkF m 99 #[.val (.int sel), .val (.long xa), .second, .val (.long xc), .second, .val (.long xb), .second, .val (.long xd), .second, .val (.long xe), .second, .val (.int (2 : Int32)), .val (.int (1 : Int32)), .val (.ref b60), .val (.ref b61), .unset] [(.int (lcmpW xa xb))])) t → Steps p.tables e below (s₁.setTop (mkF m 10 #[.val (.int sel), .val (.long xa), .second, .val (.long xc), .second, .val (.long xb), .second, .val (.long xd), .second, .val (.long xe), .second, .val (.int (2 : Int32)), .unset, .unset, .unset, .unset] [(.int (sel &&& (4 : Int32)))])) t := fun t kt => by
        show Steps p.tables e below (s₁.setTop (mkF m 10 #[.val (.int sel), .val (.long xa), .second, .val (.long xc), .second, .val (.long xb), .second, .val (.long xd), .second, .val (.long xe), .second, .val (.int (2 : Int32)), .unset, .unset, .unset, .unset] [(.int (sel &&& (4 : Int32)))])) _
        refine XS.ifNo X0.here hx rfl (hb hby at_10) rfl ((if0 _ _).trans (feq hc43).1) ?_
        show Steps p.tables e below (s₁.setTop (mkF m 13 #[.val (.int sel), .val (.long xa), .second, .val (.long xc), .second, .val (.long xb), .second, .val (.long xd), .second, .val (.long xe), .second, .val (.int (2 : Int32)), .unset, .unset, .unset, .unset] [])) _
        refine XS.iconst X0.here hx rfl (hb hby at_13) ?_
        show Steps p.tables e below (s₁.setTop (mkF m 14 #[.val (.int sel), .val (.long xa), .second, .val (.long xc), .second, .val (.long xb), .second, .val (.long xd), .second, .val (.long xe), .second, .val (.int (2 : Int32)), .unset, .unset, .unset, .unset] [(.int (1 : Int32))])) _
        refine XS.goto X0.here hx rfl (pc0 := 14) (pc' := 18) rfl (hb hby at_14) (by decide) (by decide) ?_
        show Steps p.tables e below (s₁.setTop (mkF m 18 #[.val (.int sel), .val (.long xa), .second, .val (.long xc), .second, .val (.long xb), .second, .val (.long xd), .second, .val (.long xe), .second, .val (.int (2 : Int32)), .unset, .unset, .unset, .unset] [(.int (1 : Int32))])) _
        refine XS.istore X0.here hx rfl (hb hby at_18) rfl (l' := #[.val (.int sel), .val (.long xa), .second, .val (.long xc), .second, .val (.long xb), .second, .val (.long xd), .second, .val (.long xe), .second, .val (.int (2 : Int32)), .val (.int (1 : Int32)), .unset, .unset, .unset]) rfl ?_
        show Steps p.tables e below (s₁.setTop (mkF m 20 #[.val (.int sel), .val (.long xa), .second, .val (.long xc), .second, .val (.long xb), .second, .val (.long xd), .second, .val (.long xe), .second, .val (.int (2 : Int32)), .val (.int (1 : Int32)), .unset, .unset, .unset] [])) _
        refine XS.iload X0.here hx rfl (hb hby at_20) rfl ?_
        show Steps p.tables e below (s₁.setTop (mkF m 22 #[.val (.int sel), .val (.long xa), .second, .val (.long xc), .second, .val (.long xb), .second, .val (.long xd), .second, .val (.long xe), .second, .val (.int (2 : Int32)), .val (.int (1 : Int32)), .unset, .unset, .unset] [(.int (2 : Int32))])) _
        refine XS.iload X0.here hx rfl (hb hby at_22) rfl ?_
        show Steps p.tables e below (s₁.setTop (mkF m 24 #[.val (.int sel), .val (.long xa), .second, .val (.long xc), .second, .val (.long xb), .second, .val (.long xd), .second, .val (.long xe), .second, .val (.int (2 : Int32)), .val (.int (1 : Int32)), .unset, .unset, .unset] [(.int (1 : Int32)), (.int (2 : Int32))])) _
        refine XS.ifNo X0.here hx rfl (hb hby at_24) rfl ((if0 _ _).trans (feq (by decide : ¬ ((1 : Int32) = (0 : Int32)))).1) ?_
        show Steps p.tables e below (s₁.setTop (mkF m 27 #[.val (.int sel), .val (.long xa), .second, .val (.long xc), .second, .val (.long xb), .second, .val (.long xd), .second, .val (.long xe), .second, .val (.int (2 : Int32)), .val (.int (1 : Int32)), .unset, .unset, .unset] [(.int (2 : Int32))])) _
        refine XS.iconst X0.here hx rfl (hb hby at_27) ?_
        show Steps p.tables e below (s₁.setTop (mkF m 28 #[.val (.int sel), .val (.long xa), .second, .val (.long xc), .second, .val (.long xb), .second, .val (.long xd), .second, .val (.long xe), .second, .val (.int (2 : Int32)), .val (.int (1 : Int32)), .unset, .unset, .unset] [(.int (1 : Int32)), (.int (2 : Int32))])) _
        refine XS.goto X0.here hx rfl (pc0 := 28) (pc' := 32) rfl (hb hby at_28) (by decide) (by decide) ?_
        show Steps p.tables e below (s₁.setTop (mkF m 32 #[.val (.int sel), .val (.long xa), .second, .val (.long xc), .second, .val (.long xb), .second, .val (.long xd), .second, .val (.long xe), .second, .val (.int (2 : Int32)), .val (.int (1 : Int32)), .unset, .unset, .unset] [(.int (1 : Int32)), (.int (2 : Int32))])) _
        refine XS.iadd X0.here hx rfl (hb hby at_32) rfl ?_
        show Steps p.tables e below (s₁.setTop (mkF m 33 #[.val (.int sel), .val (.long xa), .second, .val (.long xc), .second, .val (.long xb), .second, .val (.long xd), .second, .val (.long xe), .second, .val (.int (2 : Int32)), .val (.int (1 : Int32)), .unset, .unset, .unset] [(.int (3 : Int32))])) _
        refine st60 _ ?_
        show Steps p.tables e below (T60.setTop (mkF m 35 #[.val (.int sel), .val (.long xa), .second, .val (.long xc), .second, .val (.long xb), .second, .val (.long xd), .second, .val (.long xe), .second, .val (.int (2 : Int32)), .val (.int (1 : Int32)), .unset, .unset, .unset] [(.ref b60)])) _
        refine XS.astore X60.here hx rfl (hb hby at_35) rfl rfl (l' := #[.val (.int sel), .val (.long xa), .second, .val (.long xc), .second, .val (.long xb), .second, .val (.long xd), .second, .val (.long xe), .second, .val (.int (2 : Int32)), .val (.int (1 : Int32)), .val (.ref b60), .unset, .unset]) rfl ?_
        show Steps p.tables e below (T60.setTop (mkF m 37 #[.val (.int sel), .val (.long xa), .second, .val (.long xc), .second, .val (.long xb), .second, .val (.long xd), .second, .val (.long xe), .second, .val (.int (2 : Int32)), .val (.int (1 : Int32)), .val (.ref b60), .unset, .unset] [])) _
        refine XS.iload X60.here hx rfl (hb hby at_37) rfl ?_
        show Steps p.tables e below (T60.setTop (mkF m 39 #[.val (.int sel), .val (.long xa), .second, .val (.long xc), .second, .val (.long xb), .second, .val (.long xd), .second, .val (.long xe), .second, .val (.int (2 : Int32)), .val (.int (1 : Int32)), .val (.ref b60), .unset, .unset] [(.int (2 : Int32))])) _
        refine st61 _ ?_
        show Steps p.tables e below (T61.setTop (mkF m 41 #[.val (.int sel), .val (.long xa), .second, .val (.long xc), .second, .val (.long xb), .second, .val (.long xd), .second, .val (.long xe), .second, .val (.int (2 : Int32)), .val (.int (1 : Int32)), .val (.ref b60), .unset, .unset] [(.ref b61)])) _
        refine XS.astore X61.here hx rfl (hb hby at_41) rfl rfl (l' := #[.val (.int sel), .val (.long xa), .second, .val (.long xc), .second, .val (.long xb), .second, .val (.long xd), .second, .val (.long xe), .second, .val (.int (2 : Int32)), .val (.int (1 : Int32)), .val (.ref b60), .val (.ref b61), .unset]) rfl ?_
        show Steps p.tables e below (T61.setTop (mkF m 43 #[.val (.int sel), .val (.long xa), .second, .val (.long xc), .second, .val (.long xb), .second, .val (.long xd), .second, .val (.long xe), .second, .val (.int (2 : Int32)), .val (.int (1 : Int32)), .val (.ref b60), .val (.ref b61), .unset] [])) _
        refine XS.iload X61.here hx rfl (hb hby at_43) rfl ?_
        show Steps p.tables e below (T61.setTop (mkF m 45 #[.val (.int sel), .val (.long xa), .second, .val (.long xc), .second, .val (.long xb), .second, .val (.long xd), .second, .val (.long xe), .second, .val (.int (2 : Int32)), .val (.int (1 : Int32)), .val (.ref b60), .val (.ref b61), .unset] [(.int (2 : Int32))])) _
        refine XS.iconst X61.here hx rfl (hb hby at_45) ?_
        show Steps p.tables e below (T61.setTop (mkF m 46 #[.val (.int sel), .val (.long xa), .second, .val (.long xc), .second, .val (.long xb), .second, .val (.long xd), .second, .val (.long xe), .second, .val (.int (2 : Int32)), .val (.int (1 : Int32)), .val (.ref b60), .val (.ref b61), .unset] [(.int (1 : Int32)), (.int (2 : Int32))])) _
        refine XS.icmpNo X61.here hx rfl (hb hby at_46) rfl (flt (by decide : ¬ ((2 : Int32) < (1 : Int32)))).1 ?_
        show Steps p.tables e below (T61.setTop (mkF m 49 #[.val (.int sel), .val (.long xa), .second, .val (.long xc), .second, .val (.long xb), .second, .val (.long xd), .second, .val (.long xe), .second, .val (.int (2 : Int32)), .val (.int (1 : Int32)), .val (.ref b60), .val (.ref b61), .unset] [])) _
        refine XS.aload X61.here hx rfl (hb hby at_49) rfl rfl ?_
        show Steps p.tables e below (T61.setTop (mkF m 51 #[.val (.int sel), .val (.long xa), .second, .val (.long xc), .second, .val (.long xb), .second, .val (.long xd), .second, .val (.long xe), .second, .val (.int (2 : Int32)), .val (.int (1 : Int32)), .val (.ref b60), .val (.ref b61), .unset] [(.ref b60)])) _
        refine XS.iconst X61.here hx rfl (hb hby at_51) ?_
        show Steps p.tables e below (T61.setTop (mkF m 52 #[.val (.int sel), .val (.long xa), .second, .val (.long xc), .second, .val (.long xb), .second, .val (.long xd), .second, .val (.long xe), .second, .val (.int (2 : Int32)), .val (.int (1 : Int32)), .val (.ref b60), .val (.ref b61), .unset] [(.int (0 : Int32)), (.ref b60)])) _
        refine XS.lloadN X61.here hx rfl (hb hby at_52) rfl ?_
        show Steps p.tables e below (T61.setTop (mkF m 53 #[.val (.int sel), .val (.long xa), .second, .val (.long xc), .second, .val (.long xb), .second, .val (.long xd), .second, .val (.long xe), .second, .val (.int (2 : Int32)), .val (.int (1 : Int32)), .val (.ref b60), .val (.ref b61), .unset] [(.long xa), (.int (0 : Int32)), (.ref b60)])) _
        refine st63 _ ?_
        show Steps p.tables e below (T63.setTop (mkF m 54 #[.val (.int sel), .val (.long xa), .second, .val (.long xc), .second, .val (.long xb), .second, .val (.long xd), .second, .val (.long xe), .second, .val (.int (2 : Int32)), .val (.int (1 : Int32)), .val (.ref b60), .val (.ref b61), .unset] [])) _
        refine XS.aload X63.here hx rfl (hb hby at_54) rfl rfl ?_
        show Steps p.tables e below (T63.setTop (mkF m 56 #[.val (.int sel), .val (.long xa), .second, .val (.long xc), .second, .val (.long xb), .second, .val (.long xd), .second, .val (.long xe), .second, .val (.int (2 : Int32)), .val (.int (1 : Int32)), .val (.ref b60), .val (.ref b61), .unset] [(.ref b61)])) _
        refine XS.iconst X63.here hx rfl (hb hby at_56) ?_
        show Steps p.tables e below (T63.setTop (mkF m 57 #[.val (.int sel), .val (.long xa), .second, .val (.long xc), .second, .val (.long xb), .second, .val (.long xd), .second, .val (.long xe), .second, .val (.int (2 : Int32)), .val (.int (1 : Int32)), .val (.ref b60), .val (.ref b61), .unset] [(.int (0 : Int32)), (.ref b61)])) _
        refine XS.lload X63.here hx rfl (hb hby at_57) rfl ?_
        show Steps p.tables e below (T63.setTop (mkF m 59 #[.val (.int sel), .val (.long xa), .second, .val (.long xc), .second, .val (.long xb), .second, .val (.long xd), .second, .val (.long xe), .second, .val (.int (2 : Int32)), .val (.int (1 : Int32)), .val (.ref b60), .val (.ref b61), .unset] [(.long xb), (.int (0 : Int32)), (.ref b61)])) _
        refine st65 _ ?_
        show Steps p.tables e below (T65.setTop (mkF m 60 #[.val (.int sel), .val (.long xa), .second, .val (.long xc), .second, .val (.long xb), .second, .val (.long xd), .second, .val (.long xe), .second, .val (.int (2 : Int32)), .val (.int (1 : Int32)), .val (.ref b60), .val (.ref b61), .unset] [])) _
        refine XS.iload X65.here hx rfl (hb hby at_60) rfl ?_
        show Steps p.tables e below (T65.setTop (mkF m 62 #[.val (.int sel), .val (.long xa), .second, .val (.long xc), .second, .val (.long xb), .second, .val (.long xd), .second, .val (.long xe), .second, .val (.int (2 : Int32)), .val (.int (1 : Int32)), .val (.ref b60), .val (.ref b61), .unset] [(.int (2 : Int32))])) _
        refine XS.iconst X65.here hx rfl (hb hby at_62) ?_
        show Steps p.tables e below (T65.setTop (mkF m 63 #[.val (.int sel), .val (.long xa), .second, .val (.long xc), .second, .val (.long xb), .second, .val (.long xd), .second, .val (.long xe), .second, .val (.int (2 : Int32)), .val (.int (1 : Int32)), .val (.ref b60), .val (.ref b61), .unset] [(.int (2 : Int32)), (.int (2 : Int32))])) _
        refine XS.icmpNo X65.here hx rfl (hb hby at_63) rfl (flt (by decide : ¬ ((2 : Int32) < (2 : Int32)))).1 ?_
        show Steps p.tables e below (T65.setTop (mkF m 66 #[.val (.int sel), .val (.long xa), .second, .val (.long xc), .second, .val (.long xb), .second, .val (.long xd), .second, .val (.long xe), .second, .val (.int (2 : Int32)), .val (.int (1 : Int32)), .val (.ref b60), .val (.ref b61), .unset] [])) _
        refine XS.aload X65.here hx rfl (hb hby at_66) rfl rfl ?_
        show Steps p.tables e below (T65.setTop (mkF m 68 #[.val (.int sel), .val (.long xa), .second, .val (.long xc), .second, .val (.long xb), .second, .val (.long xd), .second, .val (.long xe), .second, .val (.int (2 : Int32)), .val (.int (1 : Int32)), .val (.ref b60), .val (.ref b61), .unset] [(.ref b60)])) _
        refine XS.iconst X65.here hx rfl (hb hby at_68) ?_
        show Steps p.tables e below (T65.setTop (mkF m 69 #[.val (.int sel), .val (.long xa), .second, .val (.long xc), .second, .val (.long xb), .second, .val (.long xd), .second, .val (.long xe), .second, .val (.int (2 : Int32)), .val (.int (1 : Int32)), .val (.ref b60), .val (.ref b61), .unset] [(.int (1 : Int32)), (.ref b60)])) _
        refine XS.lloadN X65.here hx rfl (hb hby at_69) rfl ?_
        show Steps p.tables e below (T65.setTop (mkF m 70 #[.val (.int sel), .val (.long xa), .second, .val (.long xc), .second, .val (.long xb), .second, .val (.long xd), .second, .val (.long xe), .second, .val (.int (2 : Int32)), .val (.int (1 : Int32)), .val (.ref b60), .val (.ref b61), .unset] [(.long xc), (.int (1 : Int32)), (.ref b60)])) _
        refine st67 _ ?_
        show Steps p.tables e below (T67.setTop (mkF m 71 #[.val (.int sel), .val (.long xa), .second, .val (.long xc), .second, .val (.long xb), .second, .val (.long xd), .second, .val (.long xe), .second, .val (.int (2 : Int32)), .val (.int (1 : Int32)), .val (.ref b60), .val (.ref b61), .unset] [])) _
        refine XS.aload X67.here hx rfl (hb hby at_71) rfl rfl ?_
        show Steps p.tables e below (T67.setTop (mkF m 73 #[.val (.int sel), .val (.long xa), .second, .val (.long xc), .second, .val (.long xb), .second, .val (.long xd), .second, .val (.long xe), .second, .val (.int (2 : Int32)), .val (.int (1 : Int32)), .val (.ref b60), .val (.ref b61), .unset] [(.ref b61)])) _
        refine XS.iconst X67.here hx rfl (hb hby at_73) ?_
        show Steps p.tables e below (T67.setTop (mkF m 74 #[.val (.int sel), .val (.long xa), .second, .val (.long xc), .second, .val (.long xb), .second, .val (.long xd), .second, .val (.long xe), .second, .val (.int (2 : Int32)), .val (.int (1 : Int32)), .val (.ref b60), .val (.ref b61), .unset] [(.int (1 : Int32)), (.ref b61)])) _
        refine XS.lload X67.here hx rfl (hb hby at_74) rfl ?_
        show Steps p.tables e below (T67.setTop (mkF m 76 #[.val (.int sel), .val (.long xa), .second, .val (.long xc), .second, .val (.long xb), .second, .val (.long xd), .second, .val (.long xe), .second, .val (.int (2 : Int32)), .val (.int (1 : Int32)), .val (.ref b60), .val (.ref b61), .unset] [(.long xd), (.int (1 : Int32)), (.ref b61)])) _
        refine st69 _ ?_
        show Steps p.tables e below (T69.setTop (mkF m 77 #[.val (.int sel), .val (.long xa), .second, .val (.long xc), .second, .val (.long xb), .second, .val (.long xd), .second, .val (.long xe), .second, .val (.int (2 : Int32)), .val (.int (1 : Int32)), .val (.ref b60), .val (.ref b61), .unset] [])) _
        refine XS.iload X69.here hx rfl (hb hby at_77) rfl ?_
        show Steps p.tables e below (T69.setTop (mkF m 79 #[.val (.int sel), .val (.long xa), .second, .val (.long xc), .second, .val (.long xb), .second, .val (.long xd), .second, .val (.long xe), .second, .val (.int (2 : Int32)), .val (.int (1 : Int32)), .val (.ref b60), .val (.ref b61), .unset] [(.int (1 : Int32))])) _
        refine XS.ifNo X69.here hx rfl (hb hby at_79) rfl ((if0 _ _).trans (feq (by decide : ¬ ((1 : Int32) = (0 : Int32)))).1) ?_
        show Steps p.tables e below (T69.setTop (mkF m 82 #[.val (.int sel), .val (.long xa), .second, .val (.long xc), .second, .val (.long xb), .second, .val (.long xd), .second, .val (.long xe), .second, .val (.int (2 : Int32)), .val (.int (1 : Int32)), .val (.ref b60), .val (.ref b61), .unset] [])) _
        refine XS.aload X69.here hx rfl (hb hby at_82) rfl rfl ?_
        show Steps p.tables e below (T69.setTop (mkF m 84 #[.val (.int sel), .val (.long xa), .second, .val (.long xc), .second, .val (.long xb), .second, .val (.long xd), .second, .val (.long xe), .second, .val (.int (2 : Int32)), .val (.int (1 : Int32)), .val (.ref b60), .val (.ref b61), .unset] [(.ref b60)])) _
        refine XS.iload X69.here hx rfl (hb hby at_84) rfl ?_
        show Steps p.tables e below (T69.setTop (mkF m 86 #[.val (.int sel), .val (.long xa), .second, .val (.long xc), .second, .val (.long xb), .second, .val (.long xd), .second, .val (.long xe), .second, .val (.int (2 : Int32)), .val (.int (1 : Int32)), .val (.ref b60), .val (.ref b61), .unset] [(.int (2 : Int32)), (.ref b60)])) _
        refine XS.lload X69.here hx rfl (hb hby at_86) rfl ?_
        show Steps p.tables e below (T69.setTop (mkF m 88 #[.val (.int sel), .val (.long xa), .second, .val (.long xc), .second, .val (.long xb), .second, .val (.long xd), .second, .val (.long xe), .second, .val (.int (2 : Int32)), .val (.int (1 : Int32)), .val (.ref b60), .val (.ref b61), .unset] [(.long xe), (.int (2 : Int32)), (.ref b60)])) _
        refine st71 _ ?_
        show Steps p.tables e below (T71.setTop (mkF m 89 #[.val (.int sel), .val (.long xa), .second, .val (.long xc), .second, .val (.long xb), .second, .val (.long xd), .second, .val (.long xe), .second, .val (.int (2 : Int32)), .val (.int (1 : Int32)), .val (.ref b60), .val (.ref b61), .unset] [])) _
        refine XS.iload X71.here hx rfl (hb hby at_89) rfl ?_
        show Steps p.tables e below (T71.setTop (mkF m 91 #[.val (.int sel), .val (.long xa), .second, .val (.long xc), .second, .val (.long xb), .second, .val (.long xd), .second, .val (.long xe), .second, .val (.int (2 : Int32)), .val (.int (1 : Int32)), .val (.ref b60), .val (.ref b61), .unset] [(.int (2 : Int32))])) _
        refine XS.iconst X71.here hx rfl (hb hby at_91) ?_
        show Steps p.tables e below (T71.setTop (mkF m 92 #[.val (.int sel), .val (.long xa), .second, .val (.long xc), .second, .val (.long xb), .second, .val (.long xd), .second, .val (.long xe), .second, .val (.int (2 : Int32)), .val (.int (1 : Int32)), .val (.ref b60), .val (.ref b61), .unset] [(.int (1 : Int32)), (.int (2 : Int32))])) _
        refine XS.icmpNo X71.here hx rfl (hb hby at_92) rfl (flt (by decide : ¬ ((2 : Int32) < (1 : Int32)))).1 ?_
        show Steps p.tables e below (T71.setTop (mkF m 95 #[.val (.int sel), .val (.long xa), .second, .val (.long xc), .second, .val (.long xb), .second, .val (.long xd), .second, .val (.long xe), .second, .val (.int (2 : Int32)), .val (.int (1 : Int32)), .val (.ref b60), .val (.ref b61), .unset] [])) _
        refine XS.lloadN X71.here hx rfl (hb hby at_95) rfl ?_
        show Steps p.tables e below (T71.setTop (mkF m 96 #[.val (.int sel), .val (.long xa), .second, .val (.long xc), .second, .val (.long xb), .second, .val (.long xd), .second, .val (.long xe), .second, .val (.int (2 : Int32)), .val (.int (1 : Int32)), .val (.ref b60), .val (.ref b61), .unset] [(.long xa)])) _
        refine XS.lload X71.here hx rfl (hb hby at_96) rfl ?_
        show Steps p.tables e below (T71.setTop (mkF m 98 #[.val (.int sel), .val (.long xa), .second, .val (.long xc), .second, .val (.long xb), .second, .val (.long xd), .second, .val (.long xe), .second, .val (.int (2 : Int32)), .val (.int (1 : Int32)), .val (.ref b60), .val (.ref b61), .unset] [(.long xb), (.long xa)])) _
        refine XS.lcmp X71.here hx rfl (hb hby at_98) rfl ?_
        exact kt
      obtain ⟨v76, hv76⟩ : ∃ zz : Int32, zz = (if xb < xa then (0 : Int32) else (if xd < xc then (0 : Int32) else (1 : Int32))) := ⟨_, rfl⟩
      have r73 : ∀ t, Steps p.tables e below (T71.setTop (mkF m 120 #[.val (.int sel), .val (.long xa), .second, .val (.long xc), .second, .val (.long xb), .second, .val (.long xd), .second, .val (.long xe), .second, .val (.int (2 : Int32)), .val (.int (1 : Int32)), .val (.ref b60), .val (.ref b61), .unset] [(.int v76)])) t → Steps p.tables e below (T71.setTop (mkF m 99 #[.val (.int sel), .val (.long xa), .second, .val (.long xc), .second, .val (.long xb), .second, .val (.long xd), .second, .val (.long xe), .second, .val (.int (2 : Int32)), .val (.int (1 : Int32)), .val (.ref b60), .val (.ref b61), .unset] [(.int (lcmpW xa xb))])) t := fun t kt => by
        rw [hv76] at kt
        by_cases hd74 : xb < xa
        · simp only [if_pos hd74] at kt
          show Steps p.tables e below (T71.setTop (mkF m 99 #[.val (.int sel), .val (.long xa), .second, .val (.long xc), .second, .val (.long xb), .second, .val (.long xd), .second, .val (.long xe), .second, .val (.int (2 : Int32)), .val (.int (1 : Int32)), .val (.ref b60), .val (.ref b61), .unset] [(.int (lcmpW xa xb))])) _
          refine XS.ifYes X71.here hx rfl (pc0 := 99) (pc' := 119) rfl (hb hby at_99) rfl ((if0 _ _).trans (tlt ((lw_gt _ _).mpr hd74)).2.2.1) (by decide) (by decide) ?_
          show Steps p.tables e below (T71.setTop (mkF m 119 #[.val (.int sel), .val (.long xa), .second, .val (.long xc), .second, .val (.long xb), .second, .val (.long xd), .second, .val (.long xe), .second, .val (.int (2 : Int32)), .val (.int (1 : Int32)), .val (.ref b60), .val (.ref b61), .unset] [])) _
          refine XS.iconst X71.here hx rfl (hb hby at_119) ?_
          exact kt
        · simp only [if_neg hd74] at kt
          by_cases hd75 : xd < xc
          · simp only [if_pos hd75] at kt
            show Steps p.tables e below (T71.setTop (mkF m 99 #[.val (.int sel), .val (.long xa), .second, .val (.long xc), .second, .val (.long xb), .second, .val (.long xd), .second, .val (.long xe), .second, .val (.int (2 : Int32)), .val (.int (1 : Int32)), .val (.ref b60), .val (.ref b61), .unset] [(.int (lcmpW xa xb))])) _
            refine XS.ifNo X71.here hx rfl (hb hby at_99) rfl ((if0 _ _).trans (flt (fun q => hd74 ((lw_gt _ _).mp q))).2.2.1) ?_
            show Steps p.tables e below (T71.setTop (mkF m 102 #[.val (.int sel), .val (.long xa), .second, .val (.long xc), .second, .val (.long xb), .second, .val (.long xd), .second, .val (.long xe), .second, .val (.int (2 : Int32)), .val (.int (1 : Int32)), .val (.ref b60), .val (.ref b61), .unset] [])) _
            refine XS.iload X71.here hx rfl (hb hby at_102) rfl ?_
            show Steps p.tables e below (T71.setTop (mkF m 104 #[.val (.int sel), .val (.long xa), .second, .val (.long xc), .second, .val (.long xb), .second, .val (.long xd), .second, .val (.long xe), .second, .val (.int (2 : Int32)), .val (.int (1 : Int32)), .val (.ref b60), .val (.ref b61), .unset] [(.int (2 : Int32))])) _
            refine XS.iconst X71.here hx rfl (hb hby at_104) ?_
            show Steps p.tables e below (T71.setTop (mkF m 105 #[.val (.int sel), .val (.long xa), .second, .val (.long xc), .second, .val (.long xb), .second, .val (.long xd), .second, .val (.long xe), .second, .val (.int (2 : Int32)), .val (.int (1 : Int32)), .val (.ref b60), .val (.ref b61), .unset] [(.int (2 : Int32)), (.int (2 : Int32))])) _
            refine XS.icmpNo X71.here hx rfl (hb hby at_105) rfl (flt (by decide : ¬ ((2 : Int32) < (2 : Int32)))).1 ?_
            show Steps p.tables e below (T71.setTop (mkF m 108 #[.val (.int sel), .val (.long xa), .second, .val (.long xc), .second, .val (.long xb), .second, .val (.long xd), .second, .val (.long xe), .second, .val (.int (2 : Int32)), .val (.int (1 : Int32)), .val (.ref b60), .val (.ref b61), .unset] [])) _
            refine XS.lloadN X71.here hx rfl (hb hby at_108) rfl ?_
            show Steps p.tables e below (T71.setTop (mkF m 109 #[.val (.int sel), .val (.long xa), .second, .val (.long xc), .second, .val (.long xb), .second, .val (.long xd), .second, .val (.long xe), .second, .val (.int (2 : Int32)), .val (.int (1 : Int32)), .val (.ref b60), .val (.ref b61), .unset] [(.long xc)])) _
            refine XS.lload X71.here hx rfl (hb hby at_109) rfl ?_
            show Steps p.tables e below (T71.setTop (mkF m 111 #[.val (.int sel), .val (.long xa), .second, .val (.long xc), .second, .val (.long xb), .second, .val (.long xd), .second, .val (.long xe), .second, .val (.int (2 : Int32)), .val (.int (1 : Int32)), .val (.ref b60), .val (.ref b61), .unset] [(.long xd), (.long xc)])) _
            refine XS.lcmp X71.here hx rfl (hb hby at_111) rfl ?_
            show Steps p.tables e below (T71.setTop (mkF m 112 #[.val (.int sel), .val (.long xa), .second, .val (.long xc), .second, .val (.long xb), .second, .val (.long xd), .second, .val (.long xe), .second, .val (.int (2 : Int32)), .val (.int (1 : Int32)), .val (.ref b60), .val (.ref b61), .unset] [(.int (lcmpW xc xd))])) _
            refine XS.ifYes X71.here hx rfl (pc0 := 112) (pc' := 119) rfl (hb hby at_112) rfl ((if0 _ _).trans (tlt ((lw_gt _ _).mpr hd75)).2.2.1) (by decide) (by decide) ?_
            show Steps p.tables e below (T71.setTop (mkF m 119 #[.val (.int sel), .val (.long xa), .second, .val (.long xc), .second, .val (.long xb), .second, .val (.long xd), .second, .val (.long xe), .second, .val (.int (2 : Int32)), .val (.int (1 : Int32)), .val (.ref b60), .val (.ref b61), .unset] [])) _
            refine XS.iconst X71.here hx rfl (hb hby at_119) ?_
            exact kt
          · simp only [if_neg hd75] at kt
            show Steps p.tables e below (T71.setTop (mkF m 99 #[.val (.int sel), .val (.long xa), .second, .val (.long xc), .second, .val (.long xb), .second, .val (.long xd), .second, .val (.long xe), .second, .val (.int (2 : Int32)), .val (.int (1 : Int32)), .val (.ref b60), .val (.ref b61), .unset] [(.int (lcmpW xa xb))])) _
            refine XS.ifNo X71.here hx rfl (hb hby at_99) rfl ((if0 _ _).trans (flt (fun q => hd74 ((lw_gt _ _).mp q))).2.2.1) ?_
            show Steps p.tables e below (T71.setTop (mkF m 102 #[.val (.int sel), .val (.long xa), .second, .val (.long xc), .second, .val (.long xb), .second, .val (.long xd), .second, .val (.long xe), .second, .val (.int (2 : Int32)), .val (.int (1 : Int32)), .val (.ref b60), .val (.ref b61), .unset] [])) _
            refine XS.iload X71.here hx rfl (hb hby at_102) rfl ?_
            show Steps p.tables e below (T71.setTop (mkF m 104 #[.val (.int sel), .val (.long xa), .second, .val (.long xc), .second, .val (.long xb), .second, .val (.long xd), .second, .val (.long xe), .second, .val (.int (2 : Int32)), .val (.int (1 : Int32)), .val (.ref b60), .val (.ref b61), .unset] [(.int (2 : Int32))])) _
            refine XS.iconst X71.here hx rfl (hb hby at_104) ?_
            show Steps p.tables e below (T71.setTop (mkF m 105 #[.val (.int sel), .val (.long xa), .second, .val (.long xc), .second, .val (.long xb), .second, .val (.long xd), .second, .val (.long xe), .second, .val (.int (2 : Int32)), .val (.int (1 : Int32)), .val (.ref b60), .val (.ref b61), .unset] [(.int (2 : Int32)), (.int (2 : Int32))])) _
            refine XS.icmpNo X71.here hx rfl (hb hby at_105) rfl (flt (by decide : ¬ ((2 : Int32) < (2 : Int32)))).1 ?_
            show Steps p.tables e below (T71.setTop (mkF m 108 #[.val (.int sel), .val (.long xa), .second, .val (.long xc), .second, .val (.long xb), .second, .val (.long xd), .second, .val (.long xe), .second, .val (.int (2 : Int32)), .val (.int (1 : Int32)), .val (.ref b60), .val (.ref b61), .unset] [])) _
            refine XS.lloadN X71.here hx rfl (hb hby at_108) rfl ?_
            show Steps p.tables e below (T71.setTop (mkF m 109 #[.val (.int sel), .val (.long xa), .second, .val (.long xc), .second, .val (.long xb), .second, .val (.long xd), .second, .val (.long xe), .second, .val (.int (2 : Int32)), .val (.int (1 : Int32)), .val (.ref b60), .val (.ref b61), .unset] [(.long xc)])) _
            refine XS.lload X71.here hx rfl (hb hby at_109) rfl ?_
            show Steps p.tables e below (T71.setTop (mkF m 111 #[.val (.int sel), .val (.long xa), .second, .val (.long xc), .second, .val (.long xb), .second, .val (.long xd), .second, .val (.long xe), .second, .val (.int (2 : Int32)), .val (.int (1 : Int32)), .val (.ref b60), .val (.ref b61), .unset] [(.long xd), (.long xc)])) _
            refine XS.lcmp X71.here hx rfl (hb hby at_111) rfl ?_
            show Steps p.tables e below (T71.setTop (mkF m 112 #[.val (.int sel), .val (.long xa), .second, .val (.long xc), .second, .val (.long xb), .second, .val (.long xd), .second, .val (.long xe), .second, .val (.int (2 : Int32)), .val (.int (1 : Int32)), .val (.ref b60), .val (.ref b61), .unset] [(.int (lcmpW xc xd))])) _
            refine XS.ifNo X71.here hx rfl (hb hby at_112) rfl ((if0 _ _).trans (flt (fun q => hd75 ((lw_gt _ _).mp q))).2.2.1) ?_
            show Steps p.tables e below (T71.setTop (mkF m 115 #[.val (.int sel), .val (.long xa), .second, .val (.long xc), .second, .val (.long xb), .second, .val (.long xd), .second, .val (.long xe), .second, .val (.int (2 : Int32)), .val (.int (1 : Int32)), .val (.ref b60), .val (.ref b61), .unset] [])) _
            refine XS.iconst X71.here hx rfl (hb hby at_115) ?_
            show Steps p.tables e below (T71.setTop (mkF m 116 #[.val (.int sel), .val (.long xa), .second, .val (.long xc), .second, .val (.long xb), .second, .val (.long xd), .second, .val (.long xe), .second, .val (.int (2 : Int32)), .val (.int (1 : Int32)), .val (.ref b60), .val (.ref b61), .unset] [(.int (1 : Int32))])) _
            refine XS.goto X71.here hx rfl (pc0 := 116) (pc' := 120) rfl (hb hby at_116) (by decide) (by decide) ?_
            exact kt
      obtain ⟨_, _, ⟨T77, L77, k77, n77⟩, -, X77, ⟨Lc77, hQ77, l77, y77, z77⟩, st77⟩ := Jvm.LawKit.callS X71 hx (y := (⟨"com/example/gavelwright/gavelwright/WelfareMaximizer", "fits", "([J[J)Z"⟩ : MethodName)) hown (mvT hZ (hw _ (List.mem_of_getElem? (i := 1) rfl))) (mvT hZ (hw _ (List.mem_of_getElem? (i := 2) rfl))) (mvT hZ (hw _ (List.mem_of_getElem? (i := 3) rfl))) (mvT hZ (hw _ (List.mem_of_getElem? (i := 4) rfl))) (by decide) (backOf (W := 0) (rmF21 l Z a0 hw [] b60 b61 xa xc xe xb xd k60 k61 h71 n0 Zs71 V71 (V69.other W71 (Ne.symm ne_b60_b61))) hZ (hw _ (List.mem_of_getElem? (i := 4) rfl)) (hw _ (List.mem_of_getElem? (i := 3) rfl)) (by decide) (by decide)) (g := (mkF m 126 #[.val (.int sel), .val (.long xa), .second, .val (.long xc), .second, .val (.long xb), .second, .val (.long xd), .second, .val (.long xe), .second, .val (.int (2 : Int32)), .val (.int (1 : Int32)), .val (.ref b60), .val (.ref b61), .val (.int v76)] [(.ref b61), (.ref b60)])) rfl (by rw [hml]; rfl) (argsL := [(.ref b60), (.ref b61)]) (rest := []) (lenOf own_pd0 rfl) rfl (by show 2 * 0 + _ ≤ _; exact Nat.le_of_eq rfl) (hb hby at_126) (fun _ _ => ⟨rfl, e71, (by decide : 2 + 0 ≤ _), (by decide : 5 + 0 ≤ _)⟩)
      dsimp only [Pt.U, Pt.locs, Pt.cells, Pt.slots] at X77 l77 y77 z77 st77 hQ77
      subst l77 y77 z77
      obtain ⟨rfl, Nq77, e77⟩ := hQ77
      have N77 := Fr.app N71 Nq77
      obtain ⟨fs, hr, hrun, hended, hW, hsame⟩ := X77.leave (v := some (.int (1 : Int32))) (fun h => by rw [Bd.returns] at h; cases h)
      refine ⟨_, _, (pre0 _ (r1 _ (r41 _ (r42 _ (r72 _ (r73 _ ?_)))))), hrun, hended, _, _, rfl, ?_, ⟨_, rfl⟩, hW, hsame.mono (by decide) (by decide)⟩
      · show Steps p.tables e below (T71.setTop (mkF m 120 #[.val (.int sel), .val (.long xa), .second, .val (.long xc), .second, .val (.long xb), .second, .val (.long xd), .second, .val (.long xe), .second, .val (.int (2 : Int32)), .val (.int (1 : Int32)), .val (.ref b60), .val (.ref b61), .unset] [(.int v76)])) _
        refine XS.istore X71.here hx rfl (hb hby at_120) rfl (l' := #[.val (.int sel), .val (.long xa), .second, .val (.long xc), .second, .val (.long xb), .second, .val (.long xd), .second, .val (.long xe), .second, .val (.int (2 : Int32)), .val (.int (1 : Int32)), .val (.ref b60), .val (.ref b61), .val (.int v76)]) rfl ?_
        show Steps p.tables e below (T71.setTop (mkF m 122 #[.val (.int sel), .val (.long xa), .second, .val (.long xc), .second, .val (.long xb), .second, .val (.long xd), .second, .val (.long xe), .second, .val (.int (2 : Int32)), .val (.int (1 : Int32)), .val (.ref b60), .val (.ref b61), .val (.int v76)] [])) _
        refine XS.aload X71.here hx rfl (hb hby at_122) rfl rfl ?_
        show Steps p.tables e below (T71.setTop (mkF m 124 #[.val (.int sel), .val (.long xa), .second, .val (.long xc), .second, .val (.long xb), .second, .val (.long xd), .second, .val (.long xe), .second, .val (.int (2 : Int32)), .val (.int (1 : Int32)), .val (.ref b60), .val (.ref b61), .val (.int v76)] [(.ref b60)])) _
        refine XS.aload X71.here hx rfl (hb hby at_124) rfl rfl ?_
        show Steps p.tables e below (T71.setTop (mkF m 126 #[.val (.int sel), .val (.long xa), .second, .val (.long xc), .second, .val (.long xb), .second, .val (.long xd), .second, .val (.long xe), .second, .val (.int (2 : Int32)), .val (.int (1 : Int32)), .val (.ref b60), .val (.ref b61), .val (.int v76)] [(.ref b61), (.ref b60)])) _
        refine st77 _ ?_
        show Steps p.tables e below (T77.setTop (mkF m 129 #[.val (.int sel), .val (.long xa), .second, .val (.long xc), .second, .val (.long xb), .second, .val (.long xd), .second, .val (.long xe), .second, .val (.int (2 : Int32)), .val (.int (1 : Int32)), .val (.ref b60), .val (.ref b61), .val (.int v76)] [(.int (own_two xa xb xc xd))])) _
        refine XS.iload X77.here hx rfl (hb hby at_129) rfl ?_
        show Steps p.tables e below (T77.setTop (mkF m 131 #[.val (.int sel), .val (.long xa), .second, .val (.long xc), .second, .val (.long xb), .second, .val (.long xd), .second, .val (.long xe), .second, .val (.int (2 : Int32)), .val (.int (1 : Int32)), .val (.ref b60), .val (.ref b61), .val (.int v76)] [(.int v76), (.int (own_two xa xb xc xd))])) _
        refine XS.icmpNo X77.here hx rfl (hb hby at_131) rfl (teq (by rw [hv76]; rfl)).2 ?_
        show Steps p.tables e below (T77.setTop (mkF m 134 #[.val (.int sel), .val (.long xa), .second, .val (.long xc), .second, .val (.long xb), .second, .val (.long xd), .second, .val (.long xe), .second, .val (.int (2 : Int32)), .val (.int (1 : Int32)), .val (.ref b60), .val (.ref b61), .val (.int v76)] [])) _
        refine XS.iconst X77.here hx rfl (hb hby at_134) ?_
        show Steps p.tables e below (T77.setTop (mkF m 135 #[.val (.int sel), .val (.long xa), .second, .val (.long xc), .second, .val (.long xb), .second, .val (.long xd), .second, .val (.long xe), .second, .val (.int (2 : Int32)), .val (.int (1 : Int32)), .val (.ref b60), .val (.ref b61), .val (.int v76)] [(.int (1 : Int32))])) _
        refine XS.goto X77.here hx rfl (pc0 := 135) (pc' := 139) rfl (hb hby at_135) (by decide) (by decide) ?_
        show Steps p.tables e below (T77.setTop (mkF m 139 #[.val (.int sel), .val (.long xa), .second, .val (.long xc), .second, .val (.long xb), .second, .val (.long xd), .second, .val (.long xe), .second, .val (.int (2 : Int32)), .val (.int (1 : Int32)), .val (.ref b60), .val (.ref b61), .val (.int v76)] [(.int (1 : Int32))])) _
        exact retN X77 hx (t := .boolean) Bd.returns (by simp) (hb hby at_139) hr
      · show QL Z sel xa xc xb xd xe h0 n0 _ T77.heap _
        rw [e77]
        exact ⟨rfl, N77⟩
set_option maxRecDepth 65536 in
set_option maxHeartbeats 40000000 in
theorem comes_1 {Post : Tables → Env → Array Value → State → Outcome → State → Prop} (hpost : ∀ tb e args s v u, (limb_1_1.after args s (.returned v) u = true ∧ limb_1_2.after args s (.returned v) u = true ∧ True) → FrameEnd s (.returned v) u (Jvm.fieldLocs frame_1_writes args s ++ Jvm.arrayLocs frame_1_arrays args s ++ Jvm.staticLocs frame_1_statics s) 16 128 → Post tb e args s (.returned v) u) :
    ArmFor flags0 classFile x code maxLocals ret World_1 tables_1 room_1 Calls_1 rest_1 Pre_1 Post := by
  intro l hfl _ _ p e ha hc hk s m args below hf hA hF happ hP
  obtain ⟨hcalls, hrest, hpre⟩ := hP
  obtain ⟨-, -, -, hnamed, -, -, -, hat⟩ := (Spec.applies_iff hf).mp happ
  obtain ⟨hg, hn⟩ := and_e (Cond.before_iff.mp (show (Jvm.Cond.and given_1 narrow_1).before args s = true from hpre))
  obtain ⟨hcount, gr0⟩ := and_e hg
  obtain ⟨ga0, gr1⟩ := and_e gr0
  obtain ⟨ga1, gr2⟩ := and_e gr1
  obtain ⟨ga2, gr3⟩ := and_e gr2
  obtain ⟨ga3, gr4⟩ := and_e gr3
  obtain ⟨ga4, gr5⟩ := and_e gr4
  have ga5 := gr5
  obtain ⟨w0, w1, w2, w3, w4, w5, rfl⟩ : ∃ w0 w1 w2 w3 w4 w5 : Value, args = #[w0, w1, w2, w3, w4, w5] := by
    have hs : args.size = 6 := by simpa [Cond.value, given_1] using hcount
    obtain ⟨L⟩ := args
    match L, hs with
    | [w0, w1, w2, w3, w4, w5], _ => exact ⟨w0, w1, w2, w3, w4, w5, rfl⟩
  have hw := fun d (hd : d ∈ tables_1) => atoms_spec (ws := Jvm.Cond.code x code maxLocals ret :: tables_1) hat d (List.mem_cons_of_mem _ hd)
  have hfit : Fit s := fun {y c} hc i hi => by
    obtain ⟨ha, rfl⟩ := Array.getElem?_eq_some_iff.mp hc
    have q := List.all_eq_true.mp ((Array.all_eq_true_iff_forall_mem.mp hF) _ (Array.getElem_mem ha)) i (List.mem_range.mpr hi)
    simpa [Array.getElem?_eq_getElem hi] using q
  obtain ⟨i0, ei0⟩ := is_v ga0
  obtain rfl : w0 = (.int i0) := Option.some.inj ei0
  obtain ⟨i1, ei1⟩ := isL_v ga1
  obtain rfl : w1 = (.long i1) := Option.some.inj ei1
  obtain ⟨i2, ei2⟩ := isL_v ga2
  obtain rfl : w2 = (.long i2) := Option.some.inj ei2
  obtain ⟨i3, ei3⟩ := isL_v ga3
  obtain rfl : w3 = (.long i3) := Option.some.inj ei3
  obtain ⟨i4, ei4⟩ := isL_v ga4
  obtain rfl : w4 = (.long i4) := Option.some.inj ei4
  obtain ⟨i5, ei5⟩ := isL_v ga5
  obtain rfl : w5 = (.long i5) := Option.some.inj ei5
  obtain ⟨n, o, h1, h2, h3, _, L, rfl, ⟨rfl, N⟩, hq⟩ := rmL l s _ hw tables_1 i0 i1 i2 i3 i4 i5 s.heap s.heap.size (Nat.le_refl _)  p e ha hc hk s m _ below hf ((Spec.applies_iff_loose hf).mp happ).1 ⟨rfl, State.Warmed39.refl s, rfl⟩ trivial
  refine ⟨n, _, h1, h2, h3, hpost _ _ _ _ _ _ ⟨Cond.after_iff.mpr rfl, Cond.after_iff.mpr (eq_i res_at (Term.int_eval (1)) rfl), trivial⟩ ⟨hq.1, hq.2.1, (hq.2.2.sift fun y hy => Or.inr (N y hy)).mono (by decide) (by decide)⟩⟩
theorem main_1_1 : Claimed_1_1 := comes_1 fun _ _ _ _ _ _ h hF => ⟨h.1, hF⟩
theorem main_1_2 : Claimed_1_2 := comes_1 fun _ _ _ _ _ _ h hF => ⟨h.2.1, hF⟩
end Jvm.Pilot.@@N@@
namespace Jvm.Pilot.@@N@@
open Jvm Jvm.ClassFile Sem Op Lib Jvm.Free Jvm.Stand Jvm.Pilot.@@N@@.Jvm.D
/-! MADE BY PROGRAM (witnessworld.py) out of the Statement's table words and the real class files: 11 classes; the members and pool entries that the words name. The judged class is class 1, her method 1. -/
namespace start1
open Jvm.ClassFile
def u (s : String) : CpInfo := .utf8 (stringToUtf16 s)
/-- a pool by its gaps: so many unusable entries, then the entry; so many at the end -/
def gap : Nat → List CpInfo → List CpInfo
  | 0, r => r
  | n + 1, r => .unusable :: gap n r
def poolList (es : List (Nat × CpInfo)) (last : Nat) : List CpInfo := es.foldr (fun e r => gap e.1 (e.2 :: r)) (gap last [])
def pool (es : List (Nat × CpInfo)) (last : Nat) : Array CpInfo := ⟨poolList es last⟩
def fileOf (pool : Array CpInfo) (this : Nat) (attrs : Array Attribute := #[]) (ms : Array MethodInfo := #[]) (fl : Nat := 33) (sup : Nat := 0) (ifs : Array Nat := #[]) (fds : Array FieldInfo := #[]) : ClassFile where
  minorVersion := 0
  majorVersion := 65
  constantPool := pool
  accessFlags := fl
  thisClass := this
  superClass := sup
  interfaces := ifs
  fields := fds
  methods := ms
  attributes := attrs
def plain (name : String) (sup : Option ClassId) : Class where
  name := name
  kind := .ordinary
  loader := none
  accessFlags := 33
  super := sup
  interfaces := #[]
  cf := none
  fields := #[]
  methods := #[]
  instanceTypes := #[]
  staticTypes := #[]
  resolved := #[]
  callSites := []
  init := .initialized
  statics := none
  mirror := none

def pool0 : Array CpInfo := pool [(5, u "<init>"), (0, u "()V"), (1, .class_ 10), (1, u "java/lang/Object")] 113

def k0m0 : Method := { name := "<init>", desc := "()V", sig := { parameters := [], returnType := none }, accessFlags := 1, code := none }
/-- java/lang/Object -/
def k0 : Class := { plain "java/lang/Object" none with
  accessFlags := 33
  interfaces := #[]
  cf := some (fileOf pool0 8 #[] #[{ accessFlags := 1, nameIndex := 5, descriptorIndex := 6, attributes := #[] }] 33 0 #[] #[])
  fields := #[]
  methods := #[k0m0]
  instanceTypes := #[]
  staticTypes := #[]
  resolved := Array.replicate 124 none
  statics := none }

def pool1 : Array CpInfo := pool [(2, .class_ 4), (1, u "java/lang/Object"), (0, u "<init>"), (0, u "()V"), (0, .methodref 8 9), (0, .class_ 10), (0, .nameAndType 11 12), (0, u "com/example/gavelwright/gavelwright/WelfareMaximizer"), (0, u "fits"), (0, u "([J[J)Z"), (0, .class_ 14), (0, u "com/example/gavelwright/gavelwright/WelfareMaximizerFitsPinLaw"), (2, u "law"), (0, u "(IJJJJJ)Z")] 5

def k1m0 : Method := { name := "<init>", desc := "()V", sig := { parameters := [], returnType := none }, accessFlags := 1, code := none }
def k1c1 : Code := { maxStack := 4, maxLocals := 16, code := code, exceptionTable := #[], attributes := #[] }
def k1m1 : Method := { name := "law", desc := "(IJJJJJ)Z", sig := { parameters := [.int, .long, .long, .long, .long, .long], returnType := some .boolean }, accessFlags := 9, code := some k1c1 }
/-- com/example/gavelwright/gavelwright/WelfareMaximizerFitsPinLaw -/
def k1 : Class := { plain "com/example/gavelwright/gavelwright/WelfareMaximizerFitsPinLaw" (some 0) with
  accessFlags := 49
  interfaces := #[]
  cf := some (fileOf pool1 13 #[] #[{ accessFlags := 1, nameIndex := 5, descriptorIndex := 6, attributes := #[] }, { accessFlags := 9, nameIndex := 17, descriptorIndex := 18, attributes := #[] }] 49 2 #[] #[])
  fields := #[]
  methods := #[k1m0, k1m1]
  instanceTypes := #[]
  staticTypes := #[]
  resolved := Array.replicate 24 none
  statics := none }

def pool2 : Array CpInfo := pool [(5, .class_ 7), (1, u "com/example/gavelwright/gavelwright/WelfareMaximizer"), (3, .class_ 13), (1, u "java/lang/Object"), (38, u "fits"), (0, u "([J[J)Z"), (0, .class_ 55), (0, u "com/example/gavelwright/gavelwright/WelfareMaximizer$Option"), (51, u "capacity"), (0, u "[J"), (2, u "options"), (0, u "[[Lcom/example/gavelwright/gavelwright/WelfareMaximizer$Option;"), (7, u "J"), (15, u "rooms"), (0, u "Lcom/example/gavelwright/gavelwright/DynamicProgram;"), (2, u "search"), (0, u "Lcom/example/gavelwright/gavelwright/OptimumSearch;"), (86, u "FEW_TOTALS"), (1, u "COUNTING_WORK"), (0, u "MOST_STATES"), (0, u "I"), (29, .class_ 263), (0, u "com/example/gavelwright/gavelwright/WelfareMaximizer$State")] 33

def k2c0 : Code := { maxStack := 4, maxLocals := 3, code := prog_50_method_11_code, exceptionTable := #[], attributes := #[] }
def k2m0 : Method := { name := "fits", desc := "([J[J)Z", sig := { parameters := [(.array .long), (.array .long)], returnType := some .boolean }, accessFlags := 8, code := some k2c0 }
/-- com/example/gavelwright/gavelwright/WelfareMaximizer -/
def k2 : Class := { plain "com/example/gavelwright/gavelwright/WelfareMaximizer" (some 0) with
  accessFlags := 32
  interfaces := #[]
  cf := some (fileOf pool2 5 #[.nestMembers #[262, 54]] #[{ accessFlags := 8, nameIndex := 52, descriptorIndex := 53, attributes := #[] }] 32 11 #[] #[{ accessFlags := 26, nameIndex := 228, descriptorIndex := 120, attributes := #[] }, { accessFlags := 26, nameIndex := 230, descriptorIndex := 120, attributes := #[] }, { accessFlags := 26, nameIndex := 231, descriptorIndex := 232, attributes := #[] }, { accessFlags := 18, nameIndex := 107, descriptorIndex := 108, attributes := #[] }, { accessFlags := 18, nameIndex := 111, descriptorIndex := 112, attributes := #[] }, { accessFlags := 18, nameIndex := 140, descriptorIndex := 141, attributes := #[] }, { accessFlags := 18, nameIndex := 136, descriptorIndex := 137, attributes := #[] }])
  fields := #[{ name := "FEW_TOTALS", type := .long, accessFlags := 26, slot := 0, constantValue := 0 }, { name := "COUNTING_WORK", type := .long, accessFlags := 26, slot := 1, constantValue := 0 }, { name := "MOST_STATES", type := .int, accessFlags := 26, slot := 2, constantValue := 0 }, { name := "capacity", type := (.array .long), accessFlags := 18, slot := 0, constantValue := 0 }, { name := "options", type := (.array (.array (.object "com/example/gavelwright/gavelwright/WelfareMaximizer$Option"))), accessFlags := 18, slot := 1, constantValue := 0 }, { name := "search", type := (.object "com/example/gavelwright/gavelwright/OptimumSearch"), accessFlags := 18, slot := 2, constantValue := 0 }, { name := "rooms", type := (.object "com/example/gavelwright/gavelwright/DynamicProgram"), accessFlags := 18, slot := 3, constantValue := 0 }]
  methods := #[k2m0]
  instanceTypes := #[(.array .long), (.array (.array (.object "com/example/gavelwright/gavelwright/WelfareMaximizer$Option"))), (.object "com/example/gavelwright/gavelwright/OptimumSearch"), (.object "com/example/gavelwright/gavelwright/DynamicProgram")]
  staticTypes := #[.long, .long, .int]
  resolved := Array.replicate 297 none
  statics := none }

def pool3 : Array CpInfo := pool [(1, u "java/lang/Cloneable"), (0, .class_ 1), (0, u "java/lang/Object"), (0, .class_ 3)] 3

/-- java/lang/Cloneable -/
def k3 : Class := { plain "java/lang/Cloneable" (some 0) with
  accessFlags := 1537
  interfaces := #[]
  cf := some (fileOf pool3 2 #[] #[] 1537 4 #[] #[])
  fields := #[]
  methods := #[]
  instanceTypes := #[]
  staticTypes := #[]
  resolved := Array.replicate 8 none
  statics := none }

def pool4 : Array CpInfo := pool [(1, u "java/io/Serializable"), (0, .class_ 1), (0, u "java/lang/Object"), (0, .class_ 3)] 3

/-- java/io/Serializable -/
def k4 : Class := { plain "java/io/Serializable" (some 0) with
  accessFlags := 1537
  interfaces := #[]
  cf := some (fileOf pool4 2 #[] #[] 1537 4 #[] #[])
  fields := #[]
  methods := #[]
  instanceTypes := #[]
  staticTypes := #[]
  resolved := Array.replicate 8 none
  statics := none }

/-- the primitive byte -/
def k5 : Class := { plain "byte" none with kind := .primitive 'B', accessFlags := 0x411 }
/-- [B -/
def k6 : Class := { plain "[B" (some 0) with kind := .array 5 .byte, interfaces := #[3, 4], accessFlags := 1041 }

/-- the primitive int -/
def k7 : Class := { plain "int" none with kind := .primitive 'I', accessFlags := 0x411 }
/-- [I -/
def k8 : Class := { plain "[I" (some 0) with kind := .array 7 .int, interfaces := #[3, 4], accessFlags := 1041 }

/-- the primitive long -/
def k9 : Class := { plain "long" none with kind := .primitive 'J', accessFlags := 0x411 }
/-- [J -/
def k10 : Class := { plain "[J" (some 0) with kind := .array 9 .long, interfaces := #[3, 4], accessFlags := 1041 }

def heap : Heap := #[]
def classes : Array Class := #[k0, k1, k2, k3, k4, k5, k6, k7, k8, k9, k10]
def interned : List (Array UInt16 × Addr) := []
def slotsUsed : Nat := 0
def theMethod : MethodId := ⟨1, 1⟩
def args0 : Array Value := #[.int 6, .long 1, .long 2, .long 3, .long 4, .long 5]
def aboutOver (below : List Frame) : State where
  vm := { classes := classes, interned := interned.toArray }
  heap := heap
  slotsUsed := slotsUsed
  threads := #[{ frames := .invoking theMethod args0 :: below }]
def below0 : List Frame := [.native { method := ⟨0, 0⟩, args := #[] }]
def about1 : State := aboutOver below0
def p0 : Program := .bare "" "" ""
def e0 : Env := launch0.env 0 0 0
theorem w_frames : about1.frames = Frame.invoking theMethod args0 :: below0 := rfl
set_option maxRecDepth 65536 in
theorem w_args : argsFit about1.vm theMethod args0 = true := by decide +kernel
set_option maxRecDepth 65536 in
theorem w_heap : heapFits about1 = true := by decide +kernel
set_option maxRecDepth 65536 in
theorem w_runnable : about1.curStatus? = some .runnable := by decide +kernel
set_option maxRecDepth 65536 in
theorem w_alone : about1.alone = true := by decide +kernel
set_option maxRecDepth 65536 in
theorem w_named : about1.methodNamed? x = some theMethod := by decide +kernel
set_option maxRecDepth 65536 in
theorem w_hears : about1.hears theMethod below0 = true := by decide +kernel
set_option maxRecDepth 65536 in
theorem w_ripe : about1.ripe theMethod args0 below0 = true := by decide +kernel
theorem w_running : about1.status = .running := rfl
set_option maxRecDepth 65536 in
theorem w_room : about1.hasRoom e0.platform room_1 = true :=
  launch0.hasRoom_least _ room_1 (by decide +kernel) (by decide +kernel) (by decide +kernel) (by decide +kernel) (by decide +kernel) (by decide +kernel)
theorem allAtoms_all (ts : List Jvm.Cond) (a : Array Jvm.Value) (st : Jvm.State) : (allAtoms ts).before a st = ts.all (fun c => c.before a st) := by
  induction ts with
  | nil => rfl
  | cons c t ih =>
    show (Jvm.Cond.and c (allAtoms t)).before a st = _
    rw [Jvm.Cond.before_and, ih, List.all_cons]
def words1 : List Jvm.Cond := Jvm.Cond.code x code maxLocals ret :: tables_1
/-- a 'code' word, met by the world's own term for the bytes: nothing is compared byte by byte -/
theorem code_word {y : MethodName} {bytes : ByteArray} {mx : Nat} {rt : Option FieldType} {a : Array Value} {s : State} {m : MethodId} {meth : Method} {c : Code} (h1 : s.methodNamed? y = some m) (h2 : s.vm.method? m = some meth) (h3 : meth.code = some c) (h4 : c.code = bytes)
    (h5 : (c.maxLocals == mx && c.exceptionTable.isEmpty && decide (c.maxStack ≤ mostOperands) && decide (meth.sig.returnType = rt) && !meth.locks && decide (parseMethodDescriptor y.desc = some meth.sig)) = true) : (Jvm.Cond.code y bytes mx rt).before a s = true := by
  simp only [Bool.and_eq_true, beq_iff_eq, Bool.not_eq_true', decide_eq_true_eq] at h5
  obtain ⟨⟨⟨⟨⟨g1, g2⟩, g3⟩, g4⟩, g5⟩, g6⟩ := h5
  simp [Cond.before, Cond.holds, Cond.value, h1, h2, h3, h4, g1, g2, g3, g4, g5, g6]
def isCode : Jvm.Cond → Bool
  | .code _ _ _ _ => true
  | _ => false
theorem all_split {L : List Jvm.Cond} {P : Jvm.Cond → Bool} (h1 : L.all (fun c => isCode c || P c) = true) (h2 : ∀ c ∈ L.filter isCode, P c = true) : L.all P = true := by
  refine List.all_eq_true.mpr fun c hc => ?_
  have h := List.all_eq_true.mp h1 c hc
  rcases Bool.eq_false_or_eq_true (isCode c) with hi | hi
  · exact h2 c (List.mem_filter.mpr ⟨hc, hi⟩)
  · simpa [hi] using h
set_option maxRecDepth 65536 in
theorem w_c0 : (Jvm.Cond.code x code maxLocals ret).before args0 about1 = true := code_word (m := ⟨1, 1⟩) (meth := k1m1) (c := k1c1) (by decide +kernel) rfl rfl rfl (by decide +kernel)
set_option maxRecDepth 65536 in
theorem w_c1 : (Jvm.Cond.code ({ cls := "com/example/gavelwright/gavelwright/WelfareMaximizer", name := "fits", desc := "([J[J)Z" } : Jvm.MethodName) prog_50_method_11_code (3 : Nat) (Option.some Jvm.ClassFile.FieldType.boolean)).before args0 about1 = true := code_word (m := ⟨2, 0⟩) (meth := k2m0) (c := k2c0) (by decide +kernel) rfl rfl rfl (by decide +kernel)
def codes1 : List Jvm.Cond := [Jvm.Cond.code x code maxLocals ret, Jvm.Cond.code ({ cls := "com/example/gavelwright/gavelwright/WelfareMaximizer", name := "fits", desc := "([J[J)Z" } : Jvm.MethodName) prog_50_method_11_code (3 : Nat) (Option.some Jvm.ClassFile.FieldType.boolean)]
set_option maxRecDepth 65536 in
theorem codes_eq : words1.filter isCode = codes1 := rfl
theorem w_codes : ∀ c ∈ words1.filter isCode, c.before args0 about1 = true := by
  rw [codes_eq]
  intro c hc
  simp only [codes1, List.mem_cons, List.not_mem_nil, or_false] at hc
  rcases hc with rfl | rfl
  · exact w_c0
  · exact w_c1
set_option maxRecDepth 65536 in
theorem w_t1 : words1.all (fun c => isCode c || c.before args0 about1) = true := by decide +kernel
theorem w_tables : (allAtoms (Jvm.Cond.code x code maxLocals ret :: tables_1)).before args0 about1 = true := by
  rw [allAtoms_all]
  show words1.all (fun c => c.before args0 about1) = true
  refine all_split ?_ w_codes
  rw [w_t1]
set_option maxRecDepth 65536 in
theorem w_case : (Jvm.Cond.and given_1 narrow_1).before args0 about1 = true := by decide +kernel
theorem w_applies : (headSpec (Jvm.Cond.code x code maxLocals ret :: tables_1) room_1).applies x e0.platform about1 = true :=
  (Spec.applies_iff w_frames).mpr ⟨w_running, w_runnable, w_alone, w_named, w_hears, w_ripe, w_room, w_tables⟩
theorem atStart : AtStart classFile x code maxLocals ret World_1 tables_1 room_1 Calls_1 rest_1 Pre_1 launch0 p0 e0 about1 theMethod args0 below0 :=
  ⟨lists_1, trivial, launch0.admits_env _ _ _, launch0.least_env, fairChoices_fair.cas, fairChoices_fair.clock, w_frames, w_args, w_heap, w_applies, trivial, trivial, w_case⟩
end start1
theorem witness_1 : WitnessClaimed_1 := ⟨start1.p0, start1.e0, start1.about1, start1.theMethod, start1.args0, start1.below0, start1.atStart⟩
end Jvm.Pilot.@@N@@
