import JvmDerived
import JvmDerived.Pilot.@@N@@Statement
import JvmDerived.Pilot.@@N@@Code
set_option linter.unusedVariables false
set_option linter.unusedSimpArgs false
namespace Jvm.RoadKit
open Sem ClassFile Op Lib Jvm.Stand Jvm.Free Jvm.LawKit
section New
variable {p : Program} {l : Launch} {e : Env} {R : Room} {s : State} {m : MethodId} {args : Array Value} {below : List Frame} {meth : Method} {c : Code} {T : State} {locs : List Loc} {cells slots : Nat}
theorem retI (X : Stand p l e R s m args below meth c T locs cells slots) (hx : p.tables.exec = Jvm.exec) {pc : Nat} {Ls : Array Slot} {z : Int32} {rest : List Value} (hret : meth.sig.returnType = some .int) (hd : decode c.code pc = .ok (.ireturn, 1)) {fs : List Frame}
    (hl : ∀ (f : JFrame) (acts : List Action), f.method = m → f.locked = none → f.entered = [] → (doReturn e (T.setTop f) acts (some (.int z))).1 = T.setFrames fs) : Steps p.tables e below (T.setTop (mkF m pc Ls (.int z :: rest))) (T.setFrames fs) := by
  have hm' : T.vm.method? m = some meth := X.method'
  have hn : narrow .int (.int z) = .int z := rfl
  show Steps p.tables e below (T.setTop { method := m, pc := pc, locals := Ls, stack := _ :: rest, locked := none }) _
  jvm_step X.here [X.here.top, hx, hd, hm', hret, hn]
  first | (intro acts; rw [hl _ acts rfl rfl rfl]) | rw [hl _ _ rfl rfl rfl]
  exact Steps.refl _
end New
end Jvm.RoadKit
namespace Jvm.Pilot.@@N@@
open Jvm Jvm.ClassFile Sem Op Lib Jvm.Free Jvm.Stand Jvm.LawKit Jvm.RoadKit Bundle Jvm.Pilot.@@N@@.Jvm.D
def own_pick (pm ps : Int32) : Int32 :=
  if pm = (0 : Int32) then 90 else if pm = (1 : Int32) then 88 else if pm = (2 : Int32) then 122 else if pm = (3 : Int32) then 120 else if pm = (4 : Int32) then 89 else if pm = (5 : Int32) then 87 else if pm = (6 : Int32) then 84 else ps.toUInt32.toUInt16.toUInt32.toInt32
theorem own_nc (x : Int32) : nar .char x.toUInt32.toUInt16.toUInt32.toInt32 = x.toUInt32.toUInt16.toUInt32.toInt32 := Value.int.inj (Jvm.Free.XT.narrow_c x)
theorem own_pick_nar (pm ps : Int32) : nar .char (own_pick pm ps) = own_pick pm ps := by
  unfold own_pick
  repeat' split
  all_goals first | decide | exact own_nc _
def own_ended (cc : Int32) : Int32 := if cc = (90 : Int32) then 1 else if cc = (88 : Int32) then 1 else 0
def own_stopped (cc : Int32) : Int32 := if cc = (84 : Int32) then 1 else if cc = (116 : Int32) then 1 else 0
theorem own_ns {cc : Int32} (h : ¬ own_ended cc = (0 : Int32)) : own_stopped cc = (0 : Int32) := by
  unfold own_ended at h
  by_cases a : cc = (90 : Int32)
  · subst a; decide
  · by_cases b : cc = (88 : Int32)
    · subst b; decide
    · rw [if_neg a, if_neg b] at h; exact absurd rfl h
theorem own_pn0 : plainName "com/example/brava/brava/client/cli/StatEndedPinLaw" = true := by first | (simp [plainName, overriddenIn]; done) | decide +kernel
theorem dP_0 : decode method_3_code 0 = .ok (.iload_n 0, 1) := by decide +kernel
theorem dP_1 : decode method_3_code 1 = .ok (.ifCond .ne 6, 3) := by decide +kernel
theorem dP_4 : decode method_3_code 4 = .ok (.bipush 90, 2) := by decide +kernel
theorem dP_6 : decode method_3_code 6 = .ok (.ireturn, 1) := by decide +kernel
theorem dP_7 : decode method_3_code 7 = .ok (.iload_n 0, 1) := by decide +kernel
theorem dP_8 : decode method_3_code 8 = .ok (.iconst 1, 1) := by decide +kernel
theorem dP_9 : decode method_3_code 9 = .ok (.if_icmp .ne 6, 3) := by decide +kernel
theorem dP_12 : decode method_3_code 12 = .ok (.bipush 88, 2) := by decide +kernel
theorem dP_14 : decode method_3_code 14 = .ok (.ireturn, 1) := by decide +kernel
theorem dP_15 : decode method_3_code 15 = .ok (.iload_n 0, 1) := by decide +kernel
theorem dP_16 : decode method_3_code 16 = .ok (.iconst 2, 1) := by decide +kernel
theorem dP_17 : decode method_3_code 17 = .ok (.if_icmp .ne 6, 3) := by decide +kernel
theorem dP_20 : decode method_3_code 20 = .ok (.bipush 122, 2) := by decide +kernel
theorem dP_22 : decode method_3_code 22 = .ok (.ireturn, 1) := by decide +kernel
theorem dP_23 : decode method_3_code 23 = .ok (.iload_n 0, 1) := by decide +kernel
theorem dP_24 : decode method_3_code 24 = .ok (.iconst 3, 1) := by decide +kernel
theorem dP_25 : decode method_3_code 25 = .ok (.if_icmp .ne 6, 3) := by decide +kernel
theorem dP_28 : decode method_3_code 28 = .ok (.bipush 120, 2) := by decide +kernel
theorem dP_30 : decode method_3_code 30 = .ok (.ireturn, 1) := by decide +kernel
theorem dP_31 : decode method_3_code 31 = .ok (.iload_n 0, 1) := by decide +kernel
theorem dP_32 : decode method_3_code 32 = .ok (.iconst 4, 1) := by decide +kernel
theorem dP_33 : decode method_3_code 33 = .ok (.if_icmp .ne 6, 3) := by decide +kernel
theorem dP_36 : decode method_3_code 36 = .ok (.bipush 89, 2) := by decide +kernel
theorem dP_38 : decode method_3_code 38 = .ok (.ireturn, 1) := by decide +kernel
theorem dP_39 : decode method_3_code 39 = .ok (.iload_n 0, 1) := by decide +kernel
theorem dP_40 : decode method_3_code 40 = .ok (.iconst 5, 1) := by decide +kernel
theorem dP_41 : decode method_3_code 41 = .ok (.if_icmp .ne 6, 3) := by decide +kernel
theorem dP_44 : decode method_3_code 44 = .ok (.bipush 87, 2) := by decide +kernel
theorem dP_46 : decode method_3_code 46 = .ok (.ireturn, 1) := by decide +kernel
theorem dP_47 : decode method_3_code 47 = .ok (.iload_n 0, 1) := by decide +kernel
theorem dP_48 : decode method_3_code 48 = .ok (.bipush 6, 2) := by decide +kernel
theorem dP_50 : decode method_3_code 50 = .ok (.if_icmp .ne 6, 3) := by decide +kernel
theorem dP_53 : decode method_3_code 53 = .ok (.bipush 84, 2) := by decide +kernel
theorem dP_55 : decode method_3_code 55 = .ok (.ireturn, 1) := by decide +kernel
theorem dP_56 : decode method_3_code 56 = .ok (.iload_n 1, 1) := by decide +kernel
theorem dP_57 : decode method_3_code 57 = .ok (.i2c, 1) := by decide +kernel
theorem dP_58 : decode method_3_code 58 = .ok (.ireturn, 1) := by decide +kernel
theorem efP (m : MethodId) (pm : Int32) (ps : Int32) : entryFrame m #[(.int pm), (.int ps)] 2 = mkF m 0 #[.val (.int pm), .val (.int ps)] [] := by first | (simp [entryFrame, mkF, argsToLocals, Value.category]; done) | rfl
def QP (Z : State) (pm : Int32) (ps : Int32) (h0 : Heap) (n0 : Nat) (v : Option Value) (h : Heap) (L : List Loc) : Prop := v = some (.int (own_pick pm ps)) ∧ Fr n0 L ∧ h = h0
set_option maxRecDepth 65536 in
set_option maxHeartbeats 40000000 in
theorem rmP (l : Launch) (Z : State) (a0 : Array Value) (hw : ∀ d ∈ tables_1, d.before a0 Z = true) (ws : List Jvm.Cond) (pm : Int32) (ps : Int32) (h0 : Heap) (n0 : Nat) (Z0 : n0 ≤ h0.size) :
    MetFree l (⟨"com/example/brava/brava/client/cli/StatEndedPinLaw", "pick", "(II)C"⟩ : MethodName) (head1 (Jvm.Cond.code (⟨"com/example/brava/brava/client/cli/StatEndedPinLaw", "pick", "(II)C"⟩ : MethodName) method_3_code 2 (some .char) :: ws) ({ frames := 0, cells := 0, slots := 0, locals := 0 } : Room)) (fun av_ U => av_ = #[(.int pm), (.int ps)] ∧ Z.Warmed39 U.vm ∧ U.heap = h0) (fun _ _ _ _ _ => True) (fun _ U o U' => ∃ v L, o = .returned v ∧ QP Z pm ps h0 n0 v U'.heap L ∧ FrameEnd U o U' L ({ frames := 0, cells := 0, slots := 0, locals := 0 } : Room).cells ({ frames := 0, cells := 0, slots := 0, locals := 0 } : Room).slots) := by
  refine MetFree.of_bodySF (plainFor_of_name own_pn0) hisR ?_
  intro p e s m args below meth c s₁ Bd hml0 hP hK
  obtain ⟨rfl, hZ, hh⟩ := hP
  have hx := Bd.exec
  have hby := Bd.bytes
  have hml : c.maxLocals = 2 := hml0
  have hown : s.vm.findClass "com/example/brava/brava/client/cli/StatEndedPinLaw" = some m.cls := findClass_of_methodNamed Bd.named
  have hnm := (name_of_methodNamed Bd.named Bd.method).1
  have X0 : Stand p l e ({ frames := 0, cells := 0, slots := 0, locals := 0 } : Room) s m #[(.int pm), (.int ps)] below meth c s₁ [] 0 0 := Stand.of_body Bd
  have e0 : s₁.heap = h0 := by rw [← hh, Bd.state]; rfl
  have N0 := Fr.nil n0
  have pre0 : ∀ t, Steps p.tables e below (s₁.setTop (mkF m 0 #[.val (.int pm), .val (.int ps)] [])) t → Steps p.tables e below (s₁.setTop (entryFrame m #[(.int pm), (.int ps)] 2)) t := fun t k => castTop (efP m pm ps) k
  have r1 : ∀ t, Steps p.tables e below (s₁.setTop (mkF m 1 #[.val (.int pm), .val (.int ps)] [(.int pm)])) t → Steps p.tables e below (s₁.setTop (mkF m 0 #[.val (.int pm), .val (.int ps)] [])) t := fun t kt => by
    show Steps p.tables e below (s₁.setTop (mkF m 0 #[.val (.int pm), .val (.int ps)] [])) _
    refine XS.iloadN X0.here hx rfl (hb hby dP_0) rfl ?_
    exact kt
  by_cases hc2 : pm = (0 : Int32)
  · obtain ⟨fs, hr, hrun, hended, hW, hsame⟩ := X0.leave (v := some (.int (nar .char (90 : Int32)))) (fun h => by rw [Bd.returns] at h; cases h)
    refine ⟨_, _, (pre0 _ (r1 _ ?_)), hrun, hended, _, _, rfl, ?_, ⟨_, rfl⟩, hW, hsame.mono (by decide) (by decide)⟩
    · show Steps p.tables e below (s₁.setTop (mkF m 1 #[.val (.int pm), .val (.int ps)] [(.int pm)])) _
      refine XS.ifNo X0.here hx rfl (hb hby dP_1) rfl ((if0 _ _).trans (teq hc2).2) ?_
      show Steps p.tables e below (s₁.setTop (mkF m 4 #[.val (.int pm), .val (.int ps)] [])) _
      refine XS.bipush X0.here hx rfl (hb hby dP_4) ?_
      show Steps p.tables e below (s₁.setTop (mkF m 6 #[.val (.int pm), .val (.int ps)] [(.int (90 : Int32))])) _
      exact retN X0 hx (t := .char) Bd.returns (by simp) (hb hby dP_6) hr
    · show QP Z pm ps h0 n0 _ s₁.heap _
      rw [e0]
      exact ⟨(by have q : own_pick pm ps = (90 : Int32) := (by simp [own_pick, hc2]); rw [q]; exact congrArg (fun w => some (Value.int w)) (by decide : nar .char (90 : Int32) = (90 : Int32))), N0, rfl⟩
  · have r3 : ∀ t, Steps p.tables e below (s₁.setTop (mkF m 9 #[.val (.int pm), .val (.int ps)] [(.int (1 : Int32)), (.int pm)])) t → Steps p.tables e below (s₁.setTop (mkF m 1 #[.val (.int pm), .val (.int ps)] [(.int pm)])) t := fun t kt => by
      show Steps p.tables e below (s₁.setTop (mkF m 1 #[.val (.int pm), .val (.int ps)] [(.int pm)])) _
      refine XS.ifYes X0.here hx rfl (pc0 := 1) (pc' := 7) rfl (hb hby dP_1) rfl ((if0 _ _).trans (feq hc2).2) (by decide) (by decide) ?_
      show Steps p.tables e below (s₁.setTop (mkF m 7 #[.val (.int pm), .val (.int ps)] [])) _
      refine XS.iloadN X0.here hx rfl (hb hby dP_7) rfl ?_
      show Steps p.tables e below (s₁.setTop (mkF m 8 #[.val (.int pm), .val (.int ps)] [(.int pm)])) _
      refine XS.iconst X0.here hx rfl (hb hby dP_8) ?_
      exact kt
    by_cases hc4 : pm = (1 : Int32)
    · obtain ⟨fs, hr, hrun, hended, hW, hsame⟩ := X0.leave (v := some (.int (nar .char (88 : Int32)))) (fun h => by rw [Bd.returns] at h; cases h)
      refine ⟨_, _, (pre0 _ (r1 _ (r3 _ ?_))), hrun, hended, _, _, rfl, ?_, ⟨_, rfl⟩, hW, hsame.mono (by decide) (by decide)⟩
      · show Steps p.tables e below (s₁.setTop (mkF m 9 #[.val (.int pm), .val (.int ps)] [(.int (1 : Int32)), (.int pm)])) _
        refine XS.icmpNo X0.here hx rfl (hb hby dP_9) rfl (teq hc4).2 ?_
        show Steps p.tables e below (s₁.setTop (mkF m 12 #[.val (.int pm), .val (.int ps)] [])) _
        refine XS.bipush X0.here hx rfl (hb hby dP_12) ?_
        show Steps p.tables e below (s₁.setTop (mkF m 14 #[.val (.int pm), .val (.int ps)] [(.int (88 : Int32))])) _
        exact retN X0 hx (t := .char) Bd.returns (by simp) (hb hby dP_14) hr
      · show QP Z pm ps h0 n0 _ s₁.heap _
        rw [e0]
        exact ⟨(by have q : own_pick pm ps = (88 : Int32) := (by simp [own_pick, hc2, hc4]); rw [q]; exact congrArg (fun w => some (Value.int w)) (by decide : nar .char (88 : Int32) = (88 : Int32))), N0, rfl⟩
    · have r5 : ∀ t, Steps p.tables e below (s₁.setTop (mkF m 17 #[.val (.int pm), .val (.int ps)] [(.int (2 : Int32)), (.int pm)])) t → Steps p.tables e below (s₁.setTop (mkF m 9 #[.val (.int pm), .val (.int ps)] [(.int (1 : Int32)), (.int pm)])) t := fun t kt => by
        show Steps p.tables e below (s₁.setTop (mkF m 9 #[.val (.int pm), .val (.int ps)] [(.int (1 : Int32)), (.int pm)])) _
        refine XS.icmpYes X0.here hx rfl (pc0 := 9) (pc' := 15) rfl (hb hby dP_9) rfl (feq hc4).2 (by decide) (by decide) ?_
        show Steps p.tables e below (s₁.setTop (mkF m 15 #[.val (.int pm), .val (.int ps)] [])) _
        refine XS.iloadN X0.here hx rfl (hb hby dP_15) rfl ?_
        show Steps p.tables e below (s₁.setTop (mkF m 16 #[.val (.int pm), .val (.int ps)] [(.int pm)])) _
        refine XS.iconst X0.here hx rfl (hb hby dP_16) ?_
        exact kt
      by_cases hc6 : pm = (2 : Int32)
      · obtain ⟨fs, hr, hrun, hended, hW, hsame⟩ := X0.leave (v := some (.int (nar .char (122 : Int32)))) (fun h => by rw [Bd.returns] at h; cases h)
        refine ⟨_, _, (pre0 _ (r1 _ (r3 _ (r5 _ ?_)))), hrun, hended, _, _, rfl, ?_, ⟨_, rfl⟩, hW, hsame.mono (by decide) (by decide)⟩
        · show Steps p.tables e below (s₁.setTop (mkF m 17 #[.val (.int pm), .val (.int ps)] [(.int (2 : Int32)), (.int pm)])) _
          refine XS.icmpNo X0.here hx rfl (hb hby dP_17) rfl (teq hc6).2 ?_
          show Steps p.tables e below (s₁.setTop (mkF m 20 #[.val (.int pm), .val (.int ps)] [])) _
          refine XS.bipush X0.here hx rfl (hb hby dP_20) ?_
          show Steps p.tables e below (s₁.setTop (mkF m 22 #[.val (.int pm), .val (.int ps)] [(.int (122 : Int32))])) _
          exact retN X0 hx (t := .char) Bd.returns (by simp) (hb hby dP_22) hr
        · show QP Z pm ps h0 n0 _ s₁.heap _
          rw [e0]
          exact ⟨(by have q : own_pick pm ps = (122 : Int32) := (by simp [own_pick, hc2, hc4, hc6]); rw [q]; exact congrArg (fun w => some (Value.int w)) (by decide : nar .char (122 : Int32) = (122 : Int32))), N0, rfl⟩
      · have r7 : ∀ t, Steps p.tables e below (s₁.setTop (mkF m 25 #[.val (.int pm), .val (.int ps)] [(.int (3 : Int32)), (.int pm)])) t → Steps p.tables e below (s₁.setTop (mkF m 17 #[.val (.int pm), .val (.int ps)] [(.int (2 : Int32)), (.int pm)])) t := fun t kt => by
          show Steps p.tables e below (s₁.setTop (mkF m 17 #[.val (.int pm), .val (.int ps)] [(.int (2 : Int32)), (.int pm)])) _
          refine XS.icmpYes X0.here hx rfl (pc0 := 17) (pc' := 23) rfl (hb hby dP_17) rfl (feq hc6).2 (by decide) (by decide) ?_
          show Steps p.tables e below (s₁.setTop (mkF m 23 #[.val (.int pm), .val (.int ps)] [])) _
          refine XS.iloadN X0.here hx rfl (hb hby dP_23) rfl ?_
          show Steps p.tables e below (s₁.setTop (mkF m 24 #[.val (.int pm), .val (.int ps)] [(.int pm)])) _
          refine XS.iconst X0.here hx rfl (hb hby dP_24) ?_
          exact kt
        by_cases hc8 : pm = (3 : Int32)
        · obtain ⟨fs, hr, hrun, hended, hW, hsame⟩ := X0.leave (v := some (.int (nar .char (120 : Int32)))) (fun h => by rw [Bd.returns] at h; cases h)
          refine ⟨_, _, (pre0 _ (r1 _ (r3 _ (r5 _ (r7 _ ?_))))), hrun, hended, _, _, rfl, ?_, ⟨_, rfl⟩, hW, hsame.mono (by decide) (by decide)⟩
          · show Steps p.tables e below (s₁.setTop (mkF m 25 #[.val (.int pm), .val (.int ps)] [(.int (3 : Int32)), (.int pm)])) _
            refine XS.icmpNo X0.here hx rfl (hb hby dP_25) rfl (teq hc8).2 ?_
            show Steps p.tables e below (s₁.setTop (mkF m 28 #[.val (.int pm), .val (.int ps)] [])) _
            refine XS.bipush X0.here hx rfl (hb hby dP_28) ?_
            show Steps p.tables e below (s₁.setTop (mkF m 30 #[.val (.int pm), .val (.int ps)] [(.int (120 : Int32))])) _
            exact retN X0 hx (t := .char) Bd.returns (by simp) (hb hby dP_30) hr
          · show QP Z pm ps h0 n0 _ s₁.heap _
            rw [e0]
            exact ⟨(by have q : own_pick pm ps = (120 : Int32) := (by simp [own_pick, hc2, hc4, hc6, hc8]); rw [q]; exact congrArg (fun w => some (Value.int w)) (by decide : nar .char (120 : Int32) = (120 : Int32))), N0, rfl⟩
        · have r9 : ∀ t, Steps p.tables e below (s₁.setTop (mkF m 33 #[.val (.int pm), .val (.int ps)] [(.int (4 : Int32)), (.int pm)])) t → Steps p.tables e below (s₁.setTop (mkF m 25 #[.val (.int pm), .val (.int ps)] [(.int (3 : Int32)), (.int pm)])) t := fun t kt => by
            show Steps p.tables e below (s₁.setTop (mkF m 25 #[.val (.int pm), .val (.int ps)] [(.int (3 : Int32)), (.int pm)])) _
            refine XS.icmpYes X0.here hx rfl (pc0 := 25) (pc' := 31) rfl (hb hby dP_25) rfl (feq hc8).2 (by decide) (by decide) ?_
            show Steps p.tables e below (s₁.setTop (mkF m 31 #[.val (.int pm), .val (.int ps)] [])) _
            refine XS.iloadN X0.here hx rfl (hb hby dP_31) rfl ?_
            show Steps p.tables e below (s₁.setTop (mkF m 32 #[.val (.int pm), .val (.int ps)] [(.int pm)])) _
            refine XS.iconst X0.here hx rfl (hb hby dP_32) ?_
            exact kt
          by_cases hc10 : pm = (4 : Int32)
          · obtain ⟨fs, hr, hrun, hended, hW, hsame⟩ := X0.leave (v := some (.int (nar .char (89 : Int32)))) (fun h => by rw [Bd.returns] at h; cases h)
            refine ⟨_, _, (pre0 _ (r1 _ (r3 _ (r5 _ (r7 _ (r9 _ ?_)))))), hrun, hended, _, _, rfl, ?_, ⟨_, rfl⟩, hW, hsame.mono (by decide) (by decide)⟩
            · show Steps p.tables e below (s₁.setTop (mkF m 33 #[.val (.int pm), .val (.int ps)] [(.int (4 : Int32)), (.int pm)])) _
              refine XS.icmpNo X0.here hx rfl (hb hby dP_33) rfl (teq hc10).2 ?_
              show Steps p.tables e below (s₁.setTop (mkF m 36 #[.val (.int pm), .val (.int ps)] [])) _
              refine XS.bipush X0.here hx rfl (hb hby dP_36) ?_
              show Steps p.tables e below (s₁.setTop (mkF m 38 #[.val (.int pm), .val (.int ps)] [(.int (89 : Int32))])) _
              exact retN X0 hx (t := .char) Bd.returns (by simp) (hb hby dP_38) hr
            · show QP Z pm ps h0 n0 _ s₁.heap _
              rw [e0]
              exact ⟨(by have q : own_pick pm ps = (89 : Int32) := (by simp [own_pick, hc2, hc4, hc6, hc8, hc10]); rw [q]; exact congrArg (fun w => some (Value.int w)) (by decide : nar .char (89 : Int32) = (89 : Int32))), N0, rfl⟩
          · have r11 : ∀ t, Steps p.tables e below (s₁.setTop (mkF m 41 #[.val (.int pm), .val (.int ps)] [(.int (5 : Int32)), (.int pm)])) t → Steps p.tables e below (s₁.setTop (mkF m 33 #[.val (.int pm), .val (.int ps)] [(.int (4 : Int32)), (.int pm)])) t := fun t kt => by
              show Steps p.tables e below (s₁.setTop (mkF m 33 #[.val (.int pm), .val (.int ps)] [(.int (4 : Int32)), (.int pm)])) _
              refine XS.icmpYes X0.here hx rfl (pc0 := 33) (pc' := 39) rfl (hb hby dP_33) rfl (feq hc10).2 (by decide) (by decide) ?_
              show Steps p.tables e below (s₁.setTop (mkF m 39 #[.val (.int pm), .val (.int ps)] [])) _
              refine XS.iloadN X0.here hx rfl (hb hby dP_39) rfl ?_
              show Steps p.tables e below (s₁.setTop (mkF m 40 #[.val (.int pm), .val (.int ps)] [(.int pm)])) _
              refine XS.iconst X0.here hx rfl (hb hby dP_40) ?_
              exact kt
            by_cases hc12 : pm = (5 : Int32)
            · obtain ⟨fs, hr, hrun, hended, hW, hsame⟩ := X0.leave (v := some (.int (nar .char (87 : Int32)))) (fun h => by rw [Bd.returns] at h; cases h)
              refine ⟨_, _, (pre0 _ (r1 _ (r3 _ (r5 _ (r7 _ (r9 _ (r11 _ ?_))))))), hrun, hended, _, _, rfl, ?_, ⟨_, rfl⟩, hW, hsame.mono (by decide) (by decide)⟩
              · show Steps p.tables e below (s₁.setTop (mkF m 41 #[.val (.int pm), .val (.int ps)] [(.int (5 : Int32)), (.int pm)])) _
                refine XS.icmpNo X0.here hx rfl (hb hby dP_41) rfl (teq hc12).2 ?_
                show Steps p.tables e below (s₁.setTop (mkF m 44 #[.val (.int pm), .val (.int ps)] [])) _
                refine XS.bipush X0.here hx rfl (hb hby dP_44) ?_
                show Steps p.tables e below (s₁.setTop (mkF m 46 #[.val (.int pm), .val (.int ps)] [(.int (87 : Int32))])) _
                exact retN X0 hx (t := .char) Bd.returns (by simp) (hb hby dP_46) hr
              · show QP Z pm ps h0 n0 _ s₁.heap _
                rw [e0]
                exact ⟨(by have q : own_pick pm ps = (87 : Int32) := (by simp [own_pick, hc2, hc4, hc6, hc8, hc10, hc12]); rw [q]; exact congrArg (fun w => some (Value.int w)) (by decide : nar .char (87 : Int32) = (87 : Int32))), N0, rfl⟩
            · have r13 : ∀ t, Steps p.tables e below (s₁.setTop (mkF m 50 #[.val (.int pm), .val (.int ps)] [(.int (6 : Int32)), (.int pm)])) t → Steps p.tables e below (s₁.setTop (mkF m 41 #[.val (.int pm), .val (.int ps)] [(.int (5 : Int32)), (.int pm)])) t := fun t kt => by
                show Steps p.tables e below (s₁.setTop (mkF m 41 #[.val (.int pm), .val (.int ps)] [(.int (5 : Int32)), (.int pm)])) _
                refine XS.icmpYes X0.here hx rfl (pc0 := 41) (pc' := 47) rfl (hb hby dP_41) rfl (feq hc12).2 (by decide) (by decide) ?_
                show Steps p.tables e below (s₁.setTop (mkF m 47 #[.val (.int pm), .val (.int ps)] [])) _
                refine XS.iloadN X0.here hx rfl (hb hby dP_47) rfl ?_
                show Steps p.tables e below (s₁.setTop (mkF m 48 #[.val (.int pm), .val (.int ps)] [(.int pm)])) _
                refine XS.bipush X0.here hx rfl (hb hby dP_48) ?_
                exact kt
              by_cases hc14 : pm = (6 : Int32)
              · obtain ⟨fs, hr, hrun, hended, hW, hsame⟩ := X0.leave (v := some (.int (nar .char (84 : Int32)))) (fun h => by rw [Bd.returns] at h; cases h)
                refine ⟨_, _, (pre0 _ (r1 _ (r3 _ (r5 _ (r7 _ (r9 _ (r11 _ (r13 _ ?_)))))))), hrun, hended, _, _, rfl, ?_, ⟨_, rfl⟩, hW, hsame.mono (by decide) (by decide)⟩
                · show Steps p.tables e below (s₁.setTop (mkF m 50 #[.val (.int pm), .val (.int ps)] [(.int (6 : Int32)), (.int pm)])) _
                  refine XS.icmpNo X0.here hx rfl (hb hby dP_50) rfl (teq hc14).2 ?_
                  show Steps p.tables e below (s₁.setTop (mkF m 53 #[.val (.int pm), .val (.int ps)] [])) _
                  refine XS.bipush X0.here hx rfl (hb hby dP_53) ?_
                  show Steps p.tables e below (s₁.setTop (mkF m 55 #[.val (.int pm), .val (.int ps)] [(.int (84 : Int32))])) _
                  exact retN X0 hx (t := .char) Bd.returns (by simp) (hb hby dP_55) hr
                · show QP Z pm ps h0 n0 _ s₁.heap _
                  rw [e0]
                  exact ⟨(by have q : own_pick pm ps = (84 : Int32) := (by simp [own_pick, hc2, hc4, hc6, hc8, hc10, hc12, hc14]); rw [q]; exact congrArg (fun w => some (Value.int w)) (by decide : nar .char (84 : Int32) = (84 : Int32))), N0, rfl⟩
              · obtain ⟨fs, hr, hrun, hended, hW, hsame⟩ := X0.leave (v := some (.int (nar .char (ps.toUInt32.toUInt16.toUInt32.toInt32)))) (fun h => by rw [Bd.returns] at h; cases h)
                refine ⟨_, _, (pre0 _ (r1 _ (r3 _ (r5 _ (r7 _ (r9 _ (r11 _ (r13 _ ?_)))))))), hrun, hended, _, _, rfl, ?_, ⟨_, rfl⟩, hW, hsame.mono (by decide) (by decide)⟩
                · show Steps p.tables e below (s₁.setTop (mkF m 50 #[.val (.int pm), .val (.int ps)] [(.int (6 : Int32)), (.int pm)])) _
                  refine XS.icmpYes X0.here hx rfl (pc0 := 50) (pc' := 56) rfl (hb hby dP_50) rfl (feq hc14).2 (by decide) (by decide) ?_
                  show Steps p.tables e below (s₁.setTop (mkF m 56 #[.val (.int pm), .val (.int ps)] [])) _
                  refine XS.iloadN X0.here hx rfl (hb hby dP_56) rfl ?_
                  show Steps p.tables e below (s₁.setTop (mkF m 57 #[.val (.int pm), .val (.int ps)] [(.int ps)])) _
                  refine XS.i2c X0.here hx rfl (hb hby dP_57) rfl ?_
                  show Steps p.tables e below (s₁.setTop (mkF m 58 #[.val (.int pm), .val (.int ps)] [(.int (ps.toUInt32.toUInt16.toUInt32.toInt32))])) _
                  exact retN X0 hx (t := .char) Bd.returns (by simp) (hb hby dP_58) hr
                · show QP Z pm ps h0 n0 _ s₁.heap _
                  rw [e0]
                  exact ⟨(by have q : own_pick pm ps = (ps.toUInt32.toUInt16.toUInt32.toInt32) := (by simp [own_pick, hc2, hc4, hc6, hc8, hc10, hc12, hc14]); rw [q]; exact congrArg (fun w => some (Value.int w)) (own_nc _ : nar .char (ps.toUInt32.toUInt16.toUInt32.toInt32) = (ps.toUInt32.toUInt16.toUInt32.toInt32))), N0, rfl⟩
theorem own_pn1 : plainName "java/lang/Record" = true := by first | (simp [plainName, overriddenIn]; done) | decide +kernel
theorem dR_0 : decode jdk_30_method_1_code 0 = .ok (.aload_n 0, 1) := by decide +kernel
theorem dR_1 : decode jdk_30_method_1_code 1 = .ok (.invokespecial 1, 3) := by decide +kernel
theorem dR_4 : decode jdk_30_method_1_code 4 = .ok (.return_, 1) := by decide +kernel
theorem efR (m : MethodId) (a : Addr) : entryFrame m #[(.ref a)] 1 = mkF m 0 #[.val (.ref a)] [] := by first | (simp [entryFrame, mkF, argsToLocals, Value.category]; done) | rfl
def QR (Z : State) (a : Addr) (h0 : Heap) (n0 : Nat) (v : Option Value) (h : Heap) (L : List Loc) : Prop := v = none ∧ Fr n0 L ∧ h = h0
set_option maxRecDepth 65536 in
set_option maxHeartbeats 40000000 in
theorem rmR (l : Launch) (Z : State) (a0 : Array Value) (hw : ∀ d ∈ tables_1, d.before a0 Z = true) (ws : List Jvm.Cond) (a : Addr) (h0 : Heap) (n0 : Nat) (Z0 : n0 ≤ h0.size) :
    MetFree l (⟨"java/lang/Record", "<init>", "()V"⟩ : MethodName) (head1 (Jvm.Cond.code (⟨"java/lang/Record", "<init>", "()V"⟩ : MethodName) jdk_30_method_1_code 1 none :: ws) ({ frames := 1, cells := 0, slots := 0, locals := 12 } : Room)) (fun av_ U => av_ = #[(.ref a)] ∧ Z.Warmed39 U.vm ∧ U.heap = h0) (fun _ _ _ _ _ => True) (fun _ U o U' => ∃ v L, o = .returned v ∧ QR Z a h0 n0 v U'.heap L ∧ FrameEnd U o U' L ({ frames := 1, cells := 0, slots := 0, locals := 12 } : Room).cells ({ frames := 1, cells := 0, slots := 0, locals := 12 } : Room).slots) := by
  refine MetFree.of_bodySF (plainFor_of_name own_pn1) hisR ?_
  intro p e s m args below meth c s₁ Bd hml0 hP hK
  obtain ⟨rfl, hZ, hh⟩ := hP
  have hx := Bd.exec
  have hby := Bd.bytes
  have hml : c.maxLocals = 1 := hml0
  have hown : s.vm.findClass "java/lang/Record" = some m.cls := findClass_of_methodNamed Bd.named
  have hnm := (name_of_methodNamed Bd.named Bd.method).1
  have X0 : Stand p l e ({ frames := 1, cells := 0, slots := 0, locals := 12 } : Room) s m #[(.ref a)] below meth c s₁ [] 0 0 := Stand.of_body Bd
  have e0 : s₁.heap = h0 := by rw [← hh, Bd.state]; rfl
  have N0 := Fr.nil n0
  have pre0 : ∀ t, Steps p.tables e below (s₁.setTop (mkF m 0 #[.val (.ref a)] [])) t → Steps p.tables e below (s₁.setTop (entryFrame m #[(.ref a)] 1)) t := fun t k => castTop (efR m a) k
  obtain ⟨T1, X1, e1, st1⟩ := initO X0 hx hZ hown (hw _ (List.mem_of_getElem? (i := 15) rfl)) (hw _ (List.mem_of_getElem? (i := 16) rfl)) (hw _ (List.mem_of_getElem? (i := 17) rfl)) e0 (g := (mkF m 1 #[.val (.ref a)] [(.ref a)])) rfl (by rw [hml]; rfl) rfl (hb hby dR_1) (by decide) (W := 0) (by show 2 * 0 + _ ≤ _; exact Nat.le_of_eq rfl) (by decide)
  obtain ⟨fs, hr, hrun, hended, hW, hsame⟩ := X1.leave (v := none) (fun _ => rfl)
  refine ⟨_, _, (pre0 _ ?_), hrun, hended, _, _, rfl, ?_, ⟨_, rfl⟩, hW, hsame.mono (by decide) (by decide)⟩
  · show Steps p.tables e below (s₁.setTop (mkF m 0 #[.val (.ref a)] [])) _
    refine XS.aloadN X0.here hx rfl (hb hby dR_0) rfl rfl ?_
    show Steps p.tables e below (s₁.setTop (mkF m 1 #[.val (.ref a)] [(.ref a)])) _
    refine st1 _ ?_
    show Steps p.tables e below (T1.setTop (mkF m 4 #[.val (.ref a)] [])) _
    exact X1.returnOut hx Bd.returns (hb hby dR_4) hr
  · show QR Z a h0 n0 _ T1.heap _
    rw [e1]
    exact ⟨rfl, N0, rfl⟩
theorem own_pd0 : parseMethodDescriptor "()V" = some ⟨[], none⟩ := by decide +kernel
theorem own_pn2 : plainName "com/example/brava/brava/client/cli/ProcessGroup$Stat" = true := by first | (simp [plainName, overriddenIn]; done) | decide +kernel
theorem dD_0 : decode prog_62_method_1_code 0 = .ok (.aload_n 0, 1) := by decide +kernel
theorem dD_1 : decode prog_62_method_1_code 1 = .ok (.invokespecial 1, 3) := by decide +kernel
theorem dD_4 : decode prog_62_method_1_code 4 = .ok (.aload_n 0, 1) := by decide +kernel
theorem dD_5 : decode prog_62_method_1_code 5 = .ok (.iload_n 1, 1) := by decide +kernel
theorem dD_6 : decode prog_62_method_1_code 6 = .ok (.putfield 7, 3) := by decide +kernel
theorem dD_9 : decode prog_62_method_1_code 9 = .ok (.aload_n 0, 1) := by decide +kernel
theorem dD_10 : decode prog_62_method_1_code 10 = .ok (.lload_n 2, 1) := by decide +kernel
theorem dD_11 : decode prog_62_method_1_code 11 = .ok (.putfield 13, 3) := by decide +kernel
theorem dD_14 : decode prog_62_method_1_code 14 = .ok (.return_, 1) := by decide +kernel
theorem efD (m : MethodId) (a : Addr) (cc : Int32) (gg : Int64) : entryFrame m #[(.ref a), (.int cc), (.long gg)] 4 = mkF m 0 #[.val (.ref a), .val (.int cc), .val (.long gg), .second] [] := by first | (simp [entryFrame, mkF, argsToLocals, Value.category]; done) | rfl
def QD (Z : State) (a : Addr) (cc : Int32) (gg : Int64) (h0 : Heap) (n0 : Nat) (v : Option Value) (h : Heap) (L : List Loc) : Prop := v = none ∧ Fr n0 L ∧ Keep h0 h [a] ∧ Exa Z h a "com/example/brava/brava/client/cli/ProcessGroup$Stat" ∧ Fld Z h a "com/example/brava/brava/client/cli/ProcessGroup$Stat" "state" "C" (.int cc) ∧ Fld Z h a "com/example/brava/brava/client/cli/ProcessGroup$Stat" "group" "J" (.long gg)
set_option maxRecDepth 65536 in
set_option maxHeartbeats 40000000 in
theorem rmD (l : Launch) (Z : State) (a0 : Array Value) (hw : ∀ d ∈ tables_1, d.before a0 Z = true) (ws : List Jvm.Cond) (a : Addr) (cc : Int32) (gg : Int64) (h0 : Heap) (n0 : Nat) (Z0 : n0 ≤ h0.size) (E_a : Exa Z h0 a "com/example/brava/brava/client/cli/ProcessGroup$Stat") (F_state_a : Fld Z h0 a "com/example/brava/brava/client/cli/ProcessGroup$Stat" "state" "C" (.int (0 : Int32))) (F_group_a : Fld Z h0 a "com/example/brava/brava/client/cli/ProcessGroup$Stat" "group" "J" (.long (0 : Int64))) (g_a : n0 ≤ a) (hnc : nar .char cc = cc) :
    MetFree l (⟨"com/example/brava/brava/client/cli/ProcessGroup$Stat", "<init>", "(CJ)V"⟩ : MethodName) (head1 (Jvm.Cond.code (⟨"com/example/brava/brava/client/cli/ProcessGroup$Stat", "<init>", "(CJ)V"⟩ : MethodName) prog_62_method_1_code 4 none :: ws) ({ frames := 2, cells := 0, slots := 0, locals := 24 } : Room)) (fun av_ U => av_ = #[(.ref a), (.int cc), (.long gg)] ∧ Z.Warmed39 U.vm ∧ U.heap = h0) (fun _ _ _ _ _ => True) (fun _ U o U' => ∃ v L, o = .returned v ∧ QD Z a cc gg h0 n0 v U'.heap L ∧ FrameEnd U o U' L ({ frames := 2, cells := 0, slots := 0, locals := 24 } : Room).cells ({ frames := 2, cells := 0, slots := 0, locals := 24 } : Room).slots) := by
  refine MetFree.of_bodySF (plainFor_of_name own_pn2) hisR ?_
  intro p e s m args below meth c s₁ Bd hml0 hP hK
  obtain ⟨rfl, hZ, hh⟩ := hP
  have hx := Bd.exec
  have hby := Bd.bytes
  have hml : c.maxLocals = 4 := hml0
  have hown : s.vm.findClass "com/example/brava/brava/client/cli/ProcessGroup$Stat" = some m.cls := findClass_of_methodNamed Bd.named
  have hnm := (name_of_methodNamed Bd.named Bd.method).1
  have X0 : Stand p l e ({ frames := 2, cells := 0, slots := 0, locals := 24 } : Room) s m #[(.ref a), (.int cc), (.long gg)] below meth c s₁ [] 0 0 := Stand.of_body Bd
  have e0 : s₁.heap = h0 := by rw [← hh, Bd.state]; rfl
  have N0 := Fr.nil n0
  have pre0 : ∀ t, Steps p.tables e below (s₁.setTop (mkF m 0 #[.val (.ref a), .val (.int cc), .val (.long gg), .second] [])) t → Steps p.tables e below (s₁.setTop (entryFrame m #[(.ref a), (.int cc), (.long gg)] 4)) t := fun t k => castTop (efD m a cc gg) k
  obtain ⟨_, _, ⟨T1, L1, k1, n1⟩, -, X1, ⟨Lc1, hQ1, l1, y1, z1⟩, st1⟩ := X0.specialBack hx (y := (⟨"java/lang/Record", "<init>", "()V"⟩ : MethodName)) rfl hown (mvT hZ (hw _ (List.mem_of_getElem? (i := 10) rfl))) (mvT hZ (hw _ (List.mem_of_getElem? (i := 11) rfl))) (mvT hZ (hw _ (List.mem_of_getElem? (i := 14) rfl))) (by decide) (backOf (W := 0) (rmR l Z a0 hw [] a h0 n0 Z0 ) hZ (hw _ (List.mem_of_getElem? (i := 14) rfl)) (hw _ (List.mem_of_getElem? (i := 13) rfl)) (by decide) (by decide)) (g := (mkF m 1 #[.val (.ref a), .val (.int cc), .val (.long gg), .second] [(.ref a)])) rfl (by rw [hml]; rfl) (Steps.refl _) (a := a) (argsL := []) (rest := []) (lenOf own_pd0 rfl) rfl (by show 2 * 0 + _ ≤ _; exact Nat.le_of_eq rfl) (hb hby dD_1) (fun _ _ => ⟨rfl, e0, (by decide : 0 + 0 ≤ _), (by decide : 0 + 0 ≤ _)⟩)
  dsimp only [Pt.U, Pt.locs, Pt.cells, Pt.slots] at X1 l1 y1 z1 st1 hQ1
  subst l1 y1 z1
  obtain ⟨rfl, Nq1, e1⟩ := hQ1
  have N1 := Fr.app N0 Nq1
  obtain ⟨T2, h2, X2, e2, W2, st2⟩ := putFN X1 hx hZ hown (hw _ (List.mem_of_getElem? (i := 18) rfl)) Via.refl e1 F_state_a E_a (Or.inr ⟨(hw _ (List.mem_of_getElem? (i := 19) rfl)), rfl, hnm⟩) (hw _ (List.mem_of_getElem? (i := 5) rfl)) (ty := .char) (v := (.int cc)) (v' := (.int cc)) (by decide) (show Value.int (nar .char cc) = .int cc from congrArg Value.int hnc) (by have q := fits_nar_char cc; rwa [hnc] at q) (g := (mkF m 6 #[.val (.ref a), .val (.int cc), .val (.long gg), .second] [(.int cc), (.ref a)])) rfl rfl (hb hby dD_6)
  have F2 : Fld Z h2 a "com/example/brava/brava/client/cli/ProcessGroup$Stat" "state" "C" (.int cc) := Fld.same W2 F_state_a
  have K2 : Keep h0 h2 [a] := (Keep.refl h0 [a]).wr W2 (Or.inl (List.mem_of_getElem? (i := 0) rfl))
  have Zs2 : n0 ≤ h2.size := Nat.le_trans Z0 (Keep.of_wr W2).1
  have N2 := Fr.snoc X2 N1 g_a
  obtain ⟨T3, h3, X3, e3, W3, st3⟩ := putF X2 hx hZ hown (host := "") (Or.inl (hw _ (List.mem_of_getElem? (i := 20) rfl))) Via.refl e2 (Fld.other W2 F_group_a (Or.inr (slot_ne (Or.inr (hw _ (List.mem_of_getElem? (i := 21) rfl))) (Or.inr (hw _ (List.mem_of_getElem? (i := 19) rfl))) (by decide) (t := .long) (t' := .char) (by decide) (by decide)))) (E_a.wr W2) (Or.inr ⟨(hw _ (List.mem_of_getElem? (i := 21) rfl)), rfl, hnm⟩) (hw _ (List.mem_of_getElem? (i := 5) rfl)) (ty := .long) (by decide) rfl rfl (g := (mkF m 11 #[.val (.ref a), .val (.int cc), .val (.long gg), .second] [(.long gg), (.ref a)])) rfl rfl (hb hby dD_11)
  have F3 : Fld Z h3 a "com/example/brava/brava/client/cli/ProcessGroup$Stat" "group" "J" (.long gg) := Fld.same W3 (Fld.other W2 F_group_a (Or.inr (slot_ne (Or.inr (hw _ (List.mem_of_getElem? (i := 21) rfl))) (Or.inr (hw _ (List.mem_of_getElem? (i := 19) rfl))) (by decide) (t := .long) (t' := .char) (by decide) (by decide))))
  have K3 : Keep h0 h3 [a] := K2.wr W3 (Or.inl (List.mem_of_getElem? (i := 0) rfl))
  have Zs3 : n0 ≤ h3.size := Nat.le_trans Zs2 (Keep.of_wr W3).1
  have N3 := Fr.snoc X3 N2 g_a
  obtain ⟨fs, hr, hrun, hended, hW, hsame⟩ := X3.leave (v := none) (fun _ => rfl)
  refine ⟨_, _, (pre0 _ ?_), hrun, hended, _, _, rfl, ?_, ⟨_, rfl⟩, hW, hsame.mono (by decide) (by decide)⟩
  · show Steps p.tables e below (s₁.setTop (mkF m 0 #[.val (.ref a), .val (.int cc), .val (.long gg), .second] [])) _
    refine XS.aloadN X0.here hx rfl (hb hby dD_0) rfl rfl ?_
    show Steps p.tables e below (s₁.setTop (mkF m 1 #[.val (.ref a), .val (.int cc), .val (.long gg), .second] [(.ref a)])) _
    refine st1.trans ?_
    show Steps p.tables e below (T1.setTop (mkF m 4 #[.val (.ref a), .val (.int cc), .val (.long gg), .second] [])) _
    refine XS.aloadN X1.here hx rfl (hb hby dD_4) rfl rfl ?_
    show Steps p.tables e below (T1.setTop (mkF m 5 #[.val (.ref a), .val (.int cc), .val (.long gg), .second] [(.ref a)])) _
    refine XS.iloadN X1.here hx rfl (hb hby dD_5) rfl ?_
    show Steps p.tables e below (T1.setTop (mkF m 6 #[.val (.ref a), .val (.int cc), .val (.long gg), .second] [(.int cc), (.ref a)])) _
    refine st2 _ ?_
    show Steps p.tables e below (T2.setTop (mkF m 9 #[.val (.ref a), .val (.int cc), .val (.long gg), .second] [])) _
    refine XS.aloadN X2.here hx rfl (hb hby dD_9) rfl rfl ?_
    show Steps p.tables e below (T2.setTop (mkF m 10 #[.val (.ref a), .val (.int cc), .val (.long gg), .second] [(.ref a)])) _
    refine XS.lloadN X2.here hx rfl (hb hby dD_10) rfl ?_
    show Steps p.tables e below (T2.setTop (mkF m 11 #[.val (.ref a), .val (.int cc), .val (.long gg), .second] [(.long gg), (.ref a)])) _
    refine st3 _ ?_
    show Steps p.tables e below (T3.setTop (mkF m 14 #[.val (.ref a), .val (.int cc), .val (.long gg), .second] [])) _
    exact X3.returnOut hx Bd.returns (hb hby dD_14) hr
  · show QD Z a cc gg h0 n0 _ T3.heap _
    rw [e3]
    exact ⟨rfl, N3, K3, ((E_a.wr W2).wr W3), (Fld.other W3 F2 (Or.inr (slot_ne (Or.inr (hw _ (List.mem_of_getElem? (i := 19) rfl))) (Or.inr (hw _ (List.mem_of_getElem? (i := 21) rfl))) (by decide) (t := .char) (t' := .long) (by decide) (by decide)))), F3⟩
theorem dE_0 : decode prog_62_method_2_code 0 = .ok (.aload_n 0, 1) := by decide +kernel
theorem dE_1 : decode prog_62_method_2_code 1 = .ok (.getfield 7, 3) := by decide +kernel
theorem dE_4 : decode prog_62_method_2_code 4 = .ok (.bipush 90, 2) := by decide +kernel
theorem dE_6 : decode prog_62_method_2_code 6 = .ok (.if_icmp .eq 12, 3) := by decide +kernel
theorem dE_9 : decode prog_62_method_2_code 9 = .ok (.aload_n 0, 1) := by decide +kernel
theorem dE_10 : decode prog_62_method_2_code 10 = .ok (.getfield 7, 3) := by decide +kernel
theorem dE_13 : decode prog_62_method_2_code 13 = .ok (.bipush 88, 2) := by decide +kernel
theorem dE_15 : decode prog_62_method_2_code 15 = .ok (.if_icmp .ne 7, 3) := by decide +kernel
theorem dE_18 : decode prog_62_method_2_code 18 = .ok (.iconst 1, 1) := by decide +kernel
theorem dE_19 : decode prog_62_method_2_code 19 = .ok (.goto 4, 3) := by decide +kernel
theorem dE_22 : decode prog_62_method_2_code 22 = .ok (.iconst 0, 1) := by decide +kernel
theorem dE_23 : decode prog_62_method_2_code 23 = .ok (.ireturn, 1) := by decide +kernel
theorem efE (m : MethodId) (a : Addr) : entryFrame m #[(.ref a)] 1 = mkF m 0 #[.val (.ref a)] [] := by first | (simp [entryFrame, mkF, argsToLocals, Value.category]; done) | rfl
def QE (Z : State) (a : Addr) (cc : Int32) (h0 : Heap) (n0 : Nat) (v : Option Value) (h : Heap) (L : List Loc) : Prop := v = some (.int (own_ended cc)) ∧ Fr n0 L ∧ h = h0
set_option maxRecDepth 65536 in
set_option maxHeartbeats 40000000 in
theorem rmE (l : Launch) (Z : State) (a0 : Array Value) (hw : ∀ d ∈ tables_1, d.before a0 Z = true) (ws : List Jvm.Cond) (a : Addr) (cc : Int32) (h0 : Heap) (n0 : Nat) (Z0 : n0 ≤ h0.size) (E_a : Exa Z h0 a "com/example/brava/brava/client/cli/ProcessGroup$Stat") (F_state_a : Fld Z h0 a "com/example/brava/brava/client/cli/ProcessGroup$Stat" "state" "C" (.int cc)) :
    MetFree l (⟨"com/example/brava/brava/client/cli/ProcessGroup$Stat", "ended", "()Z"⟩ : MethodName) (head1 (Jvm.Cond.code (⟨"com/example/brava/brava/client/cli/ProcessGroup$Stat", "ended", "()Z"⟩ : MethodName) prog_62_method_2_code 1 (some .boolean) :: ws) ({ frames := 0, cells := 0, slots := 0, locals := 0 } : Room)) (fun av_ U => av_ = #[(.ref a)] ∧ Z.Warmed39 U.vm ∧ U.heap = h0) (fun _ _ _ _ _ => True) (fun _ U o U' => ∃ v L, o = .returned v ∧ QE Z a cc h0 n0 v U'.heap L ∧ FrameEnd U o U' L ({ frames := 0, cells := 0, slots := 0, locals := 0 } : Room).cells ({ frames := 0, cells := 0, slots := 0, locals := 0 } : Room).slots) := by
  refine MetFree.of_bodySF (plainFor_of_name own_pn2) hisR ?_
  intro p e s m args below meth c s₁ Bd hml0 hP hK
  obtain ⟨rfl, hZ, hh⟩ := hP
  have hx := Bd.exec
  have hby := Bd.bytes
  have hml : c.maxLocals = 1 := hml0
  have hown : s.vm.findClass "com/example/brava/brava/client/cli/ProcessGroup$Stat" = some m.cls := findClass_of_methodNamed Bd.named
  have hnm := (name_of_methodNamed Bd.named Bd.method).1
  have X0 : Stand p l e ({ frames := 0, cells := 0, slots := 0, locals := 0 } : Room) s m #[(.ref a)] below meth c s₁ [] 0 0 := Stand.of_body Bd
  have e0 : s₁.heap = h0 := by rw [← hh, Bd.state]; rfl
  have N0 := Fr.nil n0
  have pre0 : ∀ t, Steps p.tables e below (s₁.setTop (mkF m 0 #[.val (.ref a)] [])) t → Steps p.tables e below (s₁.setTop (entryFrame m #[(.ref a)] 1)) t := fun t k => castTop (efE m a) k
  obtain ⟨T1, X1, e1, st1⟩ := getF X0 hx hZ hown (host := "") (Or.inl (hw _ (List.mem_of_getElem? (i := 18) rfl))) Via.refl e0 F_state_a (g := (mkF m 1 #[.val (.ref a)] [(.ref a)])) rfl rfl (hb hby dE_1)
  have r2 : ∀ t, Steps p.tables e below (T1.setTop (mkF m 6 #[.val (.ref a)] [(.int (90 : Int32)), (.int cc)])) t → Steps p.tables e below (s₁.setTop (mkF m 0 #[.val (.ref a)] [])) t := fun t kt => by
    show Steps p.tables e below (s₁.setTop (mkF m 0 #[.val (.ref a)] [])) _
    refine XS.aloadN X0.here hx rfl (hb hby dE_0) rfl rfl ?_
    show Steps p.tables e below (s₁.setTop (mkF m 1 #[.val (.ref a)] [(.ref a)])) _
    refine st1 _ ?_
    show Steps p.tables e below (T1.setTop (mkF m 4 #[.val (.ref a)] [(.int cc)])) _
    refine XS.bipush X1.here hx rfl (hb hby dE_4) ?_
    exact kt
  by_cases hc3 : cc = (90 : Int32)
  · obtain ⟨fs, hr, hrun, hended, hW, hsame⟩ := X1.leave (v := some (.int (1 : Int32))) (fun h => by rw [Bd.returns] at h; cases h)
    refine ⟨_, _, (pre0 _ (r2 _ ?_)), hrun, hended, _, _, rfl, ?_, ⟨_, rfl⟩, hW, hsame.mono (by decide) (by decide)⟩
    · show Steps p.tables e below (T1.setTop (mkF m 6 #[.val (.ref a)] [(.int (90 : Int32)), (.int cc)])) _
      refine XS.icmpYes X1.here hx rfl (pc0 := 6) (pc' := 18) rfl (hb hby dE_6) rfl (teq hc3).1 (by decide) (by decide) ?_
      show Steps p.tables e below (T1.setTop (mkF m 18 #[.val (.ref a)] [])) _
      refine XS.iconst X1.here hx rfl (hb hby dE_18) ?_
      show Steps p.tables e below (T1.setTop (mkF m 19 #[.val (.ref a)] [(.int (1 : Int32))])) _
      refine XS.goto X1.here hx rfl (pc0 := 19) (pc' := 23) rfl (hb hby dE_19) (by decide) (by decide) ?_
      show Steps p.tables e below (T1.setTop (mkF m 23 #[.val (.ref a)] [(.int (1 : Int32))])) _
      exact retN X1 hx (t := .boolean) Bd.returns (by simp) (hb hby dE_23) hr
    · show QE Z a cc h0 n0 _ T1.heap _
      rw [e1]
      exact ⟨(by simp [own_ended, hc3]), N0, rfl⟩
  · obtain ⟨T4, X4, e4, st4⟩ := getF X1 hx hZ hown (host := "") (Or.inl (hw _ (List.mem_of_getElem? (i := 18) rfl))) Via.refl e1 F_state_a (g := (mkF m 10 #[.val (.ref a)] [(.ref a)])) rfl rfl (hb hby dE_10)
    have r5 : ∀ t, Steps p.tables e below (T4.setTop (mkF m 15 #[.val (.ref a)] [(.int (88 : Int32)), (.int cc)])) t → Steps p.tables e below (T1.setTop (mkF m 6 #[.val (.ref a)] [(.int (90 : Int32)), (.int cc)])) t := fun t kt => by
      show Steps p.tables e below (T1.setTop (mkF m 6 #[.val (.ref a)] [(.int (90 : Int32)), (.int cc)])) _
      refine XS.icmpNo X1.here hx rfl (hb hby dE_6) rfl (feq hc3).1 ?_
      show Steps p.tables e below (T1.setTop (mkF m 9 #[.val (.ref a)] [])) _
      refine XS.aloadN X1.here hx rfl (hb hby dE_9) rfl rfl ?_
      show Steps p.tables e below (T1.setTop (mkF m 10 #[.val (.ref a)] [(.ref a)])) _
      refine st4 _ ?_
      show Steps p.tables e below (T4.setTop (mkF m 13 #[.val (.ref a)] [(.int cc)])) _
      refine XS.bipush X4.here hx rfl (hb hby dE_13) ?_
      exact kt
    by_cases hc6 : cc = (88 : Int32)
    · obtain ⟨fs, hr, hrun, hended, hW, hsame⟩ := X4.leave (v := some (.int (1 : Int32))) (fun h => by rw [Bd.returns] at h; cases h)
      refine ⟨_, _, (pre0 _ (r2 _ (r5 _ ?_))), hrun, hended, _, _, rfl, ?_, ⟨_, rfl⟩, hW, hsame.mono (by decide) (by decide)⟩
      · show Steps p.tables e below (T4.setTop (mkF m 15 #[.val (.ref a)] [(.int (88 : Int32)), (.int cc)])) _
        refine XS.icmpNo X4.here hx rfl (hb hby dE_15) rfl (teq hc6).2 ?_
        show Steps p.tables e below (T4.setTop (mkF m 18 #[.val (.ref a)] [])) _
        refine XS.iconst X4.here hx rfl (hb hby dE_18) ?_
        show Steps p.tables e below (T4.setTop (mkF m 19 #[.val (.ref a)] [(.int (1 : Int32))])) _
        refine XS.goto X4.here hx rfl (pc0 := 19) (pc' := 23) rfl (hb hby dE_19) (by decide) (by decide) ?_
        show Steps p.tables e below (T4.setTop (mkF m 23 #[.val (.ref a)] [(.int (1 : Int32))])) _
        exact retN X4 hx (t := .boolean) Bd.returns (by simp) (hb hby dE_23) hr
      · show QE Z a cc h0 n0 _ T4.heap _
        rw [e4]
        exact ⟨(by simp [own_ended, hc3, hc6]), N0, rfl⟩
    · obtain ⟨fs, hr, hrun, hended, hW, hsame⟩ := X4.leave (v := some (.int (0 : Int32))) (fun h => by rw [Bd.returns] at h; cases h)
      refine ⟨_, _, (pre0 _ (r2 _ (r5 _ ?_))), hrun, hended, _, _, rfl, ?_, ⟨_, rfl⟩, hW, hsame.mono (by decide) (by decide)⟩
      · show Steps p.tables e below (T4.setTop (mkF m 15 #[.val (.ref a)] [(.int (88 : Int32)), (.int cc)])) _
        refine XS.icmpYes X4.here hx rfl (pc0 := 15) (pc' := 22) rfl (hb hby dE_15) rfl (feq hc6).2 (by decide) (by decide) ?_
        show Steps p.tables e below (T4.setTop (mkF m 22 #[.val (.ref a)] [])) _
        refine XS.iconst X4.here hx rfl (hb hby dE_22) ?_
        show Steps p.tables e below (T4.setTop (mkF m 23 #[.val (.ref a)] [(.int (0 : Int32))])) _
        exact retN X4 hx (t := .boolean) Bd.returns (by simp) (hb hby dE_23) hr
      · show QE Z a cc h0 n0 _ T4.heap _
        rw [e4]
        exact ⟨(by simp [own_ended, hc3, hc6]), N0, rfl⟩
theorem dS_0 : decode prog_62_method_3_code 0 = .ok (.aload_n 0, 1) := by decide +kernel
theorem dS_1 : decode prog_62_method_3_code 1 = .ok (.getfield 7, 3) := by decide +kernel
theorem dS_4 : decode prog_62_method_3_code 4 = .ok (.bipush 84, 2) := by decide +kernel
theorem dS_6 : decode prog_62_method_3_code 6 = .ok (.if_icmp .eq 12, 3) := by decide +kernel
theorem dS_9 : decode prog_62_method_3_code 9 = .ok (.aload_n 0, 1) := by decide +kernel
theorem dS_10 : decode prog_62_method_3_code 10 = .ok (.getfield 7, 3) := by decide +kernel
theorem dS_13 : decode prog_62_method_3_code 13 = .ok (.bipush 116, 2) := by decide +kernel
theorem dS_15 : decode prog_62_method_3_code 15 = .ok (.if_icmp .ne 7, 3) := by decide +kernel
theorem dS_18 : decode prog_62_method_3_code 18 = .ok (.iconst 1, 1) := by decide +kernel
theorem dS_19 : decode prog_62_method_3_code 19 = .ok (.goto 4, 3) := by decide +kernel
theorem dS_22 : decode prog_62_method_3_code 22 = .ok (.iconst 0, 1) := by decide +kernel
theorem dS_23 : decode prog_62_method_3_code 23 = .ok (.ireturn, 1) := by decide +kernel
theorem efS (m : MethodId) (a : Addr) : entryFrame m #[(.ref a)] 1 = mkF m 0 #[.val (.ref a)] [] := by first | (simp [entryFrame, mkF, argsToLocals, Value.category]; done) | rfl
def QS (Z : State) (a : Addr) (cc : Int32) (h0 : Heap) (n0 : Nat) (v : Option Value) (h : Heap) (L : List Loc) : Prop := v = some (.int (own_stopped cc)) ∧ Fr n0 L ∧ h = h0
set_option maxRecDepth 65536 in
set_option maxHeartbeats 40000000 in
theorem rmS (l : Launch) (Z : State) (a0 : Array Value) (hw : ∀ d ∈ tables_1, d.before a0 Z = true) (ws : List Jvm.Cond) (a : Addr) (cc : Int32) (h0 : Heap) (n0 : Nat) (Z0 : n0 ≤ h0.size) (E_a : Exa Z h0 a "com/example/brava/brava/client/cli/ProcessGroup$Stat") (F_state_a : Fld Z h0 a "com/example/brava/brava/client/cli/ProcessGroup$Stat" "state" "C" (.int cc)) :
    MetFree l (⟨"com/example/brava/brava/client/cli/ProcessGroup$Stat", "stopped", "()Z"⟩ : MethodName) (head1 (Jvm.Cond.code (⟨"com/example/brava/brava/client/cli/ProcessGroup$Stat", "stopped", "()Z"⟩ : MethodName) prog_62_method_3_code 1 (some .boolean) :: ws) ({ frames := 0, cells := 0, slots := 0, locals := 0 } : Room)) (fun av_ U => av_ = #[(.ref a)] ∧ Z.Warmed39 U.vm ∧ U.heap = h0) (fun _ _ _ _ _ => True) (fun _ U o U' => ∃ v L, o = .returned v ∧ QS Z a cc h0 n0 v U'.heap L ∧ FrameEnd U o U' L ({ frames := 0, cells := 0, slots := 0, locals := 0 } : Room).cells ({ frames := 0, cells := 0, slots := 0, locals := 0 } : Room).slots) := by
  refine MetFree.of_bodySF (plainFor_of_name own_pn2) hisR ?_
  intro p e s m args below meth c s₁ Bd hml0 hP hK
  obtain ⟨rfl, hZ, hh⟩ := hP
  have hx := Bd.exec
  have hby := Bd.bytes
  have hml : c.maxLocals = 1 := hml0
  have hown : s.vm.findClass "com/example/brava/brava/client/cli/ProcessGroup$Stat" = some m.cls := findClass_of_methodNamed Bd.named
  have hnm := (name_of_methodNamed Bd.named Bd.method).1
  have X0 : Stand p l e ({ frames := 0, cells := 0, slots := 0, locals := 0 } : Room) s m #[(.ref a)] below meth c s₁ [] 0 0 := Stand.of_body Bd
  have e0 : s₁.heap = h0 := by rw [← hh, Bd.state]; rfl
  have N0 := Fr.nil n0
  have pre0 : ∀ t, Steps p.tables e below (s₁.setTop (mkF m 0 #[.val (.ref a)] [])) t → Steps p.tables e below (s₁.setTop (entryFrame m #[(.ref a)] 1)) t := fun t k => castTop (efS m a) k
  obtain ⟨T1, X1, e1, st1⟩ := getF X0 hx hZ hown (host := "") (Or.inl (hw _ (List.mem_of_getElem? (i := 18) rfl))) Via.refl e0 F_state_a (g := (mkF m 1 #[.val (.ref a)] [(.ref a)])) rfl rfl (hb hby dS_1)
  have r2 : ∀ t, Steps p.tables e below (T1.setTop (mkF m 6 #[.val (.ref a)] [(.int (84 : Int32)), (.int cc)])) t → Steps p.tables e below (s₁.setTop (mkF m 0 #[.val (.ref a)] [])) t := fun t kt => by
    show Steps p.tables e below (s₁.setTop (mkF m 0 #[.val (.ref a)] [])) _
    refine XS.aloadN X0.here hx rfl (hb hby dS_0) rfl rfl ?_
    show Steps p.tables e below (s₁.setTop (mkF m 1 #[.val (.ref a)] [(.ref a)])) _
    refine st1 _ ?_
    show Steps p.tables e below (T1.setTop (mkF m 4 #[.val (.ref a)] [(.int cc)])) _
    refine XS.bipush X1.here hx rfl (hb hby dS_4) ?_
    exact kt
  by_cases hc3 : cc = (84 : Int32)
  · obtain ⟨fs, hr, hrun, hended, hW, hsame⟩ := X1.leave (v := some (.int (1 : Int32))) (fun h => by rw [Bd.returns] at h; cases h)
    refine ⟨_, _, (pre0 _ (r2 _ ?_)), hrun, hended, _, _, rfl, ?_, ⟨_, rfl⟩, hW, hsame.mono (by decide) (by decide)⟩
    · show Steps p.tables e below (T1.setTop (mkF m 6 #[.val (.ref a)] [(.int (84 : Int32)), (.int cc)])) _
      refine XS.icmpYes X1.here hx rfl (pc0 := 6) (pc' := 18) rfl (hb hby dS_6) rfl (teq hc3).1 (by decide) (by decide) ?_
      show Steps p.tables e below (T1.setTop (mkF m 18 #[.val (.ref a)] [])) _
      refine XS.iconst X1.here hx rfl (hb hby dS_18) ?_
      show Steps p.tables e below (T1.setTop (mkF m 19 #[.val (.ref a)] [(.int (1 : Int32))])) _
      refine XS.goto X1.here hx rfl (pc0 := 19) (pc' := 23) rfl (hb hby dS_19) (by decide) (by decide) ?_
      show Steps p.tables e below (T1.setTop (mkF m 23 #[.val (.ref a)] [(.int (1 : Int32))])) _
      exact retN X1 hx (t := .boolean) Bd.returns (by simp) (hb hby dS_23) hr
    · show QS Z a cc h0 n0 _ T1.heap _
      rw [e1]
      exact ⟨(by simp [own_stopped, hc3]), N0, rfl⟩
  · obtain ⟨T4, X4, e4, st4⟩ := getF X1 hx hZ hown (host := "") (Or.inl (hw _ (List.mem_of_getElem? (i := 18) rfl))) Via.refl e1 F_state_a (g := (mkF m 10 #[.val (.ref a)] [(.ref a)])) rfl rfl (hb hby dS_10)
    have r5 : ∀ t, Steps p.tables e below (T4.setTop (mkF m 15 #[.val (.ref a)] [(.int (116 : Int32)), (.int cc)])) t → Steps p.tables e below (T1.setTop (mkF m 6 #[.val (.ref a)] [(.int (84 : Int32)), (.int cc)])) t := fun t kt => by
      show Steps p.tables e below (T1.setTop (mkF m 6 #[.val (.ref a)] [(.int (84 : Int32)), (.int cc)])) _
      refine XS.icmpNo X1.here hx rfl (hb hby dS_6) rfl (feq hc3).1 ?_
      show Steps p.tables e below (T1.setTop (mkF m 9 #[.val (.ref a)] [])) _
      refine XS.aloadN X1.here hx rfl (hb hby dS_9) rfl rfl ?_
      show Steps p.tables e below (T1.setTop (mkF m 10 #[.val (.ref a)] [(.ref a)])) _
      refine st4 _ ?_
      show Steps p.tables e below (T4.setTop (mkF m 13 #[.val (.ref a)] [(.int cc)])) _
      refine XS.bipush X4.here hx rfl (hb hby dS_13) ?_
      exact kt
    by_cases hc6 : cc = (116 : Int32)
    · obtain ⟨fs, hr, hrun, hended, hW, hsame⟩ := X4.leave (v := some (.int (1 : Int32))) (fun h => by rw [Bd.returns] at h; cases h)
      refine ⟨_, _, (pre0 _ (r2 _ (r5 _ ?_))), hrun, hended, _, _, rfl, ?_, ⟨_, rfl⟩, hW, hsame.mono (by decide) (by decide)⟩
      · show Steps p.tables e below (T4.setTop (mkF m 15 #[.val (.ref a)] [(.int (116 : Int32)), (.int cc)])) _
        refine XS.icmpNo X4.here hx rfl (hb hby dS_15) rfl (teq hc6).2 ?_
        show Steps p.tables e below (T4.setTop (mkF m 18 #[.val (.ref a)] [])) _
        refine XS.iconst X4.here hx rfl (hb hby dS_18) ?_
        show Steps p.tables e below (T4.setTop (mkF m 19 #[.val (.ref a)] [(.int (1 : Int32))])) _
        refine XS.goto X4.here hx rfl (pc0 := 19) (pc' := 23) rfl (hb hby dS_19) (by decide) (by decide) ?_
        show Steps p.tables e below (T4.setTop (mkF m 23 #[.val (.ref a)] [(.int (1 : Int32))])) _
        exact retN X4 hx (t := .boolean) Bd.returns (by simp) (hb hby dS_23) hr
      · show QS Z a cc h0 n0 _ T4.heap _
        rw [e4]
        exact ⟨(by simp [own_stopped, hc3, hc6]), N0, rfl⟩
    · obtain ⟨fs, hr, hrun, hended, hW, hsame⟩ := X4.leave (v := some (.int (0 : Int32))) (fun h => by rw [Bd.returns] at h; cases h)
      refine ⟨_, _, (pre0 _ (r2 _ (r5 _ ?_))), hrun, hended, _, _, rfl, ?_, ⟨_, rfl⟩, hW, hsame.mono (by decide) (by decide)⟩
      · show Steps p.tables e below (T4.setTop (mkF m 15 #[.val (.ref a)] [(.int (116 : Int32)), (.int cc)])) _
        refine XS.icmpYes X4.here hx rfl (pc0 := 15) (pc' := 22) rfl (hb hby dS_15) rfl (feq hc6).2 (by decide) (by decide) ?_
        show Steps p.tables e below (T4.setTop (mkF m 22 #[.val (.ref a)] [])) _
        refine XS.iconst X4.here hx rfl (hb hby dS_22) ?_
        show Steps p.tables e below (T4.setTop (mkF m 23 #[.val (.ref a)] [(.int (0 : Int32))])) _
        exact retN X4 hx (t := .boolean) Bd.returns (by simp) (hb hby dS_23) hr
      · show QS Z a cc h0 n0 _ T4.heap _
        rw [e4]
        exact ⟨(by simp [own_stopped, hc3, hc6]), N0, rfl⟩
theorem dT_0 : decode prog_62_method_7_code 0 = .ok (.aload_n 0, 1) := by decide +kernel
theorem dT_1 : decode prog_62_method_7_code 1 = .ok (.getfield 7, 3) := by decide +kernel
theorem dT_4 : decode prog_62_method_7_code 4 = .ok (.ireturn, 1) := by decide +kernel
theorem efT (m : MethodId) (a : Addr) : entryFrame m #[(.ref a)] 1 = mkF m 0 #[.val (.ref a)] [] := by first | (simp [entryFrame, mkF, argsToLocals, Value.category]; done) | rfl
def QT (Z : State) (a : Addr) (cc : Int32) (h0 : Heap) (n0 : Nat) (v : Option Value) (h : Heap) (L : List Loc) : Prop := v = some (.int cc) ∧ Fr n0 L ∧ h = h0
set_option maxRecDepth 65536 in
set_option maxHeartbeats 40000000 in
theorem rmT (l : Launch) (Z : State) (a0 : Array Value) (hw : ∀ d ∈ tables_1, d.before a0 Z = true) (ws : List Jvm.Cond) (a : Addr) (cc : Int32) (h0 : Heap) (n0 : Nat) (Z0 : n0 ≤ h0.size) (E_a : Exa Z h0 a "com/example/brava/brava/client/cli/ProcessGroup$Stat") (F_state_a : Fld Z h0 a "com/example/brava/brava/client/cli/ProcessGroup$Stat" "state" "C" (.int cc)) (hnc : nar .char cc = cc) :
    MetFree l (⟨"com/example/brava/brava/client/cli/ProcessGroup$Stat", "state", "()C"⟩ : MethodName) (head1 (Jvm.Cond.code (⟨"com/example/brava/brava/client/cli/ProcessGroup$Stat", "state", "()C"⟩ : MethodName) prog_62_method_7_code 1 (some .char) :: ws) ({ frames := 0, cells := 0, slots := 0, locals := 0 } : Room)) (fun av_ U => av_ = #[(.ref a)] ∧ Z.Warmed39 U.vm ∧ U.heap = h0) (fun _ _ _ _ _ => True) (fun _ U o U' => ∃ v L, o = .returned v ∧ QT Z a cc h0 n0 v U'.heap L ∧ FrameEnd U o U' L ({ frames := 0, cells := 0, slots := 0, locals := 0 } : Room).cells ({ frames := 0, cells := 0, slots := 0, locals := 0 } : Room).slots) := by
  refine MetFree.of_bodySF (plainFor_of_name own_pn2) hisR ?_
  intro p e s m args below meth c s₁ Bd hml0 hP hK
  obtain ⟨rfl, hZ, hh⟩ := hP
  have hx := Bd.exec
  have hby := Bd.bytes
  have hml : c.maxLocals = 1 := hml0
  have hown : s.vm.findClass "com/example/brava/brava/client/cli/ProcessGroup$Stat" = some m.cls := findClass_of_methodNamed Bd.named
  have hnm := (name_of_methodNamed Bd.named Bd.method).1
  have X0 : Stand p l e ({ frames := 0, cells := 0, slots := 0, locals := 0 } : Room) s m #[(.ref a)] below meth c s₁ [] 0 0 := Stand.of_body Bd
  have e0 : s₁.heap = h0 := by rw [← hh, Bd.state]; rfl
  have N0 := Fr.nil n0
  have pre0 : ∀ t, Steps p.tables e below (s₁.setTop (mkF m 0 #[.val (.ref a)] [])) t → Steps p.tables e below (s₁.setTop (entryFrame m #[(.ref a)] 1)) t := fun t k => castTop (efT m a) k
  obtain ⟨T1, X1, e1, st1⟩ := getF X0 hx hZ hown (host := "") (Or.inl (hw _ (List.mem_of_getElem? (i := 18) rfl))) Via.refl e0 F_state_a (g := (mkF m 1 #[.val (.ref a)] [(.ref a)])) rfl rfl (hb hby dT_1)
  obtain ⟨fs, hr, hrun, hended, hW, hsame⟩ := X1.leave (v := some (.int (nar .char cc))) (fun h => by rw [Bd.returns] at h; cases h)
  refine ⟨_, _, (pre0 _ ?_), hrun, hended, _, _, rfl, ?_, ⟨_, rfl⟩, hW, hsame.mono (by decide) (by decide)⟩
  · show Steps p.tables e below (s₁.setTop (mkF m 0 #[.val (.ref a)] [])) _
    refine XS.aloadN X0.here hx rfl (hb hby dT_0) rfl rfl ?_
    show Steps p.tables e below (s₁.setTop (mkF m 1 #[.val (.ref a)] [(.ref a)])) _
    refine st1 _ ?_
    show Steps p.tables e below (T1.setTop (mkF m 4 #[.val (.ref a)] [(.int cc)])) _
    exact retN X1 hx (t := .char) Bd.returns (by simp) (hb hby dT_4) hr
  · show QT Z a cc h0 n0 _ T1.heap _
    rw [e1]
    exact ⟨(congrArg (fun w => some (Value.int w)) hnc), N0, rfl⟩
theorem dG_0 : decode prog_62_method_8_code 0 = .ok (.aload_n 0, 1) := by decide +kernel
theorem dG_1 : decode prog_62_method_8_code 1 = .ok (.getfield 13, 3) := by decide +kernel
theorem dG_4 : decode prog_62_method_8_code 4 = .ok (.lreturn, 1) := by decide +kernel
theorem efG (m : MethodId) (a : Addr) : entryFrame m #[(.ref a)] 1 = mkF m 0 #[.val (.ref a)] [] := by first | (simp [entryFrame, mkF, argsToLocals, Value.category]; done) | rfl
def QG (Z : State) (a : Addr) (gg : Int64) (h0 : Heap) (n0 : Nat) (v : Option Value) (h : Heap) (L : List Loc) : Prop := v = some (.long gg) ∧ Fr n0 L ∧ h = h0
set_option maxRecDepth 65536 in
set_option maxHeartbeats 40000000 in
theorem rmG (l : Launch) (Z : State) (a0 : Array Value) (hw : ∀ d ∈ tables_1, d.before a0 Z = true) (ws : List Jvm.Cond) (a : Addr) (gg : Int64) (h0 : Heap) (n0 : Nat) (Z0 : n0 ≤ h0.size) (E_a : Exa Z h0 a "com/example/brava/brava/client/cli/ProcessGroup$Stat") (F_group_a : Fld Z h0 a "com/example/brava/brava/client/cli/ProcessGroup$Stat" "group" "J" (.long gg)) :
    MetFree l (⟨"com/example/brava/brava/client/cli/ProcessGroup$Stat", "group", "()J"⟩ : MethodName) (head1 (Jvm.Cond.code (⟨"com/example/brava/brava/client/cli/ProcessGroup$Stat", "group", "()J"⟩ : MethodName) prog_62_method_8_code 1 (some .long) :: ws) ({ frames := 0, cells := 0, slots := 0, locals := 0 } : Room)) (fun av_ U => av_ = #[(.ref a)] ∧ Z.Warmed39 U.vm ∧ U.heap = h0) (fun _ _ _ _ _ => True) (fun _ U o U' => ∃ v L, o = .returned v ∧ QG Z a gg h0 n0 v U'.heap L ∧ FrameEnd U o U' L ({ frames := 0, cells := 0, slots := 0, locals := 0 } : Room).cells ({ frames := 0, cells := 0, slots := 0, locals := 0 } : Room).slots) := by
  refine MetFree.of_bodySF (plainFor_of_name own_pn2) hisR ?_
  intro p e s m args below meth c s₁ Bd hml0 hP hK
  obtain ⟨rfl, hZ, hh⟩ := hP
  have hx := Bd.exec
  have hby := Bd.bytes
  have hml : c.maxLocals = 1 := hml0
  have hown : s.vm.findClass "com/example/brava/brava/client/cli/ProcessGroup$Stat" = some m.cls := findClass_of_methodNamed Bd.named
  have hnm := (name_of_methodNamed Bd.named Bd.method).1
  have X0 : Stand p l e ({ frames := 0, cells := 0, slots := 0, locals := 0 } : Room) s m #[(.ref a)] below meth c s₁ [] 0 0 := Stand.of_body Bd
  have e0 : s₁.heap = h0 := by rw [← hh, Bd.state]; rfl
  have N0 := Fr.nil n0
  have pre0 : ∀ t, Steps p.tables e below (s₁.setTop (mkF m 0 #[.val (.ref a)] [])) t → Steps p.tables e below (s₁.setTop (entryFrame m #[(.ref a)] 1)) t := fun t k => castTop (efG m a) k
  obtain ⟨T1, X1, e1, st1⟩ := getF X0 hx hZ hown (host := "") (Or.inl (hw _ (List.mem_of_getElem? (i := 20) rfl))) Via.refl e0 F_group_a (g := (mkF m 1 #[.val (.ref a)] [(.ref a)])) rfl rfl (hb hby dG_1)
  obtain ⟨fs, hr, hrun, hended, hW, hsame⟩ := X1.leave (v := some (.long gg)) (fun h => by rw [Bd.returns] at h; cases h)
  refine ⟨_, _, (pre0 _ ?_), hrun, hended, _, _, rfl, ?_, ⟨_, rfl⟩, hW, hsame.mono (by decide) (by decide)⟩
  · show Steps p.tables e below (s₁.setTop (mkF m 0 #[.val (.ref a)] [])) _
    refine XS.aloadN X0.here hx rfl (hb hby dG_0) rfl rfl ?_
    show Steps p.tables e below (s₁.setTop (mkF m 1 #[.val (.ref a)] [(.ref a)])) _
    refine st1 _ ?_
    show Steps p.tables e below (T1.setTop (mkF m 4 #[.val (.ref a)] [(.long gg)])) _
    jvm_step X1.here [X1.here.top, hx, (hb hby dG_4), X1.method', Bd.returns, narrow]
    first | (intro acts; rw [hr _ acts rfl rfl rfl]) | rw [hr _ _ rfl rfl rfl]
    exact Steps.refl _
  · show QG Z a gg h0 n0 _ T1.heap _
    rw [e1]
    exact ⟨rfl, N0, rfl⟩
theorem own_pd1 : parseMethodDescriptor "(II)C" = some ⟨[.int, .int], some .char⟩ := by decide +kernel
theorem own_pd2 : parseMethodDescriptor "(CJ)V" = some ⟨[.char, .long], none⟩ := by decide +kernel
theorem own_pd3 : parseMethodDescriptor "()Z" = some ⟨[], some .boolean⟩ := by decide +kernel
theorem own_pd4 : parseMethodDescriptor "()C" = some ⟨[], some .char⟩ := by decide +kernel
theorem own_pd5 : parseMethodDescriptor "()J" = some ⟨[], some .long⟩ := by decide +kernel
theorem efL (m : MethodId) (mo : Int32) (sv : Int32) (gg : Int64) : entryFrame m #[(.int mo), (.int sv), (.long gg)] maxLocals = mkF m 0 #[.val (.int mo), .val (.int sv), .val (.long gg), .second, .unset, .unset, .unset, .unset] [] := by first | (simp [entryFrame, mkF, argsToLocals, Value.category, maxLocals]; done) | rfl
def QL (Z : State) (mo : Int32) (sv : Int32) (gg : Int64) (h0 : Heap) (n0 : Nat) (v : Option Value) (h : Heap) (L : List Loc) : Prop := v = some (.int 1) ∧ Fr n0 L
set_option maxRecDepth 65536 in
set_option maxHeartbeats 40000000 in
theorem rmL (l : Launch) (Z : State) (a0 : Array Value) (hw : ∀ d ∈ tables_1, d.before a0 Z = true) (ws : List Jvm.Cond) (mo : Int32) (sv : Int32) (gg : Int64) (h0 : Heap) (n0 : Nat) (Z0 : n0 ≤ h0.size) :
    MetFree l x (head1 (Jvm.Cond.code x code maxLocals ret :: ws) room_1) (fun av_ U => av_ = #[(.int mo), (.int sv), (.long gg)] ∧ Z.Warmed39 U.vm ∧ U.heap = h0) (fun _ _ _ _ _ => True) (fun _ U o U' => ∃ v L, o = .returned v ∧ QL Z mo sv gg h0 n0 v U'.heap L ∧ FrameEnd U o U' L room_1.cells room_1.slots) := by
  refine MetFree.of_bodySF (plainFor_of_name own_pn0) hisR ?_
  intro p e s m args below meth c s₁ Bd hml0 hP hK
  obtain ⟨rfl, hZ, hh⟩ := hP
  have hx := Bd.exec
  have hby := Bd.bytes
  have hml : c.maxLocals = 8 := hml0
  have hown : s.vm.findClass "com/example/brava/brava/client/cli/StatEndedPinLaw" = some m.cls := findClass_of_methodNamed Bd.named
  have hnm := (name_of_methodNamed Bd.named Bd.method).1
  have X0 : Stand p l e room_1 s m #[(.int mo), (.int sv), (.long gg)] below meth c s₁ [] 0 0 := Stand.of_body Bd
  have e0 : s₁.heap = h0 := by rw [← hh, Bd.state]; rfl
  have N0 := Fr.nil n0
  have pre0 : ∀ t, Steps p.tables e below (s₁.setTop (mkF m 0 #[.val (.int mo), .val (.int sv), .val (.long gg), .second, .unset, .unset, .unset, .unset] [])) t → Steps p.tables e below (s₁.setTop (entryFrame m #[(.int mo), (.int sv), (.long gg)] maxLocals)) t := fun t k => castTop (efL m mo sv gg) k
  obtain ⟨_, _, ⟨T1, L1, k1, n1⟩, -, X1, ⟨Lc1, hQ1, l1, y1, z1⟩, st1⟩ := Jvm.LawKit.callS X0 hx (y := (⟨"com/example/brava/brava/client/cli/StatEndedPinLaw", "pick", "(II)C"⟩ : MethodName)) hown (mvT hZ (hw _ (List.mem_of_getElem? (i := 0) rfl))) (mvT hZ (hw _ (List.mem_of_getElem? (i := 1) rfl))) (mvT hZ (hw _ (List.mem_of_getElem? (i := 2) rfl))) (mvT hZ (hw _ (List.mem_of_getElem? (i := 3) rfl))) (by decide) (backOf (W := 0) (rmP l Z a0 hw [] (mo &&& (7 : Int32)) sv h0 n0 Z0 ) hZ (hw _ (List.mem_of_getElem? (i := 3) rfl)) (hw _ (List.mem_of_getElem? (i := 2) rfl)) (by decide) (by decide)) (g := (mkF m 5 #[.val (.int mo), .val (.int sv), .val (.long gg), .second, .unset, .unset, .unset, .unset] [(.int sv), (.int (mo &&& (7 : Int32)))])) rfl (by rw [hml]; rfl) (argsL := [(.int (mo &&& (7 : Int32))), (.int sv)]) (rest := []) (lenOf own_pd1 rfl) rfl (by show 2 * 0 + _ ≤ _; exact Nat.le_of_eq rfl) (hb hby at_5) (fun _ _ => ⟨rfl, e0, (by decide : 0 + 0 ≤ _), (by decide : 0 + 0 ≤ _)⟩)
  dsimp only [Pt.U, Pt.locs, Pt.cells, Pt.slots] at X1 l1 y1 z1 st1 hQ1
  subst l1 y1 z1
  obtain ⟨rfl, Nq1, e1⟩ := hQ1
  have N1 := Fr.app N0 Nq1
  have r2 : ∀ t, Steps p.tables e below (T1.setTop (mkF m 10 #[.val (.int mo), .val (.int sv), .val (.long gg), .second, .val (.int (own_pick (mo &&& (7 : Int32)) sv)), .unset, .unset, .unset] [])) t → Steps p.tables e below (s₁.setTop (mkF m 0 #[.val (.int mo), .val (.int sv), .val (.long gg), .second, .unset, .unset, .unset, .unset] [])) t := fun t kt => by
    show Steps p.tables e below (s₁.setTop (mkF m 0 #[.val (.int mo), .val (.int sv), .val (.long gg), .second, .unset, .unset, .unset, .unset] [])) _
    refine XS.iloadN X0.here hx rfl (hb hby at_0) rfl ?_
    show Steps p.tables e below (s₁.setTop (mkF m 1 #[.val (.int mo), .val (.int sv), .val (.long gg), .second, .unset, .unset, .unset, .unset] [(.int mo)])) _
    refine XS.bipush X0.here hx rfl (hb hby at_1) ?_
    show Steps p.tables e below (s₁.setTop (mkF m 3 #[.val (.int mo), .val (.int sv), .val (.long gg), .second, .unset, .unset, .unset, .unset] [(.int (7 : Int32)), (.int mo)])) _
    refine XS.iand X0.here hx rfl (hb hby at_3) rfl ?_
    show Steps p.tables e below (s₁.setTop (mkF m 4 #[.val (.int mo), .val (.int sv), .val (.long gg), .second, .unset, .unset, .unset, .unset] [(.int (mo &&& (7 : Int32)))])) _
    refine XS.iloadN X0.here hx rfl (hb hby at_4) rfl ?_
    show Steps p.tables e below (s₁.setTop (mkF m 5 #[.val (.int mo), .val (.int sv), .val (.long gg), .second, .unset, .unset, .unset, .unset] [(.int sv), (.int (mo &&& (7 : Int32)))])) _
    refine st1 _ ?_
    show Steps p.tables e below (T1.setTop (mkF m 8 #[.val (.int mo), .val (.int sv), .val (.long gg), .second, .unset, .unset, .unset, .unset] [(.int (own_pick (mo &&& (7 : Int32)) sv))])) _
    refine XS.istore X1.here hx rfl (hb hby at_8) rfl (l' := #[.val (.int mo), .val (.int sv), .val (.long gg), .second, .val (.int (own_pick (mo &&& (7 : Int32)) sv)), .unset, .unset, .unset]) rfl ?_
    exact kt
  obtain ⟨cc, hcc⟩ : ∃ zz : Int32, zz = (own_pick (mo &&& (7 : Int32)) sv) := ⟨_, rfl⟩
  have r3 : ∀ t, Steps p.tables e below (T1.setTop (mkF m 10 #[.val (.int mo), .val (.int sv), .val (.long gg), .second, .val (.int cc), .unset, .unset, .unset] [])) t → Steps p.tables e below (T1.setTop (mkF m 10 #[.val (.int mo), .val (.int sv), .val (.long gg), .second, .val (.int (own_pick (mo &&& (7 : Int32)) sv)), .unset, .unset, .unset] [])) t := fun t kt => by
    subst hcc
    exact kt
  obtain ⟨T4, h4, X4, e4, E4, A4, D4, -, st4⟩ := newO X1 hx hZ hown (hw _ (List.mem_of_getElem? (i := 4) rfl)) (hw _ (List.mem_of_getElem? (i := 5) rfl)) (hw _ (List.mem_of_getElem? (i := 6) rfl)) e1 (g := (mkF m 10 #[.val (.int mo), .val (.int sv), .val (.long gg), .second, .val (.int cc), .unset, .unset, .unset] [])) rfl (hb hby at_10) (by decide) (by decide)
  obtain ⟨b4, g4⟩ : ∃ z, z = h0.size := ⟨_, rfl⟩
  rw [← g4] at A4 D4 st4
  have g_b4 : n0 ≤ b4 := Nat.le_trans Z0 (Nat.le_of_eq g4.symm)
  have sz_b4 : h0.size ≤ b4 := Nat.le_trans (Keep.refl h0 []).1 (Nat.le_of_eq g4.symm)
  have K4 : Keep h0 h4 [] := (Keep.refl h0 []).ext E4
  have Zs4 : n0 ≤ h4.size := Nat.le_trans Z0 E4.1
  have F4_state : Fld Z h4 b4 "com/example/brava/brava/client/cli/ProcessGroup$Stat" "state" "C" (.int (0 : Int32)) := D4 (Or.inr (hw _ (List.mem_of_getElem? (i := 19) rfl))) (ty := .char) (by decide)
  have F4_group : Fld Z h4 b4 "com/example/brava/brava/client/cli/ProcessGroup$Stat" "group" "J" (.long (0 : Int64)) := D4 (Or.inr (hw _ (List.mem_of_getElem? (i := 21) rfl))) (ty := .long) (by decide)
  obtain ⟨_, _, ⟨T5, L5, k5, n5⟩, -, X5, ⟨Lc5, hQ5, l5, y5, z5⟩, st5⟩ := X4.specialBack hx (y := (⟨"com/example/brava/brava/client/cli/ProcessGroup$Stat", "<init>", "(CJ)V"⟩ : MethodName)) rfl hown (mvT hZ (hw _ (List.mem_of_getElem? (i := 7) rfl))) (mvT hZ (hw _ (List.mem_of_getElem? (i := 8) rfl))) (mvT hZ (hw _ (List.mem_of_getElem? (i := 9) rfl))) (by decide) (backOf (W := 1) (rmD l Z a0 hw [] b4 cc gg h4 n0 Zs4 A4 F4_state F4_group g_b4 (by rw [hcc]; exact own_pick_nar _ _)) hZ (hw _ (List.mem_of_getElem? (i := 9) rfl)) (hw _ (List.mem_of_getElem? (i := 6) rfl)) (by decide) (by decide)) (g := (mkF m 17 #[.val (.int mo), .val (.int sv), .val (.long gg), .second, .val (.int cc), .unset, .unset, .unset] [(.long gg), (.int cc), (.ref b4), (.ref b4)])) rfl (by rw [hml]; rfl) (Steps.refl _) (a := b4) (argsL := [(.int cc), (.long gg)]) (rest := [(.ref b4)]) (lenOf own_pd2 rfl) rfl (by show 2 * 0 + _ ≤ _; exact Nat.le_of_eq rfl) (hb hby at_17) (fun _ _ => ⟨rfl, e4, (by decide : 1 + 0 ≤ _), (by decide : 2 + 0 ≤ _)⟩)
  dsimp only [Pt.U, Pt.locs, Pt.cells, Pt.slots] at X5 l5 y5 z5 st5 hQ5
  subst l5 y5 z5
  obtain ⟨rfl, Nq5, Kc5, q5_0, q5_1, q5_2⟩ := hQ5
  have K5 : Keep h0 T5.heap [] := Keep.trans K4 Kc5 (allS (Or.inr sz_b4) all0)
  have Zs5 : n0 ≤ T5.heap.size := Nat.le_trans Zs4 Kc5.1
  have N5 := Fr.app N1 Nq5
  obtain ⟨cq6, kq6, q6a, q6b, q6c⟩ := isOf hZ rfl q5_0
  obtain ⟨_, _, ⟨T6, L6, k6, n6⟩, -, X6, ⟨Lc6, hQ6, l6, y6, z6⟩, st6⟩ := X5.virtualBack hx (y := (⟨"com/example/brava/brava/client/cli/ProcessGroup$Stat", "ended", "()Z"⟩ : MethodName)) (z := (⟨"com/example/brava/brava/client/cli/ProcessGroup$Stat", "ended", "()Z"⟩ : MethodName)) hown (mvT hZ (hw _ (List.mem_of_getElem? (i := 22) rfl))) (mvT hZ (hw _ (List.mem_of_getElem? (i := 23) rfl))) (notFace_of_selects (args := #[]) (mvT hZ (hw _ (List.mem_of_getElem? (i := 25) rfl)))) (mvT hZ (hw _ (List.mem_of_getElem? (i := 25) rfl))) (mvT hZ (hw _ (List.mem_of_getElem? (i := 24) rfl))) (by decide) (backOf (W := 0) (rmE l Z a0 hw [] b4 cc T5.heap n0 Zs5 q5_0 q5_1) hZ (hw _ (List.mem_of_getElem? (i := 26) rfl)) (hw _ (List.mem_of_getElem? (i := 6) rfl)) (by decide) (by decide)) q6a q6c (g := (mkF m 24 #[.val (.int mo), .val (.int sv), .val (.long gg), .second, .val (.int cc), .val (.ref b4), .unset, .unset] [(.ref b4)])) rfl (by rw [hml]; rfl) (Steps.refl _) (argsL := []) (rest := []) (lenOf own_pd3 rfl) rfl (by show 2 * 0 + _ ≤ _; exact Nat.le_of_eq rfl) (hb hby at_24) (fun _ _ => ⟨rfl, rfl, (by decide : 1 + 0 ≤ _), (by decide : 2 + 0 ≤ _)⟩)
  dsimp only [Pt.U, Pt.locs, Pt.cells, Pt.slots] at X6 l6 y6 z6 st6 hQ6
  subst l6 y6 z6
  obtain ⟨rfl, Nq6, e6⟩ := hQ6
  have N6 := Fr.app N5 Nq6
  have r7 : ∀ t, Steps p.tables e below (T6.setTop (mkF m 36 #[.val (.int mo), .val (.int sv), .val (.long gg), .second, .val (.int cc), .val (.ref b4), .val (.int (own_ended cc)), .val (.int (0 : Int32))] [(.int (90 : Int32)), (.int cc)])) t → Steps p.tables e below (T1.setTop (mkF m 10 #[.val (.int mo), .val (.int sv), .val (.long gg), .second, .val (.int cc), .unset, .unset, .unset] [])) t := fun t kt => by
    show Steps p.tables e below (T1.setTop (mkF m 10 #[.val (.int mo), .val (.int sv), .val (.long gg), .second, .val (.int cc), .unset, .unset, .unset] [])) _
    refine st4 _ ?_
    show Steps p.tables e below (T4.setTop (mkF m 13 #[.val (.int mo), .val (.int sv), .val (.long gg), .second, .val (.int cc), .unset, .unset, .unset] [(.ref b4)])) _
    refine XS.dup X4.here hx rfl (hb hby at_13) rfl rfl ?_
    show Steps p.tables e below (T4.setTop (mkF m 14 #[.val (.int mo), .val (.int sv), .val (.long gg), .second, .val (.int cc), .unset, .unset, .unset] [(.ref b4), (.ref b4)])) _
    refine XS.iload X4.here hx rfl (hb hby at_14) rfl ?_
    show Steps p.tables e below (T4.setTop (mkF m 16 #[.val (.int mo), .val (.int sv), .val (.long gg), .second, .val (.int cc), .unset, .unset, .unset] [(.int cc), (.ref b4), (.ref b4)])) _
    refine XS.lloadN X4.here hx rfl (hb hby at_16) rfl ?_
    show Steps p.tables e below (T4.setTop (mkF m 17 #[.val (.int mo), .val (.int sv), .val (.long gg), .second, .val (.int cc), .unset, .unset, .unset] [(.long gg), (.int cc), (.ref b4), (.ref b4)])) _
    refine st5.trans ?_
    show Steps p.tables e below (T5.setTop (mkF m 20 #[.val (.int mo), .val (.int sv), .val (.long gg), .second, .val (.int cc), .unset, .unset, .unset] [(.ref b4)])) _
    refine XS.astore X5.here hx rfl (hb hby at_20) rfl rfl (l' := #[.val (.int mo), .val (.int sv), .val (.long gg), .second, .val (.int cc), .val (.ref b4), .unset, .unset]) rfl ?_
    show Steps p.tables e below (T5.setTop (mkF m 22 #[.val (.int mo), .val (.int sv), .val (.long gg), .second, .val (.int cc), .val (.ref b4), .unset, .unset] [])) _
    refine XS.aload X5.here hx rfl (hb hby at_22) rfl rfl ?_
    show Steps p.tables e below (T5.setTop (mkF m 24 #[.val (.int mo), .val (.int sv), .val (.long gg), .second, .val (.int cc), .val (.ref b4), .unset, .unset] [(.ref b4)])) _
    refine st6.trans ?_
    show Steps p.tables e below (T6.setTop (mkF m 27 #[.val (.int mo), .val (.int sv), .val (.long gg), .second, .val (.int cc), .val (.ref b4), .unset, .unset] [(.int (own_ended cc))])) _
    refine XS.istore X6.here hx rfl (hb hby at_27) rfl (l' := #[.val (.int mo), .val (.int sv), .val (.long gg), .second, .val (.int cc), .val (.ref b4), .val (.int (own_ended cc)), .unset]) rfl ?_
    show Steps p.tables e below (T6.setTop (mkF m 29 #[.val (.int mo), .val (.int sv), .val (.long gg), .second, .val (.int cc), .val (.ref b4), .val (.int (own_ended cc)), .unset] [])) _
    refine XS.iconst X6.here hx rfl (hb hby at_29) ?_
    show Steps p.tables e below (T6.setTop (mkF m 30 #[.val (.int mo), .val (.int sv), .val (.long gg), .second, .val (.int cc), .val (.ref b4), .val (.int (own_ended cc)), .unset] [(.int (0 : Int32))])) _
    refine XS.istore X6.here hx rfl (hb hby at_30) rfl (l' := #[.val (.int mo), .val (.int sv), .val (.long gg), .second, .val (.int cc), .val (.ref b4), .val (.int (own_ended cc)), .val (.int (0 : Int32))]) rfl ?_
    show Steps p.tables e below (T6.setTop (mkF m 32 #[.val (.int mo), .val (.int sv), .val (.long gg), .second, .val (.int cc), .val (.ref b4), .val (.int (own_ended cc)), .val (.int (0 : Int32))] [])) _
    refine XS.iload X6.here hx rfl (hb hby at_32) rfl ?_
    show Steps p.tables e below (T6.setTop (mkF m 34 #[.val (.int mo), .val (.int sv), .val (.long gg), .second, .val (.int cc), .val (.ref b4), .val (.int (own_ended cc)), .val (.int (0 : Int32))] [(.int cc)])) _
    refine XS.bipush X6.here hx rfl (hb hby at_34) ?_
    exact kt
  obtain ⟨v11, hv11⟩ : ∃ zz : Int32, zz = (if cc = (90 : Int32) then (1 : Int32) else (if cc = (88 : Int32) then (1 : Int32) else (0 : Int32))) := ⟨_, rfl⟩
  have r8 : ∀ t, Steps p.tables e below (T6.setTop (mkF m 55 #[.val (.int mo), .val (.int sv), .val (.long gg), .second, .val (.int cc), .val (.ref b4), .val (.int (own_ended cc)), .val (.int v11)] [])) t → Steps p.tables e below (T6.setTop (mkF m 36 #[.val (.int mo), .val (.int sv), .val (.long gg), .second, .val (.int cc), .val (.ref b4), .val (.int (own_ended cc)), .val (.int (0 : Int32))] [(.int (90 : Int32)), (.int cc)])) t := fun t kt => by
    rw [hv11] at kt
    by_cases hd9 : cc = (90 : Int32)
    · simp only [if_pos hd9] at kt
      show Steps p.tables e below (T6.setTop (mkF m 36 #[.val (.int mo), .val (.int sv), .val (.long gg), .second, .val (.int cc), .val (.ref b4), .val (.int (own_ended cc)), .val (.int (0 : Int32))] [(.int (90 : Int32)), (.int cc)])) _
      refine XS.icmpNo X6.here hx rfl (hb hby at_36) rfl (teq hd9).2 ?_
      show Steps p.tables e below (T6.setTop (mkF m 39 #[.val (.int mo), .val (.int sv), .val (.long gg), .second, .val (.int cc), .val (.ref b4), .val (.int (own_ended cc)), .val (.int (0 : Int32))] [])) _
      refine XS.iconst X6.here hx rfl (hb hby at_39) ?_
      show Steps p.tables e below (T6.setTop (mkF m 40 #[.val (.int mo), .val (.int sv), .val (.long gg), .second, .val (.int cc), .val (.ref b4), .val (.int (own_ended cc)), .val (.int (0 : Int32))] [(.int (1 : Int32))])) _
      refine XS.istore X6.here hx rfl (hb hby at_40) rfl (l' := #[.val (.int mo), .val (.int sv), .val (.long gg), .second, .val (.int cc), .val (.ref b4), .val (.int (own_ended cc)), .val (.int (1 : Int32))]) rfl ?_
      show Steps p.tables e below (T6.setTop (mkF m 42 #[.val (.int mo), .val (.int sv), .val (.long gg), .second, .val (.int cc), .val (.ref b4), .val (.int (own_ended cc)), .val (.int (1 : Int32))] [])) _
      refine XS.goto X6.here hx rfl (pc0 := 42) (pc' := 55) rfl (hb hby at_42) (by decide) (by decide) ?_
      exact kt
    · simp only [if_neg hd9] at kt
      by_cases hd10 : cc = (88 : Int32)
      · simp only [if_pos hd10] at kt
        show Steps p.tables e below (T6.setTop (mkF m 36 #[.val (.int mo), .val (.int sv), .val (.long gg), .second, .val (.int cc), .val (.ref b4), .val (.int (own_ended cc)), .val (.int (0 : Int32))] [(.int (90 : Int32)), (.int cc)])) _
        refine XS.icmpYes X6.here hx rfl (pc0 := 36) (pc' := 45) rfl (hb hby at_36) rfl (feq hd9).2 (by decide) (by decide) ?_
        show Steps p.tables e below (T6.setTop (mkF m 45 #[.val (.int mo), .val (.int sv), .val (.long gg), .second, .val (.int cc), .val (.ref b4), .val (.int (own_ended cc)), .val (.int (0 : Int32))] [])) _
        refine XS.iload X6.here hx rfl (hb hby at_45) rfl ?_
        show Steps p.tables e below (T6.setTop (mkF m 47 #[.val (.int mo), .val (.int sv), .val (.long gg), .second, .val (.int cc), .val (.ref b4), .val (.int (own_ended cc)), .val (.int (0 : Int32))] [(.int cc)])) _
        refine XS.bipush X6.here hx rfl (hb hby at_47) ?_
        show Steps p.tables e below (T6.setTop (mkF m 49 #[.val (.int mo), .val (.int sv), .val (.long gg), .second, .val (.int cc), .val (.ref b4), .val (.int (own_ended cc)), .val (.int (0 : Int32))] [(.int (88 : Int32)), (.int cc)])) _
        refine XS.icmpNo X6.here hx rfl (hb hby at_49) rfl (teq hd10).2 ?_
        show Steps p.tables e below (T6.setTop (mkF m 52 #[.val (.int mo), .val (.int sv), .val (.long gg), .second, .val (.int cc), .val (.ref b4), .val (.int (own_ended cc)), .val (.int (0 : Int32))] [])) _
        refine XS.iconst X6.here hx rfl (hb hby at_52) ?_
        show Steps p.tables e below (T6.setTop (mkF m 53 #[.val (.int mo), .val (.int sv), .val (.long gg), .second, .val (.int cc), .val (.ref b4), .val (.int (own_ended cc)), .val (.int (0 : Int32))] [(.int (1 : Int32))])) _
        refine XS.istore X6.here hx rfl (hb hby at_53) rfl (l' := #[.val (.int mo), .val (.int sv), .val (.long gg), .second, .val (.int cc), .val (.ref b4), .val (.int (own_ended cc)), .val (.int (1 : Int32))]) rfl ?_
        exact kt
      · simp only [if_neg hd10] at kt
        show Steps p.tables e below (T6.setTop (mkF m 36 #[.val (.int mo), .val (.int sv), .val (.long gg), .second, .val (.int cc), .val (.ref b4), .val (.int (own_ended cc)), .val (.int (0 : Int32))] [(.int (90 : Int32)), (.int cc)])) _
        refine XS.icmpYes X6.here hx rfl (pc0 := 36) (pc' := 45) rfl (hb hby at_36) rfl (feq hd9).2 (by decide) (by decide) ?_
        show Steps p.tables e below (T6.setTop (mkF m 45 #[.val (.int mo), .val (.int sv), .val (.long gg), .second, .val (.int cc), .val (.ref b4), .val (.int (own_ended cc)), .val (.int (0 : Int32))] [])) _
        refine XS.iload X6.here hx rfl (hb hby at_45) rfl ?_
        show Steps p.tables e below (T6.setTop (mkF m 47 #[.val (.int mo), .val (.int sv), .val (.long gg), .second, .val (.int cc), .val (.ref b4), .val (.int (own_ended cc)), .val (.int (0 : Int32))] [(.int cc)])) _
        refine XS.bipush X6.here hx rfl (hb hby at_47) ?_
        show Steps p.tables e below (T6.setTop (mkF m 49 #[.val (.int mo), .val (.int sv), .val (.long gg), .second, .val (.int cc), .val (.ref b4), .val (.int (own_ended cc)), .val (.int (0 : Int32))] [(.int (88 : Int32)), (.int cc)])) _
        refine XS.icmpYes X6.here hx rfl (pc0 := 49) (pc' := 55) rfl (hb hby at_49) rfl (feq hd10).2 (by decide) (by decide) ?_
        exact kt
  have r12 : ∀ t, Steps p.tables e below (T6.setTop (mkF m 66 #[.val (.int mo), .val (.int sv), .val (.long gg), .second, .val (.int cc), .val (.ref b4), .val (.int (own_ended cc)), .val (.int v11)] [(.int (own_ended cc))])) t → Steps p.tables e below (T6.setTop (mkF m 55 #[.val (.int mo), .val (.int sv), .val (.long gg), .second, .val (.int cc), .val (.ref b4), .val (.int (own_ended cc)), .val (.int v11)] [])) t := fun t kt => by
    show Steps p.tables e below (T6.setTop (mkF m 55 #[.val (.int mo), .val (.int sv), .val (.long gg), .second, .val (.int cc), .val (.ref b4), .val (.int (own_ended cc)), .val (.int v11)] [])) _
    refine XS.iload X6.here hx rfl (hb hby at_55) rfl ?_
    show Steps p.tables e below (T6.setTop (mkF m 57 #[.val (.int mo), .val (.int sv), .val (.long gg), .second, .val (.int cc), .val (.ref b4), .val (.int (own_ended cc)), .val (.int v11)] [(.int (own_ended cc))])) _
    refine XS.iload X6.here hx rfl (hb hby at_57) rfl ?_
    show Steps p.tables e below (T6.setTop (mkF m 59 #[.val (.int mo), .val (.int sv), .val (.long gg), .second, .val (.int cc), .val (.ref b4), .val (.int (own_ended cc)), .val (.int v11)] [(.int v11), (.int (own_ended cc))])) _
    refine XS.icmpYes X6.here hx rfl (pc0 := 59) (pc' := 64) rfl (hb hby at_59) rfl (teq (by rw [hv11]; rfl)).1 (by decide) (by decide) ?_
    show Steps p.tables e below (T6.setTop (mkF m 64 #[.val (.int mo), .val (.int sv), .val (.long gg), .second, .val (.int cc), .val (.ref b4), .val (.int (own_ended cc)), .val (.int v11)] [])) _
    refine XS.iload X6.here hx rfl (hb hby at_64) rfl ?_
    exact kt
  by_cases hc13 : (own_ended cc) = (0 : Int32)
  · obtain ⟨cq14, kq14, q14a, q14b, q14c⟩ := isOf hZ e6 q5_0
    obtain ⟨_, _, ⟨T14, L14, k14, n14⟩, -, X14, ⟨Lc14, hQ14, l14, y14, z14⟩, st14⟩ := X6.virtualBack hx (y := (⟨"com/example/brava/brava/client/cli/ProcessGroup$Stat", "state", "()C"⟩ : MethodName)) (z := (⟨"com/example/brava/brava/client/cli/ProcessGroup$Stat", "state", "()C"⟩ : MethodName)) hown (mvT hZ (hw _ (List.mem_of_getElem? (i := 32) rfl))) (mvT hZ (hw _ (List.mem_of_getElem? (i := 33) rfl))) (notFace_of_selects (args := #[]) (mvT hZ (hw _ (List.mem_of_getElem? (i := 35) rfl)))) (mvT hZ (hw _ (List.mem_of_getElem? (i := 35) rfl))) (mvT hZ (hw _ (List.mem_of_getElem? (i := 34) rfl))) (by decide) (backOf (W := 0) (rmT l Z a0 hw [] b4 cc T5.heap n0 Zs5 q5_0 q5_1 (by rw [hcc]; exact own_pick_nar _ _)) hZ (hw _ (List.mem_of_getElem? (i := 36) rfl)) (hw _ (List.mem_of_getElem? (i := 6) rfl)) (by decide) (by decide)) q14a q14c (g := (mkF m 81 #[.val (.int mo), .val (.int sv), .val (.long gg), .second, .val (.int cc), .val (.ref b4), .val (.int (own_ended cc)), .val (.int v11)] [(.ref b4)])) rfl (by rw [hml]; rfl) (Steps.refl _) (argsL := []) (rest := []) (lenOf own_pd4 rfl) rfl (by show 2 * 0 + _ ≤ _; exact Nat.le_of_eq rfl) (hb hby at_81) (fun _ _ => ⟨rfl, e6, (by decide : 1 + 0 ≤ _), (by decide : 2 + 0 ≤ _)⟩)
    dsimp only [Pt.U, Pt.locs, Pt.cells, Pt.slots] at X14 l14 y14 z14 st14 hQ14
    subst l14 y14 z14
    obtain ⟨rfl, Nq14, e14⟩ := hQ14
    have N14 := Fr.app N6 Nq14
    obtain ⟨cq15, kq15, q15a, q15b, q15c⟩ := isOf hZ e14 q5_0
    obtain ⟨_, _, ⟨T15, L15, k15, n15⟩, -, X15, ⟨Lc15, hQ15, l15, y15, z15⟩, st15⟩ := X14.virtualBack hx (y := (⟨"com/example/brava/brava/client/cli/ProcessGroup$Stat", "group", "()J"⟩ : MethodName)) (z := (⟨"com/example/brava/brava/client/cli/ProcessGroup$Stat", "group", "()J"⟩ : MethodName)) hown (mvT hZ (hw _ (List.mem_of_getElem? (i := 37) rfl))) (mvT hZ (hw _ (List.mem_of_getElem? (i := 38) rfl))) (notFace_of_selects (args := #[]) (mvT hZ (hw _ (List.mem_of_getElem? (i := 40) rfl)))) (mvT hZ (hw _ (List.mem_of_getElem? (i := 40) rfl))) (mvT hZ (hw _ (List.mem_of_getElem? (i := 39) rfl))) (by decide) (backOf (W := 0) (rmG l Z a0 hw [] b4 gg T5.heap n0 Zs5 q5_0 q5_2) hZ (hw _ (List.mem_of_getElem? (i := 41) rfl)) (hw _ (List.mem_of_getElem? (i := 6) rfl)) (by decide) (by decide)) q15a q15c (g := (mkF m 91 #[.val (.int mo), .val (.int sv), .val (.long gg), .second, .val (.int cc), .val (.ref b4), .val (.int (own_ended cc)), .val (.int v11)] [(.ref b4)])) rfl (by rw [hml]; rfl) (Steps.refl _) (argsL := []) (rest := []) (lenOf own_pd5 rfl) rfl (by show 2 * 0 + _ ≤ _; exact Nat.le_of_eq rfl) (hb hby at_91) (fun _ _ => ⟨rfl, e14, (by decide : 1 + 0 ≤ _), (by decide : 2 + 0 ≤ _)⟩)
    dsimp only [Pt.U, Pt.locs, Pt.cells, Pt.slots] at X15 l15 y15 z15 st15 hQ15
    subst l15 y15 z15
    obtain ⟨rfl, Nq15, e15⟩ := hQ15
    have N15 := Fr.app N14 Nq15
    obtain ⟨fs, hr, hrun, hended, hW, hsame⟩ := X15.leave (v := some (.int (1 : Int32))) (fun h => by rw [Bd.returns] at h; cases h)
    refine ⟨_, _, (pre0 _ (r2 _ (r3 _ (r7 _ (r8 _ (r12 _ ?_)))))), hrun, hended, _, _, rfl, ?_, ⟨_, rfl⟩, hW, hsame.mono (by decide) (by decide)⟩
    · show Steps p.tables e below (T6.setTop (mkF m 66 #[.val (.int mo), .val (.int sv), .val (.long gg), .second, .val (.int cc), .val (.ref b4), .val (.int (own_ended cc)), .val (.int v11)] [(.int (own_ended cc))])) _
      refine XS.ifYes X6.here hx rfl (pc0 := 66) (pc' := 79) rfl (hb hby at_66) rfl ((if0 _ _).trans (teq hc13).1) (by decide) (by decide) ?_
      show Steps p.tables e below (T6.setTop (mkF m 79 #[.val (.int mo), .val (.int sv), .val (.long gg), .second, .val (.int cc), .val (.ref b4), .val (.int (own_ended cc)), .val (.int v11)] [])) _
      refine XS.aload X6.here hx rfl (hb hby at_79) rfl rfl ?_
      show Steps p.tables e below (T6.setTop (mkF m 81 #[.val (.int mo), .val (.int sv), .val (.long gg), .second, .val (.int cc), .val (.ref b4), .val (.int (own_ended cc)), .val (.int v11)] [(.ref b4)])) _
      refine st14.trans ?_
      show Steps p.tables e below (T14.setTop (mkF m 84 #[.val (.int mo), .val (.int sv), .val (.long gg), .second, .val (.int cc), .val (.ref b4), .val (.int (own_ended cc)), .val (.int v11)] [(.int cc)])) _
      refine XS.iload X14.here hx rfl (hb hby at_84) rfl ?_
      show Steps p.tables e below (T14.setTop (mkF m 86 #[.val (.int mo), .val (.int sv), .val (.long gg), .second, .val (.int cc), .val (.ref b4), .val (.int (own_ended cc)), .val (.int v11)] [(.int cc), (.int cc)])) _
      refine XS.icmpNo X14.here hx rfl (hb hby at_86) rfl (teq (rfl : cc = cc)).2 ?_
      show Steps p.tables e below (T14.setTop (mkF m 89 #[.val (.int mo), .val (.int sv), .val (.long gg), .second, .val (.int cc), .val (.ref b4), .val (.int (own_ended cc)), .val (.int v11)] [])) _
      refine XS.aload X14.here hx rfl (hb hby at_89) rfl rfl ?_
      show Steps p.tables e below (T14.setTop (mkF m 91 #[.val (.int mo), .val (.int sv), .val (.long gg), .second, .val (.int cc), .val (.ref b4), .val (.int (own_ended cc)), .val (.int v11)] [(.ref b4)])) _
      refine st15.trans ?_
      show Steps p.tables e below (T15.setTop (mkF m 94 #[.val (.int mo), .val (.int sv), .val (.long gg), .second, .val (.int cc), .val (.ref b4), .val (.int (own_ended cc)), .val (.int v11)] [(.long gg)])) _
      refine XS.lloadN X15.here hx rfl (hb hby at_94) rfl ?_
      show Steps p.tables e below (T15.setTop (mkF m 95 #[.val (.int mo), .val (.int sv), .val (.long gg), .second, .val (.int cc), .val (.ref b4), .val (.int (own_ended cc)), .val (.int v11)] [(.long gg), (.long gg)])) _
      refine XS.lcmp X15.here hx rfl (hb hby at_95) rfl ?_
      show Steps p.tables e below (T15.setTop (mkF m 96 #[.val (.int mo), .val (.int sv), .val (.long gg), .second, .val (.int cc), .val (.ref b4), .val (.int (own_ended cc)), .val (.int v11)] [(.int (lcmpW gg gg))])) _
      refine XS.ifNo X15.here hx rfl (hb hby at_96) rfl ((if0 _ _).trans (teq ((lw_eq _ _).mpr (rfl : gg = gg))).2) ?_
      show Steps p.tables e below (T15.setTop (mkF m 99 #[.val (.int mo), .val (.int sv), .val (.long gg), .second, .val (.int cc), .val (.ref b4), .val (.int (own_ended cc)), .val (.int v11)] [])) _
      refine XS.iconst X15.here hx rfl (hb hby at_99) ?_
      show Steps p.tables e below (T15.setTop (mkF m 100 #[.val (.int mo), .val (.int sv), .val (.long gg), .second, .val (.int cc), .val (.ref b4), .val (.int (own_ended cc)), .val (.int v11)] [(.int (1 : Int32))])) _
      refine XS.goto X15.here hx rfl (pc0 := 100) (pc' := 104) rfl (hb hby at_100) (by decide) (by decide) ?_
      show Steps p.tables e below (T15.setTop (mkF m 104 #[.val (.int mo), .val (.int sv), .val (.long gg), .second, .val (.int cc), .val (.ref b4), .val (.int (own_ended cc)), .val (.int v11)] [(.int (1 : Int32))])) _
      exact retN X15 hx (t := .boolean) Bd.returns (by simp) (hb hby at_104) hr
    · show QL Z mo sv gg h0 n0 _ T15.heap _
      rw [e15]
      exact ⟨rfl, N15⟩
  · obtain ⟨cq16, kq16, q16a, q16b, q16c⟩ := isOf hZ e6 q5_0
    obtain ⟨_, _, ⟨T16, L16, k16, n16⟩, -, X16, ⟨Lc16, hQ16, l16, y16, z16⟩, st16⟩ := X6.virtualBack hx (y := (⟨"com/example/brava/brava/client/cli/ProcessGroup$Stat", "stopped", "()Z"⟩ : MethodName)) (z := (⟨"com/example/brava/brava/client/cli/ProcessGroup$Stat", "stopped", "()Z"⟩ : MethodName)) hown (mvT hZ (hw _ (List.mem_of_getElem? (i := 27) rfl))) (mvT hZ (hw _ (List.mem_of_getElem? (i := 28) rfl))) (notFace_of_selects (args := #[]) (mvT hZ (hw _ (List.mem_of_getElem? (i := 30) rfl)))) (mvT hZ (hw _ (List.mem_of_getElem? (i := 30) rfl))) (mvT hZ (hw _ (List.mem_of_getElem? (i := 29) rfl))) (by decide) (backOf (W := 0) (rmS l Z a0 hw [] b4 cc T5.heap n0 Zs5 q5_0 q5_1) hZ (hw _ (List.mem_of_getElem? (i := 31) rfl)) (hw _ (List.mem_of_getElem? (i := 6) rfl)) (by decide) (by decide)) q16a q16c (g := (mkF m 71 #[.val (.int mo), .val (.int sv), .val (.long gg), .second, .val (.int cc), .val (.ref b4), .val (.int (own_ended cc)), .val (.int v11)] [(.ref b4)])) rfl (by rw [hml]; rfl) (Steps.refl _) (argsL := []) (rest := []) (lenOf own_pd3 rfl) rfl (by show 2 * 0 + _ ≤ _; exact Nat.le_of_eq rfl) (hb hby at_71) (fun _ _ => ⟨rfl, e6, (by decide : 1 + 0 ≤ _), (by decide : 2 + 0 ≤ _)⟩)
    dsimp only [Pt.U, Pt.locs, Pt.cells, Pt.slots] at X16 l16 y16 z16 st16 hQ16
    subst l16 y16 z16
    obtain ⟨rfl, Nq16, e16⟩ := hQ16
    have N16 := Fr.app N6 Nq16
    obtain ⟨cq17, kq17, q17a, q17b, q17c⟩ := isOf hZ e16 q5_0
    obtain ⟨_, _, ⟨T17, L17, k17, n17⟩, -, X17, ⟨Lc17, hQ17, l17, y17, z17⟩, st17⟩ := X16.virtualBack hx (y := (⟨"com/example/brava/brava/client/cli/ProcessGroup$Stat", "state", "()C"⟩ : MethodName)) (z := (⟨"com/example/brava/brava/client/cli/ProcessGroup$Stat", "state", "()C"⟩ : MethodName)) hown (mvT hZ (hw _ (List.mem_of_getElem? (i := 32) rfl))) (mvT hZ (hw _ (List.mem_of_getElem? (i := 33) rfl))) (notFace_of_selects (args := #[]) (mvT hZ (hw _ (List.mem_of_getElem? (i := 35) rfl)))) (mvT hZ (hw _ (List.mem_of_getElem? (i := 35) rfl))) (mvT hZ (hw _ (List.mem_of_getElem? (i := 34) rfl))) (by decide) (backOf (W := 0) (rmT l Z a0 hw [] b4 cc T5.heap n0 Zs5 q5_0 q5_1 (by rw [hcc]; exact own_pick_nar _ _)) hZ (hw _ (List.mem_of_getElem? (i := 36) rfl)) (hw _ (List.mem_of_getElem? (i := 6) rfl)) (by decide) (by decide)) q17a q17c (g := (mkF m 81 #[.val (.int mo), .val (.int sv), .val (.long gg), .second, .val (.int cc), .val (.ref b4), .val (.int (own_ended cc)), .val (.int v11)] [(.ref b4)])) rfl (by rw [hml]; rfl) (Steps.refl _) (argsL := []) (rest := []) (lenOf own_pd4 rfl) rfl (by show 2 * 0 + _ ≤ _; exact Nat.le_of_eq rfl) (hb hby at_81) (fun _ _ => ⟨rfl, e16, (by decide : 1 + 0 ≤ _), (by decide : 2 + 0 ≤ _)⟩)
    dsimp only [Pt.U, Pt.locs, Pt.cells, Pt.slots] at X17 l17 y17 z17 st17 hQ17
    subst l17 y17 z17
    obtain ⟨rfl, Nq17, e17⟩ := hQ17
    have N17 := Fr.app N16 Nq17
    obtain ⟨cq18, kq18, q18a, q18b, q18c⟩ := isOf hZ e17 q5_0
    obtain ⟨_, _, ⟨T18, L18, k18, n18⟩, -, X18, ⟨Lc18, hQ18, l18, y18, z18⟩, st18⟩ := X17.virtualBack hx (y := (⟨"com/example/brava/brava/client/cli/ProcessGroup$Stat", "group", "()J"⟩ : MethodName)) (z := (⟨"com/example/brava/brava/client/cli/ProcessGroup$Stat", "group", "()J"⟩ : MethodName)) hown (mvT hZ (hw _ (List.mem_of_getElem? (i := 37) rfl))) (mvT hZ (hw _ (List.mem_of_getElem? (i := 38) rfl))) (notFace_of_selects (args := #[]) (mvT hZ (hw _ (List.mem_of_getElem? (i := 40) rfl)))) (mvT hZ (hw _ (List.mem_of_getElem? (i := 40) rfl))) (mvT hZ (hw _ (List.mem_of_getElem? (i := 39) rfl))) (by decide) (backOf (W := 0) (rmG l Z a0 hw [] b4 gg T5.heap n0 Zs5 q5_0 q5_2) hZ (hw _ (List.mem_of_getElem? (i := 41) rfl)) (hw _ (List.mem_of_getElem? (i := 6) rfl)) (by decide) (by decide)) q18a q18c (g := (mkF m 91 #[.val (.int mo), .val (.int sv), .val (.long gg), .second, .val (.int cc), .val (.ref b4), .val (.int (own_ended cc)), .val (.int v11)] [(.ref b4)])) rfl (by rw [hml]; rfl) (Steps.refl _) (argsL := []) (rest := []) (lenOf own_pd5 rfl) rfl (by show 2 * 0 + _ ≤ _; exact Nat.le_of_eq rfl) (hb hby at_91) (fun _ _ => ⟨rfl, e17, (by decide : 1 + 0 ≤ _), (by decide : 2 + 0 ≤ _)⟩)
    dsimp only [Pt.U, Pt.locs, Pt.cells, Pt.slots] at X18 l18 y18 z18 st18 hQ18
    subst l18 y18 z18
    obtain ⟨rfl, Nq18, e18⟩ := hQ18
    have N18 := Fr.app N17 Nq18
    obtain ⟨fs, hr, hrun, hended, hW, hsame⟩ := X18.leave (v := some (.int (1 : Int32))) (fun h => by rw [Bd.returns] at h; cases h)
    refine ⟨_, _, (pre0 _ (r2 _ (r3 _ (r7 _ (r8 _ (r12 _ ?_)))))), hrun, hended, _, _, rfl, ?_, ⟨_, rfl⟩, hW, hsame.mono (by decide) (by decide)⟩
    · show Steps p.tables e below (T6.setTop (mkF m 66 #[.val (.int mo), .val (.int sv), .val (.long gg), .second, .val (.int cc), .val (.ref b4), .val (.int (own_ended cc)), .val (.int v11)] [(.int (own_ended cc))])) _
      refine XS.ifNo X6.here hx rfl (hb hby at_66) rfl ((if0 _ _).trans (feq hc13).1) ?_
      show Steps p.tables e below (T6.setTop (mkF m 69 #[.val (.int mo), .val (.int sv), .val (.long gg), .second, .val (.int cc), .val (.ref b4), .val (.int (own_ended cc)), .val (.int v11)] [])) _
      refine XS.aload X6.here hx rfl (hb hby at_69) rfl rfl ?_
      show Steps p.tables e below (T6.setTop (mkF m 71 #[.val (.int mo), .val (.int sv), .val (.long gg), .second, .val (.int cc), .val (.ref b4), .val (.int (own_ended cc)), .val (.int v11)] [(.ref b4)])) _
      refine st16.trans ?_
      show Steps p.tables e below (T16.setTop (mkF m 74 #[.val (.int mo), .val (.int sv), .val (.long gg), .second, .val (.int cc), .val (.ref b4), .val (.int (own_ended cc)), .val (.int v11)] [(.int (own_stopped cc))])) _
      refine XS.ifYes X16.here hx rfl (pc0 := 74) (pc' := 79) rfl (hb hby at_74) rfl ((if0 _ _).trans (teq (own_ns hc13)).1) (by decide) (by decide) ?_
      show Steps p.tables e below (T16.setTop (mkF m 79 #[.val (.int mo), .val (.int sv), .val (.long gg), .second, .val (.int cc), .val (.ref b4), .val (.int (own_ended cc)), .val (.int v11)] [])) _
      refine XS.aload X16.here hx rfl (hb hby at_79) rfl rfl ?_
      show Steps p.tables e below (T16.setTop (mkF m 81 #[.val (.int mo), .val (.int sv), .val (.long gg), .second, .val (.int cc), .val (.ref b4), .val (.int (own_ended cc)), .val (.int v11)] [(.ref b4)])) _
      refine st17.trans ?_
      show Steps p.tables e below (T17.setTop (mkF m 84 #[.val (.int mo), .val (.int sv), .val (.long gg), .second, .val (.int cc), .val (.ref b4), .val (.int (own_ended cc)), .val (.int v11)] [(.int cc)])) _
      refine XS.iload X17.here hx rfl (hb hby at_84) rfl ?_
      show Steps p.tables e below (T17.setTop (mkF m 86 #[.val (.int mo), .val (.int sv), .val (.long gg), .second, .val (.int cc), .val (.ref b4), .val (.int (own_ended cc)), .val (.int v11)] [(.int cc), (.int cc)])) _
      refine XS.icmpNo X17.here hx rfl (hb hby at_86) rfl (teq (rfl : cc = cc)).2 ?_
      show Steps p.tables e below (T17.setTop (mkF m 89 #[.val (.int mo), .val (.int sv), .val (.long gg), .second, .val (.int cc), .val (.ref b4), .val (.int (own_ended cc)), .val (.int v11)] [])) _
      refine XS.aload X17.here hx rfl (hb hby at_89) rfl rfl ?_
      show Steps p.tables e below (T17.setTop (mkF m 91 #[.val (.int mo), .val (.int sv), .val (.long gg), .second, .val (.int cc), .val (.ref b4), .val (.int (own_ended cc)), .val (.int v11)] [(.ref b4)])) _
      refine st18.trans ?_
      show Steps p.tables e below (T18.setTop (mkF m 94 #[.val (.int mo), .val (.int sv), .val (.long gg), .second, .val (.int cc), .val (.ref b4), .val (.int (own_ended cc)), .val (.int v11)] [(.long gg)])) _
      refine XS.lloadN X18.here hx rfl (hb hby at_94) rfl ?_
      show Steps p.tables e below (T18.setTop (mkF m 95 #[.val (.int mo), .val (.int sv), .val (.long gg), .second, .val (.int cc), .val (.ref b4), .val (.int (own_ended cc)), .val (.int v11)] [(.long gg), (.long gg)])) _
      refine XS.lcmp X18.here hx rfl (hb hby at_95) rfl ?_
      show Steps p.tables e below (T18.setTop (mkF m 96 #[.val (.int mo), .val (.int sv), .val (.long gg), .second, .val (.int cc), .val (.ref b4), .val (.int (own_ended cc)), .val (.int v11)] [(.int (lcmpW gg gg))])) _
      refine XS.ifNo X18.here hx rfl (hb hby at_96) rfl ((if0 _ _).trans (teq ((lw_eq _ _).mpr (rfl : gg = gg))).2) ?_
      show Steps p.tables e below (T18.setTop (mkF m 99 #[.val (.int mo), .val (.int sv), .val (.long gg), .second, .val (.int cc), .val (.ref b4), .val (.int (own_ended cc)), .val (.int v11)] [])) _
      refine XS.iconst X18.here hx rfl (hb hby at_99) ?_
      show Steps p.tables e below (T18.setTop (mkF m 100 #[.val (.int mo), .val (.int sv), .val (.long gg), .second, .val (.int cc), .val (.ref b4), .val (.int (own_ended cc)), .val (.int v11)] [(.int (1 : Int32))])) _
      refine XS.goto X18.here hx rfl (pc0 := 100) (pc' := 104) rfl (hb hby at_100) (by decide) (by decide) ?_
      show Steps p.tables e below (T18.setTop (mkF m 104 #[.val (.int mo), .val (.int sv), .val (.long gg), .second, .val (.int cc), .val (.ref b4), .val (.int (own_ended cc)), .val (.int v11)] [(.int (1 : Int32))])) _
      exact retN X18 hx (t := .boolean) Bd.returns (by simp) (hb hby at_104) hr
    · show QL Z mo sv gg h0 n0 _ T18.heap _
      rw [e18]
      exact ⟨rfl, N18⟩
set_option maxRecDepth 65536 in
set_option maxHeartbeats 40000000 in
theorem comes_1 {Post : Tables → Env → Array Value → State → Outcome → State → Prop} (hpost : ∀ tb e args s v u, (limb_1_1.after args s (.returned v) u = true ∧ limb_1_2.after args s (.returned v) u = true ∧ True) → FrameEnd s (.returned v) u (Jvm.fieldLocs frame_1_writes args s ++ Jvm.arrayLocs frame_1_arrays args s ++ Jvm.staticLocs frame_1_statics s) 16 128 → Post tb e args s (.returned v) u) :
    ArmFor flags0 classFile x code maxLocals ret World_1 tables_1 room_1 Calls_1 rest_1 Pre_1 Post := by
  intro l hfl _ _ p e ha hc hk s m args below hf hA hF happ hP
  obtain ⟨hcalls, hrest, hpre⟩ := hP
  obtain ⟨-, -, -, hnamed, -, -, -, hat⟩ := (Spec.applies_iff hf).mp happ
  obtain ⟨hg, hn⟩ := and_e (Cond.before_iff.mp (show (Jvm.Cond.and given_1 narrow_1).before args s = true from hpre))
  obtain ⟨hcount, gr0⟩ := and_e hg
  obtain ⟨ga0, gr1⟩ := and_e gr0
  obtain ⟨ga1, gr2⟩ := and_e gr1
  have ga2 := gr2
  obtain ⟨w0, w1, w2, rfl⟩ : ∃ w0 w1 w2 : Value, args = #[w0, w1, w2] := by
    have hs : args.size = 3 := by simpa [Cond.value, given_1] using hcount
    obtain ⟨L⟩ := args
    match L, hs with
    | [w0, w1, w2], _ => exact ⟨w0, w1, w2, rfl⟩
  have hw := fun d (hd : d ∈ tables_1) => atoms_spec (ws := Jvm.Cond.code x code maxLocals ret :: tables_1) hat d (List.mem_cons_of_mem _ hd)
  have hfit : Fit s := fun {y c} hc i hi => by
    obtain ⟨ha, rfl⟩ := Array.getElem?_eq_some_iff.mp hc
    have q := List.all_eq_true.mp ((Array.all_eq_true_iff_forall_mem.mp hF) _ (Array.getElem_mem ha)) i (List.mem_range.mpr hi)
    simpa [Array.getElem?_eq_getElem hi] using q
  obtain ⟨i0, ei0⟩ := is_v ga0
  obtain rfl : w0 = (.int i0) := Option.some.inj ei0
  obtain ⟨i1, ei1⟩ := is_v ga1
  obtain rfl : w1 = (.int i1) := Option.some.inj ei1
  obtain ⟨i2, ei2⟩ := isL_v ga2
  obtain rfl : w2 = (.long i2) := Option.some.inj ei2
  obtain ⟨n, o, h1, h2, h3, _, L, rfl, ⟨rfl, N⟩, hq⟩ := rmL l s _ hw tables_1 i0 i1 i2 s.heap s.heap.size (Nat.le_refl _)  p e ha hc hk s m _ below hf ((Spec.applies_iff_loose hf).mp happ).1 ⟨rfl, State.Warmed39.refl s, rfl⟩ trivial
  refine ⟨n, _, h1, h2, h3, hpost _ _ _ _ _ _ ⟨Cond.after_iff.mpr rfl, Cond.after_iff.mpr (eq_i res_at (Term.int_eval (1)) rfl), trivial⟩ ⟨hq.1, hq.2.1, (hq.2.2.sift fun y hy => Or.inr (N y hy)).mono (by decide) (by decide)⟩⟩
theorem main_1_1 : Claimed_1_1 := comes_1 fun _ _ _ _ _ _ h hF => ⟨h.1, hF⟩
theorem main_1_2 : Claimed_1_2 := comes_1 fun _ _ _ _ _ _ h hF => ⟨h.2.1, hF⟩
end Jvm.Pilot.@@N@@
namespace Jvm.Pilot.@@N@@
open Jvm Jvm.ClassFile Sem Op Lib Jvm.Free Jvm.Stand Jvm.Pilot.@@N@@.Jvm.D
/-! MADE BY PROGRAM (witnessworld.py) out of the Statement's table words and the real class files: 10 classes; the members and pool entries that the words name. The judged class is class 1, her method 1. -/
namespace start1
open Jvm.ClassFile
def u (s : String) : CpInfo := .utf8 (stringToUtf16 s)
/-- a pool by its gaps: so many unusable entries, then the entry; so many at the end -/
def gap : Nat → List CpInfo → List CpInfo
  | 0, r => r
  | n + 1, r => .unusable :: gap n r
def poolList (es : List (Nat × CpInfo)) (last : Nat) : List CpInfo := es.foldr (fun e r => gap e.1 (e.2 :: r)) (gap last [])
def pool (es : List (Nat × CpInfo)) (last : Nat) : Array CpInfo := ⟨poolList es last⟩
def fileOf (pool : Array CpInfo) (this : Nat) (attrs : Array Attribute := #[]) (ms : Array MethodInfo := #[]) (fl : Nat := 33) (sup : Nat := 0) (ifs : Array Nat := #[]) (fds : Array FieldInfo := #[]) : ClassFile where
  minorVersion := 0
  majorVersion := 65
  constantPool := pool
  accessFlags := fl
  thisClass := this
  superClass := sup
  interfaces := ifs
  fields := fds
  methods := ms
  attributes := attrs
def plain (name : String) (sup : Option ClassId) : Class where
  name := name
  kind := .ordinary
  loader := none
  accessFlags := 33
  super := sup
  interfaces := #[]
  cf := none
  fields := #[]
  methods := #[]
  instanceTypes := #[]
  staticTypes := #[]
  resolved := #[]
  callSites := []
  init := .initialized
  statics := none
  mirror := none

def pool0 : Array CpInfo := pool [(5, u "<init>"), (0, u "()V"), (1, .class_ 10), (1, u "java/lang/Object")] 113

def k0c0 : Code := { maxStack := 0, maxLocals := 1, code := object_method_1_code, exceptionTable := #[], attributes := #[] }
def k0m0 : Method := { name := "<init>", desc := "()V", sig := { parameters := [], returnType := none }, accessFlags := 1, code := some k0c0 }
/-- java/lang/Object -/
def k0 : Class := { plain "java/lang/Object" none with
  accessFlags := 33
  interfaces := #[]
  cf := some (fileOf pool0 8 #[] #[{ accessFlags := 1, nameIndex := 5, descriptorIndex := 6, attributes := #[] }] 33 0 #[] #[])
  fields := #[]
  methods := #[k0m0]
  instanceTypes := #[]
  staticTypes := #[]
  resolved := Array.replicate 124 none
  statics := none }

def pool1 : Array CpInfo := pool [(2, .class_ 4), (1, u "java/lang/Object"), (0, u "<init>"), (0, u "()V"), (0, .methodref 8 9), (0, .class_ 10), (0, .nameAndType 11 12), (0, u "com/example/brava/brava/client/cli/StatEndedPinLaw"), (0, u "pick"), (0, u "(II)C"), (0, .class_ 14), (0, u "com/example/brava/brava/client/cli/ProcessGroup$Stat"), (0, .methodref 13 16), (0, .nameAndType 5 17), (0, u "(CJ)V"), (0, .methodref 13 19), (0, .nameAndType 20 21), (0, u "ended"), (0, u "()Z"), (0, .methodref 13 23), (0, .nameAndType 24 21), (0, u "stopped"), (0, .methodref 13 26), (0, .nameAndType 27 28), (0, u "state"), (0, u "()C"), (0, .methodref 13 30), (0, .nameAndType 31 32), (0, u "group"), (0, u "()J"), (2, u "law"), (0, u "(IIJ)Z")] 7

def k1m0 : Method := { name := "<init>", desc := "()V", sig := { parameters := [], returnType := none }, accessFlags := 1, code := none }
def k1c1 : Code := { maxStack := 5, maxLocals := 8, code := code, exceptionTable := #[], attributes := #[] }
def k1m1 : Method := { name := "law", desc := "(IIJ)Z", sig := { parameters := [.int, .int, .long], returnType := some .boolean }, accessFlags := 9, code := some k1c1 }
def k1c2 : Code := { maxStack := 2, maxLocals := 2, code := method_3_code, exceptionTable := #[], attributes := #[] }
def k1m2 : Method := { name := "pick", desc := "(II)C", sig := { parameters := [.int, .int], returnType := some .char }, accessFlags := 10, code := some k1c2 }
/-- com/example/brava/brava/client/cli/StatEndedPinLaw -/
def k1 : Class := { plain "com/example/brava/brava/client/cli/StatEndedPinLaw" (some 0) with
  accessFlags := 49
  interfaces := #[]
  cf := some (fileOf pool1 8 #[] #[{ accessFlags := 1, nameIndex := 5, descriptorIndex := 6, attributes := #[] }, { accessFlags := 9, nameIndex := 35, descriptorIndex := 36, attributes := #[] }, { accessFlags := 10, nameIndex := 11, descriptorIndex := 12, attributes := #[] }] 49 2 #[] #[])
  fields := #[]
  methods := #[k1m0, k1m1, k1m2]
  instanceTypes := #[]
  staticTypes := #[]
  resolved := Array.replicate 44 none
  statics := none }

def pool2 : Array CpInfo := pool [(1, .methodref 2 3), (0, .class_ 4), (0, .nameAndType 5 6), (0, u "java/lang/Object"), (0, u "<init>"), (0, u "()V"), (0, .class_ 8), (0, u "java/lang/Record")] 13

def k2c0 : Code := { maxStack := 1, maxLocals := 1, code := jdk_30_method_1_code, exceptionTable := #[], attributes := #[] }
def k2m0 : Method := { name := "<init>", desc := "()V", sig := { parameters := [], returnType := none }, accessFlags := 4, code := some k2c0 }
/-- java/lang/Record -/
def k2 : Class := { plain "java/lang/Record" (some 0) with
  accessFlags := 1057
  interfaces := #[]
  cf := some (fileOf pool2 7 #[] #[{ accessFlags := 4, nameIndex := 5, descriptorIndex := 6, attributes := #[] }] 1057 2 #[] #[])
  fields := #[]
  methods := #[k2m0]
  instanceTypes := #[]
  staticTypes := #[]
  resolved := Array.replicate 22 none
  statics := none }

def pool3 : Array CpInfo := pool [(1, .methodref 2 3), (0, .class_ 4), (0, .nameAndType 5 6), (0, u "java/lang/Record"), (0, u "<init>"), (0, u "()V"), (0, .fieldref 8 9), (0, .class_ 10), (0, .nameAndType 11 12), (0, u "com/example/brava/brava/client/cli/ProcessGroup$Stat"), (0, u "state"), (0, u "C"), (0, .fieldref 8 14), (0, .nameAndType 15 16), (0, u "group"), (0, u "J"), (12, u "(CJ)V"), (3, u "ended"), (0, u "()Z"), (1, u "stopped"), (3, u "()C"), (0, u "()J"), (3, .class_ 46), (0, u "com/example/brava/brava/client/cli/ProcessGroup")] 20

def k3c0 : Code := { maxStack := 3, maxLocals := 4, code := prog_62_method_1_code, exceptionTable := #[], attributes := #[] }
def k3m0 : Method := { name := "<init>", desc := "(CJ)V", sig := { parameters := [.char, .long], returnType := none }, accessFlags := 0, code := some k3c0 }
def k3c1 : Code := { maxStack := 2, maxLocals := 1, code := prog_62_method_2_code, exceptionTable := #[], attributes := #[] }
def k3m1 : Method := { name := "ended", desc := "()Z", sig := { parameters := [], returnType := some .boolean }, accessFlags := 0, code := some k3c1 }
def k3c2 : Code := { maxStack := 2, maxLocals := 1, code := prog_62_method_3_code, exceptionTable := #[], attributes := #[] }
def k3m2 : Method := { name := "stopped", desc := "()Z", sig := { parameters := [], returnType := some .boolean }, accessFlags := 0, code := some k3c2 }
def k3c3 : Code := { maxStack := 1, maxLocals := 1, code := prog_62_method_7_code, exceptionTable := #[], attributes := #[] }
def k3m3 : Method := { name := "state", desc := "()C", sig := { parameters := [], returnType := some .char }, accessFlags := 1, code := some k3c3 }
def k3c4 : Code := { maxStack := 2, maxLocals := 1, code := prog_62_method_8_code, exceptionTable := #[], attributes := #[] }
def k3m4 : Method := { name := "group", desc := "()J", sig := { parameters := [], returnType := some .long }, accessFlags := 1, code := some k3c4 }
/-- com/example/brava/brava/client/cli/ProcessGroup$Stat -/
def k3 : Class := { plain "com/example/brava/brava/client/cli/ProcessGroup$Stat" (some 2) with
  accessFlags := 48
  interfaces := #[]
  cf := some (fileOf pool3 8 #[.nestHost 45] #[{ accessFlags := 0, nameIndex := 5, descriptorIndex := 29, attributes := #[] }, { accessFlags := 0, nameIndex := 33, descriptorIndex := 34, attributes := #[] }, { accessFlags := 0, nameIndex := 36, descriptorIndex := 34, attributes := #[] }, { accessFlags := 1, nameIndex := 11, descriptorIndex := 40, attributes := #[] }, { accessFlags := 1, nameIndex := 15, descriptorIndex := 41, attributes := #[] }] 48 2 #[] #[{ accessFlags := 18, nameIndex := 11, descriptorIndex := 12, attributes := #[] }, { accessFlags := 18, nameIndex := 15, descriptorIndex := 16, attributes := #[] }])
  fields := #[{ name := "state", type := .char, accessFlags := 18, slot := 0, constantValue := 0 }, { name := "group", type := .long, accessFlags := 18, slot := 1, constantValue := 0 }]
  methods := #[k3m0, k3m1, k3m2, k3m3, k3m4]
  instanceTypes := #[.char, .long]
  staticTypes := #[]
  resolved := Array.replicate 67 none
  statics := none }

def pool4 : Array CpInfo := pool [(1, u "java/lang/Cloneable"), (0, .class_ 1), (0, u "java/lang/Object"), (0, .class_ 3)] 3

/-- java/lang/Cloneable -/
def k4 : Class := { plain "java/lang/Cloneable" (some 0) with
  accessFlags := 1537
  interfaces := #[]
  cf := some (fileOf pool4 2 #[] #[] 1537 4 #[] #[])
  fields := #[]
  methods := #[]
  instanceTypes := #[]
  staticTypes := #[]
  resolved := Array.replicate 8 none
  statics := none }

def pool5 : Array CpInfo := pool [(1, u "java/io/Serializable"), (0, .class_ 1), (0, u "java/lang/Object"), (0, .class_ 3)] 3

/-- java/io/Serializable -/
def k5 : Class := { plain "java/io/Serializable" (some 0) with
  accessFlags := 1537
  interfaces := #[]
  cf := some (fileOf pool5 2 #[] #[] 1537 4 #[] #[])
  fields := #[]
  methods := #[]
  instanceTypes := #[]
  staticTypes := #[]
  resolved := Array.replicate 8 none
  statics := none }

/-- the primitive byte -/
def k6 : Class := { plain "byte" none with kind := .primitive 'B', accessFlags := 0x411 }
/-- [B -/
def k7 : Class := { plain "[B" (some 0) with kind := .array 6 .byte, interfaces := #[4, 5], accessFlags := 1041 }

/-- the primitive int -/
def k8 : Class := { plain "int" none with kind := .primitive 'I', accessFlags := 0x411 }
/-- [I -/
def k9 : Class := { plain "[I" (some 0) with kind := .array 8 .int, interfaces := #[4, 5], accessFlags := 1041 }

def heap : Heap := #[]
def classes : Array Class := #[k0, k1, k2, k3, k4, k5, k6, k7, k8, k9]
def interned : List (Array UInt16 × Addr) := []
def slotsUsed : Nat := 0
def theMethod : MethodId := ⟨1, 1⟩
def args0 : Array Value := #[.int 7, .int 65, .long 3]
def aboutOver (below : List Frame) : State where
  vm := { classes := classes, interned := interned.toArray }
  heap := heap
  slotsUsed := slotsUsed
  threads := #[{ frames := .invoking theMethod args0 :: below }]
def below0 : List Frame := [.native { method := ⟨0, 0⟩, args := #[] }]
def about1 : State := aboutOver below0
def p0 : Program := .bare "" "" ""
def e0 : Env := launch0.env 0 0 0
theorem w_frames : about1.frames = Frame.invoking theMethod args0 :: below0 := rfl
set_option maxRecDepth 65536 in
theorem w_args : argsFit about1.vm theMethod args0 = true := by decide +kernel
set_option maxRecDepth 65536 in
theorem w_heap : heapFits about1 = true := by decide +kernel
set_option maxRecDepth 65536 in
theorem w_runnable : about1.curStatus? = some .runnable := by decide +kernel
set_option maxRecDepth 65536 in
theorem w_alone : about1.alone = true := by decide +kernel
set_option maxRecDepth 65536 in
theorem w_named : about1.methodNamed? x = some theMethod := by decide +kernel
set_option maxRecDepth 65536 in
theorem w_hears : about1.hears theMethod below0 = true := by decide +kernel
set_option maxRecDepth 65536 in
theorem w_ripe : about1.ripe theMethod args0 below0 = true := by decide +kernel
theorem w_running : about1.status = .running := rfl
set_option maxRecDepth 65536 in
theorem w_room : about1.hasRoom e0.platform room_1 = true :=
  launch0.hasRoom_least _ room_1 (by decide +kernel) (by decide +kernel) (by decide +kernel) (by decide +kernel) (by decide +kernel) (by decide +kernel)
theorem allAtoms_all (ts : List Jvm.Cond) (a : Array Jvm.Value) (st : Jvm.State) : (allAtoms ts).before a st = ts.all (fun c => c.before a st) := by
  induction ts with
  | nil => rfl
  | cons c t ih =>
    show (Jvm.Cond.and c (allAtoms t)).before a st = _
    rw [Jvm.Cond.before_and, ih, List.all_cons]
def words1 : List Jvm.Cond := Jvm.Cond.code x code maxLocals ret :: tables_1
/-- a 'code' word, met by the world's own term for the bytes: nothing is compared byte by byte -/
theorem code_word {y : MethodName} {bytes : ByteArray} {mx : Nat} {rt : Option FieldType} {a : Array Value} {s : State} {m : MethodId} {meth : Method} {c : Code} (h1 : s.methodNamed? y = some m) (h2 : s.vm.method? m = some meth) (h3 : meth.code = some c) (h4 : c.code = bytes)
    (h5 : (c.maxLocals == mx && c.exceptionTable.isEmpty && decide (c.maxStack ≤ mostOperands) && decide (meth.sig.returnType = rt) && !meth.locks && decide (parseMethodDescriptor y.desc = some meth.sig)) = true) : (Jvm.Cond.code y bytes mx rt).before a s = true := by
  simp only [Bool.and_eq_true, beq_iff_eq, Bool.not_eq_true', decide_eq_true_eq] at h5
  obtain ⟨⟨⟨⟨⟨g1, g2⟩, g3⟩, g4⟩, g5⟩, g6⟩ := h5
  simp [Cond.before, Cond.holds, Cond.value, h1, h2, h3, h4, g1, g2, g3, g4, g5, g6]
def isCode : Jvm.Cond → Bool
  | .code _ _ _ _ => true
  | _ => false
theorem all_split {L : List Jvm.Cond} {P : Jvm.Cond → Bool} (h1 : L.all (fun c => isCode c || P c) = true) (h2 : ∀ c ∈ L.filter isCode, P c = true) : L.all P = true := by
  refine List.all_eq_true.mpr fun c hc => ?_
  have h := List.all_eq_true.mp h1 c hc
  rcases Bool.eq_false_or_eq_true (isCode c) with hi | hi
  · exact h2 c (List.mem_filter.mpr ⟨hc, hi⟩)
  · simpa [hi] using h
set_option maxRecDepth 65536 in
theorem w_c0 : (Jvm.Cond.code x code maxLocals ret).before args0 about1 = true := code_word (m := ⟨1, 1⟩) (meth := k1m1) (c := k1c1) (by decide +kernel) rfl rfl rfl (by decide +kernel)
set_option maxRecDepth 65536 in
theorem w_c1 : (Jvm.Cond.code ({ cls := "com/example/brava/brava/client/cli/StatEndedPinLaw", name := "pick", desc := "(II)C" } : Jvm.MethodName) method_3_code (2 : Nat) (Option.some Jvm.ClassFile.FieldType.char)).before args0 about1 = true := code_word (m := ⟨1, 2⟩) (meth := k1m2) (c := k1c2) (by decide +kernel) rfl rfl rfl (by decide +kernel)
set_option maxRecDepth 65536 in
theorem w_c2 : (Jvm.Cond.code ({ cls := "com/example/brava/brava/client/cli/ProcessGroup$Stat", name := "<init>", desc := "(CJ)V" } : Jvm.MethodName) prog_62_method_1_code (4 : Nat) (Option.none : Option Jvm.ClassFile.FieldType)).before args0 about1 = true := code_word (m := ⟨3, 0⟩) (meth := k3m0) (c := k3c0) (by decide +kernel) rfl rfl rfl (by decide +kernel)
set_option maxRecDepth 65536 in
theorem w_c3 : (Jvm.Cond.code ({ cls := "java/lang/Record", name := "<init>", desc := "()V" } : Jvm.MethodName) jdk_30_method_1_code (1 : Nat) (Option.none : Option Jvm.ClassFile.FieldType)).before args0 about1 = true := code_word (m := ⟨2, 0⟩) (meth := k2m0) (c := k2c0) (by decide +kernel) rfl rfl rfl (by decide +kernel)
set_option maxRecDepth 65536 in
theorem w_c4 : (Jvm.Cond.code ({ cls := "java/lang/Object", name := "<init>", desc := "()V" } : Jvm.MethodName) object_method_1_code (1 : Nat) (Option.none : Option Jvm.ClassFile.FieldType)).before args0 about1 = true := code_word (m := ⟨0, 0⟩) (meth := k0m0) (c := k0c0) (by decide +kernel) rfl rfl rfl (by decide +kernel)
set_option maxRecDepth 65536 in
theorem w_c5 : (Jvm.Cond.code ({ cls := "com/example/brava/brava/client/cli/ProcessGroup$Stat", name := "ended", desc := "()Z" } : Jvm.MethodName) prog_62_method_2_code (1 : Nat) (Option.some Jvm.ClassFile.FieldType.boolean)).before args0 about1 = true := code_word (m := ⟨3, 1⟩) (meth := k3m1) (c := k3c1) (by decide +kernel) rfl rfl rfl (by decide +kernel)
set_option maxRecDepth 65536 in
theorem w_c6 : (Jvm.Cond.code ({ cls := "com/example/brava/brava/client/cli/ProcessGroup$Stat", name := "stopped", desc := "()Z" } : Jvm.MethodName) prog_62_method_3_code (1 : Nat) (Option.some Jvm.ClassFile.FieldType.boolean)).before args0 about1 = true := code_word (m := ⟨3, 2⟩) (meth := k3m2) (c := k3c2) (by decide +kernel) rfl rfl rfl (by decide +kernel)
set_option maxRecDepth 65536 in
theorem w_c7 : (Jvm.Cond.code ({ cls := "com/example/brava/brava/client/cli/ProcessGroup$Stat", name := "state", desc := "()C" } : Jvm.MethodName) prog_62_method_7_code (1 : Nat) (Option.some Jvm.ClassFile.FieldType.char)).before args0 about1 = true := code_word (m := ⟨3, 3⟩) (meth := k3m3) (c := k3c3) (by decide +kernel) rfl rfl rfl (by decide +kernel)
set_option maxRecDepth 65536 in
theorem w_c8 : (Jvm.Cond.code ({ cls := "com/example/brava/brava/client/cli/ProcessGroup$Stat", name := "group", desc := "()J" } : Jvm.MethodName) prog_62_method_8_code (1 : Nat) (Option.some Jvm.ClassFile.FieldType.long)).before args0 about1 = true := code_word (m := ⟨3, 4⟩) (meth := k3m4) (c := k3c4) (by decide +kernel) rfl rfl rfl (by decide +kernel)
def codes1 : List Jvm.Cond := [Jvm.Cond.code x code maxLocals ret, Jvm.Cond.code ({ cls := "com/example/brava/brava/client/cli/StatEndedPinLaw", name := "pick", desc := "(II)C" } : Jvm.MethodName) method_3_code (2 : Nat) (Option.some Jvm.ClassFile.FieldType.char), Jvm.Cond.code ({ cls := "com/example/brava/brava/client/cli/ProcessGroup$Stat", name := "<init>", desc := "(CJ)V" } : Jvm.MethodName) prog_62_method_1_code (4 : Nat) (Option.none : Option Jvm.ClassFile.FieldType), Jvm.Cond.code ({ cls := "java/lang/Record", name := "<init>", desc := "()V" } : Jvm.MethodName) jdk_30_method_1_code (1 : Nat) (Option.none : Option Jvm.ClassFile.FieldType), Jvm.Cond.code ({ cls := "java/lang/Object", name := "<init>", desc := "()V" } : Jvm.MethodName) object_method_1_code (1 : Nat) (Option.none : Option Jvm.ClassFile.FieldType), Jvm.Cond.code ({ cls := "com/example/brava/brava/client/cli/ProcessGroup$Stat", name := "ended", desc := "()Z" } : Jvm.MethodName) prog_62_method_2_code (1 : Nat) (Option.some Jvm.ClassFile.FieldType.boolean), Jvm.Cond.code ({ cls := "com/example/brava/brava/client/cli/ProcessGroup$Stat", name := "stopped", desc := "()Z" } : Jvm.MethodName) prog_62_method_3_code (1 : Nat) (Option.some Jvm.ClassFile.FieldType.boolean), Jvm.Cond.code ({ cls := "com/example/brava/brava/client/cli/ProcessGroup$Stat", name := "state", desc := "()C" } : Jvm.MethodName) prog_62_method_7_code (1 : Nat) (Option.some Jvm.ClassFile.FieldType.char), Jvm.Cond.code ({ cls := "com/example/brava/brava/client/cli/ProcessGroup$Stat", name := "group", desc := "()J" } : Jvm.MethodName) prog_62_method_8_code (1 : Nat) (Option.some Jvm.ClassFile.FieldType.long)]
set_option maxRecDepth 65536 in
theorem codes_eq : words1.filter isCode = codes1 := rfl
theorem w_codes : ∀ c ∈ words1.filter isCode, c.before args0 about1 = true := by
  rw [codes_eq]
  intro c hc
  simp only [codes1, List.mem_cons, List.not_mem_nil, or_false] at hc
  rcases hc with rfl | rfl | rfl | rfl | rfl | rfl | rfl | rfl | rfl
  · exact w_c0
  · exact w_c1
  · exact w_c2
  · exact w_c3
  · exact w_c4
  · exact w_c5
  · exact w_c6
  · exact w_c7
  · exact w_c8
set_option maxRecDepth 65536 in
theorem w_t1 : (words1.take 24).all (fun c => isCode c || c.before args0 about1) = true := by decide +kernel
set_option maxRecDepth 65536 in
theorem w_t2 : (words1.drop 24).all (fun c => isCode c || c.before args0 about1) = true := by decide +kernel
theorem w_tables : (allAtoms (Jvm.Cond.code x code maxLocals ret :: tables_1)).before args0 about1 = true := by
  rw [allAtoms_all]
  show words1.all (fun c => c.before args0 about1) = true
  refine all_split ?_ w_codes
  rw [← List.take_append_drop 24 words1, List.all_append, w_t1, w_t2]
  rfl
set_option maxRecDepth 65536 in
theorem w_case : (Jvm.Cond.and given_1 narrow_1).before args0 about1 = true := by decide +kernel
theorem w_applies : (headSpec (Jvm.Cond.code x code maxLocals ret :: tables_1) room_1).applies x e0.platform about1 = true :=
  (Spec.applies_iff w_frames).mpr ⟨w_running, w_runnable, w_alone, w_named, w_hears, w_ripe, w_room, w_tables⟩
theorem atStart : AtStart classFile x code maxLocals ret World_1 tables_1 room_1 Calls_1 rest_1 Pre_1 launch0 p0 e0 about1 theMethod args0 below0 :=
  ⟨lists_1, trivial, launch0.admits_env _ _ _, launch0.least_env, fairChoices_fair.cas, fairChoices_fair.clock, w_frames, w_args, w_heap, w_applies, trivial, trivial, w_case⟩
end start1
theorem witness_1 : WitnessClaimed_1 := ⟨start1.p0, start1.e0, start1.about1, start1.theMethod, start1.args0, start1.below0, start1.atStart⟩
end Jvm.Pilot.@@N@@
