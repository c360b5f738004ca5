import JvmDerived
import JvmDerived.Pilot.@@N@@Statement
import JvmDerived.Pilot.@@N@@Code
set_option linter.unusedVariables false
set_option linter.unusedSimpArgs false
namespace Jvm.RoadKit
open Sem ClassFile Op Lib Jvm.Stand Jvm.Free Jvm.LawKit
section New
variable {p : Program} {l : Launch} {e : Env} {R : Room} {s : State} {m : MethodId} {args : Array Value} {below : List Frame} {meth : Method} {c : Code} {T : State} {locs : List Loc} {cells slots : Nat}
theorem retI (X : Stand p l e R s m args below meth c T locs cells slots) (hx : p.tables.exec = Jvm.exec) {pc : Nat} {Ls : Array Slot} {z : Int32} {rest : List Value} (hret : meth.sig.returnType = some .int) (hd : decode c.code pc = .ok (.ireturn, 1)) {fs : List Frame}
    (hl : ∀ (f : JFrame) (acts : List Action), f.method = m → f.locked = none → f.entered = [] → (doReturn e (T.setTop f) acts (some (.int z))).1 = T.setFrames fs) : Steps p.tables e below (T.setTop (mkF m pc Ls (.int z :: rest))) (T.setFrames fs) := by
  have hm' : T.vm.method? m = some meth := X.method'
  have hn : narrow .int (.int z) = .int z := rfl
  show Steps p.tables e below (T.setTop { method := m, pc := pc, locals := Ls, stack := _ :: rest, locked := none }) _
  jvm_step X.here [X.here.top, hx, hd, hm', hret, hn]
  first | (intro acts; rw [hl _ acts rfl rfl rfl]) | rw [hl _ _ rfl rfl rfl]
  exact Steps.refl _
end New
end Jvm.RoadKit
namespace Jvm.Pilot.@@N@@
open Jvm Jvm.ClassFile Sem Op Lib Jvm.Free Jvm.Stand Jvm.LawKit Jvm.RoadKit Bundle Jvm.Pilot.@@N@@.Jvm.D
def own_probe (p : Int32) (ee ss tt : Int64) : Int64 :=
  if (p &&& (7 : Int32)) = (1 : Int32) then ss else if (p &&& (7 : Int32)) = (2 : Int32) then tt else if (p &&& (7 : Int32)) = (3 : Int32) then ss - (1 : Int64)
  else if (p &&& (7 : Int32)) = (4 : Int32) then tt - (1 : Int64) else if (p &&& (7 : Int32)) = (5 : Int32) then ss + (1 : Int64) else if (p &&& (7 : Int32)) = (6 : Int32) then tt + (1 : Int64) else ee
def own_holds (ss tt xx : Int64) : Int32 := if xx < ss then 0 else if xx < tt then 1 else 0
def own_inside (xx ss tt : Int64) : Int32 := if tt = (-9223372036854775808 : Int64) then 0 else if xx < ss then 0 else if (tt - (1 : Int64)) < xx then 0 else 1
theorem own_same (xx ss tt : Int64) : own_holds ss tt xx = own_inside xx ss tt := by
  unfold own_holds own_inside
  have hm : (-9223372036854775808 : Int64).toInt = -9223372036854775808 := by decide
  have k1 : (1 : Int64).toInt = 1 := by decide
  have s := c_lsub tt 1
  have g1 := rng64 (tt - 1)
  have g2 := rng64 tt
  have g3 := rng64 xx
  by_cases a : tt = (-9223372036854775808 : Int64)
  · rw [if_pos a]
    have : ¬ xx < tt := by rw [Int64.lt_iff_toInt_lt, a, hm]; omega
    rw [if_neg this]; split <;> rfl
  · rw [if_neg a]
    have a' : tt.toInt ≠ -9223372036854775808 := fun z => a (Int64.toInt_inj.mp (by rw [z, hm]))
    by_cases b : xx < ss
    · rw [if_pos b, if_pos b]
    · rw [if_neg b, if_neg b]
      by_cases d : xx < tt
      · have : ¬ (tt - (1 : Int64)) < xx := by rw [Int64.lt_iff_toInt_lt] at d ⊢; omega
        rw [if_pos d, if_neg this]
      · have : (tt - (1 : Int64)) < xx := by rw [Int64.lt_iff_toInt_lt] at d ⊢; omega
        rw [if_neg d, if_pos this]
theorem own_pn0 : plainName "com/example/careful_throttle/carefulthrottle/DayHoldsPinLaw" = true := by first | (simp [plainName, overriddenIn]; done) | decide +kernel
theorem dP_0 : decode method_2_code 0 = .ok (.iload_n 0, 1) := by decide +kernel
theorem dP_1 : decode method_2_code 1 = .ok (.bipush 7, 2) := by decide +kernel
theorem dP_3 : decode method_2_code 3 = .ok (.iand, 1) := by decide +kernel
theorem dP_4 : decode method_2_code 4 = .ok (.istore 7, 2) := by decide +kernel
theorem dP_6 : decode method_2_code 6 = .ok (.iload 7, 2) := by decide +kernel
theorem dP_8 : decode method_2_code 8 = .ok (.iconst 1, 1) := by decide +kernel
theorem dP_9 : decode method_2_code 9 = .ok (.if_icmp .ne 5, 3) := by decide +kernel
theorem dP_12 : decode method_2_code 12 = .ok (.lload_n 3, 1) := by decide +kernel
theorem dP_13 : decode method_2_code 13 = .ok (.lreturn, 1) := by decide +kernel
theorem dP_14 : decode method_2_code 14 = .ok (.iload 7, 2) := by decide +kernel
theorem dP_16 : decode method_2_code 16 = .ok (.iconst 2, 1) := by decide +kernel
theorem dP_17 : decode method_2_code 17 = .ok (.if_icmp .ne 6, 3) := by decide +kernel
theorem dP_20 : decode method_2_code 20 = .ok (.lload 5, 2) := by decide +kernel
theorem dP_22 : decode method_2_code 22 = .ok (.lreturn, 1) := by decide +kernel
theorem dP_23 : decode method_2_code 23 = .ok (.iload 7, 2) := by decide +kernel
theorem dP_25 : decode method_2_code 25 = .ok (.iconst 3, 1) := by decide +kernel
theorem dP_26 : decode method_2_code 26 = .ok (.if_icmp .ne 7, 3) := by decide +kernel
theorem dP_29 : decode method_2_code 29 = .ok (.lload_n 3, 1) := by decide +kernel
theorem dP_30 : decode method_2_code 30 = .ok (.lconst 1, 1) := by decide +kernel
theorem dP_31 : decode method_2_code 31 = .ok (.lsub, 1) := by decide +kernel
theorem dP_32 : decode method_2_code 32 = .ok (.lreturn, 1) := by decide +kernel
theorem dP_33 : decode method_2_code 33 = .ok (.iload 7, 2) := by decide +kernel
theorem dP_35 : decode method_2_code 35 = .ok (.iconst 4, 1) := by decide +kernel
theorem dP_36 : decode method_2_code 36 = .ok (.if_icmp .ne 8, 3) := by decide +kernel
theorem dP_39 : decode method_2_code 39 = .ok (.lload 5, 2) := by decide +kernel
theorem dP_41 : decode method_2_code 41 = .ok (.lconst 1, 1) := by decide +kernel
theorem dP_42 : decode method_2_code 42 = .ok (.lsub, 1) := by decide +kernel
theorem dP_43 : decode method_2_code 43 = .ok (.lreturn, 1) := by decide +kernel
theorem dP_44 : decode method_2_code 44 = .ok (.iload 7, 2) := by decide +kernel
theorem dP_46 : decode method_2_code 46 = .ok (.iconst 5, 1) := by decide +kernel
theorem dP_47 : decode method_2_code 47 = .ok (.if_icmp .ne 7, 3) := by decide +kernel
theorem dP_50 : decode method_2_code 50 = .ok (.lload_n 3, 1) := by decide +kernel
theorem dP_51 : decode method_2_code 51 = .ok (.lconst 1, 1) := by decide +kernel
theorem dP_52 : decode method_2_code 52 = .ok (.ladd, 1) := by decide +kernel
theorem dP_53 : decode method_2_code 53 = .ok (.lreturn, 1) := by decide +kernel
theorem dP_54 : decode method_2_code 54 = .ok (.iload 7, 2) := by decide +kernel
theorem dP_56 : decode method_2_code 56 = .ok (.bipush 6, 2) := by decide +kernel
theorem dP_58 : decode method_2_code 58 = .ok (.if_icmp .ne 8, 3) := by decide +kernel
theorem dP_61 : decode method_2_code 61 = .ok (.lload 5, 2) := by decide +kernel
theorem dP_63 : decode method_2_code 63 = .ok (.lconst 1, 1) := by decide +kernel
theorem dP_64 : decode method_2_code 64 = .ok (.ladd, 1) := by decide +kernel
theorem dP_65 : decode method_2_code 65 = .ok (.lreturn, 1) := by decide +kernel
theorem dP_66 : decode method_2_code 66 = .ok (.lload_n 1, 1) := by decide +kernel
theorem dP_67 : decode method_2_code 67 = .ok (.lreturn, 1) := by decide +kernel
theorem efP (m : MethodId) (pq : Int32) (ee : Int64) (ss : Int64) (tt : Int64) : entryFrame m #[(.int pq), (.long ee), (.long ss), (.long tt)] 8 = mkF m 0 #[.val (.int pq), .val (.long ee), .second, .val (.long ss), .second, .val (.long tt), .second, .unset] [] := by first | (simp [entryFrame, mkF, argsToLocals, Value.category]; done) | rfl
def QP (Z : State) (pq : Int32) (ee : Int64) (ss : Int64) (tt : Int64) (h0 : Heap) (n0 : Nat) (v : Option Value) (h : Heap) (L : List Loc) : Prop := v = some (.long (own_probe pq ee ss tt)) ∧ Fr n0 L ∧ h = h0
set_option maxRecDepth 65536 in
set_option maxHeartbeats 40000000 in
theorem rmP (l : Launch) (Z : State) (a0 : Array Value) (hw : ∀ d ∈ tables_1, d.before a0 Z = true) (ws : List Jvm.Cond) (pq : Int32) (ee : Int64) (ss : Int64) (tt : Int64) (h0 : Heap) (n0 : Nat) (Z0 : n0 ≤ h0.size) :
    MetFree l (⟨"com/example/careful_throttle/carefulthrottle/DayHoldsPinLaw", "probe", "(IJJJ)J"⟩ : MethodName) (head1 (Jvm.Cond.code (⟨"com/example/careful_throttle/carefulthrottle/DayHoldsPinLaw", "probe", "(IJJJ)J"⟩ : MethodName) method_2_code 8 (some .long) :: ws) ({ frames := 0, cells := 0, slots := 0, locals := 0 } : Room)) (fun av_ U => av_ = #[(.int pq), (.long ee), (.long ss), (.long tt)] ∧ Z.Warmed39 U.vm ∧ U.heap = h0) (fun _ _ _ _ _ => True) (fun _ U o U' => ∃ v L, o = .returned v ∧ QP Z pq ee ss tt h0 n0 v U'.heap L ∧ FrameEnd U o U' L ({ frames := 0, cells := 0, slots := 0, locals := 0 } : Room).cells ({ frames := 0, cells := 0, slots := 0, locals := 0 } : Room).slots) := by
  refine MetFree.of_bodySF (plainFor_of_name own_pn0) hisR ?_
  intro p e s m args below meth c s₁ Bd hml0 hP hK
  obtain ⟨rfl, hZ, hh⟩ := hP
  have hx := Bd.exec
  have hby := Bd.bytes
  have hml : c.maxLocals = 8 := hml0
  have hown : s.vm.findClass "com/example/careful_throttle/carefulthrottle/DayHoldsPinLaw" = some m.cls := findClass_of_methodNamed Bd.named
  have hnm := (name_of_methodNamed Bd.named Bd.method).1
  have X0 : Stand p l e ({ frames := 0, cells := 0, slots := 0, locals := 0 } : Room) s m #[(.int pq), (.long ee), (.long ss), (.long tt)] below meth c s₁ [] 0 0 := Stand.of_body Bd
  have e0 : s₁.heap = h0 := by rw [← hh, Bd.state]; rfl
  have N0 := Fr.nil n0
  have pre0 : ∀ t, Steps p.tables e below (s₁.setTop (mkF m 0 #[.val (.int pq), .val (.long ee), .second, .val (.long ss), .second, .val (.long tt), .second, .unset] [])) t → Steps p.tables e below (s₁.setTop (entryFrame m #[(.int pq), (.long ee), (.long ss), (.long tt)] 8)) t := fun t k => castTop (efP m pq ee ss tt) k
  have r1 : ∀ t, Steps p.tables e below (s₁.setTop (mkF m 9 #[.val (.int pq), .val (.long ee), .second, .val (.long ss), .second, .val (.long tt), .second, .val (.int (pq &&& (7 : Int32)))] [(.int (1 : Int32)), (.int (pq &&& (7 : Int32)))])) t → Steps p.tables e below (s₁.setTop (mkF m 0 #[.val (.int pq), .val (.long ee), .second, .val (.long ss), .second, .val (.long tt), .second, .unset] [])) t := fun t kt => by
    show Steps p.tables e below (s₁.setTop (mkF m 0 #[.val (.int pq), .val (.long ee), .second, .val (.long ss), .second, .val (.long tt), .second, .unset] [])) _
    refine XS.iloadN X0.here hx rfl (hb hby dP_0) rfl ?_
    show Steps p.tables e below (s₁.setTop (mkF m 1 #[.val (.int pq), .val (.long ee), .second, .val (.long ss), .second, .val (.long tt), .second, .unset] [(.int pq)])) _
    refine XS.bipush X0.here hx rfl (hb hby dP_1) ?_
    show Steps p.tables e below (s₁.setTop (mkF m 3 #[.val (.int pq), .val (.long ee), .second, .val (.long ss), .second, .val (.long tt), .second, .unset] [(.int (7 : Int32)), (.int pq)])) _
    refine XS.iand X0.here hx rfl (hb hby dP_3) rfl ?_
    show Steps p.tables e below (s₁.setTop (mkF m 4 #[.val (.int pq), .val (.long ee), .second, .val (.long ss), .second, .val (.long tt), .second, .unset] [(.int (pq &&& (7 : Int32)))])) _
    refine XS.istore X0.here hx rfl (hb hby dP_4) rfl (l' := #[.val (.int pq), .val (.long ee), .second, .val (.long ss), .second, .val (.long tt), .second, .val (.int (pq &&& (7 : Int32)))]) rfl ?_
    show Steps p.tables e below (s₁.setTop (mkF m 6 #[.val (.int pq), .val (.long ee), .second, .val (.long ss), .second, .val (.long tt), .second, .val (.int (pq &&& (7 : Int32)))] [])) _
    refine XS.iload X0.here hx rfl (hb hby dP_6) rfl ?_
    show Steps p.tables e below (s₁.setTop (mkF m 8 #[.val (.int pq), .val (.long ee), .second, .val (.long ss), .second, .val (.long tt), .second, .val (.int (pq &&& (7 : Int32)))] [(.int (pq &&& (7 : Int32)))])) _
    refine XS.iconst X0.here hx rfl (hb hby dP_8) ?_
    exact kt
  by_cases hc2 : (pq &&& (7 : Int32)) = (1 : Int32)
  · obtain ⟨fs, hr, hrun, hended, hW, hsame⟩ := X0.leave (v := some (.long ss)) (fun h => by rw [Bd.returns] at h; cases h)
    refine ⟨_, _, (pre0 _ (r1 _ ?_)), hrun, hended, _, _, rfl, ?_, ⟨_, rfl⟩, hW, hsame.mono (by decide) (by decide)⟩
    · show Steps p.tables e below (s₁.setTop (mkF m 9 #[.val (.int pq), .val (.long ee), .second, .val (.long ss), .second, .val (.long tt), .second, .val (.int (pq &&& (7 : Int32)))] [(.int (1 : Int32)), (.int (pq &&& (7 : Int32)))])) _
      refine XS.icmpNo X0.here hx rfl (hb hby dP_9) rfl (teq hc2).2 ?_
      show Steps p.tables e below (s₁.setTop (mkF m 12 #[.val (.int pq), .val (.long ee), .second, .val (.long ss), .second, .val (.long tt), .second, .val (.int (pq &&& (7 : Int32)))] [])) _
      refine XS.lloadN X0.here hx rfl (hb hby dP_12) rfl ?_
      show Steps p.tables e below (s₁.setTop (mkF m 13 #[.val (.int pq), .val (.long ee), .second, .val (.long ss), .second, .val (.long tt), .second, .val (.int (pq &&& (7 : Int32)))] [(.long ss)])) _
      jvm_step X0.here [X0.here.top, hx, (hb hby dP_13), X0.method', Bd.returns, narrow]
      first | (intro acts; rw [hr _ acts rfl rfl rfl]) | rw [hr _ _ rfl rfl rfl]
      exact Steps.refl _
    · show QP Z pq ee ss tt h0 n0 _ s₁.heap _
      rw [e0]
      exact ⟨(by simp [own_probe, hc2]), N0, rfl⟩
  · have r3 : ∀ t, Steps p.tables e below (s₁.setTop (mkF m 17 #[.val (.int pq), .val (.long ee), .second, .val (.long ss), .second, .val (.long tt), .second, .val (.int (pq &&& (7 : Int32)))] [(.int (2 : Int32)), (.int (pq &&& (7 : Int32)))])) t → Steps p.tables e below (s₁.setTop (mkF m 9 #[.val (.int pq), .val (.long ee), .second, .val (.long ss), .second, .val (.long tt), .second, .val (.int (pq &&& (7 : Int32)))] [(.int (1 : Int32)), (.int (pq &&& (7 : Int32)))])) t := fun t kt => by
      show Steps p.tables e below (s₁.setTop (mkF m 9 #[.val (.int pq), .val (.long ee), .second, .val (.long ss), .second, .val (.long tt), .second, .val (.int (pq &&& (7 : Int32)))] [(.int (1 : Int32)), (.int (pq &&& (7 : Int32)))])) _
      refine XS.icmpYes X0.here hx rfl (pc0 := 9) (pc' := 14) rfl (hb hby dP_9) rfl (feq hc2).2 (by decide) (by decide) ?_
      show Steps p.tables e below (s₁.setTop (mkF m 14 #[.val (.int pq), .val (.long ee), .second, .val (.long ss), .second, .val (.long tt), .second, .val (.int (pq &&& (7 : Int32)))] [])) _
      refine XS.iload X0.here hx rfl (hb hby dP_14) rfl ?_
      show Steps p.tables e below (s₁.setTop (mkF m 16 #[.val (.int pq), .val (.long ee), .second, .val (.long ss), .second, .val (.long tt), .second, .val (.int (pq &&& (7 : Int32)))] [(.int (pq &&& (7 : Int32)))])) _
      refine XS.iconst X0.here hx rfl (hb hby dP_16) ?_
      exact kt
    by_cases hc4 : (pq &&& (7 : Int32)) = (2 : Int32)
    · obtain ⟨fs, hr, hrun, hended, hW, hsame⟩ := X0.leave (v := some (.long tt)) (fun h => by rw [Bd.returns] at h; cases h)
      refine ⟨_, _, (pre0 _ (r1 _ (r3 _ ?_))), hrun, hended, _, _, rfl, ?_, ⟨_, rfl⟩, hW, hsame.mono (by decide) (by decide)⟩
      · show Steps p.tables e below (s₁.setTop (mkF m 17 #[.val (.int pq), .val (.long ee), .second, .val (.long ss), .second, .val (.long tt), .second, .val (.int (pq &&& (7 : Int32)))] [(.int (2 : Int32)), (.int (pq &&& (7 : Int32)))])) _
        refine XS.icmpNo X0.here hx rfl (hb hby dP_17) rfl (teq hc4).2 ?_
        show Steps p.tables e below (s₁.setTop (mkF m 20 #[.val (.int pq), .val (.long ee), .second, .val (.long ss), .second, .val (.long tt), .second, .val (.int (pq &&& (7 : Int32)))] [])) _
        refine XS.lload X0.here hx rfl (hb hby dP_20) rfl ?_
        show Steps p.tables e below (s₁.setTop (mkF m 22 #[.val (.int pq), .val (.long ee), .second, .val (.long ss), .second, .val (.long tt), .second, .val (.int (pq &&& (7 : Int32)))] [(.long tt)])) _
        jvm_step X0.here [X0.here.top, hx, (hb hby dP_22), X0.method', Bd.returns, narrow]
        first | (intro acts; rw [hr _ acts rfl rfl rfl]) | rw [hr _ _ rfl rfl rfl]
        exact Steps.refl _
      · show QP Z pq ee ss tt h0 n0 _ s₁.heap _
        rw [e0]
        exact ⟨(by simp [own_probe, hc2, hc4]), N0, rfl⟩
    · have r5 : ∀ t, Steps p.tables e below (s₁.setTop (mkF m 26 #[.val (.int pq), .val (.long ee), .second, .val (.long ss), .second, .val (.long tt), .second, .val (.int (pq &&& (7 : Int32)))] [(.int (3 : Int32)), (.int (pq &&& (7 : Int32)))])) t → Steps p.tables e below (s₁.setTop (mkF m 17 #[.val (.int pq), .val (.long ee), .second, .val (.long ss), .second, .val (.long tt), .second, .val (.int (pq &&& (7 : Int32)))] [(.int (2 : Int32)), (.int (pq &&& (7 : Int32)))])) t := fun t kt => by
        show Steps p.tables e below (s₁.setTop (mkF m 17 #[.val (.int pq), .val (.long ee), .second, .val (.long ss), .second, .val (.long tt), .second, .val (.int (pq &&& (7 : Int32)))] [(.int (2 : Int32)), (.int (pq &&& (7 : Int32)))])) _
        refine XS.icmpYes X0.here hx rfl (pc0 := 17) (pc' := 23) rfl (hb hby dP_17) rfl (feq hc4).2 (by decide) (by decide) ?_
        show Steps p.tables e below (s₁.setTop (mkF m 23 #[.val (.int pq), .val (.long ee), .second, .val (.long ss), .second, .val (.long tt), .second, .val (.int (pq &&& (7 : Int32)))] [])) _
        refine XS.iload X0.here hx rfl (hb hby dP_23) rfl ?_
        show Steps p.tables e below (s₁.setTop (mkF m 25 #[.val (.int pq), .val (.long ee), .second, .val (.long ss), .second, .val (.long tt), .second, .val (.int (pq &&& (7 : Int32)))] [(.int (pq &&& (7 : Int32)))])) _
        refine XS.iconst X0.here hx rfl (hb hby dP_25) ?_
        exact kt
      by_cases hc6 : (pq &&& (7 : Int32)) = (3 : Int32)
      · obtain ⟨fs, hr, hrun, hended, hW, hsame⟩ := X0.leave (v := some (.long (ss - (1 : Int64)))) (fun h => by rw [Bd.returns] at h; cases h)
        refine ⟨_, _, (pre0 _ (r1 _ (r3 _ (r5 _ ?_)))), hrun, hended, _, _, rfl, ?_, ⟨_, rfl⟩, hW, hsame.mono (by decide) (by decide)⟩
        · show Steps p.tables e below (s₁.setTop (mkF m 26 #[.val (.int pq), .val (.long ee), .second, .val (.long ss), .second, .val (.long tt), .second, .val (.int (pq &&& (7 : Int32)))] [(.int (3 : Int32)), (.int (pq &&& (7 : Int32)))])) _
          refine XS.icmpNo X0.here hx rfl (hb hby dP_26) rfl (teq hc6).2 ?_
          show Steps p.tables e below (s₁.setTop (mkF m 29 #[.val (.int pq), .val (.long ee), .second, .val (.long ss), .second, .val (.long tt), .second, .val (.int (pq &&& (7 : Int32)))] [])) _
          refine XS.lloadN X0.here hx rfl (hb hby dP_29) rfl ?_
          show Steps p.tables e below (s₁.setTop (mkF m 30 #[.val (.int pq), .val (.long ee), .second, .val (.long ss), .second, .val (.long tt), .second, .val (.int (pq &&& (7 : Int32)))] [(.long ss)])) _
          refine XS.lconst X0.here hx rfl (hb hby dP_30) ?_
          show Steps p.tables e below (s₁.setTop (mkF m 31 #[.val (.int pq), .val (.long ee), .second, .val (.long ss), .second, .val (.long tt), .second, .val (.int (pq &&& (7 : Int32)))] [(.long (1 : Int64)), (.long ss)])) _
          refine XS.lsub X0.here hx rfl (hb hby dP_31) rfl ?_
          show Steps p.tables e below (s₁.setTop (mkF m 32 #[.val (.int pq), .val (.long ee), .second, .val (.long ss), .second, .val (.long tt), .second, .val (.int (pq &&& (7 : Int32)))] [(.long (ss - (1 : Int64)))])) _
          jvm_step X0.here [X0.here.top, hx, (hb hby dP_32), X0.method', Bd.returns, narrow]
          first | (intro acts; rw [hr _ acts rfl rfl rfl]) | rw [hr _ _ rfl rfl rfl]
          exact Steps.refl _
        · show QP Z pq ee ss tt h0 n0 _ s₁.heap _
          rw [e0]
          exact ⟨(by simp [own_probe, hc2, hc4, hc6]), N0, rfl⟩
      · have r7 : ∀ t, Steps p.tables e below (s₁.setTop (mkF m 36 #[.val (.int pq), .val (.long ee), .second, .val (.long ss), .second, .val (.long tt), .second, .val (.int (pq &&& (7 : Int32)))] [(.int (4 : Int32)), (.int (pq &&& (7 : Int32)))])) t → Steps p.tables e below (s₁.setTop (mkF m 26 #[.val (.int pq), .val (.long ee), .second, .val (.long ss), .second, .val (.long tt), .second, .val (.int (pq &&& (7 : Int32)))] [(.int (3 : Int32)), (.int (pq &&& (7 : Int32)))])) t := fun t kt => by
          show Steps p.tables e below (s₁.setTop (mkF m 26 #[.val (.int pq), .val (.long ee), .second, .val (.long ss), .second, .val (.long tt), .second, .val (.int (pq &&& (7 : Int32)))] [(.int (3 : Int32)), (.int (pq &&& (7 : Int32)))])) _
          refine XS.icmpYes X0.here hx rfl (pc0 := 26) (pc' := 33) rfl (hb hby dP_26) rfl (feq hc6).2 (by decide) (by decide) ?_
          show Steps p.tables e below (s₁.setTop (mkF m 33 #[.val (.int pq), .val (.long ee), .second, .val (.long ss), .second, .val (.long tt), .second, .val (.int (pq &&& (7 : Int32)))] [])) _
          refine XS.iload X0.here hx rfl (hb hby dP_33) rfl ?_
          show Steps p.tables e below (s₁.setTop (mkF m 35 #[.val (.int pq), .val (.long ee), .second, .val (.long ss), .second, .val (.long tt), .second, .val (.int (pq &&& (7 : Int32)))] [(.int (pq &&& (7 : Int32)))])) _
          refine XS.iconst X0.here hx rfl (hb hby dP_35) ?_
          exact kt
        by_cases hc8 : (pq &&& (7 : Int32)) = (4 : Int32)
        · obtain ⟨fs, hr, hrun, hended, hW, hsame⟩ := X0.leave (v := some (.long (tt - (1 : Int64)))) (fun h => by rw [Bd.returns] at h; cases h)
          refine ⟨_, _, (pre0 _ (r1 _ (r3 _ (r5 _ (r7 _ ?_))))), hrun, hended, _, _, rfl, ?_, ⟨_, rfl⟩, hW, hsame.mono (by decide) (by decide)⟩
          · show Steps p.tables e below (s₁.setTop (mkF m 36 #[.val (.int pq), .val (.long ee), .second, .val (.long ss), .second, .val (.long tt), .second, .val (.int (pq &&& (7 : Int32)))] [(.int (4 : Int32)), (.int (pq &&& (7 : Int32)))])) _
            refine XS.icmpNo X0.here hx rfl (hb hby dP_36) rfl (teq hc8).2 ?_
            show Steps p.tables e below (s₁.setTop (mkF m 39 #[.val (.int pq), .val (.long ee), .second, .val (.long ss), .second, .val (.long tt), .second, .val (.int (pq &&& (7 : Int32)))] [])) _
            refine XS.lload X0.here hx rfl (hb hby dP_39) rfl ?_
            show Steps p.tables e below (s₁.setTop (mkF m 41 #[.val (.int pq), .val (.long ee), .second, .val (.long ss), .second, .val (.long tt), .second, .val (.int (pq &&& (7 : Int32)))] [(.long tt)])) _
            refine XS.lconst X0.here hx rfl (hb hby dP_41) ?_
            show Steps p.tables e below (s₁.setTop (mkF m 42 #[.val (.int pq), .val (.long ee), .second, .val (.long ss), .second, .val (.long tt), .second, .val (.int (pq &&& (7 : Int32)))] [(.long (1 : Int64)), (.long tt)])) _
            refine XS.lsub X0.here hx rfl (hb hby dP_42) rfl ?_
            show Steps p.tables e below (s₁.setTop (mkF m 43 #[.val (.int pq), .val (.long ee), .second, .val (.long ss), .second, .val (.long tt), .second, .val (.int (pq &&& (7 : Int32)))] [(.long (tt - (1 : Int64)))])) _
            jvm_step X0.here [X0.here.top, hx, (hb hby dP_43), X0.method', Bd.returns, narrow]
            first | (intro acts; rw [hr _ acts rfl rfl rfl]) | rw [hr _ _ rfl rfl rfl]
            exact Steps.refl _
          · show QP Z pq ee ss tt h0 n0 _ s₁.heap _
            rw [e0]
            exact ⟨(by simp [own_probe, hc2, hc4, hc6, hc8]), N0, rfl⟩
        · have r9 : ∀ t, Steps p.tables e below (s₁.setTop (mkF m 47 #[.val (.int pq), .val (.long ee), .second, .val (.long ss), .second, .val (.long tt), .second, .val (.int (pq &&& (7 : Int32)))] [(.int (5 : Int32)), (.int (pq &&& (7 : Int32)))])) t → Steps p.tables e below (s₁.setTop (mkF m 36 #[.val (.int pq), .val (.long ee), .second, .val (.long ss), .second, .val (.long tt), .second, .val (.int (pq &&& (7 : Int32)))] [(.int (4 : Int32)), (.int (pq &&& (7 : Int32)))])) t := fun t kt => by
            show Steps p.tables e below (s₁.setTop (mkF m 36 #[.val (.int pq), .val (.long ee), .second, .val (.long ss), .second, .val (.long tt), .second, .val (.int (pq &&& (7 : Int32)))] [(.int (4 : Int32)), (.int (pq &&& (7 : Int32)))])) _
            refine XS.icmpYes X0.here hx rfl (pc0 := 36) (pc' := 44) rfl (hb hby dP_36) rfl (feq hc8).2 (by decide) (by decide) ?_
            show Steps p.tables e below (s₁.setTop (mkF m 44 #[.val (.int pq), .val (.long ee), .second, .val (.long ss), .second, .val (.long tt), .second, .val (.int (pq &&& (7 : Int32)))] [])) _
            refine XS.iload X0.here hx rfl (hb hby dP_44) rfl ?_
            show Steps p.tables e below (s₁.setTop (mkF m 46 #[.val (.int pq), .val (.long ee), .second, .val (.long ss), .second, .val (.long tt), .second, .val (.int (pq &&& (7 : Int32)))] [(.int (pq &&& (7 : Int32)))])) _
            refine XS.iconst X0.here hx rfl (hb hby dP_46) ?_
            exact kt
          by_cases hc10 : (pq &&& (7 : Int32)) = (5 : Int32)
          · obtain ⟨fs, hr, hrun, hended, hW, hsame⟩ := X0.leave (v := some (.long (ss + (1 : Int64)))) (fun h => by rw [Bd.returns] at h; cases h)
            refine ⟨_, _, (pre0 _ (r1 _ (r3 _ (r5 _ (r7 _ (r9 _ ?_)))))), hrun, hended, _, _, rfl, ?_, ⟨_, rfl⟩, hW, hsame.mono (by decide) (by decide)⟩
            · show Steps p.tables e below (s₁.setTop (mkF m 47 #[.val (.int pq), .val (.long ee), .second, .val (.long ss), .second, .val (.long tt), .second, .val (.int (pq &&& (7 : Int32)))] [(.int (5 : Int32)), (.int (pq &&& (7 : Int32)))])) _
              refine XS.icmpNo X0.here hx rfl (hb hby dP_47) rfl (teq hc10).2 ?_
              show Steps p.tables e below (s₁.setTop (mkF m 50 #[.val (.int pq), .val (.long ee), .second, .val (.long ss), .second, .val (.long tt), .second, .val (.int (pq &&& (7 : Int32)))] [])) _
              refine XS.lloadN X0.here hx rfl (hb hby dP_50) rfl ?_
              show Steps p.tables e below (s₁.setTop (mkF m 51 #[.val (.int pq), .val (.long ee), .second, .val (.long ss), .second, .val (.long tt), .second, .val (.int (pq &&& (7 : Int32)))] [(.long ss)])) _
              refine XS.lconst X0.here hx rfl (hb hby dP_51) ?_
              show Steps p.tables e below (s₁.setTop (mkF m 52 #[.val (.int pq), .val (.long ee), .second, .val (.long ss), .second, .val (.long tt), .second, .val (.int (pq &&& (7 : Int32)))] [(.long (1 : Int64)), (.long ss)])) _
              refine XS.ladd X0.here hx rfl (hb hby dP_52) rfl ?_
              show Steps p.tables e below (s₁.setTop (mkF m 53 #[.val (.int pq), .val (.long ee), .second, .val (.long ss), .second, .val (.long tt), .second, .val (.int (pq &&& (7 : Int32)))] [(.long (ss + (1 : Int64)))])) _
              jvm_step X0.here [X0.here.top, hx, (hb hby dP_53), X0.method', Bd.returns, narrow]
              first | (intro acts; rw [hr _ acts rfl rfl rfl]) | rw [hr _ _ rfl rfl rfl]
              exact Steps.refl _
            · show QP Z pq ee ss tt h0 n0 _ s₁.heap _
              rw [e0]
              exact ⟨(by simp [own_probe, hc2, hc4, hc6, hc8, hc10]), N0, rfl⟩
          · have r11 : ∀ t, Steps p.tables e below (s₁.setTop (mkF m 58 #[.val (.int pq), .val (.long ee), .second, .val (.long ss), .second, .val (.long tt), .second, .val (.int (pq &&& (7 : Int32)))] [(.int (6 : Int32)), (.int (pq &&& (7 : Int32)))])) t → Steps p.tables e below (s₁.setTop (mkF m 47 #[.val (.int pq), .val (.long ee), .second, .val (.long ss), .second, .val (.long tt), .second, .val (.int (pq &&& (7 : Int32)))] [(.int (5 : Int32)), (.int (pq &&& (7 : Int32)))])) t := fun t kt => by
              show Steps p.tables e below (s₁.setTop (mkF m 47 #[.val (.int pq), .val (.long ee), .second, .val (.long ss), .second, .val (.long tt), .second, .val (.int (pq &&& (7 : Int32)))] [(.int (5 : Int32)), (.int (pq &&& (7 : Int32)))])) _
              refine XS.icmpYes X0.here hx rfl (pc0 := 47) (pc' := 54) rfl (hb hby dP_47) rfl (feq hc10).2 (by decide) (by decide) ?_
              show Steps p.tables e below (s₁.setTop (mkF m 54 #[.val (.int pq), .val (.long ee), .second, .val (.long ss), .second, .val (.long tt), .second, .val (.int (pq &&& (7 : Int32)))] [])) _
              refine XS.iload X0.here hx rfl (hb hby dP_54) rfl ?_
              show Steps p.tables e below (s₁.setTop (mkF m 56 #[.val (.int pq), .val (.long ee), .second, .val (.long ss), .second, .val (.long tt), .second, .val (.int (pq &&& (7 : Int32)))] [(.int (pq &&& (7 : Int32)))])) _
              refine XS.bipush X0.here hx rfl (hb hby dP_56) ?_
              exact kt
            by_cases hc12 : (pq &&& (7 : Int32)) = (6 : Int32)
            · obtain ⟨fs, hr, hrun, hended, hW, hsame⟩ := X0.leave (v := some (.long (tt + (1 : Int64)))) (fun h => by rw [Bd.returns] at h; cases h)
              refine ⟨_, _, (pre0 _ (r1 _ (r3 _ (r5 _ (r7 _ (r9 _ (r11 _ ?_))))))), hrun, hended, _, _, rfl, ?_, ⟨_, rfl⟩, hW, hsame.mono (by decide) (by decide)⟩
              · show Steps p.tables e below (s₁.setTop (mkF m 58 #[.val (.int pq), .val (.long ee), .second, .val (.long ss), .second, .val (.long tt), .second, .val (.int (pq &&& (7 : Int32)))] [(.int (6 : Int32)), (.int (pq &&& (7 : Int32)))])) _
                refine XS.icmpNo X0.here hx rfl (hb hby dP_58) rfl (teq hc12).2 ?_
                show Steps p.tables e below (s₁.setTop (mkF m 61 #[.val (.int pq), .val (.long ee), .second, .val (.long ss), .second, .val (.long tt), .second, .val (.int (pq &&& (7 : Int32)))] [])) _
                refine XS.lload X0.here hx rfl (hb hby dP_61) rfl ?_
                show Steps p.tables e below (s₁.setTop (mkF m 63 #[.val (.int pq), .val (.long ee), .second, .val (.long ss), .second, .val (.long tt), .second, .val (.int (pq &&& (7 : Int32)))] [(.long tt)])) _
                refine XS.lconst X0.here hx rfl (hb hby dP_63) ?_
                show Steps p.tables e below (s₁.setTop (mkF m 64 #[.val (.int pq), .val (.long ee), .second, .val (.long ss), .second, .val (.long tt), .second, .val (.int (pq &&& (7 : Int32)))] [(.long (1 : Int64)), (.long tt)])) _
                refine XS.ladd X0.here hx rfl (hb hby dP_64) rfl ?_
                show Steps p.tables e below (s₁.setTop (mkF m 65 #[.val (.int pq), .val (.long ee), .second, .val (.long ss), .second, .val (.long tt), .second, .val (.int (pq &&& (7 : Int32)))] [(.long (tt + (1 : Int64)))])) _
                jvm_step X0.here [X0.here.top, hx, (hb hby dP_65), X0.method', Bd.returns, narrow]
                first | (intro acts; rw [hr _ acts rfl rfl rfl]) | rw [hr _ _ rfl rfl rfl]
                exact Steps.refl _
              · show QP Z pq ee ss tt h0 n0 _ s₁.heap _
                rw [e0]
                exact ⟨(by simp [own_probe, hc2, hc4, hc6, hc8, hc10, hc12]), N0, rfl⟩
            · obtain ⟨fs, hr, hrun, hended, hW, hsame⟩ := X0.leave (v := some (.long ee)) (fun h => by rw [Bd.returns] at h; cases h)
              refine ⟨_, _, (pre0 _ (r1 _ (r3 _ (r5 _ (r7 _ (r9 _ (r11 _ ?_))))))), hrun, hended, _, _, rfl, ?_, ⟨_, rfl⟩, hW, hsame.mono (by decide) (by decide)⟩
              · show Steps p.tables e below (s₁.setTop (mkF m 58 #[.val (.int pq), .val (.long ee), .second, .val (.long ss), .second, .val (.long tt), .second, .val (.int (pq &&& (7 : Int32)))] [(.int (6 : Int32)), (.int (pq &&& (7 : Int32)))])) _
                refine XS.icmpYes X0.here hx rfl (pc0 := 58) (pc' := 66) rfl (hb hby dP_58) rfl (feq hc12).2 (by decide) (by decide) ?_
                show Steps p.tables e below (s₁.setTop (mkF m 66 #[.val (.int pq), .val (.long ee), .second, .val (.long ss), .second, .val (.long tt), .second, .val (.int (pq &&& (7 : Int32)))] [])) _
                refine XS.lloadN X0.here hx rfl (hb hby dP_66) rfl ?_
                show Steps p.tables e below (s₁.setTop (mkF m 67 #[.val (.int pq), .val (.long ee), .second, .val (.long ss), .second, .val (.long tt), .second, .val (.int (pq &&& (7 : Int32)))] [(.long ee)])) _
                jvm_step X0.here [X0.here.top, hx, (hb hby dP_67), X0.method', Bd.returns, narrow]
                first | (intro acts; rw [hr _ acts rfl rfl rfl]) | rw [hr _ _ rfl rfl rfl]
                exact Steps.refl _
              · show QP Z pq ee ss tt h0 n0 _ s₁.heap _
                rw [e0]
                exact ⟨(by simp [own_probe, hc2, hc4, hc6, hc8, hc10, hc12]), N0, rfl⟩
theorem own_pn1 : plainName "java/lang/Record" = true := by first | (simp [plainName, overriddenIn]; done) | decide +kernel
theorem dR_0 : decode jdk_30_method_1_code 0 = .ok (.aload_n 0, 1) := by decide +kernel
theorem dR_1 : decode jdk_30_method_1_code 1 = .ok (.invokespecial 1, 3) := by decide +kernel
theorem dR_4 : decode jdk_30_method_1_code 4 = .ok (.return_, 1) := by decide +kernel
theorem efR (m : MethodId) (a : Addr) : entryFrame m #[(.ref a)] 1 = mkF m 0 #[.val (.ref a)] [] := by first | (simp [entryFrame, mkF, argsToLocals, Value.category]; done) | rfl
def QR (Z : State) (a : Addr) (h0 : Heap) (n0 : Nat) (v : Option Value) (h : Heap) (L : List Loc) : Prop := v = none ∧ Fr n0 L ∧ h = h0
set_option maxRecDepth 65536 in
set_option maxHeartbeats 40000000 in
theorem rmR (l : Launch) (Z : State) (a0 : Array Value) (hw : ∀ d ∈ tables_1, d.before a0 Z = true) (ws : List Jvm.Cond) (a : Addr) (h0 : Heap) (n0 : Nat) (Z0 : n0 ≤ h0.size) :
    MetFree l (⟨"java/lang/Record", "<init>", "()V"⟩ : MethodName) (head1 (Jvm.Cond.code (⟨"java/lang/Record", "<init>", "()V"⟩ : MethodName) jdk_30_method_1_code 1 none :: ws) ({ frames := 1, cells := 0, slots := 0, locals := 12 } : Room)) (fun av_ U => av_ = #[(.ref a)] ∧ Z.Warmed39 U.vm ∧ U.heap = h0) (fun _ _ _ _ _ => True) (fun _ U o U' => ∃ v L, o = .returned v ∧ QR Z a h0 n0 v U'.heap L ∧ FrameEnd U o U' L ({ frames := 1, cells := 0, slots := 0, locals := 12 } : Room).cells ({ frames := 1, cells := 0, slots := 0, locals := 12 } : Room).slots) := by
  refine MetFree.of_bodySF (plainFor_of_name own_pn1) hisR ?_
  intro p e s m args below meth c s₁ Bd hml0 hP hK
  obtain ⟨rfl, hZ, hh⟩ := hP
  have hx := Bd.exec
  have hby := Bd.bytes
  have hml : c.maxLocals = 1 := hml0
  have hown : s.vm.findClass "java/lang/Record" = some m.cls := findClass_of_methodNamed Bd.named
  have hnm := (name_of_methodNamed Bd.named Bd.method).1
  have X0 : Stand p l e ({ frames := 1, cells := 0, slots := 0, locals := 12 } : Room) s m #[(.ref a)] below meth c s₁ [] 0 0 := Stand.of_body Bd
  have e0 : s₁.heap = h0 := by rw [← hh, Bd.state]; rfl
  have N0 := Fr.nil n0
  have pre0 : ∀ t, Steps p.tables e below (s₁.setTop (mkF m 0 #[.val (.ref a)] [])) t → Steps p.tables e below (s₁.setTop (entryFrame m #[(.ref a)] 1)) t := fun t k => castTop (efR m a) k
  obtain ⟨T1, X1, e1, st1⟩ := initO X0 hx hZ hown (hw _ (List.mem_of_getElem? (i := 15) rfl)) (hw _ (List.mem_of_getElem? (i := 16) rfl)) (hw _ (List.mem_of_getElem? (i := 17) rfl)) e0 (g := (mkF m 1 #[.val (.ref a)] [(.ref a)])) rfl (by rw [hml]; rfl) rfl (hb hby dR_1) (by decide) (W := 0) (by show 2 * 0 + _ ≤ _; exact Nat.le_of_eq rfl) (by decide)
  obtain ⟨fs, hr, hrun, hended, hW, hsame⟩ := X1.leave (v := none) (fun _ => rfl)
  refine ⟨_, _, (pre0 _ ?_), hrun, hended, _, _, rfl, ?_, ⟨_, rfl⟩, hW, hsame.mono (by decide) (by decide)⟩
  · show Steps p.tables e below (s₁.setTop (mkF m 0 #[.val (.ref a)] [])) _
    refine XS.aloadN X0.here hx rfl (hb hby dR_0) rfl rfl ?_
    show Steps p.tables e below (s₁.setTop (mkF m 1 #[.val (.ref a)] [(.ref a)])) _
    refine st1 _ ?_
    show Steps p.tables e below (T1.setTop (mkF m 4 #[.val (.ref a)] [])) _
    exact X1.returnOut hx Bd.returns (hb hby dR_4) hr
  · show QR Z a h0 n0 _ T1.heap _
    rw [e1]
    exact ⟨rfl, N0, rfl⟩
theorem own_pd0 : parseMethodDescriptor "()V" = some ⟨[], none⟩ := by decide +kernel
theorem own_pn2 : plainName "com/example/careful_throttle/carefulthrottle/CalendarDays$Day" = true := by first | (simp [plainName, overriddenIn]; done) | decide +kernel
theorem dD_0 : decode prog_3_method_1_code 0 = .ok (.aload_n 0, 1) := by decide +kernel
theorem dD_1 : decode prog_3_method_1_code 1 = .ok (.invokespecial 1, 3) := by decide +kernel
theorem dD_4 : decode prog_3_method_1_code 4 = .ok (.aload_n 0, 1) := by decide +kernel
theorem dD_5 : decode prog_3_method_1_code 5 = .ok (.lload_n 1, 1) := by decide +kernel
theorem dD_6 : decode prog_3_method_1_code 6 = .ok (.putfield 7, 3) := by decide +kernel
theorem dD_9 : decode prog_3_method_1_code 9 = .ok (.aload_n 0, 1) := by decide +kernel
theorem dD_10 : decode prog_3_method_1_code 10 = .ok (.lload_n 3, 1) := by decide +kernel
theorem dD_11 : decode prog_3_method_1_code 11 = .ok (.putfield 13, 3) := by decide +kernel
theorem dD_14 : decode prog_3_method_1_code 14 = .ok (.aload_n 0, 1) := by decide +kernel
theorem dD_15 : decode prog_3_method_1_code 15 = .ok (.lload 5, 2) := by decide +kernel
theorem dD_17 : decode prog_3_method_1_code 17 = .ok (.putfield 16, 3) := by decide +kernel
theorem dD_20 : decode prog_3_method_1_code 20 = .ok (.return_, 1) := by decide +kernel
theorem efD (m : MethodId) (a : Addr) (na : Int64) (ss : Int64) (tt : Int64) : entryFrame m #[(.ref a), (.long na), (.long ss), (.long tt)] 7 = mkF m 0 #[.val (.ref a), .val (.long na), .second, .val (.long ss), .second, .val (.long tt), .second] [] := by first | (simp [entryFrame, mkF, argsToLocals, Value.category]; done) | rfl
def QD (Z : State) (a : Addr) (na : Int64) (ss : Int64) (tt : Int64) (h0 : Heap) (n0 : Nat) (v : Option Value) (h : Heap) (L : List Loc) : Prop := v = none ∧ Fr n0 L ∧ Keep h0 h [a] ∧ Exa Z h a "com/example/careful_throttle/carefulthrottle/CalendarDays$Day" ∧ Fld Z h a "com/example/careful_throttle/carefulthrottle/CalendarDays$Day" "start" "J" (.long ss) ∧ Fld Z h a "com/example/careful_throttle/carefulthrottle/CalendarDays$Day" "end" "J" (.long tt)
set_option maxRecDepth 65536 in
set_option maxHeartbeats 40000000 in
theorem rmD (l : Launch) (Z : State) (a0 : Array Value) (hw : ∀ d ∈ tables_1, d.before a0 Z = true) (ws : List Jvm.Cond) (a : Addr) (na : Int64) (ss : Int64) (tt : Int64) (h0 : Heap) (n0 : Nat) (Z0 : n0 ≤ h0.size) (E_a : Exa Z h0 a "com/example/careful_throttle/carefulthrottle/CalendarDays$Day") (F_number_a : Fld Z h0 a "com/example/careful_throttle/carefulthrottle/CalendarDays$Day" "number" "J" (.long (0 : Int64))) (F_start_a : Fld Z h0 a "com/example/careful_throttle/carefulthrottle/CalendarDays$Day" "start" "J" (.long (0 : Int64))) (F_end_a : Fld Z h0 a "com/example/careful_throttle/carefulthrottle/CalendarDays$Day" "end" "J" (.long (0 : Int64))) (g_a : n0 ≤ a) :
    MetFree l (⟨"com/example/careful_throttle/carefulthrottle/CalendarDays$Day", "<init>", "(JJJ)V"⟩ : MethodName) (head1 (Jvm.Cond.code (⟨"com/example/careful_throttle/carefulthrottle/CalendarDays$Day", "<init>", "(JJJ)V"⟩ : MethodName) prog_3_method_1_code 7 none :: ws) ({ frames := 2, cells := 0, slots := 0, locals := 24 } : Room)) (fun av_ U => av_ = #[(.ref a), (.long na), (.long ss), (.long tt)] ∧ Z.Warmed39 U.vm ∧ U.heap = h0) (fun _ _ _ _ _ => True) (fun _ U o U' => ∃ v L, o = .returned v ∧ QD Z a na ss tt h0 n0 v U'.heap L ∧ FrameEnd U o U' L ({ frames := 2, cells := 0, slots := 0, locals := 24 } : Room).cells ({ frames := 2, cells := 0, slots := 0, locals := 24 } : Room).slots) := by
  refine MetFree.of_bodySF (plainFor_of_name own_pn2) hisR ?_
  intro p e s m args below meth c s₁ Bd hml0 hP hK
  obtain ⟨rfl, hZ, hh⟩ := hP
  have hx := Bd.exec
  have hby := Bd.bytes
  have hml : c.maxLocals = 7 := hml0
  have hown : s.vm.findClass "com/example/careful_throttle/carefulthrottle/CalendarDays$Day" = some m.cls := findClass_of_methodNamed Bd.named
  have hnm := (name_of_methodNamed Bd.named Bd.method).1
  have X0 : Stand p l e ({ frames := 2, cells := 0, slots := 0, locals := 24 } : Room) s m #[(.ref a), (.long na), (.long ss), (.long tt)] below meth c s₁ [] 0 0 := Stand.of_body Bd
  have e0 : s₁.heap = h0 := by rw [← hh, Bd.state]; rfl
  have N0 := Fr.nil n0
  have pre0 : ∀ t, Steps p.tables e below (s₁.setTop (mkF m 0 #[.val (.ref a), .val (.long na), .second, .val (.long ss), .second, .val (.long tt), .second] [])) t → Steps p.tables e below (s₁.setTop (entryFrame m #[(.ref a), (.long na), (.long ss), (.long tt)] 7)) t := fun t k => castTop (efD m a na ss tt) k
  obtain ⟨_, _, ⟨T1, L1, k1, n1⟩, -, X1, ⟨Lc1, hQ1, l1, y1, z1⟩, st1⟩ := X0.specialBack hx (y := (⟨"java/lang/Record", "<init>", "()V"⟩ : MethodName)) rfl hown (mvT hZ (hw _ (List.mem_of_getElem? (i := 10) rfl))) (mvT hZ (hw _ (List.mem_of_getElem? (i := 11) rfl))) (mvT hZ (hw _ (List.mem_of_getElem? (i := 14) rfl))) (by decide) (backOf (W := 0) (rmR l Z a0 hw [] a h0 n0 Z0 ) hZ (hw _ (List.mem_of_getElem? (i := 14) rfl)) (hw _ (List.mem_of_getElem? (i := 13) rfl)) (by decide) (by decide)) (g := (mkF m 1 #[.val (.ref a), .val (.long na), .second, .val (.long ss), .second, .val (.long tt), .second] [(.ref a)])) rfl (by rw [hml]; rfl) (Steps.refl _) (a := a) (argsL := []) (rest := []) (lenOf own_pd0 rfl) rfl (by show 2 * 0 + _ ≤ _; exact Nat.le_of_eq rfl) (hb hby dD_1) (fun _ _ => ⟨rfl, e0, (by decide : 0 + 0 ≤ _), (by decide : 0 + 0 ≤ _)⟩)
  dsimp only [Pt.U, Pt.locs, Pt.cells, Pt.slots] at X1 l1 y1 z1 st1 hQ1
  subst l1 y1 z1
  obtain ⟨rfl, Nq1, e1⟩ := hQ1
  have N1 := Fr.app N0 Nq1
  obtain ⟨T2, h2, X2, e2, W2, st2⟩ := putF X1 hx hZ hown (host := "") (Or.inl (hw _ (List.mem_of_getElem? (i := 18) rfl))) Via.refl e1 F_number_a E_a (Or.inr ⟨(hw _ (List.mem_of_getElem? (i := 19) rfl)), rfl, hnm⟩) (hw _ (List.mem_of_getElem? (i := 5) rfl)) (ty := .long) (by decide) rfl rfl (g := (mkF m 6 #[.val (.ref a), .val (.long na), .second, .val (.long ss), .second, .val (.long tt), .second] [(.long na), (.ref a)])) rfl rfl (hb hby dD_6)
  have F2 : Fld Z h2 a "com/example/careful_throttle/carefulthrottle/CalendarDays$Day" "number" "J" (.long na) := Fld.same W2 F_number_a
  have K2 : Keep h0 h2 [a] := (Keep.refl h0 [a]).wr W2 (Or.inl (List.mem_of_getElem? (i := 0) rfl))
  have Zs2 : n0 ≤ h2.size := Nat.le_trans Z0 (Keep.of_wr W2).1
  have N2 := Fr.snoc X2 N1 g_a
  obtain ⟨T3, h3, X3, e3, W3, st3⟩ := putF X2 hx hZ hown (host := "") (Or.inl (hw _ (List.mem_of_getElem? (i := 20) rfl))) Via.refl e2 (Fld.other W2 F_start_a (Or.inr (slot_ne (Or.inr (hw _ (List.mem_of_getElem? (i := 21) rfl))) (Or.inr (hw _ (List.mem_of_getElem? (i := 19) rfl))) (by decide) (t := .long) (t' := .long) (by decide) (by decide)))) (E_a.wr W2) (Or.inr ⟨(hw _ (List.mem_of_getElem? (i := 21) rfl)), rfl, hnm⟩) (hw _ (List.mem_of_getElem? (i := 5) rfl)) (ty := .long) (by decide) rfl rfl (g := (mkF m 11 #[.val (.ref a), .val (.long na), .second, .val (.long ss), .second, .val (.long tt), .second] [(.long ss), (.ref a)])) rfl rfl (hb hby dD_11)
  have F3 : Fld Z h3 a "com/example/careful_throttle/carefulthrottle/CalendarDays$Day" "start" "J" (.long ss) := Fld.same W3 (Fld.other W2 F_start_a (Or.inr (slot_ne (Or.inr (hw _ (List.mem_of_getElem? (i := 21) rfl))) (Or.inr (hw _ (List.mem_of_getElem? (i := 19) rfl))) (by decide) (t := .long) (t' := .long) (by decide) (by decide))))
  have K3 : Keep h0 h3 [a] := K2.wr W3 (Or.inl (List.mem_of_getElem? (i := 0) rfl))
  have Zs3 : n0 ≤ h3.size := Nat.le_trans Zs2 (Keep.of_wr W3).1
  have N3 := Fr.snoc X3 N2 g_a
  obtain ⟨T4, h4, X4, e4, W4, st4⟩ := putF X3 hx hZ hown (host := "") (Or.inl (hw _ (List.mem_of_getElem? (i := 22) rfl))) Via.refl e3 (Fld.other W3 (Fld.other W2 F_end_a (Or.inr (slot_ne (Or.inr (hw _ (List.mem_of_getElem? (i := 23) rfl))) (Or.inr (hw _ (List.mem_of_getElem? (i := 19) rfl))) (by decide) (t := .long) (t' := .long) (by decide) (by decide)))) (Or.inr (slot_ne (Or.inr (hw _ (List.mem_of_getElem? (i := 23) rfl))) (Or.inr (hw _ (List.mem_of_getElem? (i := 21) rfl))) (by decide) (t := .long) (t' := .long) (by decide) (by decide)))) ((E_a.wr W2).wr W3) (Or.inr ⟨(hw _ (List.mem_of_getElem? (i := 23) rfl)), rfl, hnm⟩) (hw _ (List.mem_of_getElem? (i := 5) rfl)) (ty := .long) (by decide) rfl rfl (g := (mkF m 17 #[.val (.ref a), .val (.long na), .second, .val (.long ss), .second, .val (.long tt), .second] [(.long tt), (.ref a)])) rfl rfl (hb hby dD_17)
  have F4 : Fld Z h4 a "com/example/careful_throttle/carefulthrottle/CalendarDays$Day" "end" "J" (.long tt) := Fld.same W4 (Fld.other W3 (Fld.other W2 F_end_a (Or.inr (slot_ne (Or.inr (hw _ (List.mem_of_getElem? (i := 23) rfl))) (Or.inr (hw _ (List.mem_of_getElem? (i := 19) rfl))) (by decide) (t := .long) (t' := .long) (by decide) (by decide)))) (Or.inr (slot_ne (Or.inr (hw _ (List.mem_of_getElem? (i := 23) rfl))) (Or.inr (hw _ (List.mem_of_getElem? (i := 21) rfl))) (by decide) (t := .long) (t' := .long) (by decide) (by decide))))
  have K4 : Keep h0 h4 [a] := K3.wr W4 (Or.inl (List.mem_of_getElem? (i := 0) rfl))
  have Zs4 : n0 ≤ h4.size := Nat.le_trans Zs3 (Keep.of_wr W4).1
  have N4 := Fr.snoc X4 N3 g_a
  obtain ⟨fs, hr, hrun, hended, hW, hsame⟩ := X4.leave (v := none) (fun _ => rfl)
  refine ⟨_, _, (pre0 _ ?_), hrun, hended, _, _, rfl, ?_, ⟨_, rfl⟩, hW, hsame.mono (by decide) (by decide)⟩
  · show Steps p.tables e below (s₁.setTop (mkF m 0 #[.val (.ref a), .val (.long na), .second, .val (.long ss), .second, .val (.long tt), .second] [])) _
    refine XS.aloadN X0.here hx rfl (hb hby dD_0) rfl rfl ?_
    show Steps p.tables e below (s₁.setTop (mkF m 1 #[.val (.ref a), .val (.long na), .second, .val (.long ss), .second, .val (.long tt), .second] [(.ref a)])) _
    refine st1.trans ?_
    show Steps p.tables e below (T1.setTop (mkF m 4 #[.val (.ref a), .val (.long na), .second, .val (.long ss), .second, .val (.long tt), .second] [])) _
    refine XS.aloadN X1.here hx rfl (hb hby dD_4) rfl rfl ?_
    show Steps p.tables e below (T1.setTop (mkF m 5 #[.val (.ref a), .val (.long na), .second, .val (.long ss), .second, .val (.long tt), .second] [(.ref a)])) _
    refine XS.lloadN X1.here hx rfl (hb hby dD_5) rfl ?_
    show Steps p.tables e below (T1.setTop (mkF m 6 #[.val (.ref a), .val (.long na), .second, .val (.long ss), .second, .val (.long tt), .second] [(.long na), (.ref a)])) _
    refine st2 _ ?_
    show Steps p.tables e below (T2.setTop (mkF m 9 #[.val (.ref a), .val (.long na), .second, .val (.long ss), .second, .val (.long tt), .second] [])) _
    refine XS.aloadN X2.here hx rfl (hb hby dD_9) rfl rfl ?_
    show Steps p.tables e below (T2.setTop (mkF m 10 #[.val (.ref a), .val (.long na), .second, .val (.long ss), .second, .val (.long tt), .second] [(.ref a)])) _
    refine XS.lloadN X2.here hx rfl (hb hby dD_10) rfl ?_
    show Steps p.tables e below (T2.setTop (mkF m 11 #[.val (.ref a), .val (.long na), .second, .val (.long ss), .second, .val (.long tt), .second] [(.long ss), (.ref a)])) _
    refine st3 _ ?_
    show Steps p.tables e below (T3.setTop (mkF m 14 #[.val (.ref a), .val (.long na), .second, .val (.long ss), .second, .val (.long tt), .second] [])) _
    refine XS.aloadN X3.here hx rfl (hb hby dD_14) rfl rfl ?_
    show Steps p.tables e below (T3.setTop (mkF m 15 #[.val (.ref a), .val (.long na), .second, .val (.long ss), .second, .val (.long tt), .second] [(.ref a)])) _
    refine XS.lload X3.here hx rfl (hb hby dD_15) rfl ?_
    show Steps p.tables e below (T3.setTop (mkF m 17 #[.val (.ref a), .val (.long na), .second, .val (.long ss), .second, .val (.long tt), .second] [(.long tt), (.ref a)])) _
    refine st4 _ ?_
    show Steps p.tables e below (T4.setTop (mkF m 20 #[.val (.ref a), .val (.long na), .second, .val (.long ss), .second, .val (.long tt), .second] [])) _
    exact X4.returnOut hx Bd.returns (hb hby dD_20) hr
  · show QD Z a na ss tt h0 n0 _ T4.heap _
    rw [e4]
    exact ⟨rfl, N4, K4, (((E_a.wr W2).wr W3).wr W4), (Fld.other W4 F3 (Or.inr (slot_ne (Or.inr (hw _ (List.mem_of_getElem? (i := 21) rfl))) (Or.inr (hw _ (List.mem_of_getElem? (i := 23) rfl))) (by decide) (t := .long) (t' := .long) (by decide) (by decide)))), F4⟩
theorem dH_0 : decode prog_3_method_2_code 0 = .ok (.aload_n 0, 1) := by decide +kernel
theorem dH_1 : decode prog_3_method_2_code 1 = .ok (.getfield 13, 3) := by decide +kernel
theorem dH_4 : decode prog_3_method_2_code 4 = .ok (.lload_n 1, 1) := by decide +kernel
theorem dH_5 : decode prog_3_method_2_code 5 = .ok (.lcmp, 1) := by decide +kernel
theorem dH_6 : decode prog_3_method_2_code 6 = .ok (.ifCond .gt 16, 3) := by decide +kernel
theorem dH_9 : decode prog_3_method_2_code 9 = .ok (.lload_n 1, 1) := by decide +kernel
theorem dH_10 : decode prog_3_method_2_code 10 = .ok (.aload_n 0, 1) := by decide +kernel
theorem dH_11 : decode prog_3_method_2_code 11 = .ok (.getfield 16, 3) := by decide +kernel
theorem dH_14 : decode prog_3_method_2_code 14 = .ok (.lcmp, 1) := by decide +kernel
theorem dH_15 : decode prog_3_method_2_code 15 = .ok (.ifCond .ge 7, 3) := by decide +kernel
theorem dH_18 : decode prog_3_method_2_code 18 = .ok (.iconst 1, 1) := by decide +kernel
theorem dH_19 : decode prog_3_method_2_code 19 = .ok (.goto 4, 3) := by decide +kernel
theorem dH_22 : decode prog_3_method_2_code 22 = .ok (.iconst 0, 1) := by decide +kernel
theorem dH_23 : decode prog_3_method_2_code 23 = .ok (.ireturn, 1) := by decide +kernel
theorem efH (m : MethodId) (a : Addr) (xx : Int64) : entryFrame m #[(.ref a), (.long xx)] 3 = mkF m 0 #[.val (.ref a), .val (.long xx), .second] [] := by first | (simp [entryFrame, mkF, argsToLocals, Value.category]; done) | rfl
def QH (Z : State) (a : Addr) (xx : Int64) (ss : Int64) (tt : Int64) (h0 : Heap) (n0 : Nat) (v : Option Value) (h : Heap) (L : List Loc) : Prop := v = some (.int (own_holds ss tt xx)) ∧ Fr n0 L ∧ h = h0
set_option maxRecDepth 65536 in
set_option maxHeartbeats 40000000 in
theorem rmH (l : Launch) (Z : State) (a0 : Array Value) (hw : ∀ d ∈ tables_1, d.before a0 Z = true) (ws : List Jvm.Cond) (a : Addr) (xx : Int64) (ss : Int64) (tt : Int64) (h0 : Heap) (n0 : Nat) (Z0 : n0 ≤ h0.size) (E_a : Exa Z h0 a "com/example/careful_throttle/carefulthrottle/CalendarDays$Day") (F_start_a : Fld Z h0 a "com/example/careful_throttle/carefulthrottle/CalendarDays$Day" "start" "J" (.long ss)) (F_end_a : Fld Z h0 a "com/example/careful_throttle/carefulthrottle/CalendarDays$Day" "end" "J" (.long tt)) :
    MetFree l (⟨"com/example/careful_throttle/carefulthrottle/CalendarDays$Day", "holds", "(J)Z"⟩ : MethodName) (head1 (Jvm.Cond.code (⟨"com/example/careful_throttle/carefulthrottle/CalendarDays$Day", "holds", "(J)Z"⟩ : MethodName) prog_3_method_2_code 3 (some .boolean) :: ws) ({ frames := 0, cells := 0, slots := 0, locals := 0 } : Room)) (fun av_ U => av_ = #[(.ref a), (.long xx)] ∧ Z.Warmed39 U.vm ∧ U.heap = h0) (fun _ _ _ _ _ => True) (fun _ U o U' => ∃ v L, o = .returned v ∧ QH Z a xx ss tt h0 n0 v U'.heap L ∧ FrameEnd U o U' L ({ frames := 0, cells := 0, slots := 0, locals := 0 } : Room).cells ({ frames := 0, cells := 0, slots := 0, locals := 0 } : Room).slots) := by
  refine MetFree.of_bodySF (plainFor_of_name own_pn2) hisR ?_
  intro p e s m args below meth c s₁ Bd hml0 hP hK
  obtain ⟨rfl, hZ, hh⟩ := hP
  have hx := Bd.exec
  have hby := Bd.bytes
  have hml : c.maxLocals = 3 := hml0
  have hown : s.vm.findClass "com/example/careful_throttle/carefulthrottle/CalendarDays$Day" = some m.cls := findClass_of_methodNamed Bd.named
  have hnm := (name_of_methodNamed Bd.named Bd.method).1
  have X0 : Stand p l e ({ frames := 0, cells := 0, slots := 0, locals := 0 } : Room) s m #[(.ref a), (.long xx)] below meth c s₁ [] 0 0 := Stand.of_body Bd
  have e0 : s₁.heap = h0 := by rw [← hh, Bd.state]; rfl
  have N0 := Fr.nil n0
  have pre0 : ∀ t, Steps p.tables e below (s₁.setTop (mkF m 0 #[.val (.ref a), .val (.long xx), .second] [])) t → Steps p.tables e below (s₁.setTop (entryFrame m #[(.ref a), (.long xx)] 3)) t := fun t k => castTop (efH m a xx) k
  obtain ⟨T1, X1, e1, st1⟩ := getF X0 hx hZ hown (host := "") (Or.inl (hw _ (List.mem_of_getElem? (i := 20) rfl))) Via.refl e0 F_start_a (g := (mkF m 1 #[.val (.ref a), .val (.long xx), .second] [(.ref a)])) rfl rfl (hb hby dH_1)
  have r2 : ∀ t, Steps p.tables e below (T1.setTop (mkF m 6 #[.val (.ref a), .val (.long xx), .second] [(.int (lcmpW ss xx))])) t → Steps p.tables e below (s₁.setTop (mkF m 0 #[.val (.ref a), .val (.long xx), .second] [])) t := fun t kt => by
    show Steps p.tables e below (s₁.setTop (mkF m 0 #[.val (.ref a), .val (.long xx), .second] [])) _
    refine XS.aloadN X0.here hx rfl (hb hby dH_0) rfl rfl ?_
    show Steps p.tables e below (s₁.setTop (mkF m 1 #[.val (.ref a), .val (.long xx), .second] [(.ref a)])) _
    refine st1 _ ?_
    show Steps p.tables e below (T1.setTop (mkF m 4 #[.val (.ref a), .val (.long xx), .second] [(.long ss)])) _
    refine XS.lloadN X1.here hx rfl (hb hby dH_4) rfl ?_
    show Steps p.tables e below (T1.setTop (mkF m 5 #[.val (.ref a), .val (.long xx), .second] [(.long xx), (.long ss)])) _
    refine XS.lcmp X1.here hx rfl (hb hby dH_5) rfl ?_
    exact kt
  by_cases hc3 : xx < ss
  · obtain ⟨fs, hr, hrun, hended, hW, hsame⟩ := X1.leave (v := some (.int (0 : Int32))) (fun h => by rw [Bd.returns] at h; cases h)
    refine ⟨_, _, (pre0 _ (r2 _ ?_)), hrun, hended, _, _, rfl, ?_, ⟨_, rfl⟩, hW, hsame.mono (by decide) (by decide)⟩
    · show Steps p.tables e below (T1.setTop (mkF m 6 #[.val (.ref a), .val (.long xx), .second] [(.int (lcmpW ss xx))])) _
      refine XS.ifYes X1.here hx rfl (pc0 := 6) (pc' := 22) rfl (hb hby dH_6) rfl ((if0 _ _).trans (tlt ((lw_gt _ _).mpr hc3)).2.2.1) (by decide) (by decide) ?_
      show Steps p.tables e below (T1.setTop (mkF m 22 #[.val (.ref a), .val (.long xx), .second] [])) _
      refine XS.iconst X1.here hx rfl (hb hby dH_22) ?_
      show Steps p.tables e below (T1.setTop (mkF m 23 #[.val (.ref a), .val (.long xx), .second] [(.int (0 : Int32))])) _
      exact retN X1 hx (t := .boolean) Bd.returns (by simp) (hb hby dH_23) hr
    · show QH Z a xx ss tt h0 n0 _ T1.heap _
      rw [e1]
      exact ⟨(by simp [own_holds, hc3]), N0, rfl⟩
  · obtain ⟨T4, X4, e4, st4⟩ := getF X1 hx hZ hown (host := "") (Or.inl (hw _ (List.mem_of_getElem? (i := 22) rfl))) Via.refl e1 F_end_a (g := (mkF m 11 #[.val (.ref a), .val (.long xx), .second] [(.ref a), (.long xx)])) rfl rfl (hb hby dH_11)
    have r5 : ∀ t, Steps p.tables e below (T4.setTop (mkF m 15 #[.val (.ref a), .val (.long xx), .second] [(.int (lcmpW xx tt))])) t → Steps p.tables e below (T1.setTop (mkF m 6 #[.val (.ref a), .val (.long xx), .second] [(.int (lcmpW ss xx))])) t := fun t kt => by
      show Steps p.tables e below (T1.setTop (mkF m 6 #[.val (.ref a), .val (.long xx), .second] [(.int (lcmpW ss xx))])) _
      refine XS.ifNo X1.here hx rfl (hb hby dH_6) rfl ((if0 _ _).trans (flt (fun q => hc3 ((lw_gt _ _).mp q))).2.2.1) ?_
      show Steps p.tables e below (T1.setTop (mkF m 9 #[.val (.ref a), .val (.long xx), .second] [])) _
      refine XS.lloadN X1.here hx rfl (hb hby dH_9) rfl ?_
      show Steps p.tables e below (T1.setTop (mkF m 10 #[.val (.ref a), .val (.long xx), .second] [(.long xx)])) _
      refine XS.aloadN X1.here hx rfl (hb hby dH_10) rfl rfl ?_
      show Steps p.tables e below (T1.setTop (mkF m 11 #[.val (.ref a), .val (.long xx), .second] [(.ref a), (.long xx)])) _
      refine st4 _ ?_
      show Steps p.tables e below (T4.setTop (mkF m 14 #[.val (.ref a), .val (.long xx), .second] [(.long tt), (.long xx)])) _
      refine XS.lcmp X4.here hx rfl (hb hby dH_14) rfl ?_
      exact kt
    by_cases hc6 : xx < tt
    · obtain ⟨fs, hr, hrun, hended, hW, hsame⟩ := X4.leave (v := some (.int (1 : Int32))) (fun h => by rw [Bd.returns] at h; cases h)
      refine ⟨_, _, (pre0 _ (r2 _ (r5 _ ?_))), hrun, hended, _, _, rfl, ?_, ⟨_, rfl⟩, hW, hsame.mono (by decide) (by decide)⟩
      · show Steps p.tables e below (T4.setTop (mkF m 15 #[.val (.ref a), .val (.long xx), .second] [(.int (lcmpW xx tt))])) _
        refine XS.ifNo X4.here hx rfl (hb hby dH_15) rfl ((if0 _ _).trans (tlt ((lw_lt _ _).mpr hc6)).2.1) ?_
        show Steps p.tables e below (T4.setTop (mkF m 18 #[.val (.ref a), .val (.long xx), .second] [])) _
        refine XS.iconst X4.here hx rfl (hb hby dH_18) ?_
        show Steps p.tables e below (T4.setTop (mkF m 19 #[.val (.ref a), .val (.long xx), .second] [(.int (1 : Int32))])) _
        refine XS.goto X4.here hx rfl (pc0 := 19) (pc' := 23) rfl (hb hby dH_19) (by decide) (by decide) ?_
        show Steps p.tables e below (T4.setTop (mkF m 23 #[.val (.ref a), .val (.long xx), .second] [(.int (1 : Int32))])) _
        exact retN X4 hx (t := .boolean) Bd.returns (by simp) (hb hby dH_23) hr
      · show QH Z a xx ss tt h0 n0 _ T4.heap _
        rw [e4]
        exact ⟨(by simp [own_holds, hc3, hc6]), N0, rfl⟩
    · obtain ⟨fs, hr, hrun, hended, hW, hsame⟩ := X4.leave (v := some (.int (0 : Int32))) (fun h => by rw [Bd.returns] at h; cases h)
      refine ⟨_, _, (pre0 _ (r2 _ (r5 _ ?_))), hrun, hended, _, _, rfl, ?_, ⟨_, rfl⟩, hW, hsame.mono (by decide) (by decide)⟩
      · show Steps p.tables e below (T4.setTop (mkF m 15 #[.val (.ref a), .val (.long xx), .second] [(.int (lcmpW xx tt))])) _
        refine XS.ifYes X4.here hx rfl (pc0 := 15) (pc' := 22) rfl (hb hby dH_15) rfl ((if0 _ _).trans (flt (fun q => hc6 ((lw_lt _ _).mp q))).2.1) (by decide) (by decide) ?_
        show Steps p.tables e below (T4.setTop (mkF m 22 #[.val (.ref a), .val (.long xx), .second] [])) _
        refine XS.iconst X4.here hx rfl (hb hby dH_22) ?_
        show Steps p.tables e below (T4.setTop (mkF m 23 #[.val (.ref a), .val (.long xx), .second] [(.int (0 : Int32))])) _
        exact retN X4 hx (t := .boolean) Bd.returns (by simp) (hb hby dH_23) hr
      · show QH Z a xx ss tt h0 n0 _ T4.heap _
        rw [e4]
        exact ⟨(by simp [own_holds, hc3, hc6]), N0, rfl⟩
theorem dI_0 : decode method_3_code 0 = .ok (.lload 4, 2) := by decide +kernel
theorem dI_2 : decode method_3_code 2 = .ok (.ldc2_w 9, 3) := by decide +kernel
theorem dI_5 : decode method_3_code 5 = .ok (.lcmp, 1) := by decide +kernel
theorem dI_6 : decode method_3_code 6 = .ok (.ifCond .ne 5, 3) := by decide +kernel
theorem dI_9 : decode method_3_code 9 = .ok (.iconst 0, 1) := by decide +kernel
theorem dI_10 : decode method_3_code 10 = .ok (.ireturn, 1) := by decide +kernel
theorem dI_11 : decode method_3_code 11 = .ok (.lload_n 0, 1) := by decide +kernel
theorem dI_12 : decode method_3_code 12 = .ok (.lload_n 2, 1) := by decide +kernel
theorem dI_13 : decode method_3_code 13 = .ok (.lcmp, 1) := by decide +kernel
theorem dI_14 : decode method_3_code 14 = .ok (.ifCond .ge 5, 3) := by decide +kernel
theorem dI_17 : decode method_3_code 17 = .ok (.iconst 0, 1) := by decide +kernel
theorem dI_18 : decode method_3_code 18 = .ok (.ireturn, 1) := by decide +kernel
theorem dI_19 : decode method_3_code 19 = .ok (.lload_n 0, 1) := by decide +kernel
theorem dI_20 : decode method_3_code 20 = .ok (.lload 4, 2) := by decide +kernel
theorem dI_22 : decode method_3_code 22 = .ok (.lconst 1, 1) := by decide +kernel
theorem dI_23 : decode method_3_code 23 = .ok (.lsub, 1) := by decide +kernel
theorem dI_24 : decode method_3_code 24 = .ok (.lcmp, 1) := by decide +kernel
theorem dI_25 : decode method_3_code 25 = .ok (.ifCond .le 5, 3) := by decide +kernel
theorem dI_28 : decode method_3_code 28 = .ok (.iconst 0, 1) := by decide +kernel
theorem dI_29 : decode method_3_code 29 = .ok (.ireturn, 1) := by decide +kernel
theorem dI_30 : decode method_3_code 30 = .ok (.iconst 1, 1) := by decide +kernel
theorem dI_31 : decode method_3_code 31 = .ok (.ireturn, 1) := by decide +kernel
theorem efI (m : MethodId) (xx : Int64) (ss : Int64) (tt : Int64) : entryFrame m #[(.long xx), (.long ss), (.long tt)] 6 = mkF m 0 #[.val (.long xx), .second, .val (.long ss), .second, .val (.long tt), .second] [] := by first | (simp [entryFrame, mkF, argsToLocals, Value.category]; done) | rfl
def QI (Z : State) (xx : Int64) (ss : Int64) (tt : Int64) (h0 : Heap) (n0 : Nat) (v : Option Value) (h : Heap) (L : List Loc) : Prop := v = some (.int (own_inside xx ss tt)) ∧ Fr n0 L ∧ h = h0
set_option maxRecDepth 65536 in
set_option maxHeartbeats 40000000 in
theorem rmI (l : Launch) (Z : State) (a0 : Array Value) (hw : ∀ d ∈ tables_1, d.before a0 Z = true) (ws : List Jvm.Cond) (xx : Int64) (ss : Int64) (tt : Int64) (h0 : Heap) (n0 : Nat) (Z0 : n0 ≤ h0.size) :
    MetFree l (⟨"com/example/careful_throttle/carefulthrottle/DayHoldsPinLaw", "inside", "(JJJ)Z"⟩ : MethodName) (head1 (Jvm.Cond.code (⟨"com/example/careful_throttle/carefulthrottle/DayHoldsPinLaw", "inside", "(JJJ)Z"⟩ : MethodName) method_3_code 6 (some .boolean) :: ws) ({ frames := 0, cells := 0, slots := 0, locals := 0 } : Room)) (fun av_ U => av_ = #[(.long xx), (.long ss), (.long tt)] ∧ Z.Warmed39 U.vm ∧ U.heap = h0) (fun _ _ _ _ _ => True) (fun _ U o U' => ∃ v L, o = .returned v ∧ QI Z xx ss tt h0 n0 v U'.heap L ∧ FrameEnd U o U' L ({ frames := 0, cells := 0, slots := 0, locals := 0 } : Room).cells ({ frames := 0, cells := 0, slots := 0, locals := 0 } : Room).slots) := by
  refine MetFree.of_bodySF (plainFor_of_name own_pn0) hisR ?_
  intro p e s m args below meth c s₁ Bd hml0 hP hK
  obtain ⟨rfl, hZ, hh⟩ := hP
  have hx := Bd.exec
  have hby := Bd.bytes
  have hml : c.maxLocals = 6 := hml0
  have hown : s.vm.findClass "com/example/careful_throttle/carefulthrottle/DayHoldsPinLaw" = some m.cls := findClass_of_methodNamed Bd.named
  have hnm := (name_of_methodNamed Bd.named Bd.method).1
  have X0 : Stand p l e ({ frames := 0, cells := 0, slots := 0, locals := 0 } : Room) s m #[(.long xx), (.long ss), (.long tt)] below meth c s₁ [] 0 0 := Stand.of_body Bd
  have e0 : s₁.heap = h0 := by rw [← hh, Bd.state]; rfl
  have N0 := Fr.nil n0
  have pre0 : ∀ t, Steps p.tables e below (s₁.setTop (mkF m 0 #[.val (.long xx), .second, .val (.long ss), .second, .val (.long tt), .second] [])) t → Steps p.tables e below (s₁.setTop (entryFrame m #[(.long xx), (.long ss), (.long tt)] 6)) t := fun t k => castTop (efI m xx ss tt) k
  have r1 : ∀ t, Steps p.tables e below (s₁.setTop (mkF m 6 #[.val (.long xx), .second, .val (.long ss), .second, .val (.long tt), .second] [(.int (lcmpW tt (-9223372036854775808 : Int64)))])) t → Steps p.tables e below (s₁.setTop (mkF m 0 #[.val (.long xx), .second, .val (.long ss), .second, .val (.long tt), .second] [])) t := fun t kt => by
    show Steps p.tables e below (s₁.setTop (mkF m 0 #[.val (.long xx), .second, .val (.long ss), .second, .val (.long tt), .second] [])) _
    refine XS.lload X0.here hx rfl (hb hby dI_0) rfl ?_
    show Steps p.tables e below (s₁.setTop (mkF m 2 #[.val (.long xx), .second, .val (.long ss), .second, .val (.long tt), .second] [(.long tt)])) _
    refine X0.ldc2Long hx hown (mvT hZ (hw _ (List.mem_of_getElem? (i := 32) rfl))) (g := (mkF m 2 #[.val (.long xx), .second, .val (.long ss), .second, .val (.long tt), .second] [(.long tt)])) rfl (hb hby dI_2) _ ?_
    show Steps p.tables e below (s₁.setTop (mkF m 5 #[.val (.long xx), .second, .val (.long ss), .second, .val (.long tt), .second] [(.long (-9223372036854775808 : Int64)), (.long tt)])) _
    refine XS.lcmp X0.here hx rfl (hb hby dI_5) rfl ?_
    exact kt
  by_cases hc2 : tt = (-9223372036854775808 : Int64)
  · obtain ⟨fs, hr, hrun, hended, hW, hsame⟩ := X0.leave (v := some (.int (0 : Int32))) (fun h => by rw [Bd.returns] at h; cases h)
    refine ⟨_, _, (pre0 _ (r1 _ ?_)), hrun, hended, _, _, rfl, ?_, ⟨_, rfl⟩, hW, hsame.mono (by decide) (by decide)⟩
    · show Steps p.tables e below (s₁.setTop (mkF m 6 #[.val (.long xx), .second, .val (.long ss), .second, .val (.long tt), .second] [(.int (lcmpW tt (-9223372036854775808 : Int64)))])) _
      refine XS.ifNo X0.here hx rfl (hb hby dI_6) rfl ((if0 _ _).trans (teq ((lw_eq _ _).mpr hc2)).2) ?_
      show Steps p.tables e below (s₁.setTop (mkF m 9 #[.val (.long xx), .second, .val (.long ss), .second, .val (.long tt), .second] [])) _
      refine XS.iconst X0.here hx rfl (hb hby dI_9) ?_
      show Steps p.tables e below (s₁.setTop (mkF m 10 #[.val (.long xx), .second, .val (.long ss), .second, .val (.long tt), .second] [(.int (0 : Int32))])) _
      exact retN X0 hx (t := .boolean) Bd.returns (by simp) (hb hby dI_10) hr
    · show QI Z xx ss tt h0 n0 _ s₁.heap _
      rw [e0]
      exact ⟨(by simp [own_inside, hc2]), N0, rfl⟩
  · have r3 : ∀ t, Steps p.tables e below (s₁.setTop (mkF m 14 #[.val (.long xx), .second, .val (.long ss), .second, .val (.long tt), .second] [(.int (lcmpW xx ss))])) t → Steps p.tables e below (s₁.setTop (mkF m 6 #[.val (.long xx), .second, .val (.long ss), .second, .val (.long tt), .second] [(.int (lcmpW tt (-9223372036854775808 : Int64)))])) t := fun t kt => by
      show Steps p.tables e below (s₁.setTop (mkF m 6 #[.val (.long xx), .second, .val (.long ss), .second, .val (.long tt), .second] [(.int (lcmpW tt (-9223372036854775808 : Int64)))])) _
      refine XS.ifYes X0.here hx rfl (pc0 := 6) (pc' := 11) rfl (hb hby dI_6) rfl ((if0 _ _).trans (feq (fun q => hc2 ((lw_eq _ _).mp q))).2) (by decide) (by decide) ?_
      show Steps p.tables e below (s₁.setTop (mkF m 11 #[.val (.long xx), .second, .val (.long ss), .second, .val (.long tt), .second] [])) _
      refine XS.lloadN X0.here hx rfl (hb hby dI_11) rfl ?_
      show Steps p.tables e below (s₁.setTop (mkF m 12 #[.val (.long xx), .second, .val (.long ss), .second, .val (.long tt), .second] [(.long xx)])) _
      refine XS.lloadN X0.here hx rfl (hb hby dI_12) rfl ?_
      show Steps p.tables e below (s₁.setTop (mkF m 13 #[.val (.long xx), .second, .val (.long ss), .second, .val (.long tt), .second] [(.long ss), (.long xx)])) _
      refine XS.lcmp X0.here hx rfl (hb hby dI_13) rfl ?_
      exact kt
    by_cases hc4 : xx < ss
    · obtain ⟨fs, hr, hrun, hended, hW, hsame⟩ := X0.leave (v := some (.int (0 : Int32))) (fun h => by rw [Bd.returns] at h; cases h)
      refine ⟨_, _, (pre0 _ (r1 _ (r3 _ ?_))), hrun, hended, _, _, rfl, ?_, ⟨_, rfl⟩, hW, hsame.mono (by decide) (by decide)⟩
      · show Steps p.tables e below (s₁.setTop (mkF m 14 #[.val (.long xx), .second, .val (.long ss), .second, .val (.long tt), .second] [(.int (lcmpW xx ss))])) _
        refine XS.ifNo X0.here hx rfl (hb hby dI_14) rfl ((if0 _ _).trans (tlt ((lw_lt _ _).mpr hc4)).2.1) ?_
        show Steps p.tables e below (s₁.setTop (mkF m 17 #[.val (.long xx), .second, .val (.long ss), .second, .val (.long tt), .second] [])) _
        refine XS.iconst X0.here hx rfl (hb hby dI_17) ?_
        show Steps p.tables e below (s₁.setTop (mkF m 18 #[.val (.long xx), .second, .val (.long ss), .second, .val (.long tt), .second] [(.int (0 : Int32))])) _
        exact retN X0 hx (t := .boolean) Bd.returns (by simp) (hb hby dI_18) hr
      · show QI Z xx ss tt h0 n0 _ s₁.heap _
        rw [e0]
        exact ⟨(by simp [own_inside, hc2, hc4]), N0, rfl⟩
    · have r5 : ∀ t, Steps p.tables e below (s₁.setTop (mkF m 25 #[.val (.long xx), .second, .val (.long ss), .second, .val (.long tt), .second] [(.int (lcmpW xx (tt - (1 : Int64))))])) t → Steps p.tables e below (s₁.setTop (mkF m 14 #[.val (.long xx), .second, .val (.long ss), .second, .val (.long tt), .second] [(.int (lcmpW xx ss))])) t := fun t kt => by
        show Steps p.tables e below (s₁.setTop (mkF m 14 #[.val (.long xx), .second, .val (.long ss), .second, .val (.long tt), .second] [(.int (lcmpW xx ss))])) _
        refine XS.ifYes X0.here hx rfl (pc0 := 14) (pc' := 19) rfl (hb hby dI_14) rfl ((if0 _ _).trans (flt (fun q => hc4 ((lw_lt _ _).mp q))).2.1) (by decide) (by decide) ?_
        show Steps p.tables e below (s₁.setTop (mkF m 19 #[.val (.long xx), .second, .val (.long ss), .second, .val (.long tt), .second] [])) _
        refine XS.lloadN X0.here hx rfl (hb hby dI_19) rfl ?_
        show Steps p.tables e below (s₁.setTop (mkF m 20 #[.val (.long xx), .second, .val (.long ss), .second, .val (.long tt), .second] [(.long xx)])) _
        refine XS.lload X0.here hx rfl (hb hby dI_20) rfl ?_
        show Steps p.tables e below (s₁.setTop (mkF m 22 #[.val (.long xx), .second, .val (.long ss), .second, .val (.long tt), .second] [(.long tt), (.long xx)])) _
        refine XS.lconst X0.here hx rfl (hb hby dI_22) ?_
        show Steps p.tables e below (s₁.setTop (mkF m 23 #[.val (.long xx), .second, .val (.long ss), .second, .val (.long tt), .second] [(.long (1 : Int64)), (.long tt), (.long xx)])) _
        refine XS.lsub X0.here hx rfl (hb hby dI_23) rfl ?_
        show Steps p.tables e below (s₁.setTop (mkF m 24 #[.val (.long xx), .second, .val (.long ss), .second, .val (.long tt), .second] [(.long (tt - (1 : Int64))), (.long xx)])) _
        refine XS.lcmp X0.here hx rfl (hb hby dI_24) rfl ?_
        exact kt
      by_cases hc6 : (tt - (1 : Int64)) < xx
      · obtain ⟨fs, hr, hrun, hended, hW, hsame⟩ := X0.leave (v := some (.int (0 : Int32))) (fun h => by rw [Bd.returns] at h; cases h)
        refine ⟨_, _, (pre0 _ (r1 _ (r3 _ (r5 _ ?_)))), hrun, hended, _, _, rfl, ?_, ⟨_, rfl⟩, hW, hsame.mono (by decide) (by decide)⟩
        · show Steps p.tables e below (s₁.setTop (mkF m 25 #[.val (.long xx), .second, .val (.long ss), .second, .val (.long tt), .second] [(.int (lcmpW xx (tt - (1 : Int64))))])) _
          refine XS.ifNo X0.here hx rfl (hb hby dI_25) rfl ((if0 _ _).trans (tlt ((lw_gt _ _).mpr hc6)).2.2.2) ?_
          show Steps p.tables e below (s₁.setTop (mkF m 28 #[.val (.long xx), .second, .val (.long ss), .second, .val (.long tt), .second] [])) _
          refine XS.iconst X0.here hx rfl (hb hby dI_28) ?_
          show Steps p.tables e below (s₁.setTop (mkF m 29 #[.val (.long xx), .second, .val (.long ss), .second, .val (.long tt), .second] [(.int (0 : Int32))])) _
          exact retN X0 hx (t := .boolean) Bd.returns (by simp) (hb hby dI_29) hr
        · show QI Z xx ss tt h0 n0 _ s₁.heap _
          rw [e0]
          exact ⟨(by simp [own_inside, hc2, hc4, hc6]), N0, rfl⟩
      · obtain ⟨fs, hr, hrun, hended, hW, hsame⟩ := X0.leave (v := some (.int (1 : Int32))) (fun h => by rw [Bd.returns] at h; cases h)
        refine ⟨_, _, (pre0 _ (r1 _ (r3 _ (r5 _ ?_)))), hrun, hended, _, _, rfl, ?_, ⟨_, rfl⟩, hW, hsame.mono (by decide) (by decide)⟩
        · show Steps p.tables e below (s₁.setTop (mkF m 25 #[.val (.long xx), .second, .val (.long ss), .second, .val (.long tt), .second] [(.int (lcmpW xx (tt - (1 : Int64))))])) _
          refine XS.ifYes X0.here hx rfl (pc0 := 25) (pc' := 30) rfl (hb hby dI_25) rfl ((if0 _ _).trans (flt (fun q => hc6 ((lw_gt _ _).mp q))).2.2.2) (by decide) (by decide) ?_
          show Steps p.tables e below (s₁.setTop (mkF m 30 #[.val (.long xx), .second, .val (.long ss), .second, .val (.long tt), .second] [])) _
          refine XS.iconst X0.here hx rfl (hb hby dI_30) ?_
          show Steps p.tables e below (s₁.setTop (mkF m 31 #[.val (.long xx), .second, .val (.long ss), .second, .val (.long tt), .second] [(.int (1 : Int32))])) _
          exact retN X0 hx (t := .boolean) Bd.returns (by simp) (hb hby dI_31) hr
        · show QI Z xx ss tt h0 n0 _ s₁.heap _
          rw [e0]
          exact ⟨(by simp [own_inside, hc2, hc4, hc6]), N0, rfl⟩
theorem own_pd1 : parseMethodDescriptor "(IJJJ)J" = some ⟨[.int, .long, .long, .long], some .long⟩ := by decide +kernel
theorem own_pd2 : parseMethodDescriptor "(JJJ)V" = some ⟨[.long, .long, .long], none⟩ := by decide +kernel
theorem own_pd3 : parseMethodDescriptor "(J)Z" = some ⟨[.long], some .boolean⟩ := by decide +kernel
theorem own_pd4 : parseMethodDescriptor "(JJJ)Z" = some ⟨[.long, .long, .long], some .boolean⟩ := by decide +kernel
theorem efL (m : MethodId) (na : Int64) (nb : Int64) (ss : Int64) (tt : Int64) (ee : Int64) (sel : Int32) : entryFrame m #[(.long na), (.long nb), (.long ss), (.long tt), (.long ee), (.int sel)] maxLocals = mkF m 0 #[.val (.long na), .second, .val (.long nb), .second, .val (.long ss), .second, .val (.long tt), .second, .val (.long ee), .second, .val (.int sel), .unset, .unset, .unset, .unset, .unset, .unset, .unset] [] := by first | (simp [entryFrame, mkF, argsToLocals, Value.category, maxLocals]; done) | rfl
def QL (Z : State) (na : Int64) (nb : Int64) (ss : Int64) (tt : Int64) (ee : Int64) (sel : Int32) (h0 : Heap) (n0 : Nat) (v : Option Value) (h : Heap) (L : List Loc) : Prop := v = some (.int 1) ∧ Fr n0 L
set_option maxRecDepth 65536 in
set_option maxHeartbeats 40000000 in
theorem rmL (l : Launch) (Z : State) (a0 : Array Value) (hw : ∀ d ∈ tables_1, d.before a0 Z = true) (ws : List Jvm.Cond) (na : Int64) (nb : Int64) (ss : Int64) (tt : Int64) (ee : Int64) (sel : Int32) (h0 : Heap) (n0 : Nat) (Z0 : n0 ≤ h0.size) :
    MetFree l x (head1 (Jvm.Cond.code x code maxLocals ret :: ws) room_1) (fun av_ U => av_ = #[(.long na), (.long nb), (.long ss), (.long tt), (.long ee), (.int sel)] ∧ Z.Warmed39 U.vm ∧ U.heap = h0) (fun _ _ _ _ _ => True) (fun _ U o U' => ∃ v L, o = .returned v ∧ QL Z na nb ss tt ee sel h0 n0 v U'.heap L ∧ FrameEnd U o U' L room_1.cells room_1.slots) := by
  refine MetFree.of_bodySF (plainFor_of_name own_pn0) hisR ?_
  intro p e s m args below meth c s₁ Bd hml0 hP hK
  obtain ⟨rfl, hZ, hh⟩ := hP
  have hx := Bd.exec
  have hby := Bd.bytes
  have hml : c.maxLocals = 18 := hml0
  have hown : s.vm.findClass "com/example/careful_throttle/carefulthrottle/DayHoldsPinLaw" = some m.cls := findClass_of_methodNamed Bd.named
  have hnm := (name_of_methodNamed Bd.named Bd.method).1
  have X0 : Stand p l e room_1 s m #[(.long na), (.long nb), (.long ss), (.long tt), (.long ee), (.int sel)] below meth c s₁ [] 0 0 := Stand.of_body Bd
  have e0 : s₁.heap = h0 := by rw [← hh, Bd.state]; rfl
  have N0 := Fr.nil n0
  have pre0 : ∀ t, Steps p.tables e below (s₁.setTop (mkF m 0 #[.val (.long na), .second, .val (.long nb), .second, .val (.long ss), .second, .val (.long tt), .second, .val (.long ee), .second, .val (.int sel), .unset, .unset, .unset, .unset, .unset, .unset, .unset] [])) t → Steps p.tables e below (s₁.setTop (entryFrame m #[(.long na), (.long nb), (.long ss), (.long tt), (.long ee), (.int sel)] maxLocals)) t := fun t k => castTop (efL m na nb ss tt ee sel) k
  obtain ⟨_, _, ⟨T1, L1, k1, n1⟩, -, X1, ⟨Lc1, hQ1, l1, y1, z1⟩, st1⟩ := Jvm.LawKit.callS X0 hx (y := (⟨"com/example/careful_throttle/carefulthrottle/DayHoldsPinLaw", "probe", "(IJJJ)J"⟩ : MethodName)) hown (mvT hZ (hw _ (List.mem_of_getElem? (i := 0) rfl))) (mvT hZ (hw _ (List.mem_of_getElem? (i := 1) rfl))) (mvT hZ (hw _ (List.mem_of_getElem? (i := 2) rfl))) (mvT hZ (hw _ (List.mem_of_getElem? (i := 3) rfl))) (by decide) (backOf (W := 0) (rmP l Z a0 hw [] sel ee ss tt h0 n0 Z0 ) hZ (hw _ (List.mem_of_getElem? (i := 3) rfl)) (hw _ (List.mem_of_getElem? (i := 2) rfl)) (by decide) (by decide)) (g := (mkF m 8 #[.val (.long na), .second, .val (.long nb), .second, .val (.long ss), .second, .val (.long tt), .second, .val (.long ee), .second, .val (.int sel), .unset, .unset, .unset, .unset, .unset, .unset, .unset] [(.long tt), (.long ss), (.long ee), (.int sel)])) rfl (by rw [hml]; rfl) (argsL := [(.int sel), (.long ee), (.long ss), (.long tt)]) (rest := []) (lenOf own_pd1 rfl) rfl (by show 2 * 0 + _ ≤ _; exact Nat.le_of_eq rfl) (hb hby at_8) (fun _ _ => ⟨rfl, e0, (by decide : 0 + 0 ≤ _), (by decide : 0 + 0 ≤ _)⟩)
  dsimp only [Pt.U, Pt.locs, Pt.cells, Pt.slots] at X1 l1 y1 z1 st1 hQ1
  subst l1 y1 z1
  obtain ⟨rfl, Nq1, e1⟩ := hQ1
  have N1 := Fr.app N0 Nq1
  have r2 : ∀ t, Steps p.tables e below (T1.setTop (mkF m 13 #[.val (.long na), .second, .val (.long nb), .second, .val (.long ss), .second, .val (.long tt), .second, .val (.long ee), .second, .val (.int sel), .val (.long (own_probe sel ee ss tt)), .second, .unset, .unset, .unset, .unset, .unset] [])) t → Steps p.tables e below (s₁.setTop (mkF m 0 #[.val (.long na), .second, .val (.long nb), .second, .val (.long ss), .second, .val (.long tt), .second, .val (.long ee), .second, .val (.int sel), .unset, .unset, .unset, .unset, .unset, .unset, .unset] [])) t := fun t kt => by
    show Steps p.tables e below (s₁.setTop (mkF m 0 #[.val (.long na), .second, .val (.long nb), .second, .val (.long ss), .second, .val (.long tt), .second, .val (.long ee), .second, .val (.int sel), .unset, .unset, .unset, .unset, .unset, .unset, .unset] [])) _
    refine XS.iload X0.here hx rfl (hb hby at_0) rfl ?_
    show Steps p.tables e below (s₁.setTop (mkF m 2 #[.val (.long na), .second, .val (.long nb), .second, .val (.long ss), .second, .val (.long tt), .second, .val (.long ee), .second, .val (.int sel), .unset, .unset, .unset, .unset, .unset, .unset, .unset] [(.int sel)])) _
    refine XS.lload X0.here hx rfl (hb hby at_2) rfl ?_
    show Steps p.tables e below (s₁.setTop (mkF m 4 #[.val (.long na), .second, .val (.long nb), .second, .val (.long ss), .second, .val (.long tt), .second, .val (.long ee), .second, .val (.int sel), .unset, .unset, .unset, .unset, .unset, .unset, .unset] [(.long ee), (.int sel)])) _
    refine XS.lload X0.here hx rfl (hb hby at_4) rfl ?_
    show Steps p.tables e below (s₁.setTop (mkF m 6 #[.val (.long na), .second, .val (.long nb), .second, .val (.long ss), .second, .val (.long tt), .second, .val (.long ee), .second, .val (.int sel), .unset, .unset, .unset, .unset, .unset, .unset, .unset] [(.long ss), (.long ee), (.int sel)])) _
    refine XS.lload X0.here hx rfl (hb hby at_6) rfl ?_
    show Steps p.tables e below (s₁.setTop (mkF m 8 #[.val (.long na), .second, .val (.long nb), .second, .val (.long ss), .second, .val (.long tt), .second, .val (.long ee), .second, .val (.int sel), .unset, .unset, .unset, .unset, .unset, .unset, .unset] [(.long tt), (.long ss), (.long ee), (.int sel)])) _
    refine st1 _ ?_
    show Steps p.tables e below (T1.setTop (mkF m 11 #[.val (.long na), .second, .val (.long nb), .second, .val (.long ss), .second, .val (.long tt), .second, .val (.long ee), .second, .val (.int sel), .unset, .unset, .unset, .unset, .unset, .unset, .unset] [(.long (own_probe sel ee ss tt))])) _
    refine XS.lstore X1.here hx rfl (hb hby at_11) rfl (l' := #[.val (.long na), .second, .val (.long nb), .second, .val (.long ss), .second, .val (.long tt), .second, .val (.long ee), .second, .val (.int sel), .val (.long (own_probe sel ee ss tt)), .second, .unset, .unset, .unset, .unset, .unset]) rfl ?_
    exact kt
  obtain ⟨pv, hpv⟩ : ∃ zz : Int64, zz = (own_probe sel ee ss tt) := ⟨_, rfl⟩
  have r3 : ∀ t, Steps p.tables e below (T1.setTop (mkF m 13 #[.val (.long na), .second, .val (.long nb), .second, .val (.long ss), .second, .val (.long tt), .second, .val (.long ee), .second, .val (.int sel), .val (.long pv), .second, .unset, .unset, .unset, .unset, .unset] [])) t → Steps p.tables e below (T1.setTop (mkF m 13 #[.val (.long na), .second, .val (.long nb), .second, .val (.long ss), .second, .val (.long tt), .second, .val (.long ee), .second, .val (.int sel), .val (.long (own_probe sel ee ss tt)), .second, .unset, .unset, .unset, .unset, .unset] [])) t := fun t kt => by
    subst hpv
    exact kt
  obtain ⟨T4, h4, X4, e4, E4, A4, D4, -, st4⟩ := newO X1 hx hZ hown (hw _ (List.mem_of_getElem? (i := 4) rfl)) (hw _ (List.mem_of_getElem? (i := 5) rfl)) (hw _ (List.mem_of_getElem? (i := 6) rfl)) e1 (g := (mkF m 13 #[.val (.long na), .second, .val (.long nb), .second, .val (.long ss), .second, .val (.long tt), .second, .val (.long ee), .second, .val (.int sel), .val (.long pv), .second, .unset, .unset, .unset, .unset, .unset] [])) rfl (hb hby at_13) (by decide) (by decide)
  obtain ⟨b4, g4⟩ : ∃ z, z = h0.size := ⟨_, rfl⟩
  rw [← g4] at A4 D4 st4
  have g_b4 : n0 ≤ b4 := Nat.le_trans Z0 (Nat.le_of_eq g4.symm)
  have sz_b4 : h0.size ≤ b4 := Nat.le_trans (Keep.refl h0 []).1 (Nat.le_of_eq g4.symm)
  have K4 : Keep h0 h4 [] := (Keep.refl h0 []).ext E4
  have Zs4 : n0 ≤ h4.size := Nat.le_trans Z0 E4.1
  have F4_number : Fld Z h4 b4 "com/example/careful_throttle/carefulthrottle/CalendarDays$Day" "number" "J" (.long (0 : Int64)) := D4 (Or.inr (hw _ (List.mem_of_getElem? (i := 19) rfl))) (ty := .long) (by decide)
  have F4_start : Fld Z h4 b4 "com/example/careful_throttle/carefulthrottle/CalendarDays$Day" "start" "J" (.long (0 : Int64)) := D4 (Or.inr (hw _ (List.mem_of_getElem? (i := 21) rfl))) (ty := .long) (by decide)
  have F4_end : Fld Z h4 b4 "com/example/careful_throttle/carefulthrottle/CalendarDays$Day" "end" "J" (.long (0 : Int64)) := D4 (Or.inr (hw _ (List.mem_of_getElem? (i := 23) rfl))) (ty := .long) (by decide)
  obtain ⟨_, _, ⟨T5, L5, k5, n5⟩, -, X5, ⟨Lc5, hQ5, l5, y5, z5⟩, st5⟩ := X4.specialBack hx (y := (⟨"com/example/careful_throttle/carefulthrottle/CalendarDays$Day", "<init>", "(JJJ)V"⟩ : MethodName)) rfl hown (mvT hZ (hw _ (List.mem_of_getElem? (i := 7) rfl))) (mvT hZ (hw _ (List.mem_of_getElem? (i := 8) rfl))) (mvT hZ (hw _ (List.mem_of_getElem? (i := 9) rfl))) (by decide) (backOf (W := 1) (rmD l Z a0 hw [] b4 na ss tt h4 n0 Zs4 A4 F4_number F4_start F4_end g_b4) hZ (hw _ (List.mem_of_getElem? (i := 9) rfl)) (hw _ (List.mem_of_getElem? (i := 6) rfl)) (by decide) (by decide)) (g := (mkF m 22 #[.val (.long na), .second, .val (.long nb), .second, .val (.long ss), .second, .val (.long tt), .second, .val (.long ee), .second, .val (.int sel), .val (.long pv), .second, .unset, .unset, .unset, .unset, .unset] [(.long tt), (.long ss), (.long na), (.ref b4), (.ref b4)])) rfl (by rw [hml]; rfl) (Steps.refl _) (a := b4) (argsL := [(.long na), (.long ss), (.long tt)]) (rest := [(.ref b4)]) (lenOf own_pd2 rfl) rfl (by show 2 * 0 + _ ≤ _; exact Nat.le_of_eq rfl) (hb hby at_22) (fun _ _ => ⟨rfl, e4, (by decide : 1 + 0 ≤ _), (by decide : 3 + 0 ≤ _)⟩)
  dsimp only [Pt.U, Pt.locs, Pt.cells, Pt.slots] at X5 l5 y5 z5 st5 hQ5
  subst l5 y5 z5
  obtain ⟨rfl, Nq5, Kc5, q5_0, q5_1, q5_2⟩ := hQ5
  have K5 : Keep h0 T5.heap [] := Keep.trans K4 Kc5 (allS (Or.inr sz_b4) all0)
  have Zs5 : n0 ≤ T5.heap.size := Nat.le_trans Zs4 Kc5.1
  have N5 := Fr.app N1 Nq5
  obtain ⟨T6, h6, X6, e6, E6, A6, D6, -, st6⟩ := newO X5 hx hZ hown (hw _ (List.mem_of_getElem? (i := 4) rfl)) (hw _ (List.mem_of_getElem? (i := 5) rfl)) (hw _ (List.mem_of_getElem? (i := 6) rfl)) rfl (g := (mkF m 27 #[.val (.long na), .second, .val (.long nb), .second, .val (.long ss), .second, .val (.long tt), .second, .val (.long ee), .second, .val (.int sel), .val (.long pv), .second, .val (.ref b4), .unset, .unset, .unset, .unset] [])) rfl (hb hby at_27) (by decide) (by decide)
  obtain ⟨b6, g6⟩ : ∃ z, z = T5.heap.size := ⟨_, rfl⟩
  rw [← g6] at A6 D6 st6
  have ne_b4_b6 : b4 ≠ b6 := Nat.ne_of_lt (Nat.lt_of_lt_of_le q5_0.lt (Nat.le_of_eq g6.symm))
  have g_b6 : n0 ≤ b6 := Nat.le_trans Zs5 (Nat.le_of_eq g6.symm)
  have sz_b6 : h0.size ≤ b6 := Nat.le_trans K5.1 (Nat.le_of_eq g6.symm)
  have K6 : Keep h0 h6 [] := K5.ext E6
  have Zs6 : n0 ≤ h6.size := Nat.le_trans Zs5 E6.1
  have F6_number : Fld Z h6 b6 "com/example/careful_throttle/carefulthrottle/CalendarDays$Day" "number" "J" (.long (0 : Int64)) := D6 (Or.inr (hw _ (List.mem_of_getElem? (i := 19) rfl))) (ty := .long) (by decide)
  have F6_start : Fld Z h6 b6 "com/example/careful_throttle/carefulthrottle/CalendarDays$Day" "start" "J" (.long (0 : Int64)) := D6 (Or.inr (hw _ (List.mem_of_getElem? (i := 21) rfl))) (ty := .long) (by decide)
  have F6_end : Fld Z h6 b6 "com/example/careful_throttle/carefulthrottle/CalendarDays$Day" "end" "J" (.long (0 : Int64)) := D6 (Or.inr (hw _ (List.mem_of_getElem? (i := 23) rfl))) (ty := .long) (by decide)
  obtain ⟨_, _, ⟨T7, L7, k7, n7⟩, -, X7, ⟨Lc7, hQ7, l7, y7, z7⟩, st7⟩ := X6.specialBack hx (y := (⟨"com/example/careful_throttle/carefulthrottle/CalendarDays$Day", "<init>", "(JJJ)V"⟩ : MethodName)) rfl hown (mvT hZ (hw _ (List.mem_of_getElem? (i := 7) rfl))) (mvT hZ (hw _ (List.mem_of_getElem? (i := 8) rfl))) (mvT hZ (hw _ (List.mem_of_getElem? (i := 9) rfl))) (by decide) (backOf (W := 1) (rmD l Z a0 hw [] b6 nb ss tt h6 n0 Zs6 A6 F6_number F6_start F6_end g_b6) hZ (hw _ (List.mem_of_getElem? (i := 9) rfl)) (hw _ (List.mem_of_getElem? (i := 6) rfl)) (by decide) (by decide)) (g := (mkF m 36 #[.val (.long na), .second, .val (.long nb), .second, .val (.long ss), .second, .val (.long tt), .second, .val (.long ee), .second, .val (.int sel), .val (.long pv), .second, .val (.ref b4), .unset, .unset, .unset, .unset] [(.long tt), (.long ss), (.long nb), (.ref b6), (.ref b6)])) rfl (by rw [hml]; rfl) (Steps.refl _) (a := b6) (argsL := [(.long nb), (.long ss), (.long tt)]) (rest := [(.ref b6)]) (lenOf own_pd2 rfl) rfl (by show 2 * 0 + _ ≤ _; exact Nat.le_of_eq rfl) (hb hby at_36) (fun _ _ => ⟨rfl, e6, (by decide : 2 + 0 ≤ _), (by decide : 6 + 0 ≤ _)⟩)
  dsimp only [Pt.U, Pt.locs, Pt.cells, Pt.slots] at X7 l7 y7 z7 st7 hQ7
  subst l7 y7 z7
  obtain ⟨rfl, Nq7, Kc7, q7_0, q7_1, q7_2⟩ := hQ7
  have K7 : Keep h0 T7.heap [] := Keep.trans K6 Kc7 (allS (Or.inr sz_b6) all0)
  have Zs7 : n0 ≤ T7.heap.size := Nat.le_trans Zs6 Kc7.1
  have N7 := Fr.app N5 Nq7
  obtain ⟨cq8, kq8, q8a, q8b, q8c⟩ := isOf hZ rfl ((q5_0.ext E6).keep Kc7)
  obtain ⟨_, _, ⟨T8, L8, k8, n8⟩, -, X8, ⟨Lc8, hQ8, l8, y8, z8⟩, st8⟩ := X7.virtualBack hx (y := (⟨"com/example/careful_throttle/carefulthrottle/CalendarDays$Day", "holds", "(J)Z"⟩ : MethodName)) (z := (⟨"com/example/careful_throttle/carefulthrottle/CalendarDays$Day", "holds", "(J)Z"⟩ : MethodName)) hown (mvT hZ (hw _ (List.mem_of_getElem? (i := 24) rfl))) (mvT hZ (hw _ (List.mem_of_getElem? (i := 25) rfl))) (notFace_of_selects (args := #[]) (mvT hZ (hw _ (List.mem_of_getElem? (i := 27) rfl)))) (mvT hZ (hw _ (List.mem_of_getElem? (i := 27) rfl))) (mvT hZ (hw _ (List.mem_of_getElem? (i := 26) rfl))) (by decide) (backOf (W := 0) (rmH l Z a0 hw [] b4 pv ss tt T7.heap n0 Zs7 ((q5_0.ext E6).keep Kc7) ((q5_1.ext E6).keep Kc7 (ninS ne_b4_b6 nin0)) ((q5_2.ext E6).keep Kc7 (ninS ne_b4_b6 nin0))) hZ (hw _ (List.mem_of_getElem? (i := 28) rfl)) (hw _ (List.mem_of_getElem? (i := 6) rfl)) (by decide) (by decide)) q8a q8c (g := (mkF m 45 #[.val (.long na), .second, .val (.long nb), .second, .val (.long ss), .second, .val (.long tt), .second, .val (.long ee), .second, .val (.int sel), .val (.long pv), .second, .val (.ref b4), .val (.ref b6), .unset, .unset, .unset] [(.long pv), (.ref b4)])) rfl (by rw [hml]; rfl) (Steps.refl _) (argsL := [(.long pv)]) (rest := []) (lenOf own_pd3 rfl) rfl (by show 2 * 0 + _ ≤ _; exact Nat.le_of_eq rfl) (hb hby at_45) (fun _ _ => ⟨rfl, rfl, (by decide : 2 + 0 ≤ _), (by decide : 6 + 0 ≤ _)⟩)
  dsimp only [Pt.U, Pt.locs, Pt.cells, Pt.slots] at X8 l8 y8 z8 st8 hQ8
  subst l8 y8 z8
  obtain ⟨rfl, Nq8, e8⟩ := hQ8
  have N8 := Fr.app N7 Nq8
  obtain ⟨cq9, kq9, q9a, q9b, q9c⟩ := isOf hZ e8 q7_0
  obtain ⟨_, _, ⟨T9, L9, k9, n9⟩, -, X9, ⟨Lc9, hQ9, l9, y9, z9⟩, st9⟩ := X8.virtualBack hx (y := (⟨"com/example/careful_throttle/carefulthrottle/CalendarDays$Day", "holds", "(J)Z"⟩ : MethodName)) (z := (⟨"com/example/careful_throttle/carefulthrottle/CalendarDays$Day", "holds", "(J)Z"⟩ : MethodName)) hown (mvT hZ (hw _ (List.mem_of_getElem? (i := 24) rfl))) (mvT hZ (hw _ (List.mem_of_getElem? (i := 25) rfl))) (notFace_of_selects (args := #[]) (mvT hZ (hw _ (List.mem_of_getElem? (i := 27) rfl)))) (mvT hZ (hw _ (List.mem_of_getElem? (i := 27) rfl))) (mvT hZ (hw _ (List.mem_of_getElem? (i := 26) rfl))) (by decide) (backOf (W := 0) (rmH l Z a0 hw [] b6 pv ss tt T7.heap n0 Zs7 q7_0 q7_1 q7_2) hZ (hw _ (List.mem_of_getElem? (i := 28) rfl)) (hw _ (List.mem_of_getElem? (i := 6) rfl)) (by decide) (by decide)) q9a q9c (g := (mkF m 54 #[.val (.long na), .second, .val (.long nb), .second, .val (.long ss), .second, .val (.long tt), .second, .val (.long ee), .second, .val (.int sel), .val (.long pv), .second, .val (.ref b4), .val (.ref b6), .val (.int (own_holds ss tt pv)), .unset, .unset] [(.long pv), (.ref b6)])) rfl (by rw [hml]; rfl) (Steps.refl _) (argsL := [(.long pv)]) (rest := []) (lenOf own_pd3 rfl) rfl (by show 2 * 0 + _ ≤ _; exact Nat.le_of_eq rfl) (hb hby at_54) (fun _ _ => ⟨rfl, e8, (by decide : 2 + 0 ≤ _), (by decide : 6 + 0 ≤ _)⟩)
  dsimp only [Pt.U, Pt.locs, Pt.cells, Pt.slots] at X9 l9 y9 z9 st9 hQ9
  subst l9 y9 z9
  obtain ⟨rfl, Nq9, e9⟩ := hQ9
  have N9 := Fr.app N8 Nq9
  obtain ⟨_, _, ⟨T10, L10, k10, n10⟩, -, X10, ⟨Lc10, hQ10, l10, y10, z10⟩, st10⟩ := Jvm.LawKit.callS X9 hx (y := (⟨"com/example/careful_throttle/carefulthrottle/DayHoldsPinLaw", "inside", "(JJJ)Z"⟩ : MethodName)) hown (mvT hZ (hw _ (List.mem_of_getElem? (i := 29) rfl))) (mvT hZ (hw _ (List.mem_of_getElem? (i := 30) rfl))) (mvT hZ (hw _ (List.mem_of_getElem? (i := 2) rfl))) (mvT hZ (hw _ (List.mem_of_getElem? (i := 31) rfl))) (by decide) (backOf (W := 0) (rmI l Z a0 hw [] pv ss tt T7.heap n0 Zs7 ) hZ (hw _ (List.mem_of_getElem? (i := 31) rfl)) (hw _ (List.mem_of_getElem? (i := 2) rfl)) (by decide) (by decide)) (g := (mkF m 65 #[.val (.long na), .second, .val (.long nb), .second, .val (.long ss), .second, .val (.long tt), .second, .val (.long ee), .second, .val (.int sel), .val (.long pv), .second, .val (.ref b4), .val (.ref b6), .val (.int (own_holds ss tt pv)), .val (.int (own_holds ss tt pv)), .unset] [(.long tt), (.long ss), (.long pv)])) rfl (by rw [hml]; rfl) (argsL := [(.long pv), (.long ss), (.long tt)]) (rest := []) (lenOf own_pd4 rfl) rfl (by show 2 * 0 + _ ≤ _; exact Nat.le_of_eq rfl) (hb hby at_65) (fun _ _ => ⟨rfl, e9, (by decide : 2 + 0 ≤ _), (by decide : 6 + 0 ≤ _)⟩)
  dsimp only [Pt.U, Pt.locs, Pt.cells, Pt.slots] at X10 l10 y10 z10 st10 hQ10
  subst l10 y10 z10
  obtain ⟨rfl, Nq10, e10⟩ := hQ10
  have N10 := Fr.app N9 Nq10
  obtain ⟨fs, hr, hrun, hended, hW, hsame⟩ := X10.leave (v := some (.int (1 : Int32))) (fun h => by rw [Bd.returns] at h; cases h)
  refine ⟨_, _, (pre0 _ (r2 _ (r3 _ ?_))), hrun, hended, _, _, rfl, ?_, ⟨_, rfl⟩, hW, hsame.mono (by decide) (by decide)⟩
  · show Steps p.tables e below (T1.setTop (mkF m 13 #[.val (.long na), .second, .val (.long nb), .second, .val (.long ss), .second, .val (.long tt), .second, .val (.long ee), .second, .val (.int sel), .val (.long pv), .second, .unset, .unset, .unset, .unset, .unset] [])) _
    refine st4 _ ?_
    show Steps p.tables e below (T4.setTop (mkF m 16 #[.val (.long na), .second, .val (.long nb), .second, .val (.long ss), .second, .val (.long tt), .second, .val (.long ee), .second, .val (.int sel), .val (.long pv), .second, .unset, .unset, .unset, .unset, .unset] [(.ref b4)])) _
    refine XS.dup X4.here hx rfl (hb hby at_16) rfl rfl ?_
    show Steps p.tables e below (T4.setTop (mkF m 17 #[.val (.long na), .second, .val (.long nb), .second, .val (.long ss), .second, .val (.long tt), .second, .val (.long ee), .second, .val (.int sel), .val (.long pv), .second, .unset, .unset, .unset, .unset, .unset] [(.ref b4), (.ref b4)])) _
    refine XS.lloadN X4.here hx rfl (hb hby at_17) rfl ?_
    show Steps p.tables e below (T4.setTop (mkF m 18 #[.val (.long na), .second, .val (.long nb), .second, .val (.long ss), .second, .val (.long tt), .second, .val (.long ee), .second, .val (.int sel), .val (.long pv), .second, .unset, .unset, .unset, .unset, .unset] [(.long na), (.ref b4), (.ref b4)])) _
    refine XS.lload X4.here hx rfl (hb hby at_18) rfl ?_
    show Steps p.tables e below (T4.setTop (mkF m 20 #[.val (.long na), .second, .val (.long nb), .second, .val (.long ss), .second, .val (.long tt), .second, .val (.long ee), .second, .val (.int sel), .val (.long pv), .second, .unset, .unset, .unset, .unset, .unset] [(.long ss), (.long na), (.ref b4), (.ref b4)])) _
    refine XS.lload X4.here hx rfl (hb hby at_20) rfl ?_
    show Steps p.tables e below (T4.setTop (mkF m 22 #[.val (.long na), .second, .val (.long nb), .second, .val (.long ss), .second, .val (.long tt), .second, .val (.long ee), .second, .val (.int sel), .val (.long pv), .second, .unset, .unset, .unset, .unset, .unset] [(.long tt), (.long ss), (.long na), (.ref b4), (.ref b4)])) _
    refine st5.trans ?_
    show Steps p.tables e below (T5.setTop (mkF m 25 #[.val (.long na), .second, .val (.long nb), .second, .val (.long ss), .second, .val (.long tt), .second, .val (.long ee), .second, .val (.int sel), .val (.long pv), .second, .unset, .unset, .unset, .unset, .unset] [(.ref b4)])) _
    refine XS.astore X5.here hx rfl (hb hby at_25) rfl rfl (l' := #[.val (.long na), .second, .val (.long nb), .second, .val (.long ss), .second, .val (.long tt), .second, .val (.long ee), .second, .val (.int sel), .val (.long pv), .second, .val (.ref b4), .unset, .unset, .unset, .unset]) rfl ?_
    show Steps p.tables e below (T5.setTop (mkF m 27 #[.val (.long na), .second, .val (.long nb), .second, .val (.long ss), .second, .val (.long tt), .second, .val (.long ee), .second, .val (.int sel), .val (.long pv), .second, .val (.ref b4), .unset, .unset, .unset, .unset] [])) _
    refine st6 _ ?_
    show Steps p.tables e below (T6.setTop (mkF m 30 #[.val (.long na), .second, .val (.long nb), .second, .val (.long ss), .second, .val (.long tt), .second, .val (.long ee), .second, .val (.int sel), .val (.long pv), .second, .val (.ref b4), .unset, .unset, .unset, .unset] [(.ref b6)])) _
    refine XS.dup X6.here hx rfl (hb hby at_30) rfl rfl ?_
    show Steps p.tables e below (T6.setTop (mkF m 31 #[.val (.long na), .second, .val (.long nb), .second, .val (.long ss), .second, .val (.long tt), .second, .val (.long ee), .second, .val (.int sel), .val (.long pv), .second, .val (.ref b4), .unset, .unset, .unset, .unset] [(.ref b6), (.ref b6)])) _
    refine XS.lloadN X6.here hx rfl (hb hby at_31) rfl ?_
    show Steps p.tables e below (T6.setTop (mkF m 32 #[.val (.long na), .second, .val (.long nb), .second, .val (.long ss), .second, .val (.long tt), .second, .val (.long ee), .second, .val (.int sel), .val (.long pv), .second, .val (.ref b4), .unset, .unset, .unset, .unset] [(.long nb), (.ref b6), (.ref b6)])) _
    refine XS.lload X6.here hx rfl (hb hby at_32) rfl ?_
    show Steps p.tables e below (T6.setTop (mkF m 34 #[.val (.long na), .second, .val (.long nb), .second, .val (.long ss), .second, .val (.long tt), .second, .val (.long ee), .second, .val (.int sel), .val (.long pv), .second, .val (.ref b4), .unset, .unset, .unset, .unset] [(.long ss), (.long nb), (.ref b6), (.ref b6)])) _
    refine XS.lload X6.here hx rfl (hb hby at_34) rfl ?_
    show Steps p.tables e below (T6.setTop (mkF m 36 #[.val (.long na), .second, .val (.long nb), .second, .val (.long ss), .second, .val (.long tt), .second, .val (.long ee), .second, .val (.int sel), .val (.long pv), .second, .val (.ref b4), .unset, .unset, .unset, .unset] [(.long tt), (.long ss), (.long nb), (.ref b6), (.ref b6)])) _
    refine st7.trans ?_
    show Steps p.tables e below (T7.setTop (mkF m 39 #[.val (.long na), .second, .val (.long nb), .second, .val (.long ss), .second, .val (.long tt), .second, .val (.long ee), .second, .val (.int sel), .val (.long pv), .second, .val (.ref b4), .unset, .unset, .unset, .unset] [(.ref b6)])) _
    refine XS.astore X7.here hx rfl (hb hby at_39) rfl rfl (l' := #[.val (.long na), .second, .val (.long nb), .second, .val (.long ss), .second, .val (.long tt), .second, .val (.long ee), .second, .val (.int sel), .val (.long pv), .second, .val (.ref b4), .val (.ref b6), .unset, .unset, .unset]) rfl ?_
    show Steps p.tables e below (T7.setTop (mkF m 41 #[.val (.long na), .second, .val (.long nb), .second, .val (.long ss), .second, .val (.long tt), .second, .val (.long ee), .second, .val (.int sel), .val (.long pv), .second, .val (.ref b4), .val (.ref b6), .unset, .unset, .unset] [])) _
    refine XS.aload X7.here hx rfl (hb hby at_41) rfl rfl ?_
    show Steps p.tables e below (T7.setTop (mkF m 43 #[.val (.long na), .second, .val (.long nb), .second, .val (.long ss), .second, .val (.long tt), .second, .val (.long ee), .second, .val (.int sel), .val (.long pv), .second, .val (.ref b4), .val (.ref b6), .unset, .unset, .unset] [(.ref b4)])) _
    refine XS.lload X7.here hx rfl (hb hby at_43) rfl ?_
    show Steps p.tables e below (T7.setTop (mkF m 45 #[.val (.long na), .second, .val (.long nb), .second, .val (.long ss), .second, .val (.long tt), .second, .val (.long ee), .second, .val (.int sel), .val (.long pv), .second, .val (.ref b4), .val (.ref b6), .unset, .unset, .unset] [(.long pv), (.ref b4)])) _
    refine st8.trans ?_
    show Steps p.tables e below (T8.setTop (mkF m 48 #[.val (.long na), .second, .val (.long nb), .second, .val (.long ss), .second, .val (.long tt), .second, .val (.long ee), .second, .val (.int sel), .val (.long pv), .second, .val (.ref b4), .val (.ref b6), .unset, .unset, .unset] [(.int (own_holds ss tt pv))])) _
    refine XS.istore X8.here hx rfl (hb hby at_48) rfl (l' := #[.val (.long na), .second, .val (.long nb), .second, .val (.long ss), .second, .val (.long tt), .second, .val (.long ee), .second, .val (.int sel), .val (.long pv), .second, .val (.ref b4), .val (.ref b6), .val (.int (own_holds ss tt pv)), .unset, .unset]) rfl ?_
    show Steps p.tables e below (T8.setTop (mkF m 50 #[.val (.long na), .second, .val (.long nb), .second, .val (.long ss), .second, .val (.long tt), .second, .val (.long ee), .second, .val (.int sel), .val (.long pv), .second, .val (.ref b4), .val (.ref b6), .val (.int (own_holds ss tt pv)), .unset, .unset] [])) _
    refine XS.aload X8.here hx rfl (hb hby at_50) rfl rfl ?_
    show Steps p.tables e below (T8.setTop (mkF m 52 #[.val (.long na), .second, .val (.long nb), .second, .val (.long ss), .second, .val (.long tt), .second, .val (.long ee), .second, .val (.int sel), .val (.long pv), .second, .val (.ref b4), .val (.ref b6), .val (.int (own_holds ss tt pv)), .unset, .unset] [(.ref b6)])) _
    refine XS.lload X8.here hx rfl (hb hby at_52) rfl ?_
    show Steps p.tables e below (T8.setTop (mkF m 54 #[.val (.long na), .second, .val (.long nb), .second, .val (.long ss), .second, .val (.long tt), .second, .val (.long ee), .second, .val (.int sel), .val (.long pv), .second, .val (.ref b4), .val (.ref b6), .val (.int (own_holds ss tt pv)), .unset, .unset] [(.long pv), (.ref b6)])) _
    refine st9.trans ?_
    show Steps p.tables e below (T9.setTop (mkF m 57 #[.val (.long na), .second, .val (.long nb), .second, .val (.long ss), .second, .val (.long tt), .second, .val (.long ee), .second, .val (.int sel), .val (.long pv), .second, .val (.ref b4), .val (.ref b6), .val (.int (own_holds ss tt pv)), .unset, .unset] [(.int (own_holds ss tt pv))])) _
    refine XS.istore X9.here hx rfl (hb hby at_57) rfl (l' := #[.val (.long na), .second, .val (.long nb), .second, .val (.long ss), .second, .val (.long tt), .second, .val (.long ee), .second, .val (.int sel), .val (.long pv), .second, .val (.ref b4), .val (.ref b6), .val (.int (own_holds ss tt pv)), .val (.int (own_holds ss tt pv)), .unset]) rfl ?_
    show Steps p.tables e below (T9.setTop (mkF m 59 #[.val (.long na), .second, .val (.long nb), .second, .val (.long ss), .second, .val (.long tt), .second, .val (.long ee), .second, .val (.int sel), .val (.long pv), .second, .val (.ref b4), .val (.ref b6), .val (.int (own_holds ss tt pv)), .val (.int (own_holds ss tt pv)), .unset] [])) _
    refine XS.lload X9.here hx rfl (hb hby at_59) rfl ?_
    show Steps p.tables e below (T9.setTop (mkF m 61 #[.val (.long na), .second, .val (.long nb), .second, .val (.long ss), .second, .val (.long tt), .second, .val (.long ee), .second, .val (.int sel), .val (.long pv), .second, .val (.ref b4), .val (.ref b6), .val (.int (own_holds ss tt pv)), .val (.int (own_holds ss tt pv)), .unset] [(.long pv)])) _
    refine XS.lload X9.here hx rfl (hb hby at_61) rfl ?_
    show Steps p.tables e below (T9.setTop (mkF m 63 #[.val (.long na), .second, .val (.long nb), .second, .val (.long ss), .second, .val (.long tt), .second, .val (.long ee), .second, .val (.int sel), .val (.long pv), .second, .val (.ref b4), .val (.ref b6), .val (.int (own_holds ss tt pv)), .val (.int (own_holds ss tt pv)), .unset] [(.long ss), (.long pv)])) _
    refine XS.lload X9.here hx rfl (hb hby at_63) rfl ?_
    show Steps p.tables e below (T9.setTop (mkF m 65 #[.val (.long na), .second, .val (.long nb), .second, .val (.long ss), .second, .val (.long tt), .second, .val (.long ee), .second, .val (.int sel), .val (.long pv), .second, .val (.ref b4), .val (.ref b6), .val (.int (own_holds ss tt pv)), .val (.int (own_holds ss tt pv)), .unset] [(.long tt), (.long ss), (.long pv)])) _
    refine st10 _ ?_
    show Steps p.tables e below (T10.setTop (mkF m 68 #[.val (.long na), .second, .val (.long nb), .second, .val (.long ss), .second, .val (.long tt), .second, .val (.long ee), .second, .val (.int sel), .val (.long pv), .second, .val (.ref b4), .val (.ref b6), .val (.int (own_holds ss tt pv)), .val (.int (own_holds ss tt pv)), .unset] [(.int (own_inside pv ss tt))])) _
    refine XS.istore X10.here hx rfl (hb hby at_68) rfl (l' := #[.val (.long na), .second, .val (.long nb), .second, .val (.long ss), .second, .val (.long tt), .second, .val (.long ee), .second, .val (.int sel), .val (.long pv), .second, .val (.ref b4), .val (.ref b6), .val (.int (own_holds ss tt pv)), .val (.int (own_holds ss tt pv)), .val (.int (own_inside pv ss tt))]) rfl ?_
    show Steps p.tables e below (T10.setTop (mkF m 70 #[.val (.long na), .second, .val (.long nb), .second, .val (.long ss), .second, .val (.long tt), .second, .val (.long ee), .second, .val (.int sel), .val (.long pv), .second, .val (.ref b4), .val (.ref b6), .val (.int (own_holds ss tt pv)), .val (.int (own_holds ss tt pv)), .val (.int (own_inside pv ss tt))] [])) _
    refine XS.iload X10.here hx rfl (hb hby at_70) rfl ?_
    show Steps p.tables e below (T10.setTop (mkF m 72 #[.val (.long na), .second, .val (.long nb), .second, .val (.long ss), .second, .val (.long tt), .second, .val (.long ee), .second, .val (.int sel), .val (.long pv), .second, .val (.ref b4), .val (.ref b6), .val (.int (own_holds ss tt pv)), .val (.int (own_holds ss tt pv)), .val (.int (own_inside pv ss tt))] [(.int (own_holds ss tt pv))])) _
    refine XS.iload X10.here hx rfl (hb hby at_72) rfl ?_
    show Steps p.tables e below (T10.setTop (mkF m 74 #[.val (.long na), .second, .val (.long nb), .second, .val (.long ss), .second, .val (.long tt), .second, .val (.long ee), .second, .val (.int sel), .val (.long pv), .second, .val (.ref b4), .val (.ref b6), .val (.int (own_holds ss tt pv)), .val (.int (own_holds ss tt pv)), .val (.int (own_inside pv ss tt))] [(.int (own_inside pv ss tt)), (.int (own_holds ss tt pv))])) _
    refine XS.icmpNo X10.here hx rfl (hb hby at_74) rfl (teq (own_same _ _ _)).2 ?_
    show Steps p.tables e below (T10.setTop (mkF m 77 #[.val (.long na), .second, .val (.long nb), .second, .val (.long ss), .second, .val (.long tt), .second, .val (.long ee), .second, .val (.int sel), .val (.long pv), .second, .val (.ref b4), .val (.ref b6), .val (.int (own_holds ss tt pv)), .val (.int (own_holds ss tt pv)), .val (.int (own_inside pv ss tt))] [])) _
    refine XS.iload X10.here hx rfl (hb hby at_77) rfl ?_
    show Steps p.tables e below (T10.setTop (mkF m 79 #[.val (.long na), .second, .val (.long nb), .second, .val (.long ss), .second, .val (.long tt), .second, .val (.long ee), .second, .val (.int sel), .val (.long pv), .second, .val (.ref b4), .val (.ref b6), .val (.int (own_holds ss tt pv)), .val (.int (own_holds ss tt pv)), .val (.int (own_inside pv ss tt))] [(.int (own_holds ss tt pv))])) _
    refine XS.iload X10.here hx rfl (hb hby at_79) rfl ?_
    show Steps p.tables e below (T10.setTop (mkF m 81 #[.val (.long na), .second, .val (.long nb), .second, .val (.long ss), .second, .val (.long tt), .second, .val (.long ee), .second, .val (.int sel), .val (.long pv), .second, .val (.ref b4), .val (.ref b6), .val (.int (own_holds ss tt pv)), .val (.int (own_holds ss tt pv)), .val (.int (own_inside pv ss tt))] [(.int (own_inside pv ss tt)), (.int (own_holds ss tt pv))])) _
    refine XS.icmpNo X10.here hx rfl (hb hby at_81) rfl (teq (own_same _ _ _)).2 ?_
    show Steps p.tables e below (T10.setTop (mkF m 84 #[.val (.long na), .second, .val (.long nb), .second, .val (.long ss), .second, .val (.long tt), .second, .val (.long ee), .second, .val (.int sel), .val (.long pv), .second, .val (.ref b4), .val (.ref b6), .val (.int (own_holds ss tt pv)), .val (.int (own_holds ss tt pv)), .val (.int (own_inside pv ss tt))] [])) _
    refine XS.iconst X10.here hx rfl (hb hby at_84) ?_
    show Steps p.tables e below (T10.setTop (mkF m 85 #[.val (.long na), .second, .val (.long nb), .second, .val (.long ss), .second, .val (.long tt), .second, .val (.long ee), .second, .val (.int sel), .val (.long pv), .second, .val (.ref b4), .val (.ref b6), .val (.int (own_holds ss tt pv)), .val (.int (own_holds ss tt pv)), .val (.int (own_inside pv ss tt))] [(.int (1 : Int32))])) _
    refine XS.goto X10.here hx rfl (pc0 := 85) (pc' := 89) rfl (hb hby at_85) (by decide) (by decide) ?_
    show Steps p.tables e below (T10.setTop (mkF m 89 #[.val (.long na), .second, .val (.long nb), .second, .val (.long ss), .second, .val (.long tt), .second, .val (.long ee), .second, .val (.int sel), .val (.long pv), .second, .val (.ref b4), .val (.ref b6), .val (.int (own_holds ss tt pv)), .val (.int (own_holds ss tt pv)), .val (.int (own_inside pv ss tt))] [(.int (1 : Int32))])) _
    exact retN X10 hx (t := .boolean) Bd.returns (by simp) (hb hby at_89) hr
  · show QL Z na nb ss tt ee sel h0 n0 _ T10.heap _
    rw [e10]
    exact ⟨rfl, N10⟩
set_option maxRecDepth 65536 in
set_option maxHeartbeats 40000000 in
theorem comes_1 {Post : Tables → Env → Array Value → State → Outcome → State → Prop} (hpost : ∀ tb e args s v u, (limb_1_1.after args s (.returned v) u = true ∧ limb_1_2.after args s (.returned v) u = true ∧ True) → FrameEnd s (.returned v) u (Jvm.fieldLocs frame_1_writes args s ++ Jvm.arrayLocs frame_1_arrays args s ++ Jvm.staticLocs frame_1_statics s) 16 128 → Post tb e args s (.returned v) u) :
    ArmFor flags0 classFile x code maxLocals ret World_1 tables_1 room_1 Calls_1 rest_1 Pre_1 Post := by
  intro l hfl _ _ p e ha hc hk s m args below hf hA hF happ hP
  obtain ⟨hcalls, hrest, hpre⟩ := hP
  obtain ⟨-, -, -, hnamed, -, -, -, hat⟩ := (Spec.applies_iff hf).mp happ
  obtain ⟨hg, hn⟩ := and_e (Cond.before_iff.mp (show (Jvm.Cond.and given_1 narrow_1).before args s = true from hpre))
  obtain ⟨hcount, gr0⟩ := and_e hg
  obtain ⟨ga0, gr1⟩ := and_e gr0
  obtain ⟨ga1, gr2⟩ := and_e gr1
  obtain ⟨ga2, gr3⟩ := and_e gr2
  obtain ⟨ga3, gr4⟩ := and_e gr3
  obtain ⟨ga4, gr5⟩ := and_e gr4
  have ga5 := gr5
  obtain ⟨w0, w1, w2, w3, w4, w5, rfl⟩ : ∃ w0 w1 w2 w3 w4 w5 : Value, args = #[w0, w1, w2, w3, w4, w5] := by
    have hs : args.size = 6 := by simpa [Cond.value, given_1] using hcount
    obtain ⟨L⟩ := args
    match L, hs with
    | [w0, w1, w2, w3, w4, w5], _ => exact ⟨w0, w1, w2, w3, w4, w5, rfl⟩
  have hw := fun d (hd : d ∈ tables_1) => atoms_spec (ws := Jvm.Cond.code x code maxLocals ret :: tables_1) hat d (List.mem_cons_of_mem _ hd)
  have hfit : Fit s := fun {y c} hc i hi => by
    obtain ⟨ha, rfl⟩ := Array.getElem?_eq_some_iff.mp hc
    have q := List.all_eq_true.mp ((Array.all_eq_true_iff_forall_mem.mp hF) _ (Array.getElem_mem ha)) i (List.mem_range.mpr hi)
    simpa [Array.getElem?_eq_getElem hi] using q
  obtain ⟨i0, ei0⟩ := isL_v ga0
  obtain rfl : w0 = (.long i0) := Option.some.inj ei0
  obtain ⟨i1, ei1⟩ := isL_v ga1
  obtain rfl : w1 = (.long i1) := Option.some.inj ei1
  obtain ⟨i2, ei2⟩ := isL_v ga2
  obtain rfl : w2 = (.long i2) := Option.some.inj ei2
  obtain ⟨i3, ei3⟩ := isL_v ga3
  obtain rfl : w3 = (.long i3) := Option.some.inj ei3
  obtain ⟨i4, ei4⟩ := isL_v ga4
  obtain rfl : w4 = (.long i4) := Option.some.inj ei4
  obtain ⟨i5, ei5⟩ := is_v ga5
  obtain rfl : w5 = (.int i5) := Option.some.inj ei5
  obtain ⟨n, o, h1, h2, h3, _, L, rfl, ⟨rfl, N⟩, hq⟩ := rmL l s _ hw tables_1 i0 i1 i2 i3 i4 i5 s.heap s.heap.size (Nat.le_refl _)  p e ha hc hk s m _ below hf ((Spec.applies_iff_loose hf).mp happ).1 ⟨rfl, State.Warmed39.refl s, rfl⟩ trivial
  refine ⟨n, _, h1, h2, h3, hpost _ _ _ _ _ _ ⟨Cond.after_iff.mpr rfl, Cond.after_iff.mpr (eq_i res_at (Term.int_eval (1)) rfl), trivial⟩ ⟨hq.1, hq.2.1, (hq.2.2.sift fun y hy => Or.inr (N y hy)).mono (by decide) (by decide)⟩⟩
theorem main_1_1 : Claimed_1_1 := comes_1 fun _ _ _ _ _ _ h hF => ⟨h.1, hF⟩
theorem main_1_2 : Claimed_1_2 := comes_1 fun _ _ _ _ _ _ h hF => ⟨h.2.1, hF⟩
end Jvm.Pilot.@@N@@
namespace Jvm.Pilot.@@N@@
open Jvm Jvm.ClassFile Sem Op Lib Jvm.Free Jvm.Stand Jvm.Pilot.@@N@@.Jvm.D
/-! MADE BY PROGRAM (witnessworld.py) out of the Statement's table words and the real class files: 10 classes; the members and pool entries that the words name. The judged class is class 1, her method 3. -/
namespace start1
open Jvm.ClassFile
def u (s : String) : CpInfo := .utf8 (stringToUtf16 s)
/-- a pool by its gaps: so many unusable entries, then the entry; so many at the end -/
def gap : Nat → List CpInfo → List CpInfo
  | 0, r => r
  | n + 1, r => .unusable :: gap n r
def poolList (es : List (Nat × CpInfo)) (last : Nat) : List CpInfo := es.foldr (fun e r => gap e.1 (e.2 :: r)) (gap last [])
def pool (es : List (Nat × CpInfo)) (last : Nat) : Array CpInfo := ⟨poolList es last⟩
def fileOf (pool : Array CpInfo) (this : Nat) (attrs : Array Attribute := #[]) (ms : Array MethodInfo := #[]) (fl : Nat := 33) (sup : Nat := 0) (ifs : Array Nat := #[]) (fds : Array FieldInfo := #[]) : ClassFile where
  minorVersion := 0
  majorVersion := 65
  constantPool := pool
  accessFlags := fl
  thisClass := this
  superClass := sup
  interfaces := ifs
  fields := fds
  methods := ms
  attributes := attrs
def plain (name : String) (sup : Option ClassId) : Class where
  name := name
  kind := .ordinary
  loader := none
  accessFlags := 33
  super := sup
  interfaces := #[]
  cf := none
  fields := #[]
  methods := #[]
  instanceTypes := #[]
  staticTypes := #[]
  resolved := #[]
  callSites := []
  init := .initialized
  statics := none
  mirror := none

def pool0 : Array CpInfo := pool [(5, u "<init>"), (0, u "()V"), (1, .class_ 10), (1, u "java/lang/Object")] 113

def k0c0 : Code := { maxStack := 0, maxLocals := 1, code := object_method_1_code, exceptionTable := #[], attributes := #[] }
def k0m0 : Method := { name := "<init>", desc := "()V", sig := { parameters := [], returnType := none }, accessFlags := 1, code := some k0c0 }
/-- java/lang/Object -/
def k0 : Class := { plain "java/lang/Object" none with
  accessFlags := 33
  interfaces := #[]
  cf := some (fileOf pool0 8 #[] #[{ accessFlags := 1, nameIndex := 5, descriptorIndex := 6, attributes := #[] }] 33 0 #[] #[])
  fields := #[]
  methods := #[k0m0]
  instanceTypes := #[]
  staticTypes := #[]
  resolved := Array.replicate 124 none
  statics := none }

def pool1 : Array CpInfo := pool [(2, .class_ 4), (1, u "java/lang/Object"), (0, u "<init>"), (0, u "()V"), (2, .long 9223372036854775808), (1, .methodref 12 13), (0, .class_ 14), (0, .nameAndType 15 16), (0, u "com/example/careful_throttle/carefulthrottle/DayHoldsPinLaw"), (0, u "probe"), (0, u "(IJJJ)J"), (0, .class_ 18), (0, u "com/example/careful_throttle/carefulthrottle/CalendarDays$Day"), (0, .methodref 17 20), (0, .nameAndType 5 21), (0, u "(JJJ)V"), (0, .methodref 17 23), (0, .nameAndType 24 25), (0, u "holds"), (0, u "(J)Z"), (0, .methodref 12 27), (0, .nameAndType 28 29), (0, u "inside"), (0, u "(JJJ)Z"), (3, u "law"), (0, u "(JJJJJI)Z")] 6

def k1m0 : Method := { name := "<init>", desc := "()V", sig := { parameters := [], returnType := none }, accessFlags := 2, code := none }
def k1c1 : Code := { maxStack := 4, maxLocals := 8, code := method_2_code, exceptionTable := #[], attributes := #[] }
def k1m1 : Method := { name := "probe", desc := "(IJJJ)J", sig := { parameters := [.int, .long, .long, .long], returnType := some .long }, accessFlags := 10, code := some k1c1 }
def k1c2 : Code := { maxStack := 6, maxLocals := 6, code := method_3_code, exceptionTable := #[], attributes := #[] }
def k1m2 : Method := { name := "inside", desc := "(JJJ)Z", sig := { parameters := [.long, .long, .long], returnType := some .boolean }, accessFlags := 10, code := some k1c2 }
def k1c3 : Code := { maxStack := 8, maxLocals := 18, code := code, exceptionTable := #[], attributes := #[] }
def k1m3 : Method := { name := "law", desc := "(JJJJJI)Z", sig := { parameters := [.long, .long, .long, .long, .long, .int], returnType := some .boolean }, accessFlags := 9, code := some k1c3 }
/-- com/example/careful_throttle/carefulthrottle/DayHoldsPinLaw -/
def k1 : Class := { plain "com/example/careful_throttle/carefulthrottle/DayHoldsPinLaw" (some 0) with
  accessFlags := 49
  interfaces := #[]
  cf := some (fileOf pool1 12 #[] #[{ accessFlags := 2, nameIndex := 5, descriptorIndex := 6, attributes := #[] }, { accessFlags := 10, nameIndex := 15, descriptorIndex := 16, attributes := #[] }, { accessFlags := 10, nameIndex := 28, descriptorIndex := 29, attributes := #[] }, { accessFlags := 9, nameIndex := 33, descriptorIndex := 34, attributes := #[] }] 49 2 #[] #[])
  fields := #[]
  methods := #[k1m0, k1m1, k1m2, k1m3]
  instanceTypes := #[]
  staticTypes := #[]
  resolved := Array.replicate 41 none
  statics := none }

def pool2 : Array CpInfo := pool [(1, .methodref 2 3), (0, .class_ 4), (0, .nameAndType 5 6), (0, u "java/lang/Object"), (0, u "<init>"), (0, u "()V"), (0, .class_ 8), (0, u "java/lang/Record")] 13

def k2c0 : Code := { maxStack := 1, maxLocals := 1, code := jdk_30_method_1_code, exceptionTable := #[], attributes := #[] }
def k2m0 : Method := { name := "<init>", desc := "()V", sig := { parameters := [], returnType := none }, accessFlags := 4, code := some k2c0 }
/-- java/lang/Record -/
def k2 : Class := { plain "java/lang/Record" (some 0) with
  accessFlags := 1057
  interfaces := #[]
  cf := some (fileOf pool2 7 #[] #[{ accessFlags := 4, nameIndex := 5, descriptorIndex := 6, attributes := #[] }] 1057 2 #[] #[])
  fields := #[]
  methods := #[k2m0]
  instanceTypes := #[]
  staticTypes := #[]
  resolved := Array.replicate 22 none
  statics := none }

def pool3 : Array CpInfo := pool [(1, .methodref 2 3), (0, .class_ 4), (0, .nameAndType 5 6), (0, u "java/lang/Record"), (0, u "<init>"), (0, u "()V"), (0, .fieldref 8 9), (0, .class_ 10), (0, .nameAndType 11 12), (0, u "com/example/careful_throttle/carefulthrottle/CalendarDays$Day"), (0, u "number"), (0, u "J"), (0, .fieldref 8 14), (0, .nameAndType 15 12), (0, u "start"), (0, .fieldref 8 17), (0, .nameAndType 18 12), (0, u "end"), (12, u "(JJJ)V"), (3, u "holds"), (0, u "(J)Z"), (8, .class_ 46), (0, u "com/example/careful_throttle/carefulthrottle/CalendarDays")] 21

def k3c0 : Code := { maxStack := 3, maxLocals := 7, code := prog_3_method_1_code, exceptionTable := #[], attributes := #[] }
def k3m0 : Method := { name := "<init>", desc := "(JJJ)V", sig := { parameters := [.long, .long, .long], returnType := none }, accessFlags := 0, code := some k3c0 }
def k3c1 : Code := { maxStack := 4, maxLocals := 3, code := prog_3_method_2_code, exceptionTable := #[], attributes := #[] }
def k3m1 : Method := { name := "holds", desc := "(J)Z", sig := { parameters := [.long], returnType := some .boolean }, accessFlags := 0, code := some k3c1 }
/-- com/example/careful_throttle/carefulthrottle/CalendarDays$Day -/
def k3 : Class := { plain "com/example/careful_throttle/carefulthrottle/CalendarDays$Day" (some 2) with
  accessFlags := 48
  interfaces := #[]
  cf := some (fileOf pool3 8 #[.nestHost 45] #[{ accessFlags := 0, nameIndex := 5, descriptorIndex := 31, attributes := #[] }, { accessFlags := 0, nameIndex := 35, descriptorIndex := 36, attributes := #[] }] 48 2 #[] #[{ accessFlags := 18, nameIndex := 11, descriptorIndex := 12, attributes := #[] }, { accessFlags := 18, nameIndex := 15, descriptorIndex := 12, attributes := #[] }, { accessFlags := 18, nameIndex := 18, descriptorIndex := 12, attributes := #[] }])
  fields := #[{ name := "number", type := .long, accessFlags := 18, slot := 0, constantValue := 0 }, { name := "start", type := .long, accessFlags := 18, slot := 1, constantValue := 0 }, { name := "end", type := .long, accessFlags := 18, slot := 2, constantValue := 0 }]
  methods := #[k3m0, k3m1]
  instanceTypes := #[.long, .long, .long]
  staticTypes := #[]
  resolved := Array.replicate 68 none
  statics := none }

def pool4 : Array CpInfo := pool [(1, u "java/lang/Cloneable"), (0, .class_ 1), (0, u "java/lang/Object"), (0, .class_ 3)] 3

/-- java/lang/Cloneable -/
def k4 : Class := { plain "java/lang/Cloneable" (some 0) with
  accessFlags := 1537
  interfaces := #[]
  cf := some (fileOf pool4 2 #[] #[] 1537 4 #[] #[])
  fields := #[]
  methods := #[]
  instanceTypes := #[]
  staticTypes := #[]
  resolved := Array.replicate 8 none
  statics := none }

def pool5 : Array CpInfo := pool [(1, u "java/io/Serializable"), (0, .class_ 1), (0, u "java/lang/Object"), (0, .class_ 3)] 3

/-- java/io/Serializable -/
def k5 : Class := { plain "java/io/Serializable" (some 0) with
  accessFlags := 1537
  interfaces := #[]
  cf := some (fileOf pool5 2 #[] #[] 1537 4 #[] #[])
  fields := #[]
  methods := #[]
  instanceTypes := #[]
  staticTypes := #[]
  resolved := Array.replicate 8 none
  statics := none }

/-- the primitive byte -/
def k6 : Class := { plain "byte" none with kind := .primitive 'B', accessFlags := 0x411 }
/-- [B -/
def k7 : Class := { plain "[B" (some 0) with kind := .array 6 .byte, interfaces := #[4, 5], accessFlags := 1041 }

/-- the primitive int -/
def k8 : Class := { plain "int" none with kind := .primitive 'I', accessFlags := 0x411 }
/-- [I -/
def k9 : Class := { plain "[I" (some 0) with kind := .array 8 .int, interfaces := #[4, 5], accessFlags := 1041 }

def heap : Heap := #[]
def classes : Array Class := #[k0, k1, k2, k3, k4, k5, k6, k7, k8, k9]
def interned : List (Array UInt16 × Addr) := []
def slotsUsed : Nat := 0
def theMethod : MethodId := ⟨1, 3⟩
def args0 : Array Value := #[.long 1, .long 2, .long 10, .long 20, .long 15, .int 4]
def aboutOver (below : List Frame) : State where
  vm := { classes := classes, interned := interned.toArray }
  heap := heap
  slotsUsed := slotsUsed
  threads := #[{ frames := .invoking theMethod args0 :: below }]
def below0 : List Frame := [.native { method := ⟨0, 0⟩, args := #[] }]
def about1 : State := aboutOver below0
def p0 : Program := .bare "" "" ""
def e0 : Env := launch0.env 0 0 0
theorem w_frames : about1.frames = Frame.invoking theMethod args0 :: below0 := rfl
set_option maxRecDepth 65536 in
theorem w_args : argsFit about1.vm theMethod args0 = true := by decide +kernel
set_option maxRecDepth 65536 in
theorem w_heap : heapFits about1 = true := by decide +kernel
set_option maxRecDepth 65536 in
theorem w_runnable : about1.curStatus? = some .runnable := by decide +kernel
set_option maxRecDepth 65536 in
theorem w_alone : about1.alone = true := by decide +kernel
set_option maxRecDepth 65536 in
theorem w_named : about1.methodNamed? x = some theMethod := by decide +kernel
set_option maxRecDepth 65536 in
theorem w_hears : about1.hears theMethod below0 = true := by decide +kernel
set_option maxRecDepth 65536 in
theorem w_ripe : about1.ripe theMethod args0 below0 = true := by decide +kernel
theorem w_running : about1.status = .running := rfl
set_option maxRecDepth 65536 in
theorem w_room : about1.hasRoom e0.platform room_1 = true :=
  launch0.hasRoom_least _ room_1 (by decide +kernel) (by decide +kernel) (by decide +kernel) (by decide +kernel) (by decide +kernel) (by decide +kernel)
theorem allAtoms_all (ts : List Jvm.Cond) (a : Array Jvm.Value) (st : Jvm.State) : (allAtoms ts).before a st = ts.all (fun c => c.before a st) := by
  induction ts with
  | nil => rfl
  | cons c t ih =>
    show (Jvm.Cond.and c (allAtoms t)).before a st = _
    rw [Jvm.Cond.before_and, ih, List.all_cons]
def words1 : List Jvm.Cond := Jvm.Cond.code x code maxLocals ret :: tables_1
/-- a 'code' word, met by the world's own term for the bytes: nothing is compared byte by byte -/
theorem code_word {y : MethodName} {bytes : ByteArray} {mx : Nat} {rt : Option FieldType} {a : Array Value} {s : State} {m : MethodId} {meth : Method} {c : Code} (h1 : s.methodNamed? y = some m) (h2 : s.vm.method? m = some meth) (h3 : meth.code = some c) (h4 : c.code = bytes)
    (h5 : (c.maxLocals == mx && c.exceptionTable.isEmpty && decide (c.maxStack ≤ mostOperands) && decide (meth.sig.returnType = rt) && !meth.locks && decide (parseMethodDescriptor y.desc = some meth.sig)) = true) : (Jvm.Cond.code y bytes mx rt).before a s = true := by
  simp only [Bool.and_eq_true, beq_iff_eq, Bool.not_eq_true', decide_eq_true_eq] at h5
  obtain ⟨⟨⟨⟨⟨g1, g2⟩, g3⟩, g4⟩, g5⟩, g6⟩ := h5
  simp [Cond.before, Cond.holds, Cond.value, h1, h2, h3, h4, g1, g2, g3, g4, g5, g6]
def isCode : Jvm.Cond → Bool
  | .code _ _ _ _ => true
  | _ => false
theorem all_split {L : List Jvm.Cond} {P : Jvm.Cond → Bool} (h1 : L.all (fun c => isCode c || P c) = true) (h2 : ∀ c ∈ L.filter isCode, P c = true) : L.all P = true := by
  refine List.all_eq_true.mpr fun c hc => ?_
  have h := List.all_eq_true.mp h1 c hc
  rcases Bool.eq_false_or_eq_true (isCode c) with hi | hi
  · exact h2 c (List.mem_filter.mpr ⟨hc, hi⟩)
  · simpa [hi] using h
set_option maxRecDepth 65536 in
theorem w_c0 : (Jvm.Cond.code x code maxLocals ret).before args0 about1 = true := code_word (m := ⟨1, 3⟩) (meth := k1m3) (c := k1c3) (by decide +kernel) rfl rfl rfl (by decide +kernel)
set_option maxRecDepth 65536 in
theorem w_c1 : (Jvm.Cond.code ({ cls := "com/example/careful_throttle/carefulthrottle/DayHoldsPinLaw", name := "probe", desc := "(IJJJ)J" } : Jvm.MethodName) method_2_code (8 : Nat) (Option.some Jvm.ClassFile.FieldType.long)).before args0 about1 = true := code_word (m := ⟨1, 1⟩) (meth := k1m1) (c := k1c1) (by decide +kernel) rfl rfl rfl (by decide +kernel)
set_option maxRecDepth 65536 in
theorem w_c2 : (Jvm.Cond.code ({ cls := "com/example/careful_throttle/carefulthrottle/CalendarDays$Day", name := "<init>", desc := "(JJJ)V" } : Jvm.MethodName) prog_3_method_1_code (7 : Nat) (Option.none : Option Jvm.ClassFile.FieldType)).before args0 about1 = true := code_word (m := ⟨3, 0⟩) (meth := k3m0) (c := k3c0) (by decide +kernel) rfl rfl rfl (by decide +kernel)
set_option maxRecDepth 65536 in
theorem w_c3 : (Jvm.Cond.code ({ cls := "java/lang/Record", name := "<init>", desc := "()V" } : Jvm.MethodName) jdk_30_method_1_code (1 : Nat) (Option.none : Option Jvm.ClassFile.FieldType)).before args0 about1 = true := code_word (m := ⟨2, 0⟩) (meth := k2m0) (c := k2c0) (by decide +kernel) rfl rfl rfl (by decide +kernel)
set_option maxRecDepth 65536 in
theorem w_c4 : (Jvm.Cond.code ({ cls := "java/lang/Object", name := "<init>", desc := "()V" } : Jvm.MethodName) object_method_1_code (1 : Nat) (Option.none : Option Jvm.ClassFile.FieldType)).before args0 about1 = true := code_word (m := ⟨0, 0⟩) (meth := k0m0) (c := k0c0) (by decide +kernel) rfl rfl rfl (by decide +kernel)
set_option maxRecDepth 65536 in
theorem w_c5 : (Jvm.Cond.code ({ cls := "com/example/careful_throttle/carefulthrottle/CalendarDays$Day", name := "holds", desc := "(J)Z" } : Jvm.MethodName) prog_3_method_2_code (3 : Nat) (Option.some Jvm.ClassFile.FieldType.boolean)).before args0 about1 = true := code_word (m := ⟨3, 1⟩) (meth := k3m1) (c := k3c1) (by decide +kernel) rfl rfl rfl (by decide +kernel)
set_option maxRecDepth 65536 in
theorem w_c6 : (Jvm.Cond.code ({ cls := "com/example/careful_throttle/carefulthrottle/DayHoldsPinLaw", name := "inside", desc := "(JJJ)Z" } : Jvm.MethodName) method_3_code (6 : Nat) (Option.some Jvm.ClassFile.FieldType.boolean)).before args0 about1 = true := code_word (m := ⟨1, 2⟩) (meth := k1m2) (c := k1c2) (by decide +kernel) rfl rfl rfl (by decide +kernel)
def codes1 : List Jvm.Cond := [Jvm.Cond.code x code maxLocals ret, Jvm.Cond.code ({ cls := "com/example/careful_throttle/carefulthrottle/DayHoldsPinLaw", name := "probe", desc := "(IJJJ)J" } : Jvm.MethodName) method_2_code (8 : Nat) (Option.some Jvm.ClassFile.FieldType.long), Jvm.Cond.code ({ cls := "com/example/careful_throttle/carefulthrottle/CalendarDays$Day", name := "<init>", desc := "(JJJ)V" } : Jvm.MethodName) prog_3_method_1_code (7 : Nat) (Option.none : Option Jvm.ClassFile.FieldType), Jvm.Cond.code ({ cls := "java/lang/Record", name := "<init>", desc := "()V" } : Jvm.MethodName) jdk_30_method_1_code (1 : Nat) (Option.none : Option Jvm.ClassFile.FieldType), Jvm.Cond.code ({ cls := "java/lang/Object", name := "<init>", desc := "()V" } : Jvm.MethodName) object_method_1_code (1 : Nat) (Option.none : Option Jvm.ClassFile.FieldType), Jvm.Cond.code ({ cls := "com/example/careful_throttle/carefulthrottle/CalendarDays$Day", name := "holds", desc := "(J)Z" } : Jvm.MethodName) prog_3_method_2_code (3 : Nat) (Option.some Jvm.ClassFile.FieldType.boolean), Jvm.Cond.code ({ cls := "com/example/careful_throttle/carefulthrottle/DayHoldsPinLaw", name := "inside", desc := "(JJJ)Z" } : Jvm.MethodName) method_3_code (6 : Nat) (Option.some Jvm.ClassFile.FieldType.boolean)]
set_option maxRecDepth 65536 in
theorem codes_eq : words1.filter isCode = codes1 := rfl
theorem w_codes : ∀ c ∈ words1.filter isCode, c.before args0 about1 = true := by
  rw [codes_eq]
  intro c hc
  simp only [codes1, List.mem_cons, List.not_mem_nil, or_false] at hc
  rcases hc with rfl | rfl | rfl | rfl | rfl | rfl | rfl
  · exact w_c0
  · exact w_c1
  · exact w_c2
  · exact w_c3
  · exact w_c4
  · exact w_c5
  · exact w_c6
set_option maxRecDepth 65536 in
theorem w_t1 : (words1.take 24).all (fun c => isCode c || c.before args0 about1) = true := by decide +kernel
set_option maxRecDepth 65536 in
theorem w_t2 : (words1.drop 24).all (fun c => isCode c || c.before args0 about1) = true := by decide +kernel
theorem w_tables : (allAtoms (Jvm.Cond.code x code maxLocals ret :: tables_1)).before args0 about1 = true := by
  rw [allAtoms_all]
  show words1.all (fun c => c.before args0 about1) = true
  refine all_split ?_ w_codes
  rw [← List.take_append_drop 24 words1, List.all_append, w_t1, w_t2]
  rfl
set_option maxRecDepth 65536 in
theorem w_case : (Jvm.Cond.and given_1 narrow_1).before args0 about1 = true := by decide +kernel
theorem w_applies : (headSpec (Jvm.Cond.code x code maxLocals ret :: tables_1) room_1).applies x e0.platform about1 = true :=
  (Spec.applies_iff w_frames).mpr ⟨w_running, w_runnable, w_alone, w_named, w_hears, w_ripe, w_room, w_tables⟩
theorem atStart : AtStart classFile x code maxLocals ret World_1 tables_1 room_1 Calls_1 rest_1 Pre_1 launch0 p0 e0 about1 theMethod args0 below0 :=
  ⟨lists_1, trivial, launch0.admits_env _ _ _, launch0.least_env, fairChoices_fair.cas, fairChoices_fair.clock, w_frames, w_args, w_heap, w_applies, trivial, trivial, w_case⟩
end start1
theorem witness_1 : WitnessClaimed_1 := ⟨start1.p0, start1.e0, start1.about1, start1.theMethod, start1.args0, start1.below0, start1.atStart⟩
end Jvm.Pilot.@@N@@
