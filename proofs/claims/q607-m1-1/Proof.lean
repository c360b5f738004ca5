import JvmDerived
import JvmDerived.Pilot.@@N@@Statement
import JvmDerived.Pilot.@@N@@Code
set_option linter.unusedVariables false
set_option linter.unusedSimpArgs false
namespace Jvm.RoadKit
open Sem ClassFile Op Lib Jvm.Stand Jvm.Free Jvm.LawKit
section New
variable {p : Program} {l : Launch} {e : Env} {R : Room} {s : State} {m : MethodId} {args : Array Value} {below : List Frame} {meth : Method} {c : Code} {T : State} {locs : List Loc} {cells slots : Nat}
theorem retI (X : Stand p l e R s m args below meth c T locs cells slots) (hx : p.tables.exec = Jvm.exec) {pc : Nat} {Ls : Array Slot} {z : Int32} {rest : List Value} (hret : meth.sig.returnType = some .int) (hd : decode c.code pc = .ok (.ireturn, 1)) {fs : List Frame}
    (hl : ∀ (f : JFrame) (acts : List Action), f.method = m → f.locked = none → f.entered = [] → (doReturn e (T.setTop f) acts (some (.int z))).1 = T.setFrames fs) : Steps p.tables e below (T.setTop (mkF m pc Ls (.int z :: rest))) (T.setFrames fs) := by
  have hm' : T.vm.method? m = some meth := X.method'
  have hn : narrow .int (.int z) = .int z := rfl
  show Steps p.tables e below (T.setTop { method := m, pc := pc, locals := Ls, stack := _ :: rest, locked := none }) _
  jvm_step X.here [X.here.top, hx, hd, hm', hret, hn]
  first | (intro acts; rw [hl _ acts rfl rfl rfl]) | rw [hl _ _ rfl rfl rfl]
  exact Steps.refl _
end New
end Jvm.RoadKit
namespace Jvm.Pilot.@@N@@
open Jvm Jvm.ClassFile Sem Op Lib Jvm.Free Jvm.Stand Jvm.LawKit Jvm.RoadKit Bundle Jvm.Pilot.@@N@@.Jvm.D
theorem own_pn0 : plainName "com/example/tallysketch/tallysketch/LinearCounter" = true := by first | (simp [plainName, overriddenIn]; done) | decide +kernel
theorem dA_0 : decode prog_3_method_6_code 0 = .ok (.iload_n 0, 1) := by decide +kernel
theorem dA_1 : decode prog_3_method_6_code 1 = .ok (.i2l, 1) := by decide +kernel
theorem dA_2 : decode prog_3_method_6_code 2 = .ok (.ldc2_w 82, 3) := by decide +kernel
theorem dA_5 : decode prog_3_method_6_code 5 = .ok (.ladd, 1) := by decide +kernel
theorem dA_6 : decode prog_3_method_6_code 6 = .ok (.lconst 1, 1) := by decide +kernel
theorem dA_7 : decode prog_3_method_6_code 7 = .ok (.lsub, 1) := by decide +kernel
theorem dA_8 : decode prog_3_method_6_code 8 = .ok (.ldc2_w 82, 3) := by decide +kernel
theorem dA_11 : decode prog_3_method_6_code 11 = .ok (.ldiv, 1) := by decide +kernel
theorem dA_12 : decode prog_3_method_6_code 12 = .ok (.ldc2_w 30, 3) := by decide +kernel
theorem dA_15 : decode prog_3_method_6_code 15 = .ok (.lmul, 1) := by decide +kernel
theorem dA_16 : decode prog_3_method_6_code 16 = .ok (.lreturn, 1) := by decide +kernel
theorem efA (m : MethodId) (px : Int32) : entryFrame m #[(.int px)] 1 = mkF m 0 #[.val (.int px)] [] := by first | (simp [entryFrame, mkF, argsToLocals, Value.category]; done) | rfl
def QA (Z : State) (px : Int32) (h0 : Heap) (n0 : Nat) (v : Option Value) (h : Heap) (L : List Loc) : Prop := v = some (.long (((((px.toInt64) + (64 : Int64)) - (1 : Int64)) / (64 : Int64)) * (8 : Int64))) ∧ Fr n0 L ∧ h = h0
set_option maxRecDepth 65536 in
set_option maxHeartbeats 40000000 in
theorem rmA (l : Launch) (Z : State) (a0 : Array Value) (hw : ∀ d ∈ tables_1, d.before a0 Z = true) (ws : List Jvm.Cond) (px : Int32) (h0 : Heap) (n0 : Nat) (Z0 : n0 ≤ h0.size) :
    MetFree l (⟨"com/example/tallysketch/tallysketch/LinearCounter", "mapBytes", "(I)J"⟩ : MethodName) (head1 (Jvm.Cond.code (⟨"com/example/tallysketch/tallysketch/LinearCounter", "mapBytes", "(I)J"⟩ : MethodName) prog_3_method_6_code 1 (some .long) :: ws) ({ frames := 0, cells := 0, slots := 0, locals := 0 } : Room)) (fun av_ U => av_ = #[(.int px)] ∧ Z.Warmed39 U.vm ∧ U.heap = h0) (fun _ _ _ _ _ => True) (fun _ U o U' => ∃ v L, o = .returned v ∧ QA Z px h0 n0 v U'.heap L ∧ FrameEnd U o U' L ({ frames := 0, cells := 0, slots := 0, locals := 0 } : Room).cells ({ frames := 0, cells := 0, slots := 0, locals := 0 } : Room).slots) := by
  refine MetFree.of_bodySF (plainFor_of_name own_pn0) hisR ?_
  intro p e s m args below meth c s₁ Bd hml0 hP hK
  obtain ⟨rfl, hZ, hh⟩ := hP
  have hx := Bd.exec
  have hby := Bd.bytes
  have hml : c.maxLocals = 1 := hml0
  have hown : s.vm.findClass "com/example/tallysketch/tallysketch/LinearCounter" = some m.cls := findClass_of_methodNamed Bd.named
  have hnm := (name_of_methodNamed Bd.named Bd.method).1
  have X0 : Stand p l e ({ frames := 0, cells := 0, slots := 0, locals := 0 } : Room) s m #[(.int px)] below meth c s₁ [] 0 0 := Stand.of_body Bd
  have e0 : s₁.heap = h0 := by rw [← hh, Bd.state]; rfl
  have N0 := Fr.nil n0
  have pre0 : ∀ t, Steps p.tables e below (s₁.setTop (mkF m 0 #[.val (.int px)] [])) t → Steps p.tables e below (s₁.setTop (entryFrame m #[(.int px)] 1)) t := fun t k => castTop (efA m px) k
  obtain ⟨fs, hr, hrun, hended, hW, hsame⟩ := X0.leave (v := some (.long (((((px.toInt64) + (64 : Int64)) - (1 : Int64)) / (64 : Int64)) * (8 : Int64)))) (fun h => by rw [Bd.returns] at h; cases h)
  refine ⟨_, _, (pre0 _ ?_), hrun, hended, _, _, rfl, ?_, ⟨_, rfl⟩, hW, hsame.mono (by decide) (by decide)⟩
  · show Steps p.tables e below (s₁.setTop (mkF m 0 #[.val (.int px)] [])) _
    refine XS.iloadN X0.here hx rfl (hb hby dA_0) rfl ?_
    show Steps p.tables e below (s₁.setTop (mkF m 1 #[.val (.int px)] [(.int px)])) _
    refine XS.i2l X0.here hx rfl (hb hby dA_1) rfl ?_
    show Steps p.tables e below (s₁.setTop (mkF m 2 #[.val (.int px)] [(.long (px.toInt64))])) _
    refine X0.ldc2Long hx hown (mvT hZ (hw _ (List.mem_of_getElem? (i := 6) rfl))) (g := (mkF m 2 #[.val (.int px)] [(.long (px.toInt64))])) rfl (hb hby dA_2) _ ?_
    show Steps p.tables e below (s₁.setTop (mkF m 5 #[.val (.int px)] [(.long (64 : Int64)), (.long (px.toInt64))])) _
    refine XS.ladd X0.here hx rfl (hb hby dA_5) rfl ?_
    show Steps p.tables e below (s₁.setTop (mkF m 6 #[.val (.int px)] [(.long ((px.toInt64) + (64 : Int64)))])) _
    refine XS.lconst X0.here hx rfl (hb hby dA_6) ?_
    show Steps p.tables e below (s₁.setTop (mkF m 7 #[.val (.int px)] [(.long (1 : Int64)), (.long ((px.toInt64) + (64 : Int64)))])) _
    refine XS.lsub X0.here hx rfl (hb hby dA_7) rfl ?_
    show Steps p.tables e below (s₁.setTop (mkF m 8 #[.val (.int px)] [(.long (((px.toInt64) + (64 : Int64)) - (1 : Int64)))])) _
    refine X0.ldc2Long hx hown (mvT hZ (hw _ (List.mem_of_getElem? (i := 6) rfl))) (g := (mkF m 8 #[.val (.int px)] [(.long (((px.toInt64) + (64 : Int64)) - (1 : Int64)))])) rfl (hb hby dA_8) _ ?_
    show Steps p.tables e below (s₁.setTop (mkF m 11 #[.val (.int px)] [(.long (64 : Int64)), (.long (((px.toInt64) + (64 : Int64)) - (1 : Int64)))])) _
    refine XS.ldiv X0.here hx rfl (hb hby dA_11) rfl (by decide) ?_
    show Steps p.tables e below (s₁.setTop (mkF m 12 #[.val (.int px)] [(.long ((((px.toInt64) + (64 : Int64)) - (1 : Int64)) / (64 : Int64)))])) _
    refine X0.ldc2Long hx hown (mvT hZ (hw _ (List.mem_of_getElem? (i := 7) rfl))) (g := (mkF m 12 #[.val (.int px)] [(.long ((((px.toInt64) + (64 : Int64)) - (1 : Int64)) / (64 : Int64)))])) rfl (hb hby dA_12) _ ?_
    show Steps p.tables e below (s₁.setTop (mkF m 15 #[.val (.int px)] [(.long (8 : Int64)), (.long ((((px.toInt64) + (64 : Int64)) - (1 : Int64)) / (64 : Int64)))])) _
    refine XS.lmul X0.here hx rfl (hb hby dA_15) rfl ?_
    show Steps p.tables e below (s₁.setTop (mkF m 16 #[.val (.int px)] [(.long (((((px.toInt64) + (64 : Int64)) - (1 : Int64)) / (64 : Int64)) * (8 : Int64)))])) _
    jvm_step X0.here [X0.here.top, hx, (hb hby dA_16), X0.method', Bd.returns, narrow]
    first | (intro acts; rw [hr _ acts rfl rfl rfl]) | rw [hr _ _ rfl rfl rfl]
    exact Steps.refl _
  · show QA Z px h0 n0 _ s₁.heap _
    rw [e0]
    exact ⟨rfl, N0, rfl⟩
theorem own_law (x v w : Int32) (b : Int64) (hv : v = x &&& (2147483647 : Int32)) (hw : w = (v.toUInt32 >>> ((6 : Int32) &&& 31).toUInt32).toInt32) (hb : b = if (v &&& (63 : Int32)) = (0 : Int32) then (0 : Int64) else (1 : Int64)) :
    ((((v.toInt64) + (64 : Int64)) - (1 : Int64)) / (64 : Int64)) * (8 : Int64) = ((w.toInt64) + b) * (8 : Int64) := by
  have a1 : v.toInt = x.toInt % (2 ^ 31 : Nat) := by rw [hv]; exact c_mask x 2147483647 31 (by decide) (by decide)
  have a2 : w.toInt = (v.toInt % 4294967296) / (2 ^ 6 : Nat) := by rw [hw]; exact c_iushr v 6 6 (by decide) (by decide)
  have a3 : (v &&& 63).toInt = v.toInt % (2 ^ 6 : Nat) := c_mask v 63 6 (by decide) (by decide)
  have e : ((v.toInt64) + (64 : Int64) - (1 : Int64)) / (64 : Int64) = (w.toInt64) + b := by
    apply Int64.toInt_inj.mp
    have i1 := c_i2l v
    have i2 := c_i2l w
    have s1 := c_ladd v.toInt64 64
    have s2 := c_lsub (v.toInt64 + 64) 1
    have k64 : (64 : Int64).toInt = 64 := by decide
    have k1 : (1 : Int64).toInt = 1 := by decide
    have k0 : (0 : Int64).toInt = 0 := by decide
    have d1 := c_ldiv (v.toInt64 + 64 - 1) 64 64 k64 (by decide)
    have s3 := c_ladd w.toInt64 b
    have g1 := rng64 (v.toInt64 + 64)
    have g2 := rng64 (v.toInt64 + 64 - 1)
    have g3 := rng64 (w.toInt64 + b)
    have hb' : b.toInt = if v.toInt % 64 = 0 then 0 else 1 := by
      rw [hb]
      by_cases q : (v &&& (63 : Int32)) = (0 : Int32)
      · rw [if_pos q]; rw [q] at a3; have : (0 : Int32).toInt = 0 := by decide
        rw [if_pos (by omega)]; exact k0
      · rw [if_neg q]; have : (v &&& (63 : Int32)).toInt ≠ 0 := fun z => q (Int32.toInt_inj.mp (by rw [z]; decide))
        rw [if_neg (by omega)]; exact k1
    by_cases q : v.toInt % 64 = 0
    · rw [if_pos q] at hb'; omega
    · rw [if_neg q] at hb'; omega
  rw [e]
theorem own_pd0 : parseMethodDescriptor "(I)J" = some ⟨[.int], some .long⟩ := by decide +kernel
theorem own_pn1 : plainName "com/example/tallysketch/tallysketch/LinearCounterMapBytesPinLaw" = true := by first | (simp [plainName, overriddenIn]; done) | decide +kernel
theorem efL (m : MethodId) (x0 : Int32) : entryFrame m #[(.int x0)] maxLocals = mkF m 0 #[.val (.int x0), .unset, .unset, .unset, .unset, .unset] [] := by first | (simp [entryFrame, mkF, argsToLocals, Value.category, maxLocals]; done) | rfl
def QL (Z : State) (x0 : Int32) (h0 : Heap) (n0 : Nat) (v : Option Value) (h : Heap) (L : List Loc) : Prop := v = some (.int 1) ∧ Fr n0 L
set_option maxRecDepth 65536 in
set_option maxHeartbeats 40000000 in
theorem rmL (l : Launch) (Z : State) (a0 : Array Value) (hw : ∀ d ∈ tables_1, d.before a0 Z = true) (ws : List Jvm.Cond) (x0 : Int32) (h0 : Heap) (n0 : Nat) (Z0 : n0 ≤ h0.size) :
    MetFree l x (head1 (Jvm.Cond.code x code maxLocals ret :: ws) room_1) (fun av_ U => av_ = #[(.int x0)] ∧ Z.Warmed39 U.vm ∧ U.heap = h0) (fun _ _ _ _ _ => True) (fun _ U o U' => ∃ v L, o = .returned v ∧ QL Z x0 h0 n0 v U'.heap L ∧ FrameEnd U o U' L room_1.cells room_1.slots) := by
  refine MetFree.of_bodySF (plainFor_of_name own_pn1) hisR ?_
  intro p e s m args below meth c s₁ Bd hml0 hP hK
  obtain ⟨rfl, hZ, hh⟩ := hP
  have hx := Bd.exec
  have hby := Bd.bytes
  have hml : c.maxLocals = 6 := hml0
  have hown : s.vm.findClass "com/example/tallysketch/tallysketch/LinearCounterMapBytesPinLaw" = some m.cls := findClass_of_methodNamed Bd.named
  have hnm := (name_of_methodNamed Bd.named Bd.method).1
  have X0 : Stand p l e room_1 s m #[(.int x0)] below meth c s₁ [] 0 0 := Stand.of_body Bd
  have e0 : s₁.heap = h0 := by rw [← hh, Bd.state]; rfl
  have N0 := Fr.nil n0
  have pre0 : ∀ t, Steps p.tables e below (s₁.setTop (mkF m 0 #[.val (.int x0), .unset, .unset, .unset, .unset, .unset] [])) t → Steps p.tables e below (s₁.setTop (entryFrame m #[(.int x0)] maxLocals)) t := fun t k => castTop (efL m x0) k
  have r1 : ∀ t, Steps p.tables e below (s₁.setTop (mkF m 5 #[.val (.int x0), .val (.int (x0 &&& (2147483647 : Int32))), .unset, .unset, .unset, .unset] [])) t → Steps p.tables e below (s₁.setTop (mkF m 0 #[.val (.int x0), .unset, .unset, .unset, .unset, .unset] [])) t := fun t kt => by
    show Steps p.tables e below (s₁.setTop (mkF m 0 #[.val (.int x0), .unset, .unset, .unset, .unset, .unset] [])) _
    refine XS.iloadN X0.here hx rfl (hb hby at_0) rfl ?_
    show Steps p.tables e below (s₁.setTop (mkF m 1 #[.val (.int x0), .unset, .unset, .unset, .unset, .unset] [(.int x0)])) _
    refine X0.ldcInt hx hown (mvT hZ (hw _ (List.mem_of_getElem? (i := 0) rfl))) (g := (mkF m 1 #[.val (.int x0), .unset, .unset, .unset, .unset, .unset] [(.int x0)])) rfl (hb hby at_1) _ ?_
    show Steps p.tables e below (s₁.setTop (mkF m 3 #[.val (.int x0), .unset, .unset, .unset, .unset, .unset] [(.int (2147483647 : Int32)), (.int x0)])) _
    refine XS.iand X0.here hx rfl (hb hby at_3) rfl ?_
    show Steps p.tables e below (s₁.setTop (mkF m 4 #[.val (.int x0), .unset, .unset, .unset, .unset, .unset] [(.int (x0 &&& (2147483647 : Int32)))])) _
    refine XS.istoreN X0.here hx rfl (hb hby at_4) rfl (l' := #[.val (.int x0), .val (.int (x0 &&& (2147483647 : Int32))), .unset, .unset, .unset, .unset]) rfl ?_
    exact kt
  obtain ⟨vb, hvb⟩ : ∃ zz : Int32, zz = (x0 &&& (2147483647 : Int32)) := ⟨_, rfl⟩
  have r2 : ∀ t, Steps p.tables e below (s₁.setTop (mkF m 5 #[.val (.int x0), .val (.int vb), .unset, .unset, .unset, .unset] [])) t → Steps p.tables e below (s₁.setTop (mkF m 5 #[.val (.int x0), .val (.int (x0 &&& (2147483647 : Int32))), .unset, .unset, .unset, .unset] [])) t := fun t kt => by
    subst hvb
    exact kt
  have r3 : ∀ t, Steps p.tables e below (s₁.setTop (mkF m 9 #[.val (.int x0), .val (.int vb), .unset, .unset, .unset, .unset] [(.int ((vb.toUInt32 >>> ((6 : Int32) &&& 31).toUInt32).toInt32))])) t → Steps p.tables e below (s₁.setTop (mkF m 5 #[.val (.int x0), .val (.int vb), .unset, .unset, .unset, .unset] [])) t := fun t kt => by
    show Steps p.tables e below (s₁.setTop (mkF m 5 #[.val (.int x0), .val (.int vb), .unset, .unset, .unset, .unset] [])) _
    refine XS.iloadN X0.here hx rfl (hb hby at_5) rfl ?_
    show Steps p.tables e below (s₁.setTop (mkF m 6 #[.val (.int x0), .val (.int vb), .unset, .unset, .unset, .unset] [(.int vb)])) _
    refine XS.bipush X0.here hx rfl (hb hby at_6) ?_
    show Steps p.tables e below (s₁.setTop (mkF m 8 #[.val (.int x0), .val (.int vb), .unset, .unset, .unset, .unset] [(.int (6 : Int32)), (.int vb)])) _
    refine XS.iushr X0.here hx rfl (hb hby at_8) rfl ?_
    exact kt
  obtain ⟨w', hw'⟩ : ∃ zz : Int32, zz = ((vb.toUInt32 >>> ((6 : Int32) &&& 31).toUInt32).toInt32) := ⟨_, rfl⟩
  have r4 : ∀ t, Steps p.tables e below (s₁.setTop (mkF m 9 #[.val (.int x0), .val (.int vb), .unset, .unset, .unset, .unset] [(.int w')])) t → Steps p.tables e below (s₁.setTop (mkF m 9 #[.val (.int x0), .val (.int vb), .unset, .unset, .unset, .unset] [(.int ((vb.toUInt32 >>> ((6 : Int32) &&& 31).toUInt32).toInt32))])) t := fun t kt => by
    subst hw'
    exact kt
  have r5 : ∀ t, Steps p.tables e below (s₁.setTop (mkF m 14 #[.val (.int x0), .val (.int vb), .unset, .unset, .unset, .unset] [(.int (vb &&& (63 : Int32))), (.long (w'.toInt64))])) t → Steps p.tables e below (s₁.setTop (mkF m 9 #[.val (.int x0), .val (.int vb), .unset, .unset, .unset, .unset] [(.int w')])) t := fun t kt => by
    show Steps p.tables e below (s₁.setTop (mkF m 9 #[.val (.int x0), .val (.int vb), .unset, .unset, .unset, .unset] [(.int w')])) _
    refine XS.i2l X0.here hx rfl (hb hby at_9) rfl ?_
    show Steps p.tables e below (s₁.setTop (mkF m 10 #[.val (.int x0), .val (.int vb), .unset, .unset, .unset, .unset] [(.long (w'.toInt64))])) _
    refine XS.iloadN X0.here hx rfl (hb hby at_10) rfl ?_
    show Steps p.tables e below (s₁.setTop (mkF m 11 #[.val (.int x0), .val (.int vb), .unset, .unset, .unset, .unset] [(.int vb), (.long (w'.toInt64))])) _
    refine XS.bipush X0.here hx rfl (hb hby at_11) ?_
    show Steps p.tables e below (s₁.setTop (mkF m 13 #[.val (.int x0), .val (.int vb), .unset, .unset, .unset, .unset] [(.int (63 : Int32)), (.int vb), (.long (w'.toInt64))])) _
    refine XS.iand X0.here hx rfl (hb hby at_13) rfl ?_
    exact kt
  obtain ⟨v8, hv8⟩ : ∃ zz : Int64, zz = (if (vb &&& (63 : Int32)) = (0 : Int32) then (0 : Int64) else (1 : Int64)) := ⟨_, rfl⟩
  have r6 : ∀ t, Steps p.tables e below (s₁.setTop (mkF m 22 #[.val (.int x0), .val (.int vb), .unset, .unset, .unset, .unset] [(.long v8), (.long (w'.toInt64))])) t → Steps p.tables e below (s₁.setTop (mkF m 14 #[.val (.int x0), .val (.int vb), .unset, .unset, .unset, .unset] [(.int (vb &&& (63 : Int32))), (.long (w'.toInt64))])) t := fun t kt => by
    rw [hv8] at kt
    by_cases hd7 : (vb &&& (63 : Int32)) = (0 : Int32)
    · simp only [if_pos hd7] at kt
      show Steps p.tables e below (s₁.setTop (mkF m 14 #[.val (.int x0), .val (.int vb), .unset, .unset, .unset, .unset] [(.int (vb &&& (63 : Int32))), (.long (w'.toInt64))])) _
      refine XS.ifYes X0.here hx rfl (pc0 := 14) (pc' := 21) rfl (hb hby at_14) rfl ((if0 _ _).trans (teq hd7).1) (by decide) (by decide) ?_
      show Steps p.tables e below (s₁.setTop (mkF m 21 #[.val (.int x0), .val (.int vb), .unset, .unset, .unset, .unset] [(.long (w'.toInt64))])) _
      refine XS.lconst X0.here hx rfl (hb hby at_21) ?_
      exact kt
    · simp only [if_neg hd7] at kt
      show Steps p.tables e below (s₁.setTop (mkF m 14 #[.val (.int x0), .val (.int vb), .unset, .unset, .unset, .unset] [(.int (vb &&& (63 : Int32))), (.long (w'.toInt64))])) _
      refine XS.ifNo X0.here hx rfl (hb hby at_14) rfl ((if0 _ _).trans (feq hd7).1) ?_
      show Steps p.tables e below (s₁.setTop (mkF m 17 #[.val (.int x0), .val (.int vb), .unset, .unset, .unset, .unset] [(.long (w'.toInt64))])) _
      refine XS.lconst X0.here hx rfl (hb hby at_17) ?_
      show Steps p.tables e below (s₁.setTop (mkF m 18 #[.val (.int x0), .val (.int vb), .unset, .unset, .unset, .unset] [(.long (1 : Int64)), (.long (w'.toInt64))])) _
      refine XS.goto X0.here hx rfl (pc0 := 18) (pc' := 22) rfl (hb hby at_18) (by decide) (by decide) ?_
      exact kt
  obtain ⟨_, _, ⟨T9, L9, k9, n9⟩, -, X9, ⟨Lc9, hQ9, l9, y9, z9⟩, st9⟩ := Jvm.LawKit.callS X0 hx (y := (⟨"com/example/tallysketch/tallysketch/LinearCounter", "mapBytes", "(I)J"⟩ : MethodName)) hown (mvT hZ (hw _ (List.mem_of_getElem? (i := 2) rfl))) (mvT hZ (hw _ (List.mem_of_getElem? (i := 3) rfl))) (mvT hZ (hw _ (List.mem_of_getElem? (i := 4) rfl))) (mvT hZ (hw _ (List.mem_of_getElem? (i := 5) rfl))) (by decide) (backOf (W := 0) (rmA l Z a0 hw [] vb h0 n0 Z0 ) hZ (hw _ (List.mem_of_getElem? (i := 5) rfl)) (hw _ (List.mem_of_getElem? (i := 4) rfl)) (by decide) (by decide)) (g := (mkF m 32 #[.val (.int x0), .val (.int vb), .val (.long ((w'.toInt64) + v8)), .second, .val (.long (((w'.toInt64) + v8) * (8 : Int64))), .second] [(.int vb)])) rfl (by rw [hml]; rfl) (argsL := [(.int vb)]) (rest := []) (lenOf own_pd0 rfl) rfl (by show 2 * 0 + _ ≤ _; exact Nat.le_of_eq rfl) (hb hby at_32) (fun _ _ => ⟨rfl, e0, (by decide : 0 + 0 ≤ _), (by decide : 0 + 0 ≤ _)⟩)
  dsimp only [Pt.U, Pt.locs, Pt.cells, Pt.slots] at X9 l9 y9 z9 st9 hQ9
  subst l9 y9 z9
  obtain ⟨rfl, Nq9, e9⟩ := hQ9
  have N9 := Fr.app N0 Nq9
  obtain ⟨fs, hr, hrun, hended, hW, hsame⟩ := X9.leave (v := some (.int (1 : Int32))) (fun h => by rw [Bd.returns] at h; cases h)
  refine ⟨_, _, (pre0 _ (r1 _ (r2 _ (r3 _ (r4 _ (r5 _ (r6 _ ?_))))))), hrun, hended, _, _, rfl, ?_, ⟨_, rfl⟩, hW, hsame.mono (by decide) (by decide)⟩
  · show Steps p.tables e below (s₁.setTop (mkF m 22 #[.val (.int x0), .val (.int vb), .unset, .unset, .unset, .unset] [(.long v8), (.long (w'.toInt64))])) _
    refine XS.ladd X0.here hx rfl (hb hby at_22) rfl ?_
    show Steps p.tables e below (s₁.setTop (mkF m 23 #[.val (.int x0), .val (.int vb), .unset, .unset, .unset, .unset] [(.long ((w'.toInt64) + v8))])) _
    refine XS.lstoreN X0.here hx rfl (hb hby at_23) rfl (l' := #[.val (.int x0), .val (.int vb), .val (.long ((w'.toInt64) + v8)), .second, .unset, .unset]) rfl ?_
    show Steps p.tables e below (s₁.setTop (mkF m 24 #[.val (.int x0), .val (.int vb), .val (.long ((w'.toInt64) + v8)), .second, .unset, .unset] [])) _
    refine XS.lloadN X0.here hx rfl (hb hby at_24) rfl ?_
    show Steps p.tables e below (s₁.setTop (mkF m 25 #[.val (.int x0), .val (.int vb), .val (.long ((w'.toInt64) + v8)), .second, .unset, .unset] [(.long ((w'.toInt64) + v8))])) _
    refine X0.ldc2Long hx hown (mvT hZ (hw _ (List.mem_of_getElem? (i := 1) rfl))) (g := (mkF m 25 #[.val (.int x0), .val (.int vb), .val (.long ((w'.toInt64) + v8)), .second, .unset, .unset] [(.long ((w'.toInt64) + v8))])) rfl (hb hby at_25) _ ?_
    show Steps p.tables e below (s₁.setTop (mkF m 28 #[.val (.int x0), .val (.int vb), .val (.long ((w'.toInt64) + v8)), .second, .unset, .unset] [(.long (8 : Int64)), (.long ((w'.toInt64) + v8))])) _
    refine XS.lmul X0.here hx rfl (hb hby at_28) rfl ?_
    show Steps p.tables e below (s₁.setTop (mkF m 29 #[.val (.int x0), .val (.int vb), .val (.long ((w'.toInt64) + v8)), .second, .unset, .unset] [(.long (((w'.toInt64) + v8) * (8 : Int64)))])) _
    refine XS.lstore X0.here hx rfl (hb hby at_29) rfl (l' := #[.val (.int x0), .val (.int vb), .val (.long ((w'.toInt64) + v8)), .second, .val (.long (((w'.toInt64) + v8) * (8 : Int64))), .second]) rfl ?_
    show Steps p.tables e below (s₁.setTop (mkF m 31 #[.val (.int x0), .val (.int vb), .val (.long ((w'.toInt64) + v8)), .second, .val (.long (((w'.toInt64) + v8) * (8 : Int64))), .second] [])) _
    refine XS.iloadN X0.here hx rfl (hb hby at_31) rfl ?_
    show Steps p.tables e below (s₁.setTop (mkF m 32 #[.val (.int x0), .val (.int vb), .val (.long ((w'.toInt64) + v8)), .second, .val (.long (((w'.toInt64) + v8) * (8 : Int64))), .second] [(.int vb)])) _
    refine st9 _ ?_
    show Steps p.tables e below (T9.setTop (mkF m 35 #[.val (.int x0), .val (.int vb), .val (.long ((w'.toInt64) + v8)), .second, .val (.long (((w'.toInt64) + v8) * (8 : Int64))), .second] [(.long (((((vb.toInt64) + (64 : Int64)) - (1 : Int64)) / (64 : Int64)) * (8 : Int64)))])) _
    refine XS.lload X9.here hx rfl (hb hby at_35) rfl ?_
    show Steps p.tables e below (T9.setTop (mkF m 37 #[.val (.int x0), .val (.int vb), .val (.long ((w'.toInt64) + v8)), .second, .val (.long (((w'.toInt64) + v8) * (8 : Int64))), .second] [(.long (((w'.toInt64) + v8) * (8 : Int64))), (.long (((((vb.toInt64) + (64 : Int64)) - (1 : Int64)) / (64 : Int64)) * (8 : Int64)))])) _
    refine XS.lcmp X9.here hx rfl (hb hby at_37) rfl ?_
    show Steps p.tables e below (T9.setTop (mkF m 38 #[.val (.int x0), .val (.int vb), .val (.long ((w'.toInt64) + v8)), .second, .val (.long (((w'.toInt64) + v8) * (8 : Int64))), .second] [(.int (lcmpW (((((vb.toInt64) + (64 : Int64)) - (1 : Int64)) / (64 : Int64)) * (8 : Int64)) (((w'.toInt64) + v8) * (8 : Int64))))])) _
    refine XS.ifNo X9.here hx rfl (hb hby at_38) rfl ((if0 _ _).trans (teq ((lw_eq _ _).mpr (own_law x0 vb w' v8 hvb hw' hv8))).2) ?_
    show Steps p.tables e below (T9.setTop (mkF m 41 #[.val (.int x0), .val (.int vb), .val (.long ((w'.toInt64) + v8)), .second, .val (.long (((w'.toInt64) + v8) * (8 : Int64))), .second] [])) _
    refine XS.iconst X9.here hx rfl (hb hby at_41) ?_
    show Steps p.tables e below (T9.setTop (mkF m 42 #[.val (.int x0), .val (.int vb), .val (.long ((w'.toInt64) + v8)), .second, .val (.long (((w'.toInt64) + v8) * (8 : Int64))), .second] [(.int (1 : Int32))])) _
    refine XS.goto X9.here hx rfl (pc0 := 42) (pc' := 46) rfl (hb hby at_42) (by decide) (by decide) ?_
    show Steps p.tables e below (T9.setTop (mkF m 46 #[.val (.int x0), .val (.int vb), .val (.long ((w'.toInt64) + v8)), .second, .val (.long (((w'.toInt64) + v8) * (8 : Int64))), .second] [(.int (1 : Int32))])) _
    exact retN X9 hx (t := .boolean) Bd.returns (by simp) (hb hby at_46) hr
  · show QL Z x0 h0 n0 _ T9.heap _
    rw [e9]
    exact ⟨rfl, N9⟩
set_option maxRecDepth 65536 in
set_option maxHeartbeats 40000000 in
theorem comes_1 {Post : Tables → Env → Array Value → State → Outcome → State → Prop} (hpost : ∀ tb e args s v u, (limb_1_1.after args s (.returned v) u = true ∧ limb_1_2.after args s (.returned v) u = true ∧ True) → FrameEnd s (.returned v) u (Jvm.fieldLocs frame_1_writes args s ++ Jvm.arrayLocs frame_1_arrays args s ++ Jvm.staticLocs frame_1_statics s) 0 0 → Post tb e args s (.returned v) u) :
    ArmFor flags0 classFile x code maxLocals ret World_1 tables_1 room_1 Calls_1 rest_1 Pre_1 Post := by
  intro l hfl _ _ p e ha hc hk s m args below hf hA hF happ hP
  obtain ⟨hcalls, hrest, hpre⟩ := hP
  obtain ⟨-, -, -, hnamed, -, -, -, hat⟩ := (Spec.applies_iff hf).mp happ
  obtain ⟨hg, hn⟩ := and_e (Cond.before_iff.mp (show (Jvm.Cond.and given_1 narrow_1).before args s = true from hpre))
  obtain ⟨hcount, gr0⟩ := and_e hg
  have ga0 := gr0
  obtain ⟨w0, rfl⟩ : ∃ w0 : Value, args = #[w0] := by
    have hs : args.size = 1 := by simpa [Cond.value, given_1] using hcount
    obtain ⟨L⟩ := args
    match L, hs with
    | [w0], _ => exact ⟨w0, rfl⟩
  have hw := fun d (hd : d ∈ tables_1) => atoms_spec (ws := Jvm.Cond.code x code maxLocals ret :: tables_1) hat d (List.mem_cons_of_mem _ hd)
  have hfit : Fit s := fun {y c} hc i hi => by
    obtain ⟨ha, rfl⟩ := Array.getElem?_eq_some_iff.mp hc
    have q := List.all_eq_true.mp ((Array.all_eq_true_iff_forall_mem.mp hF) _ (Array.getElem_mem ha)) i (List.mem_range.mpr hi)
    simpa [Array.getElem?_eq_getElem hi] using q
  obtain ⟨i0, ei0⟩ := is_v ga0
  obtain rfl : w0 = (.int i0) := Option.some.inj ei0
  obtain ⟨n, o, h1, h2, h3, _, L, rfl, ⟨rfl, N⟩, hq⟩ := rmL l s _ hw tables_1 i0 s.heap s.heap.size (Nat.le_refl _)  p e ha hc hk s m _ below hf ((Spec.applies_iff_loose hf).mp happ).1 ⟨rfl, State.Warmed39.refl s, rfl⟩ trivial
  refine ⟨n, _, h1, h2, h3, hpost _ _ _ _ _ _ ⟨Cond.after_iff.mpr rfl, Cond.after_iff.mpr (eq_i res_at (Term.int_eval (1)) rfl), trivial⟩ ⟨hq.1, hq.2.1, (hq.2.2.sift fun y hy => Or.inr (N y hy)).mono (by decide) (by decide)⟩⟩
theorem main_1_1 : Claimed_1_1 := comes_1 fun _ _ _ _ _ _ h hF => ⟨h.1, hF⟩
theorem main_1_2 : Claimed_1_2 := comes_1 fun _ _ _ _ _ _ h hF => ⟨h.2.1, hF⟩
end Jvm.Pilot.@@N@@
namespace Jvm.Pilot.@@N@@
open Jvm Jvm.ClassFile Sem Op Lib Jvm.Free Jvm.Stand Jvm.Pilot.@@N@@.Jvm.D
/-! MADE BY PROGRAM (witnessworld.py) out of the Statement's table words and the real class files: 10 classes; the members and pool entries that the words name. The judged class is class 1, her method 1. -/
namespace start1
open Jvm.ClassFile
def u (s : String) : CpInfo := .utf8 (stringToUtf16 s)
/-- a pool by its gaps: so many unusable entries, then the entry; so many at the end -/
def gap : Nat → List CpInfo → List CpInfo
  | 0, r => r
  | n + 1, r => .unusable :: gap n r
def poolList (es : List (Nat × CpInfo)) (last : Nat) : List CpInfo := es.foldr (fun e r => gap e.1 (e.2 :: r)) (gap last [])
def pool (es : List (Nat × CpInfo)) (last : Nat) : Array CpInfo := ⟨poolList es last⟩
def fileOf (pool : Array CpInfo) (this : Nat) (attrs : Array Attribute := #[]) (ms : Array MethodInfo := #[]) (fl : Nat := 33) (sup : Nat := 0) (ifs : Array Nat := #[]) (fds : Array FieldInfo := #[]) : ClassFile where
  minorVersion := 0
  majorVersion := 65
  constantPool := pool
  accessFlags := fl
  thisClass := this
  superClass := sup
  interfaces := ifs
  fields := fds
  methods := ms
  attributes := attrs
def plain (name : String) (sup : Option ClassId) : Class where
  name := name
  kind := .ordinary
  loader := none
  accessFlags := 33
  super := sup
  interfaces := #[]
  cf := none
  fields := #[]
  methods := #[]
  instanceTypes := #[]
  staticTypes := #[]
  resolved := #[]
  callSites := []
  init := .initialized
  statics := none
  mirror := none

def pool0 : Array CpInfo := pool [(5, u "<init>"), (0, u "()V"), (1, .class_ 10), (1, u "java/lang/Object")] 113

def k0m0 : Method := { name := "<init>", desc := "()V", sig := { parameters := [], returnType := none }, accessFlags := 1, code := none }
/-- java/lang/Object -/
def k0 : Class := { plain "java/lang/Object" none with
  accessFlags := 33
  interfaces := #[]
  cf := some (fileOf pool0 8 #[] #[{ accessFlags := 1, nameIndex := 5, descriptorIndex := 6, attributes := #[] }] 33 0 #[] #[])
  fields := #[]
  methods := #[k0m0]
  instanceTypes := #[]
  staticTypes := #[]
  resolved := Array.replicate 124 none
  statics := none }

def pool1 : Array CpInfo := pool [(2, .class_ 4), (1, u "java/lang/Object"), (0, u "<init>"), (0, u "()V"), (0, .integer 2147483647), (0, .long 8), (1, .methodref 11 12), (0, .class_ 13), (0, .nameAndType 14 15), (0, u "com/example/tallysketch/tallysketch/LinearCounter"), (0, u "mapBytes"), (0, u "(I)J"), (0, .class_ 17), (0, u "com/example/tallysketch/tallysketch/LinearCounterMapBytesPinLaw"), (2, u "law"), (0, u "(I)Z")] 3

def k1m0 : Method := { name := "<init>", desc := "()V", sig := { parameters := [], returnType := none }, accessFlags := 2, code := none }
def k1c1 : Code := { maxStack := 4, maxLocals := 6, code := code, exceptionTable := #[], attributes := #[] }
def k1m1 : Method := { name := "law", desc := "(I)Z", sig := { parameters := [.int], returnType := some .boolean }, accessFlags := 9, code := some k1c1 }
/-- com/example/tallysketch/tallysketch/LinearCounterMapBytesPinLaw -/
def k1 : Class := { plain "com/example/tallysketch/tallysketch/LinearCounterMapBytesPinLaw" (some 0) with
  accessFlags := 49
  interfaces := #[]
  cf := some (fileOf pool1 16 #[] #[{ accessFlags := 2, nameIndex := 5, descriptorIndex := 6, attributes := #[] }, { accessFlags := 9, nameIndex := 20, descriptorIndex := 21, attributes := #[] }] 49 2 #[] #[])
  fields := #[]
  methods := #[k1m0, k1m1]
  instanceTypes := #[]
  staticTypes := #[]
  resolved := Array.replicate 25 none
  statics := none }

def pool2 : Array CpInfo := pool [(2, .class_ 4), (1, u "java/lang/Object"), (3, .class_ 10), (1, u "com/example/tallysketch/tallysketch/Sketch"), (0, u "seed"), (0, u "I"), (7, u "hasher"), (0, u "Lcom/example/tallysketch/tallysketch/MurmurHash3;")] 244

/-- com/example/tallysketch/tallysketch/Sketch -/
def k2 : Class := { plain "com/example/tallysketch/tallysketch/Sketch" (some 0) with
  accessFlags := 1057
  interfaces := #[]
  cf := some (fileOf pool2 8 #[] #[] 1057 2 #[] #[{ accessFlags := 18, nameIndex := 11, descriptorIndex := 12, attributes := #[] }, { accessFlags := 18, nameIndex := 20, descriptorIndex := 21, attributes := #[] }])
  fields := #[{ name := "seed", type := .int, accessFlags := 18, slot := 0, constantValue := 0 }, { name := "hasher", type := (.object "com/example/tallysketch/tallysketch/MurmurHash3"), accessFlags := 18, slot := 1, constantValue := 0 }]
  methods := #[]
  instanceTypes := #[.int, (.object "com/example/tallysketch/tallysketch/MurmurHash3")]
  staticTypes := #[]
  resolved := Array.replicate 266 none
  statics := none }

def pool3 : Array CpInfo := pool [(4, .class_ 6), (1, u "com/example/tallysketch/tallysketch/Sketch"), (12, .class_ 21), (1, u "com/example/tallysketch/tallysketch/LinearCounter"), (0, u "bits"), (0, u "I"), (2, u "mapBytes"), (0, u "(I)J"), (2, .long 8), (3, u "map"), (0, u "[J"), (46, .long 64), (85, u "MAX_BITS"), (2, u "SATURATION_MARGIN"), (0, u "D"), (0, u "LARGEST_SIZE_TRIED"), (0, u "J"), (0, u "BUFFER_SIZE")] 89

def k3c0 : Code := { maxStack := 4, maxLocals := 1, code := prog_3_method_6_code, exceptionTable := #[], attributes := #[] }
def k3m0 : Method := { name := "mapBytes", desc := "(I)J", sig := { parameters := [.int], returnType := some .long }, accessFlags := 9, code := some k3c0 }
/-- com/example/tallysketch/tallysketch/LinearCounter -/
def k3 : Class := { plain "com/example/tallysketch/tallysketch/LinearCounter" (some 2) with
  accessFlags := 49
  interfaces := #[]
  cf := some (fileOf pool3 19 #[] #[{ accessFlags := 9, nameIndex := 26, descriptorIndex := 27, attributes := #[] }] 49 4 #[] #[{ accessFlags := 25, nameIndex := 168, descriptorIndex := 23, attributes := #[] }, { accessFlags := 26, nameIndex := 171, descriptorIndex := 172, attributes := #[] }, { accessFlags := 26, nameIndex := 173, descriptorIndex := 174, attributes := #[] }, { accessFlags := 26, nameIndex := 175, descriptorIndex := 23, attributes := #[] }, { accessFlags := 18, nameIndex := 22, descriptorIndex := 23, attributes := #[] }, { accessFlags := 18, nameIndex := 34, descriptorIndex := 35, attributes := #[] }])
  fields := #[{ name := "MAX_BITS", type := .int, accessFlags := 25, slot := 0, constantValue := 0 }, { name := "SATURATION_MARGIN", type := .double, accessFlags := 26, slot := 1, constantValue := 0 }, { name := "LARGEST_SIZE_TRIED", type := .long, accessFlags := 26, slot := 2, constantValue := 0 }, { name := "BUFFER_SIZE", type := .int, accessFlags := 26, slot := 3, constantValue := 0 }, { name := "bits", type := .int, accessFlags := 18, slot := 2, constantValue := 0 }, { name := "map", type := (.array .long), accessFlags := 18, slot := 3, constantValue := 0 }]
  methods := #[k3m0]
  instanceTypes := #[.int, (.object "com/example/tallysketch/tallysketch/MurmurHash3"), .int, (.array .long)]
  staticTypes := #[.int, .double, .long, .int]
  resolved := Array.replicate 265 none
  statics := none }

def pool4 : Array CpInfo := pool [(1, u "java/lang/Cloneable"), (0, .class_ 1), (0, u "java/lang/Object"), (0, .class_ 3)] 3

/-- java/lang/Cloneable -/
def k4 : Class := { plain "java/lang/Cloneable" (some 0) with
  accessFlags := 1537
  interfaces := #[]
  cf := some (fileOf pool4 2 #[] #[] 1537 4 #[] #[])
  fields := #[]
  methods := #[]
  instanceTypes := #[]
  staticTypes := #[]
  resolved := Array.replicate 8 none
  statics := none }

def pool5 : Array CpInfo := pool [(1, u "java/io/Serializable"), (0, .class_ 1), (0, u "java/lang/Object"), (0, .class_ 3)] 3

/-- java/io/Serializable -/
def k5 : Class := { plain "java/io/Serializable" (some 0) with
  accessFlags := 1537
  interfaces := #[]
  cf := some (fileOf pool5 2 #[] #[] 1537 4 #[] #[])
  fields := #[]
  methods := #[]
  instanceTypes := #[]
  staticTypes := #[]
  resolved := Array.replicate 8 none
  statics := none }

/-- the primitive byte -/
def k6 : Class := { plain "byte" none with kind := .primitive 'B', accessFlags := 0x411 }
/-- [B -/
def k7 : Class := { plain "[B" (some 0) with kind := .array 6 .byte, interfaces := #[4, 5], accessFlags := 1041 }

/-- the primitive int -/
def k8 : Class := { plain "int" none with kind := .primitive 'I', accessFlags := 0x411 }
/-- [I -/
def k9 : Class := { plain "[I" (some 0) with kind := .array 8 .int, interfaces := #[4, 5], accessFlags := 1041 }

def heap : Heap := #[]
def classes : Array Class := #[k0, k1, k2, k3, k4, k5, k6, k7, k8, k9]
def interned : List (Array UInt16 × Addr) := []
def slotsUsed : Nat := 0
def theMethod : MethodId := ⟨1, 1⟩
def args0 : Array Value := #[.int 100]
def aboutOver (below : List Frame) : State where
  vm := { classes := classes, interned := interned.toArray }
  heap := heap
  slotsUsed := slotsUsed
  threads := #[{ frames := .invoking theMethod args0 :: below }]
def below0 : List Frame := [.native { method := ⟨0, 0⟩, args := #[] }]
def about1 : State := aboutOver below0
def p0 : Program := .bare "" "" ""
def e0 : Env := launch0.env 0 0 0
theorem w_frames : about1.frames = Frame.invoking theMethod args0 :: below0 := rfl
set_option maxRecDepth 65536 in
theorem w_args : argsFit about1.vm theMethod args0 = true := by decide +kernel
set_option maxRecDepth 65536 in
theorem w_heap : heapFits about1 = true := by decide +kernel
set_option maxRecDepth 65536 in
theorem w_runnable : about1.curStatus? = some .runnable := by decide +kernel
set_option maxRecDepth 65536 in
theorem w_alone : about1.alone = true := by decide +kernel
set_option maxRecDepth 65536 in
theorem w_named : about1.methodNamed? x = some theMethod := by decide +kernel
set_option maxRecDepth 65536 in
theorem w_hears : about1.hears theMethod below0 = true := by decide +kernel
set_option maxRecDepth 65536 in
theorem w_ripe : about1.ripe theMethod args0 below0 = true := by decide +kernel
theorem w_running : about1.status = .running := rfl
set_option maxRecDepth 65536 in
theorem w_room : about1.hasRoom e0.platform room_1 = true :=
  launch0.hasRoom_least _ room_1 (by decide +kernel) (by decide +kernel) (by decide +kernel) (by decide +kernel) (by decide +kernel) (by decide +kernel)
theorem allAtoms_all (ts : List Jvm.Cond) (a : Array Jvm.Value) (st : Jvm.State) : (allAtoms ts).before a st = ts.all (fun c => c.before a st) := by
  induction ts with
  | nil => rfl
  | cons c t ih =>
    show (Jvm.Cond.and c (allAtoms t)).before a st = _
    rw [Jvm.Cond.before_and, ih, List.all_cons]
def words1 : List Jvm.Cond := Jvm.Cond.code x code maxLocals ret :: tables_1
/-- a 'code' word, met by the world's own term for the bytes: nothing is compared byte by byte -/
theorem code_word {y : MethodName} {bytes : ByteArray} {mx : Nat} {rt : Option FieldType} {a : Array Value} {s : State} {m : MethodId} {meth : Method} {c : Code} (h1 : s.methodNamed? y = some m) (h2 : s.vm.method? m = some meth) (h3 : meth.code = some c) (h4 : c.code = bytes)
    (h5 : (c.maxLocals == mx && c.exceptionTable.isEmpty && decide (c.maxStack ≤ mostOperands) && decide (meth.sig.returnType = rt) && !meth.locks && decide (parseMethodDescriptor y.desc = some meth.sig)) = true) : (Jvm.Cond.code y bytes mx rt).before a s = true := by
  simp only [Bool.and_eq_true, beq_iff_eq, Bool.not_eq_true', decide_eq_true_eq] at h5
  obtain ⟨⟨⟨⟨⟨g1, g2⟩, g3⟩, g4⟩, g5⟩, g6⟩ := h5
  simp [Cond.before, Cond.holds, Cond.value, h1, h2, h3, h4, g1, g2, g3, g4, g5, g6]
def isCode : Jvm.Cond → Bool
  | .code _ _ _ _ => true
  | _ => false
theorem all_split {L : List Jvm.Cond} {P : Jvm.Cond → Bool} (h1 : L.all (fun c => isCode c || P c) = true) (h2 : ∀ c ∈ L.filter isCode, P c = true) : L.all P = true := by
  refine List.all_eq_true.mpr fun c hc => ?_
  have h := List.all_eq_true.mp h1 c hc
  rcases Bool.eq_false_or_eq_true (isCode c) with hi | hi
  · exact h2 c (List.mem_filter.mpr ⟨hc, hi⟩)
  · simpa [hi] using h
set_option maxRecDepth 65536 in
theorem w_c0 : (Jvm.Cond.code x code maxLocals ret).before args0 about1 = true := code_word (m := ⟨1, 1⟩) (meth := k1m1) (c := k1c1) (by decide +kernel) rfl rfl rfl (by decide +kernel)
set_option maxRecDepth 65536 in
theorem w_c1 : (Jvm.Cond.code ({ cls := "com/example/tallysketch/tallysketch/LinearCounter", name := "mapBytes", desc := "(I)J" } : Jvm.MethodName) prog_3_method_6_code (1 : Nat) (Option.some Jvm.ClassFile.FieldType.long)).before args0 about1 = true := code_word (m := ⟨3, 0⟩) (meth := k3m0) (c := k3c0) (by decide +kernel) rfl rfl rfl (by decide +kernel)
def codes1 : List Jvm.Cond := [Jvm.Cond.code x code maxLocals ret, Jvm.Cond.code ({ cls := "com/example/tallysketch/tallysketch/LinearCounter", name := "mapBytes", desc := "(I)J" } : Jvm.MethodName) prog_3_method_6_code (1 : Nat) (Option.some Jvm.ClassFile.FieldType.long)]
set_option maxRecDepth 65536 in
theorem codes_eq : words1.filter isCode = codes1 := rfl
theorem w_codes : ∀ c ∈ words1.filter isCode, c.before args0 about1 = true := by
  rw [codes_eq]
  intro c hc
  simp only [codes1, List.mem_cons, List.not_mem_nil, or_false] at hc
  rcases hc with rfl | rfl
  · exact w_c0
  · exact w_c1
set_option maxRecDepth 65536 in
theorem w_t1 : words1.all (fun c => isCode c || c.before args0 about1) = true := by decide +kernel
theorem w_tables : (allAtoms (Jvm.Cond.code x code maxLocals ret :: tables_1)).before args0 about1 = true := by
  rw [allAtoms_all]
  show words1.all (fun c => c.before args0 about1) = true
  refine all_split ?_ w_codes
  rw [w_t1]
set_option maxRecDepth 65536 in
theorem w_case : (Jvm.Cond.and given_1 narrow_1).before args0 about1 = true := by decide +kernel
theorem w_applies : (headSpec (Jvm.Cond.code x code maxLocals ret :: tables_1) room_1).applies x e0.platform about1 = true :=
  (Spec.applies_iff w_frames).mpr ⟨w_running, w_runnable, w_alone, w_named, w_hears, w_ripe, w_room, w_tables⟩
theorem atStart : AtStart classFile x code maxLocals ret World_1 tables_1 room_1 Calls_1 rest_1 Pre_1 launch0 p0 e0 about1 theMethod args0 below0 :=
  ⟨lists_1, trivial, launch0.admits_env _ _ _, launch0.least_env, fairChoices_fair.cas, fairChoices_fair.clock, w_frames, w_args, w_heap, w_applies, trivial, trivial, w_case⟩
end start1
theorem witness_1 : WitnessClaimed_1 := ⟨start1.p0, start1.e0, start1.about1, start1.theMethod, start1.args0, start1.below0, start1.atStart⟩
end Jvm.Pilot.@@N@@
