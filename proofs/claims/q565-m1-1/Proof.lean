import JvmDerived
import JvmDerived.Pilot.@@N@@Statement
import JvmDerived.Pilot.@@N@@Code
set_option linter.unusedVariables false
set_option linter.unusedSimpArgs false
namespace Jvm.RoadKit
open Sem ClassFile Op Lib Jvm.Stand Jvm.Free Jvm.LawKit
section New
variable {p : Program} {l : Launch} {e : Env} {R : Room} {s : State} {m : MethodId} {args : Array Value} {below : List Frame} {meth : Method} {c : Code} {T : State} {locs : List Loc} {cells slots : Nat}
theorem retI (X : Stand p l e R s m args below meth c T locs cells slots) (hx : p.tables.exec = Jvm.exec) {pc : Nat} {Ls : Array Slot} {z : Int32} {rest : List Value} (hret : meth.sig.returnType = some .int) (hd : decode c.code pc = .ok (.ireturn, 1)) {fs : List Frame}
    (hl : ∀ (f : JFrame) (acts : List Action), f.method = m → f.locked = none → f.entered = [] → (doReturn e (T.setTop f) acts (some (.int z))).1 = T.setFrames fs) : Steps p.tables e below (T.setTop (mkF m pc Ls (.int z :: rest))) (T.setFrames fs) := by
  have hm' : T.vm.method? m = some meth := X.method'
  have hn : narrow .int (.int z) = .int z := rfl
  show Steps p.tables e below (T.setTop { method := m, pc := pc, locals := Ls, stack := _ :: rest, locked := none }) _
  jvm_step X.here [X.here.top, hx, hd, hm', hret, hn]
  first | (intro acts; rw [hl _ acts rfl rfl rfl]) | rw [hl _ _ rfl rfl rfl]
  exact Steps.refl _
end New
end Jvm.RoadKit
namespace Jvm.Pilot.@@N@@
open Jvm Jvm.ClassFile Sem Op Lib Jvm.Free Jvm.Stand Jvm.LawKit Jvm.RoadKit Bundle Jvm.Pilot.@@N@@.Jvm.D
/-- the capacity behind j doublings -/
def own_c (j : Nat) : Int32 := Int32.ofNat (8 * 2 ^ j)
theorem own_factsF : ∀ j : Fin 28, (own_c j.val).toInt = (8 * 2 ^ j.val : Nat) ∧ ((own_c j.val / (4 : Int32)) * (3 : Int32)).toInt = (6 * 2 ^ j.val : Nat) ∧ own_c j.val * (2 : Int32) = own_c (j.val + 1) ∧ (own_c j.val &&& (own_c j.val - (1 : Int32))) = (0 : Int32) ∧ ¬ own_c j.val < (8 : Int32) ∧
    ((own_c j.val / (4 : Int32)).toInt64 * (3 : Int64)).toInt = (6 * 2 ^ j.val : Nat) ∧ (((own_c j.val / (2 : Int32)) / (4 : Int32)).toInt64 * (3 : Int64)).toInt = (3 * 2 ^ j.val : Nat) ∧ (j.val = 0 → own_c j.val = (8 : Int32)) := by decide +kernel
theorem own_facts (j : Nat) (h : j < 28) : (own_c j).toInt = (8 * 2 ^ j : Nat) ∧ ((own_c j / (4 : Int32)) * (3 : Int32)).toInt = (6 * 2 ^ j : Nat) ∧ own_c j * (2 : Int32) = own_c (j + 1) ∧ (own_c j &&& (own_c j - (1 : Int32))) = (0 : Int32) ∧ ¬ own_c j < (8 : Int32) ∧
    ((own_c j / (4 : Int32)).toInt64 * (3 : Int64)).toInt = (6 * 2 ^ j : Nat) ∧ (((own_c j / (2 : Int32)) / (4 : Int32)).toInt64 * (3 : Int64)).toInt = (3 * 2 ^ j : Nat) ∧ (j = 0 → own_c j = (8 : Int32)) := own_factsF ⟨j, h⟩
theorem own_top : (6 * 2 ^ 27 : Nat) = 805306368 := by decide
/-- what the loop leaves -/
def own_end (x c : Int32) : Prop := ∃ j, j < 28 ∧ c = own_c j ∧ x.toInt ≤ (6 * 2 ^ j : Nat) ∧ (j = 0 ∨ ((3 * 2 ^ j : Nat) : Int) < x.toInt)
theorem own_pn0 : plainName "com/example/hamster/hamster/PlaceTables" = true := by first | (simp [plainName, overriddenIn]; done) | decide +kernel
theorem dA_0 : decode prog_9_method_2_code 0 = .ok (.bipush 8, 2) := by decide +kernel
theorem dA_2 : decode prog_9_method_2_code 2 = .ok (.istore_n 1, 1) := by decide +kernel
theorem dA_3 : decode prog_9_method_2_code 3 = .ok (.iload_n 1, 1) := by decide +kernel
theorem dA_4 : decode prog_9_method_2_code 4 = .ok (.iconst 4, 1) := by decide +kernel
theorem dA_5 : decode prog_9_method_2_code 5 = .ok (.idiv, 1) := by decide +kernel
theorem dA_6 : decode prog_9_method_2_code 6 = .ok (.iconst 3, 1) := by decide +kernel
theorem dA_7 : decode prog_9_method_2_code 7 = .ok (.imul, 1) := by decide +kernel
theorem dA_8 : decode prog_9_method_2_code 8 = .ok (.iload_n 0, 1) := by decide +kernel
theorem dA_9 : decode prog_9_method_2_code 9 = .ok (.if_icmp .ge 10, 3) := by decide +kernel
theorem dA_12 : decode prog_9_method_2_code 12 = .ok (.iload_n 1, 1) := by decide +kernel
theorem dA_13 : decode prog_9_method_2_code 13 = .ok (.iconst 2, 1) := by decide +kernel
theorem dA_14 : decode prog_9_method_2_code 14 = .ok (.imul, 1) := by decide +kernel
theorem dA_15 : decode prog_9_method_2_code 15 = .ok (.istore_n 1, 1) := by decide +kernel
theorem dA_16 : decode prog_9_method_2_code 16 = .ok (.goto (-13), 3) := by decide +kernel
theorem dA_19 : decode prog_9_method_2_code 19 = .ok (.iload_n 1, 1) := by decide +kernel
theorem dA_20 : decode prog_9_method_2_code 20 = .ok (.ireturn, 1) := by decide +kernel
theorem efA (m : MethodId) (px : Int32) : entryFrame m #[(.int px)] 2 = mkF m 0 #[.val (.int px), .unset] [] := by first | (simp [entryFrame, mkF, argsToLocals, Value.category]; done) | rfl
def QA (Z : State) (px : Int32) (h0 : Heap) (n0 : Nat) (v : Option Value) (h : Heap) (L : List Loc) : Prop := ∃ cv : Int32, v = some (.int cv) ∧ Fr n0 L ∧ h = h0 ∧ own_end px cv
set_option maxRecDepth 65536 in
set_option maxHeartbeats 40000000 in
theorem rmA (l : Launch) (Z : State) (a0 : Array Value) (hw : ∀ d ∈ tables_1, d.before a0 Z = true) (ws : List Jvm.Cond) (px : Int32) (h0 : Heap) (n0 : Nat) (Z0 : n0 ≤ h0.size) (hpx : px.toInt ≤ 805306368) :
    MetFree l (⟨"com/example/hamster/hamster/PlaceTables", "capacityFor", "(I)I"⟩ : MethodName) (head1 (Jvm.Cond.code (⟨"com/example/hamster/hamster/PlaceTables", "capacityFor", "(I)I"⟩ : MethodName) prog_9_method_2_code 2 (some .int) :: ws) ({ frames := 0, cells := 0, slots := 0, locals := 0 } : Room)) (fun av_ U => av_ = #[(.int px)] ∧ Z.Warmed39 U.vm ∧ U.heap = h0) (fun _ _ _ _ _ => True) (fun _ U o U' => ∃ v L, o = .returned v ∧ QA Z px h0 n0 v U'.heap L ∧ FrameEnd U o U' L ({ frames := 0, cells := 0, slots := 0, locals := 0 } : Room).cells ({ frames := 0, cells := 0, slots := 0, locals := 0 } : Room).slots) := by
  refine MetFree.of_bodySF (plainFor_of_name own_pn0) hisR ?_
  intro p e s m args below meth c s₁ Bd hml0 hP hK
  obtain ⟨rfl, hZ, hh⟩ := hP
  have hx := Bd.exec
  have hby := Bd.bytes
  have hml : c.maxLocals = 2 := hml0
  have hown : s.vm.findClass "com/example/hamster/hamster/PlaceTables" = some m.cls := findClass_of_methodNamed Bd.named
  have hnm := (name_of_methodNamed Bd.named Bd.method).1
  have X0 : Stand p l e ({ frames := 0, cells := 0, slots := 0, locals := 0 } : Room) s m #[(.int px)] below meth c s₁ [] 0 0 := Stand.of_body Bd
  have e0 : s₁.heap = h0 := by rw [← hh, Bd.state]; rfl
  have N0 := Fr.nil n0
  have pre0 : ∀ t, Steps p.tables e below (s₁.setTop (mkF m 0 #[.val (.int px), .unset] [])) t → Steps p.tables e below (s₁.setTop (entryFrame m #[(.int px)] 2)) t := fun t k => castTop (efA m px) k
  have r1 : ∀ t, Steps p.tables e below (s₁.setTop (mkF m 3 #[.val (.int px), .val (.int (8 : Int32))] [])) t → Steps p.tables e below (s₁.setTop (mkF m 0 #[.val (.int px), .unset] [])) t := fun t kt => by
    show Steps p.tables e below (s₁.setTop (mkF m 0 #[.val (.int px), .unset] [])) _
    refine XS.bipush X0.here hx rfl (hb hby dA_0) ?_
    show Steps p.tables e below (s₁.setTop (mkF m 2 #[.val (.int px), .unset] [(.int (8 : Int32))])) _
    refine XS.istoreN X0.here hx rfl (hb hby dA_2) rfl (l' := #[.val (.int px), .val (.int (8 : Int32))]) rfl ?_
    exact kt
  have loop : ∀ (k j : Nat) (cv : Int32), j + k = 27 → cv = own_c j → (j = 0 ∨ ((3 * 2 ^ j : Nat) : Int) < px.toInt) → ∃ cw, own_end px cw ∧ ∀ t, Steps p.tables e below (s₁.setTop (mkF m 19 #[.val (.int px), .val (.int cw)] [])) t → Steps p.tables e below (s₁.setTop (mkF m 3 #[.val (.int px), .val (.int cv)] [])) t := by
    intro k
    induction k with
    | zero =>
      intro j cv hjk hcv hlow
      obtain ⟨f1, f2, f3, -⟩ := own_facts j (by omega)
      have hj : j = 27 := by omega
      have hle : px.toInt ≤ (6 * 2 ^ j : Nat) := by rw [hj, own_top]; exact hpx
      have hq : ¬ ((cv / (4 : Int32)) * (3 : Int32)) < px := by rw [Int32.lt_iff_toInt_lt, hcv, f2]; omega
      · refine ⟨cv, ⟨j, by omega, hcv, hle, hlow⟩, fun t kt => ?_⟩
        show Steps p.tables e below (s₁.setTop (mkF m 3 #[.val (.int px), .val (.int cv)] [])) _
        refine XS.iloadN X0.here hx rfl (hb hby dA_3) rfl ?_
        show Steps p.tables e below (s₁.setTop (mkF m 4 #[.val (.int px), .val (.int cv)] [(.int cv)])) _
        refine XS.iconst X0.here hx rfl (hb hby dA_4) ?_
        show Steps p.tables e below (s₁.setTop (mkF m 5 #[.val (.int px), .val (.int cv)] [(.int (4 : Int32)), (.int cv)])) _
        refine XS.idiv X0.here hx rfl (hb hby dA_5) rfl (by decide) ?_
        show Steps p.tables e below (s₁.setTop (mkF m 6 #[.val (.int px), .val (.int cv)] [(.int (cv / (4 : Int32)))])) _
        refine XS.iconst X0.here hx rfl (hb hby dA_6) ?_
        show Steps p.tables e below (s₁.setTop (mkF m 7 #[.val (.int px), .val (.int cv)] [(.int (3 : Int32)), (.int (cv / (4 : Int32)))])) _
        refine XS.imul X0.here hx rfl (hb hby dA_7) rfl ?_
        show Steps p.tables e below (s₁.setTop (mkF m 8 #[.val (.int px), .val (.int cv)] [(.int ((cv / (4 : Int32)) * (3 : Int32)))])) _
        refine XS.iloadN X0.here hx rfl (hb hby dA_8) rfl ?_
        show Steps p.tables e below (s₁.setTop (mkF m 9 #[.val (.int px), .val (.int cv)] [(.int px), (.int ((cv / (4 : Int32)) * (3 : Int32)))])) _
        refine XS.icmpYes X0.here hx rfl (pc0 := 9) (pc' := 19) rfl (hb hby dA_9) rfl (flt hq).2.1 (by decide) (by decide) ?_
        exact kt
    | succ k ih =>
      intro j cv hjk hcv hlow
      obtain ⟨f1, f2, f3, -⟩ := own_facts j (by omega)
      by_cases hq : ((cv / (4 : Int32)) * (3 : Int32)) < px
      · have hlow' : ((3 * 2 ^ (j + 1) : Nat) : Int) < px.toInt := by
          rw [Int32.lt_iff_toInt_lt, hcv, f2] at hq
          have : (3 * 2 ^ (j + 1) : Nat) = 6 * 2 ^ j := by rw [Nat.pow_succ]; omega
          rw [this]; exact hq
        obtain ⟨cw, hw1, hw2⟩ := ih (j + 1) (cv * (2 : Int32)) (by omega) (by rw [hcv]; exact f3) (Or.inr hlow')
        refine ⟨cw, hw1, fun t kt => ?_⟩
        show Steps p.tables e below (s₁.setTop (mkF m 3 #[.val (.int px), .val (.int cv)] [])) _
        refine XS.iloadN X0.here hx rfl (hb hby dA_3) rfl ?_
        show Steps p.tables e below (s₁.setTop (mkF m 4 #[.val (.int px), .val (.int cv)] [(.int cv)])) _
        refine XS.iconst X0.here hx rfl (hb hby dA_4) ?_
        show Steps p.tables e below (s₁.setTop (mkF m 5 #[.val (.int px), .val (.int cv)] [(.int (4 : Int32)), (.int cv)])) _
        refine XS.idiv X0.here hx rfl (hb hby dA_5) rfl (by decide) ?_
        show Steps p.tables e below (s₁.setTop (mkF m 6 #[.val (.int px), .val (.int cv)] [(.int (cv / (4 : Int32)))])) _
        refine XS.iconst X0.here hx rfl (hb hby dA_6) ?_
        show Steps p.tables e below (s₁.setTop (mkF m 7 #[.val (.int px), .val (.int cv)] [(.int (3 : Int32)), (.int (cv / (4 : Int32)))])) _
        refine XS.imul X0.here hx rfl (hb hby dA_7) rfl ?_
        show Steps p.tables e below (s₁.setTop (mkF m 8 #[.val (.int px), .val (.int cv)] [(.int ((cv / (4 : Int32)) * (3 : Int32)))])) _
        refine XS.iloadN X0.here hx rfl (hb hby dA_8) rfl ?_
        show Steps p.tables e below (s₁.setTop (mkF m 9 #[.val (.int px), .val (.int cv)] [(.int px), (.int ((cv / (4 : Int32)) * (3 : Int32)))])) _
        refine XS.icmpNo X0.here hx rfl (hb hby dA_9) rfl (tlt hq).2.1 ?_
        show Steps p.tables e below (s₁.setTop (mkF m 12 #[.val (.int px), .val (.int cv)] [])) _
        refine XS.iloadN X0.here hx rfl (hb hby dA_12) rfl ?_
        show Steps p.tables e below (s₁.setTop (mkF m 13 #[.val (.int px), .val (.int cv)] [(.int cv)])) _
        refine XS.iconst X0.here hx rfl (hb hby dA_13) ?_
        show Steps p.tables e below (s₁.setTop (mkF m 14 #[.val (.int px), .val (.int cv)] [(.int (2 : Int32)), (.int cv)])) _
        refine XS.imul X0.here hx rfl (hb hby dA_14) rfl ?_
        show Steps p.tables e below (s₁.setTop (mkF m 15 #[.val (.int px), .val (.int cv)] [(.int (cv * (2 : Int32)))])) _
        refine XS.istoreN X0.here hx rfl (hb hby dA_15) rfl (l' := #[.val (.int px), .val (.int (cv * (2 : Int32)))]) rfl ?_
        show Steps p.tables e below (s₁.setTop (mkF m 16 #[.val (.int px), .val (.int (cv * (2 : Int32)))] [])) _
        refine XS.goto X0.here hx rfl (pc0 := 16) (pc' := 3) rfl (hb hby dA_16) (by decide) (by decide) ?_
        exact hw2 t kt
      · have hle : px.toInt ≤ (6 * 2 ^ j : Nat) := by rw [Int32.lt_iff_toInt_lt, hcv, f2] at hq; omega
        refine ⟨cv, ⟨j, by omega, hcv, hle, hlow⟩, fun t kt => ?_⟩
        show Steps p.tables e below (s₁.setTop (mkF m 3 #[.val (.int px), .val (.int cv)] [])) _
        refine XS.iloadN X0.here hx rfl (hb hby dA_3) rfl ?_
        show Steps p.tables e below (s₁.setTop (mkF m 4 #[.val (.int px), .val (.int cv)] [(.int cv)])) _
        refine XS.iconst X0.here hx rfl (hb hby dA_4) ?_
        show Steps p.tables e below (s₁.setTop (mkF m 5 #[.val (.int px), .val (.int cv)] [(.int (4 : Int32)), (.int cv)])) _
        refine XS.idiv X0.here hx rfl (hb hby dA_5) rfl (by decide) ?_
        show Steps p.tables e below (s₁.setTop (mkF m 6 #[.val (.int px), .val (.int cv)] [(.int (cv / (4 : Int32)))])) _
        refine XS.iconst X0.here hx rfl (hb hby dA_6) ?_
        show Steps p.tables e below (s₁.setTop (mkF m 7 #[.val (.int px), .val (.int cv)] [(.int (3 : Int32)), (.int (cv / (4 : Int32)))])) _
        refine XS.imul X0.here hx rfl (hb hby dA_7) rfl ?_
        show Steps p.tables e below (s₁.setTop (mkF m 8 #[.val (.int px), .val (.int cv)] [(.int ((cv / (4 : Int32)) * (3 : Int32)))])) _
        refine XS.iloadN X0.here hx rfl (hb hby dA_8) rfl ?_
        show Steps p.tables e below (s₁.setTop (mkF m 9 #[.val (.int px), .val (.int cv)] [(.int px), (.int ((cv / (4 : Int32)) * (3 : Int32)))])) _
        refine XS.icmpYes X0.here hx rfl (pc0 := 9) (pc' := 19) rfl (hb hby dA_9) rfl (flt hq).2.1 (by decide) (by decide) ?_
        exact kt
  obtain ⟨cw, hend, rl⟩ := loop 27 0 (8 : Int32) rfl (by decide) (Or.inl rfl)
  obtain ⟨fs, hr, hrun, hended, hW, hsame⟩ := X0.leave (v := some (.int cw)) (fun h => by rw [Bd.returns] at h; cases h)
  refine ⟨_, _, (pre0 _ (r1 _ (rl _ ?_))), hrun, hended, _, _, rfl, ?_, ⟨_, rfl⟩, hW, hsame.mono (by decide) (by decide)⟩
  · show Steps p.tables e below (s₁.setTop (mkF m 19 #[.val (.int px), .val (.int cw)] [])) _
    refine XS.iloadN X0.here hx rfl (hb hby dA_19) rfl ?_
    show Steps p.tables e below (s₁.setTop (mkF m 20 #[.val (.int px), .val (.int cw)] [(.int cw)])) _
    exact retI X0 hx Bd.returns (hb hby dA_20) hr
  · show QA Z px h0 n0 _ s₁.heap _
    rw [e0]
    exact ⟨cw, rfl, N0, rfl, hend⟩
theorem own_mod (x v : Int32) (hv : v = if x < (0 : Int32) then x else x % (805306369 : Int32)) : v.toInt ≤ 805306368 := by
  have k0 : (0 : Int32).toInt = 0 := by decide
  rw [hv]
  by_cases a : x < (0 : Int32)
  · rw [if_pos a]; rw [Int32.lt_iff_toInt_lt, k0] at a; omega
  · rw [if_neg a]; rw [Int32.lt_iff_toInt_lt, k0] at a
    have q := (c_irem x 805306369 805306369 (by decide)).1 (by omega)
    omega
theorem own_fits {x c : Int32} (h : own_end x c) : ¬ (c / (4 : Int32)).toInt64 * (3 : Int64) < x.toInt64 := by
  obtain ⟨j, h1, rfl, h3, -⟩ := h
  obtain ⟨-, -, -, -, -, f, -⟩ := own_facts j h1
  rw [Int64.lt_iff_toInt_lt, f, c_i2l]; omega
theorem own_least {x c : Int32} (h : own_end x c) (n : ¬ c = (8 : Int32)) : ((c / (2 : Int32)) / (4 : Int32)).toInt64 * (3 : Int64) < x.toInt64 := by
  obtain ⟨j, h1, rfl, -, h4⟩ := h
  obtain ⟨-, -, -, -, -, -, f, g⟩ := own_facts j h1
  rcases h4 with h4 | h4
  · exact absurd (g h4) n
  · rw [Int64.lt_iff_toInt_lt, f, c_i2l]; exact h4
theorem own_ge {x c : Int32} (h : own_end x c) : ¬ c < (8 : Int32) := by obtain ⟨j, h1, rfl, -, -⟩ := h; exact (own_facts j h1).2.2.2.2.1
theorem own_pow {x c : Int32} (h : own_end x c) : (c &&& (c - (1 : Int32))) = (0 : Int32) := by obtain ⟨j, h1, rfl, -, -⟩ := h; exact (own_facts j h1).2.2.2.1
theorem own_pd0 : parseMethodDescriptor "(I)I" = some ⟨[.int], some .int⟩ := by decide +kernel
theorem own_pn1 : plainName "com/example/hamster/hamster/PlaceTablesCapacityForPinLaw" = true := by first | (simp [plainName, overriddenIn]; done) | decide +kernel
theorem efL (m : MethodId) (xe : Int32) : entryFrame m #[(.int xe)] maxLocals = mkF m 0 #[.val (.int xe), .unset, .unset, .unset, .unset, .unset] [] := by first | (simp [entryFrame, mkF, argsToLocals, Value.category, maxLocals]; done) | rfl
def QL (Z : State) (xe : Int32) (h0 : Heap) (n0 : Nat) (v : Option Value) (h : Heap) (L : List Loc) : Prop := v = some (.int 1) ∧ Fr n0 L
set_option maxRecDepth 65536 in
set_option maxHeartbeats 40000000 in
theorem rmL (l : Launch) (Z : State) (a0 : Array Value) (hw : ∀ d ∈ tables_1, d.before a0 Z = true) (ws : List Jvm.Cond) (xe : Int32) (h0 : Heap) (n0 : Nat) (Z0 : n0 ≤ h0.size) :
    MetFree l x (head1 (Jvm.Cond.code x code maxLocals ret :: ws) room_1) (fun av_ U => av_ = #[(.int xe)] ∧ Z.Warmed39 U.vm ∧ U.heap = h0) (fun _ _ _ _ _ => True) (fun _ U o U' => ∃ v L, o = .returned v ∧ QL Z xe h0 n0 v U'.heap L ∧ FrameEnd U o U' L room_1.cells room_1.slots) := by
  refine MetFree.of_bodySF (plainFor_of_name own_pn1) hisR ?_
  intro p e s m args below meth c s₁ Bd hml0 hP hK
  obtain ⟨rfl, hZ, hh⟩ := hP
  have hx := Bd.exec
  have hby := Bd.bytes
  have hml : c.maxLocals = 6 := hml0
  have hown : s.vm.findClass "com/example/hamster/hamster/PlaceTablesCapacityForPinLaw" = some m.cls := findClass_of_methodNamed Bd.named
  have hnm := (name_of_methodNamed Bd.named Bd.method).1
  have X0 : Stand p l e room_1 s m #[(.int xe)] below meth c s₁ [] 0 0 := Stand.of_body Bd
  have e0 : s₁.heap = h0 := by rw [← hh, Bd.state]; rfl
  have N0 := Fr.nil n0
  have pre0 : ∀ t, Steps p.tables e below (s₁.setTop (mkF m 0 #[.val (.int xe), .unset, .unset, .unset, .unset, .unset] [])) t → Steps p.tables e below (s₁.setTop (entryFrame m #[(.int xe)] maxLocals)) t := fun t k => castTop (efL m xe) k
  have r1 : ∀ t, Steps p.tables e below (s₁.setTop (mkF m 1 #[.val (.int xe), .unset, .unset, .unset, .unset, .unset] [(.int xe)])) t → Steps p.tables e below (s₁.setTop (mkF m 0 #[.val (.int xe), .unset, .unset, .unset, .unset, .unset] [])) t := fun t kt => by
    show Steps p.tables e below (s₁.setTop (mkF m 0 #[.val (.int xe), .unset, .unset, .unset, .unset, .unset] [])) _
    refine XS.iloadN X0.here hx rfl (hb hby at_0) rfl ?_
    exact kt
  obtain ⟨v4, hv4⟩ : ∃ zz : Int32, zz = (if xe < (0 : Int32) then xe else (xe % (805306369 : Int32))) := ⟨_, rfl⟩
  have r2 : ∀ t, Steps p.tables e below (s₁.setTop (mkF m 12 #[.val (.int xe), .unset, .unset, .unset, .unset, .unset] [(.int v4)])) t → Steps p.tables e below (s₁.setTop (mkF m 1 #[.val (.int xe), .unset, .unset, .unset, .unset, .unset] [(.int xe)])) t := fun t kt => by
    rw [hv4] at kt
    by_cases hd3 : xe < (0 : Int32)
    · simp only [if_pos hd3] at kt
      show Steps p.tables e below (s₁.setTop (mkF m 1 #[.val (.int xe), .unset, .unset, .unset, .unset, .unset] [(.int xe)])) _
      refine XS.ifYes X0.here hx rfl (pc0 := 1) (pc' := 11) rfl (hb hby at_1) rfl ((if0 _ _).trans (tlt hd3).1) (by decide) (by decide) ?_
      show Steps p.tables e below (s₁.setTop (mkF m 11 #[.val (.int xe), .unset, .unset, .unset, .unset, .unset] [])) _
      refine XS.iloadN X0.here hx rfl (hb hby at_11) rfl ?_
      exact kt
    · simp only [if_neg hd3] at kt
      show Steps p.tables e below (s₁.setTop (mkF m 1 #[.val (.int xe), .unset, .unset, .unset, .unset, .unset] [(.int xe)])) _
      refine XS.ifNo X0.here hx rfl (hb hby at_1) rfl ((if0 _ _).trans (flt hd3).1) ?_
      show Steps p.tables e below (s₁.setTop (mkF m 4 #[.val (.int xe), .unset, .unset, .unset, .unset, .unset] [])) _
      refine XS.iloadN X0.here hx rfl (hb hby at_4) rfl ?_
      show Steps p.tables e below (s₁.setTop (mkF m 5 #[.val (.int xe), .unset, .unset, .unset, .unset, .unset] [(.int xe)])) _
      refine X0.ldcInt hx hown (mvT hZ (hw _ (List.mem_of_getElem? (i := 0) rfl))) (g := (mkF m 5 #[.val (.int xe), .unset, .unset, .unset, .unset, .unset] [(.int xe)])) rfl (hb hby at_5) _ ?_
      show Steps p.tables e below (s₁.setTop (mkF m 7 #[.val (.int xe), .unset, .unset, .unset, .unset, .unset] [(.int (805306369 : Int32)), (.int xe)])) _
      refine iremM X0 hx rfl (hb hby at_7) rfl (by decide) ?_
      show Steps p.tables e below (s₁.setTop (mkF m 8 #[.val (.int xe), .unset, .unset, .unset, .unset, .unset] [(.int (xe % (805306369 : Int32)))])) _
      refine XS.goto X0.here hx rfl (pc0 := 8) (pc' := 12) rfl (hb hby at_8) (by decide) (by decide) ?_
      exact kt
  have hle := own_mod xe v4 hv4
  obtain ⟨_, _, ⟨T5, L5, k5, n5⟩, -, X5, ⟨Lc5, hQ5, l5, y5, z5⟩, st5⟩ := Jvm.LawKit.callS X0 hx (y := (⟨"com/example/hamster/hamster/PlaceTables", "capacityFor", "(I)I"⟩ : MethodName)) hown (mvT hZ (hw _ (List.mem_of_getElem? (i := 1) rfl))) (mvT hZ (hw _ (List.mem_of_getElem? (i := 2) rfl))) (mvT hZ (hw _ (List.mem_of_getElem? (i := 3) rfl))) (mvT hZ (hw _ (List.mem_of_getElem? (i := 4) rfl))) (by decide) (backOf (W := 0) (rmA l Z a0 hw [] v4 h0 n0 Z0 hle) hZ (hw _ (List.mem_of_getElem? (i := 4) rfl)) (hw _ (List.mem_of_getElem? (i := 3) rfl)) (by decide) (by decide)) (g := (mkF m 14 #[.val (.int xe), .val (.int v4), .unset, .unset, .unset, .unset] [(.int v4)])) rfl (by rw [hml]; rfl) (argsL := [(.int v4)]) (rest := []) (lenOf own_pd0 rfl) rfl (by show 2 * 0 + _ ≤ _; exact Nat.le_of_eq rfl) (hb hby at_14) (fun _ _ => ⟨rfl, e0, (by decide : 0 + 0 ≤ _), (by decide : 0 + 0 ≤ _)⟩)
  dsimp only [Pt.U, Pt.locs, Pt.cells, Pt.slots] at X5 l5 y5 z5 st5 hQ5
  subst l5 y5 z5
  obtain ⟨cv, rfl, Nq5, e5, hend⟩ := hQ5
  have N5 := Fr.app N0 Nq5
  have r6 : ∀ t, Steps p.tables e below (T5.setTop (mkF m 68 #[.val (.int xe), .val (.int v4), .val (.int cv), .val (.int (1 : Int32)), .val (.int (1 : Int32)), .unset] [(.int (8 : Int32)), (.int cv)])) t → Steps p.tables e below (s₁.setTop (mkF m 12 #[.val (.int xe), .unset, .unset, .unset, .unset, .unset] [(.int v4)])) t := fun t kt => by
    show Steps p.tables e below (s₁.setTop (mkF m 12 #[.val (.int xe), .unset, .unset, .unset, .unset, .unset] [(.int v4)])) _
    refine XS.istoreN X0.here hx rfl (hb hby at_12) rfl (l' := #[.val (.int xe), .val (.int v4), .unset, .unset, .unset, .unset]) rfl ?_
    show Steps p.tables e below (s₁.setTop (mkF m 13 #[.val (.int xe), .val (.int v4), .unset, .unset, .unset, .unset] [])) _
    refine XS.iloadN X0.here hx rfl (hb hby at_13) rfl ?_
    show Steps p.tables e below (s₁.setTop (mkF m 14 #[.val (.int xe), .val (.int v4), .unset, .unset, .unset, .unset] [(.int v4)])) _
    refine st5 _ ?_
    show Steps p.tables e below (T5.setTop (mkF m 17 #[.val (.int xe), .val (.int v4), .unset, .unset, .unset, .unset] [(.int cv)])) _
    refine XS.istoreN X5.here hx rfl (hb hby at_17) rfl (l' := #[.val (.int xe), .val (.int v4), .val (.int cv), .unset, .unset, .unset]) rfl ?_
    show Steps p.tables e below (T5.setTop (mkF m 18 #[.val (.int xe), .val (.int v4), .val (.int cv), .unset, .unset, .unset] [])) _
    refine XS.iloadN X5.here hx rfl (hb hby at_18) rfl ?_
    show Steps p.tables e below (T5.setTop (mkF m 19 #[.val (.int xe), .val (.int v4), .val (.int cv), .unset, .unset, .unset] [(.int cv)])) _
    refine XS.bipush X5.here hx rfl (hb hby at_19) ?_
    show Steps p.tables e below (T5.setTop (mkF m 21 #[.val (.int xe), .val (.int v4), .val (.int cv), .unset, .unset, .unset] [(.int (8 : Int32)), (.int cv)])) _
    refine XS.icmpNo X5.here hx rfl (hb hby at_21) rfl (flt (own_ge hend)).1 ?_
    show Steps p.tables e below (T5.setTop (mkF m 24 #[.val (.int xe), .val (.int v4), .val (.int cv), .unset, .unset, .unset] [])) _
    refine XS.iloadN X5.here hx rfl (hb hby at_24) rfl ?_
    show Steps p.tables e below (T5.setTop (mkF m 25 #[.val (.int xe), .val (.int v4), .val (.int cv), .unset, .unset, .unset] [(.int cv)])) _
    refine XS.iloadN X5.here hx rfl (hb hby at_25) rfl ?_
    show Steps p.tables e below (T5.setTop (mkF m 26 #[.val (.int xe), .val (.int v4), .val (.int cv), .unset, .unset, .unset] [(.int cv), (.int cv)])) _
    refine XS.iconst X5.here hx rfl (hb hby at_26) ?_
    show Steps p.tables e below (T5.setTop (mkF m 27 #[.val (.int xe), .val (.int v4), .val (.int cv), .unset, .unset, .unset] [(.int (1 : Int32)), (.int cv), (.int cv)])) _
    refine XS.isub X5.here hx rfl (hb hby at_27) rfl ?_
    show Steps p.tables e below (T5.setTop (mkF m 28 #[.val (.int xe), .val (.int v4), .val (.int cv), .unset, .unset, .unset] [(.int (cv - (1 : Int32))), (.int cv)])) _
    refine XS.iand X5.here hx rfl (hb hby at_28) rfl ?_
    show Steps p.tables e below (T5.setTop (mkF m 29 #[.val (.int xe), .val (.int v4), .val (.int cv), .unset, .unset, .unset] [(.int (cv &&& (cv - (1 : Int32))))])) _
    refine XS.ifNo X5.here hx rfl (hb hby at_29) rfl ((if0 _ _).trans (teq (own_pow hend)).2) ?_
    show Steps p.tables e below (T5.setTop (mkF m 32 #[.val (.int xe), .val (.int v4), .val (.int cv), .unset, .unset, .unset] [])) _
    refine XS.iconst X5.here hx rfl (hb hby at_32) ?_
    show Steps p.tables e below (T5.setTop (mkF m 33 #[.val (.int xe), .val (.int v4), .val (.int cv), .unset, .unset, .unset] [(.int (1 : Int32))])) _
    refine XS.goto X5.here hx rfl (pc0 := 33) (pc' := 37) rfl (hb hby at_33) (by decide) (by decide) ?_
    show Steps p.tables e below (T5.setTop (mkF m 37 #[.val (.int xe), .val (.int v4), .val (.int cv), .unset, .unset, .unset] [(.int (1 : Int32))])) _
    refine XS.istoreN X5.here hx rfl (hb hby at_37) rfl (l' := #[.val (.int xe), .val (.int v4), .val (.int cv), .val (.int (1 : Int32)), .unset, .unset]) rfl ?_
    show Steps p.tables e below (T5.setTop (mkF m 38 #[.val (.int xe), .val (.int v4), .val (.int cv), .val (.int (1 : Int32)), .unset, .unset] [])) _
    refine XS.iloadN X5.here hx rfl (hb hby at_38) rfl ?_
    show Steps p.tables e below (T5.setTop (mkF m 39 #[.val (.int xe), .val (.int v4), .val (.int cv), .val (.int (1 : Int32)), .unset, .unset] [(.int (1 : Int32))])) _
    refine XS.ifYes X5.here hx rfl (pc0 := 39) (pc' := 44) rfl (hb hby at_39) rfl ((if0 _ _).trans (feq (by decide : ¬ ((1 : Int32) = (0 : Int32)))).2) (by decide) (by decide) ?_
    show Steps p.tables e below (T5.setTop (mkF m 44 #[.val (.int xe), .val (.int v4), .val (.int cv), .val (.int (1 : Int32)), .unset, .unset] [])) _
    refine XS.iloadN X5.here hx rfl (hb hby at_44) rfl ?_
    show Steps p.tables e below (T5.setTop (mkF m 45 #[.val (.int xe), .val (.int v4), .val (.int cv), .val (.int (1 : Int32)), .unset, .unset] [(.int cv)])) _
    refine XS.iconst X5.here hx rfl (hb hby at_45) ?_
    show Steps p.tables e below (T5.setTop (mkF m 46 #[.val (.int xe), .val (.int v4), .val (.int cv), .val (.int (1 : Int32)), .unset, .unset] [(.int (4 : Int32)), (.int cv)])) _
    refine XS.idiv X5.here hx rfl (hb hby at_46) rfl (by decide) ?_
    show Steps p.tables e below (T5.setTop (mkF m 47 #[.val (.int xe), .val (.int v4), .val (.int cv), .val (.int (1 : Int32)), .unset, .unset] [(.int (cv / (4 : Int32)))])) _
    refine XS.i2l X5.here hx rfl (hb hby at_47) rfl ?_
    show Steps p.tables e below (T5.setTop (mkF m 48 #[.val (.int xe), .val (.int v4), .val (.int cv), .val (.int (1 : Int32)), .unset, .unset] [(.long ((cv / (4 : Int32)).toInt64))])) _
    refine X5.ldc2Long hx hown (mvT hZ (hw _ (List.mem_of_getElem? (i := 5) rfl))) (g := (mkF m 48 #[.val (.int xe), .val (.int v4), .val (.int cv), .val (.int (1 : Int32)), .unset, .unset] [(.long ((cv / (4 : Int32)).toInt64))])) rfl (hb hby at_48) _ ?_
    show Steps p.tables e below (T5.setTop (mkF m 51 #[.val (.int xe), .val (.int v4), .val (.int cv), .val (.int (1 : Int32)), .unset, .unset] [(.long (3 : Int64)), (.long ((cv / (4 : Int32)).toInt64))])) _
    refine XS.lmul X5.here hx rfl (hb hby at_51) rfl ?_
    show Steps p.tables e below (T5.setTop (mkF m 52 #[.val (.int xe), .val (.int v4), .val (.int cv), .val (.int (1 : Int32)), .unset, .unset] [(.long (((cv / (4 : Int32)).toInt64) * (3 : Int64)))])) _
    refine XS.iloadN X5.here hx rfl (hb hby at_52) rfl ?_
    show Steps p.tables e below (T5.setTop (mkF m 53 #[.val (.int xe), .val (.int v4), .val (.int cv), .val (.int (1 : Int32)), .unset, .unset] [(.int v4), (.long (((cv / (4 : Int32)).toInt64) * (3 : Int64)))])) _
    refine XS.i2l X5.here hx rfl (hb hby at_53) rfl ?_
    show Steps p.tables e below (T5.setTop (mkF m 54 #[.val (.int xe), .val (.int v4), .val (.int cv), .val (.int (1 : Int32)), .unset, .unset] [(.long (v4.toInt64)), (.long (((cv / (4 : Int32)).toInt64) * (3 : Int64)))])) _
    refine XS.lcmp X5.here hx rfl (hb hby at_54) rfl ?_
    show Steps p.tables e below (T5.setTop (mkF m 55 #[.val (.int xe), .val (.int v4), .val (.int cv), .val (.int (1 : Int32)), .unset, .unset] [(.int (lcmpW (((cv / (4 : Int32)).toInt64) * (3 : Int64)) (v4.toInt64)))])) _
    refine XS.ifNo X5.here hx rfl (hb hby at_55) rfl ((if0 _ _).trans (flt (fun q => (own_fits hend) ((lw_lt _ _).mp q))).1) ?_
    show Steps p.tables e below (T5.setTop (mkF m 58 #[.val (.int xe), .val (.int v4), .val (.int cv), .val (.int (1 : Int32)), .unset, .unset] [])) _
    refine XS.iconst X5.here hx rfl (hb hby at_58) ?_
    show Steps p.tables e below (T5.setTop (mkF m 59 #[.val (.int xe), .val (.int v4), .val (.int cv), .val (.int (1 : Int32)), .unset, .unset] [(.int (1 : Int32))])) _
    refine XS.goto X5.here hx rfl (pc0 := 59) (pc' := 63) rfl (hb hby at_59) (by decide) (by decide) ?_
    show Steps p.tables e below (T5.setTop (mkF m 63 #[.val (.int xe), .val (.int v4), .val (.int cv), .val (.int (1 : Int32)), .unset, .unset] [(.int (1 : Int32))])) _
    refine XS.istore X5.here hx rfl (hb hby at_63) rfl (l' := #[.val (.int xe), .val (.int v4), .val (.int cv), .val (.int (1 : Int32)), .val (.int (1 : Int32)), .unset]) rfl ?_
    show Steps p.tables e below (T5.setTop (mkF m 65 #[.val (.int xe), .val (.int v4), .val (.int cv), .val (.int (1 : Int32)), .val (.int (1 : Int32)), .unset] [])) _
    refine XS.iloadN X5.here hx rfl (hb hby at_65) rfl ?_
    show Steps p.tables e below (T5.setTop (mkF m 66 #[.val (.int xe), .val (.int v4), .val (.int cv), .val (.int (1 : Int32)), .val (.int (1 : Int32)), .unset] [(.int cv)])) _
    refine XS.bipush X5.here hx rfl (hb hby at_66) ?_
    exact kt
  have r7 : ∀ t, Steps p.tables e below (T5.setTop (mkF m 92 #[.val (.int xe), .val (.int v4), .val (.int cv), .val (.int (1 : Int32)), .val (.int (1 : Int32)), .unset] [(.int (1 : Int32))])) t → Steps p.tables e below (T5.setTop (mkF m 68 #[.val (.int xe), .val (.int v4), .val (.int cv), .val (.int (1 : Int32)), .val (.int (1 : Int32)), .unset] [(.int (8 : Int32)), (.int cv)])) t := fun t kt => by
    by_cases hd8 : cv = (8 : Int32)
    · show Steps p.tables e below (T5.setTop (mkF m 68 #[.val (.int xe), .val (.int v4), .val (.int cv), .val (.int (1 : Int32)), .val (.int (1 : Int32)), .unset] [(.int (8 : Int32)), (.int cv)])) _
      refine XS.icmpYes X5.here hx rfl (pc0 := 68) (pc' := 87) rfl (hb hby at_68) rfl (teq hd8).1 (by decide) (by decide) ?_
      show Steps p.tables e below (T5.setTop (mkF m 87 #[.val (.int xe), .val (.int v4), .val (.int cv), .val (.int (1 : Int32)), .val (.int (1 : Int32)), .unset] [])) _
      refine XS.iconst X5.here hx rfl (hb hby at_87) ?_
      show Steps p.tables e below (T5.setTop (mkF m 88 #[.val (.int xe), .val (.int v4), .val (.int cv), .val (.int (1 : Int32)), .val (.int (1 : Int32)), .unset] [(.int (1 : Int32))])) _
      refine XS.goto X5.here hx rfl (pc0 := 88) (pc' := 92) rfl (hb hby at_88) (by decide) (by decide) ?_
      exact kt
    · show Steps p.tables e below (T5.setTop (mkF m 68 #[.val (.int xe), .val (.int v4), .val (.int cv), .val (.int (1 : Int32)), .val (.int (1 : Int32)), .unset] [(.int (8 : Int32)), (.int cv)])) _
      refine XS.icmpNo X5.here hx rfl (hb hby at_68) rfl (feq hd8).1 ?_
      show Steps p.tables e below (T5.setTop (mkF m 71 #[.val (.int xe), .val (.int v4), .val (.int cv), .val (.int (1 : Int32)), .val (.int (1 : Int32)), .unset] [])) _
      refine XS.iloadN X5.here hx rfl (hb hby at_71) rfl ?_
      show Steps p.tables e below (T5.setTop (mkF m 72 #[.val (.int xe), .val (.int v4), .val (.int cv), .val (.int (1 : Int32)), .val (.int (1 : Int32)), .unset] [(.int cv)])) _
      refine XS.iconst X5.here hx rfl (hb hby at_72) ?_
      show Steps p.tables e below (T5.setTop (mkF m 73 #[.val (.int xe), .val (.int v4), .val (.int cv), .val (.int (1 : Int32)), .val (.int (1 : Int32)), .unset] [(.int (2 : Int32)), (.int cv)])) _
      refine XS.idiv X5.here hx rfl (hb hby at_73) rfl (by decide) ?_
      show Steps p.tables e below (T5.setTop (mkF m 74 #[.val (.int xe), .val (.int v4), .val (.int cv), .val (.int (1 : Int32)), .val (.int (1 : Int32)), .unset] [(.int (cv / (2 : Int32)))])) _
      refine XS.iconst X5.here hx rfl (hb hby at_74) ?_
      show Steps p.tables e below (T5.setTop (mkF m 75 #[.val (.int xe), .val (.int v4), .val (.int cv), .val (.int (1 : Int32)), .val (.int (1 : Int32)), .unset] [(.int (4 : Int32)), (.int (cv / (2 : Int32)))])) _
      refine XS.idiv X5.here hx rfl (hb hby at_75) rfl (by decide) ?_
      show Steps p.tables e below (T5.setTop (mkF m 76 #[.val (.int xe), .val (.int v4), .val (.int cv), .val (.int (1 : Int32)), .val (.int (1 : Int32)), .unset] [(.int ((cv / (2 : Int32)) / (4 : Int32)))])) _
      refine XS.i2l X5.here hx rfl (hb hby at_76) rfl ?_
      show Steps p.tables e below (T5.setTop (mkF m 77 #[.val (.int xe), .val (.int v4), .val (.int cv), .val (.int (1 : Int32)), .val (.int (1 : Int32)), .unset] [(.long (((cv / (2 : Int32)) / (4 : Int32)).toInt64))])) _
      refine X5.ldc2Long hx hown (mvT hZ (hw _ (List.mem_of_getElem? (i := 5) rfl))) (g := (mkF m 77 #[.val (.int xe), .val (.int v4), .val (.int cv), .val (.int (1 : Int32)), .val (.int (1 : Int32)), .unset] [(.long (((cv / (2 : Int32)) / (4 : Int32)).toInt64))])) rfl (hb hby at_77) _ ?_
      show Steps p.tables e below (T5.setTop (mkF m 80 #[.val (.int xe), .val (.int v4), .val (.int cv), .val (.int (1 : Int32)), .val (.int (1 : Int32)), .unset] [(.long (3 : Int64)), (.long (((cv / (2 : Int32)) / (4 : Int32)).toInt64))])) _
      refine XS.lmul X5.here hx rfl (hb hby at_80) rfl ?_
      show Steps p.tables e below (T5.setTop (mkF m 81 #[.val (.int xe), .val (.int v4), .val (.int cv), .val (.int (1 : Int32)), .val (.int (1 : Int32)), .unset] [(.long ((((cv / (2 : Int32)) / (4 : Int32)).toInt64) * (3 : Int64)))])) _
      refine XS.iloadN X5.here hx rfl (hb hby at_81) rfl ?_
      show Steps p.tables e below (T5.setTop (mkF m 82 #[.val (.int xe), .val (.int v4), .val (.int cv), .val (.int (1 : Int32)), .val (.int (1 : Int32)), .unset] [(.int v4), (.long ((((cv / (2 : Int32)) / (4 : Int32)).toInt64) * (3 : Int64)))])) _
      refine XS.i2l X5.here hx rfl (hb hby at_82) rfl ?_
      show Steps p.tables e below (T5.setTop (mkF m 83 #[.val (.int xe), .val (.int v4), .val (.int cv), .val (.int (1 : Int32)), .val (.int (1 : Int32)), .unset] [(.long (v4.toInt64)), (.long ((((cv / (2 : Int32)) / (4 : Int32)).toInt64) * (3 : Int64)))])) _
      refine XS.lcmp X5.here hx rfl (hb hby at_83) rfl ?_
      show Steps p.tables e below (T5.setTop (mkF m 84 #[.val (.int xe), .val (.int v4), .val (.int cv), .val (.int (1 : Int32)), .val (.int (1 : Int32)), .unset] [(.int (lcmpW ((((cv / (2 : Int32)) / (4 : Int32)).toInt64) * (3 : Int64)) (v4.toInt64)))])) _
      refine XS.ifNo X5.here hx rfl (hb hby at_84) rfl ((if0 _ _).trans (tlt ((lw_lt _ _).mpr (own_least hend hd8))).2.1) ?_
      show Steps p.tables e below (T5.setTop (mkF m 87 #[.val (.int xe), .val (.int v4), .val (.int cv), .val (.int (1 : Int32)), .val (.int (1 : Int32)), .unset] [])) _
      refine XS.iconst X5.here hx rfl (hb hby at_87) ?_
      show Steps p.tables e below (T5.setTop (mkF m 88 #[.val (.int xe), .val (.int v4), .val (.int cv), .val (.int (1 : Int32)), .val (.int (1 : Int32)), .unset] [(.int (1 : Int32))])) _
      refine XS.goto X5.here hx rfl (pc0 := 88) (pc' := 92) rfl (hb hby at_88) (by decide) (by decide) ?_
      exact kt
  obtain ⟨fs, hr, hrun, hended, hW, hsame⟩ := X5.leave (v := some (.int (1 : Int32))) (fun h => by rw [Bd.returns] at h; cases h)
  refine ⟨_, _, (pre0 _ (r1 _ (r2 _ (r6 _ (r7 _ ?_))))), hrun, hended, _, _, rfl, ?_, ⟨_, rfl⟩, hW, hsame.mono (by decide) (by decide)⟩
  · show Steps p.tables e below (T5.setTop (mkF m 92 #[.val (.int xe), .val (.int v4), .val (.int cv), .val (.int (1 : Int32)), .val (.int (1 : Int32)), .unset] [(.int (1 : Int32))])) _
    refine XS.istore X5.here hx rfl (hb hby at_92) rfl (l' := #[.val (.int xe), .val (.int v4), .val (.int cv), .val (.int (1 : Int32)), .val (.int (1 : Int32)), .val (.int (1 : Int32))]) rfl ?_
    show Steps p.tables e below (T5.setTop (mkF m 94 #[.val (.int xe), .val (.int v4), .val (.int cv), .val (.int (1 : Int32)), .val (.int (1 : Int32)), .val (.int (1 : Int32))] [])) _
    refine XS.iload X5.here hx rfl (hb hby at_94) rfl ?_
    show Steps p.tables e below (T5.setTop (mkF m 96 #[.val (.int xe), .val (.int v4), .val (.int cv), .val (.int (1 : Int32)), .val (.int (1 : Int32)), .val (.int (1 : Int32))] [(.int (1 : Int32))])) _
    refine XS.ifNo X5.here hx rfl (hb hby at_96) rfl ((if0 _ _).trans (feq (by decide : ¬ ((1 : Int32) = (0 : Int32)))).1) ?_
    show Steps p.tables e below (T5.setTop (mkF m 99 #[.val (.int xe), .val (.int v4), .val (.int cv), .val (.int (1 : Int32)), .val (.int (1 : Int32)), .val (.int (1 : Int32))] [])) _
    refine XS.iload X5.here hx rfl (hb hby at_99) rfl ?_
    show Steps p.tables e below (T5.setTop (mkF m 101 #[.val (.int xe), .val (.int v4), .val (.int cv), .val (.int (1 : Int32)), .val (.int (1 : Int32)), .val (.int (1 : Int32))] [(.int (1 : Int32))])) _
    refine XS.ifNo X5.here hx rfl (hb hby at_101) rfl ((if0 _ _).trans (feq (by decide : ¬ ((1 : Int32) = (0 : Int32)))).1) ?_
    show Steps p.tables e below (T5.setTop (mkF m 104 #[.val (.int xe), .val (.int v4), .val (.int cv), .val (.int (1 : Int32)), .val (.int (1 : Int32)), .val (.int (1 : Int32))] [])) _
    refine XS.iconst X5.here hx rfl (hb hby at_104) ?_
    show Steps p.tables e below (T5.setTop (mkF m 105 #[.val (.int xe), .val (.int v4), .val (.int cv), .val (.int (1 : Int32)), .val (.int (1 : Int32)), .val (.int (1 : Int32))] [(.int (1 : Int32))])) _
    refine XS.goto X5.here hx rfl (pc0 := 105) (pc' := 109) rfl (hb hby at_105) (by decide) (by decide) ?_
    show Steps p.tables e below (T5.setTop (mkF m 109 #[.val (.int xe), .val (.int v4), .val (.int cv), .val (.int (1 : Int32)), .val (.int (1 : Int32)), .val (.int (1 : Int32))] [(.int (1 : Int32))])) _
    exact retN X5 hx (t := .boolean) Bd.returns (by simp) (hb hby at_109) hr
  · show QL Z xe h0 n0 _ T5.heap _
    rw [e5]
    exact ⟨rfl, N5⟩
set_option maxRecDepth 65536 in
set_option maxHeartbeats 40000000 in
theorem comes_1 {Post : Tables → Env → Array Value → State → Outcome → State → Prop} (hpost : ∀ tb e args s v u, (limb_1_1.after args s (.returned v) u = true ∧ limb_1_2.after args s (.returned v) u = true ∧ True) → FrameEnd s (.returned v) u (Jvm.fieldLocs frame_1_writes args s ++ Jvm.arrayLocs frame_1_arrays args s ++ Jvm.staticLocs frame_1_statics s) 0 0 → Post tb e args s (.returned v) u) :
    ArmFor flags0 classFile x code maxLocals ret World_1 tables_1 room_1 Calls_1 rest_1 Pre_1 Post := by
  intro l hfl _ _ p e ha hc hk s m args below hf hA hF happ hP
  obtain ⟨hcalls, hrest, hpre⟩ := hP
  obtain ⟨-, -, -, hnamed, -, -, -, hat⟩ := (Spec.applies_iff hf).mp happ
  obtain ⟨hg, hn⟩ := and_e (Cond.before_iff.mp (show (Jvm.Cond.and given_1 narrow_1).before args s = true from hpre))
  obtain ⟨hcount, gr0⟩ := and_e hg
  have ga0 := gr0
  obtain ⟨w0, rfl⟩ : ∃ w0 : Value, args = #[w0] := by
    have hs : args.size = 1 := by simpa [Cond.value, given_1] using hcount
    obtain ⟨L⟩ := args
    match L, hs with
    | [w0], _ => exact ⟨w0, rfl⟩
  have hw := fun d (hd : d ∈ tables_1) => atoms_spec (ws := Jvm.Cond.code x code maxLocals ret :: tables_1) hat d (List.mem_cons_of_mem _ hd)
  have hfit : Fit s := fun {y c} hc i hi => by
    obtain ⟨ha, rfl⟩ := Array.getElem?_eq_some_iff.mp hc
    have q := List.all_eq_true.mp ((Array.all_eq_true_iff_forall_mem.mp hF) _ (Array.getElem_mem ha)) i (List.mem_range.mpr hi)
    simpa [Array.getElem?_eq_getElem hi] using q
  obtain ⟨i0, ei0⟩ := is_v ga0
  obtain rfl : w0 = (.int i0) := Option.some.inj ei0
  obtain ⟨n, o, h1, h2, h3, _, L, rfl, ⟨rfl, N⟩, hq⟩ := rmL l s _ hw tables_1 i0 s.heap s.heap.size (Nat.le_refl _)  p e ha hc hk s m _ below hf ((Spec.applies_iff_loose hf).mp happ).1 ⟨rfl, State.Warmed39.refl s, rfl⟩ trivial
  refine ⟨n, _, h1, h2, h3, hpost _ _ _ _ _ _ ⟨Cond.after_iff.mpr rfl, Cond.after_iff.mpr (eq_i res_at (Term.int_eval (1)) rfl), trivial⟩ ⟨hq.1, hq.2.1, (hq.2.2.sift fun y hy => Or.inr (N y hy)).mono (by decide) (by decide)⟩⟩
theorem main_1_1 : Claimed_1_1 := comes_1 fun _ _ _ _ _ _ h hF => ⟨h.1, hF⟩
theorem main_1_2 : Claimed_1_2 := comes_1 fun _ _ _ _ _ _ h hF => ⟨h.2.1, hF⟩
end Jvm.Pilot.@@N@@
namespace Jvm.Pilot.@@N@@
open Jvm Jvm.ClassFile Sem Op Lib Jvm.Free Jvm.Stand Jvm.Pilot.@@N@@.Jvm.D
/-! MADE BY PROGRAM (witnessworld.py) out of the Statement's table words and the real class files: 9 classes; the members and pool entries that the words name. The judged class is class 1, her method 1. -/
namespace start1
open Jvm.ClassFile
def u (s : String) : CpInfo := .utf8 (stringToUtf16 s)
/-- a pool by its gaps: so many unusable entries, then the entry; so many at the end -/
def gap : Nat → List CpInfo → List CpInfo
  | 0, r => r
  | n + 1, r => .unusable :: gap n r
def poolList (es : List (Nat × CpInfo)) (last : Nat) : List CpInfo := es.foldr (fun e r => gap e.1 (e.2 :: r)) (gap last [])
def pool (es : List (Nat × CpInfo)) (last : Nat) : Array CpInfo := ⟨poolList es last⟩
def fileOf (pool : Array CpInfo) (this : Nat) (attrs : Array Attribute := #[]) (ms : Array MethodInfo := #[]) (fl : Nat := 33) (sup : Nat := 0) (ifs : Array Nat := #[]) (fds : Array FieldInfo := #[]) : ClassFile where
  minorVersion := 0
  majorVersion := 65
  constantPool := pool
  accessFlags := fl
  thisClass := this
  superClass := sup
  interfaces := ifs
  fields := fds
  methods := ms
  attributes := attrs
def plain (name : String) (sup : Option ClassId) : Class where
  name := name
  kind := .ordinary
  loader := none
  accessFlags := 33
  super := sup
  interfaces := #[]
  cf := none
  fields := #[]
  methods := #[]
  instanceTypes := #[]
  staticTypes := #[]
  resolved := #[]
  callSites := []
  init := .initialized
  statics := none
  mirror := none

def pool0 : Array CpInfo := pool [(5, u "<init>"), (0, u "()V"), (1, .class_ 10), (1, u "java/lang/Object")] 113

def k0m0 : Method := { name := "<init>", desc := "()V", sig := { parameters := [], returnType := none }, accessFlags := 1, code := none }
/-- java/lang/Object -/
def k0 : Class := { plain "java/lang/Object" none with
  accessFlags := 33
  interfaces := #[]
  cf := some (fileOf pool0 8 #[] #[{ accessFlags := 1, nameIndex := 5, descriptorIndex := 6, attributes := #[] }] 33 0 #[] #[])
  fields := #[]
  methods := #[k0m0]
  instanceTypes := #[]
  staticTypes := #[]
  resolved := Array.replicate 124 none
  statics := none }

def pool1 : Array CpInfo := pool [(2, .class_ 4), (1, u "java/lang/Object"), (0, u "<init>"), (0, u "()V"), (0, .integer 805306369), (0, .methodref 9 10), (0, .class_ 11), (0, .nameAndType 12 13), (0, u "com/example/hamster/hamster/PlaceTables"), (0, u "capacityFor"), (0, u "(I)I"), (0, .long 3), (1, .class_ 17), (0, u "com/example/hamster/hamster/PlaceTablesCapacityForPinLaw"), (2, u "law"), (0, u "(I)Z")] 3

def k1m0 : Method := { name := "<init>", desc := "()V", sig := { parameters := [], returnType := none }, accessFlags := 2, code := none }
def k1c1 : Code := { maxStack := 4, maxLocals := 6, code := code, exceptionTable := #[], attributes := #[] }
def k1m1 : Method := { name := "law", desc := "(I)Z", sig := { parameters := [.int], returnType := some .boolean }, accessFlags := 9, code := some k1c1 }
/-- com/example/hamster/hamster/PlaceTablesCapacityForPinLaw -/
def k1 : Class := { plain "com/example/hamster/hamster/PlaceTablesCapacityForPinLaw" (some 0) with
  accessFlags := 49
  interfaces := #[]
  cf := some (fileOf pool1 16 #[] #[{ accessFlags := 2, nameIndex := 5, descriptorIndex := 6, attributes := #[] }, { accessFlags := 9, nameIndex := 20, descriptorIndex := 21, attributes := #[] }] 49 2 #[] #[])
  fields := #[]
  methods := #[k1m0, k1m1]
  instanceTypes := #[]
  staticTypes := #[]
  resolved := Array.replicate 25 none
  statics := none }

def pool2 : Array CpInfo := pool [(2, .class_ 4), (1, u "java/lang/Object"), (0, u "<init>"), (0, u "()V"), (0, .class_ 8), (0, u "com/example/hamster/hamster/PlaceTables"), (12, u "(I)I"), (14, u "SPREAD"), (0, u "I"), (3, u "capacityFor")] 6

def k2m0 : Method := { name := "<init>", desc := "()V", sig := { parameters := [], returnType := none }, accessFlags := 2, code := none }
def k2c1 : Code := { maxStack := 2, maxLocals := 2, code := prog_9_method_2_code, exceptionTable := #[], attributes := #[] }
def k2m1 : Method := { name := "capacityFor", desc := "(I)I", sig := { parameters := [.int], returnType := some .int }, accessFlags := 8, code := some k2c1 }
/-- com/example/hamster/hamster/PlaceTables -/
def k2 : Class := { plain "com/example/hamster/hamster/PlaceTables" (some 0) with
  accessFlags := 48
  interfaces := #[]
  cf := some (fileOf pool2 7 #[] #[{ accessFlags := 2, nameIndex := 5, descriptorIndex := 6, attributes := #[] }, { accessFlags := 8, nameIndex := 41, descriptorIndex := 21, attributes := #[] }] 48 2 #[] #[{ accessFlags := 26, nameIndex := 36, descriptorIndex := 37, attributes := #[] }])
  fields := #[{ name := "SPREAD", type := .int, accessFlags := 26, slot := 0, constantValue := 0 }]
  methods := #[k2m0, k2m1]
  instanceTypes := #[]
  staticTypes := #[.int]
  resolved := Array.replicate 48 none
  statics := none }

def pool3 : Array CpInfo := pool [(1, u "java/lang/Cloneable"), (0, .class_ 1), (0, u "java/lang/Object"), (0, .class_ 3)] 3

/-- java/lang/Cloneable -/
def k3 : Class := { plain "java/lang/Cloneable" (some 0) with
  accessFlags := 1537
  interfaces := #[]
  cf := some (fileOf pool3 2 #[] #[] 1537 4 #[] #[])
  fields := #[]
  methods := #[]
  instanceTypes := #[]
  staticTypes := #[]
  resolved := Array.replicate 8 none
  statics := none }

def pool4 : Array CpInfo := pool [(1, u "java/io/Serializable"), (0, .class_ 1), (0, u "java/lang/Object"), (0, .class_ 3)] 3

/-- java/io/Serializable -/
def k4 : Class := { plain "java/io/Serializable" (some 0) with
  accessFlags := 1537
  interfaces := #[]
  cf := some (fileOf pool4 2 #[] #[] 1537 4 #[] #[])
  fields := #[]
  methods := #[]
  instanceTypes := #[]
  staticTypes := #[]
  resolved := Array.replicate 8 none
  statics := none }

/-- the primitive byte -/
def k5 : Class := { plain "byte" none with kind := .primitive 'B', accessFlags := 0x411 }
/-- [B -/
def k6 : Class := { plain "[B" (some 0) with kind := .array 5 .byte, interfaces := #[3, 4], accessFlags := 1041 }

/-- the primitive int -/
def k7 : Class := { plain "int" none with kind := .primitive 'I', accessFlags := 0x411 }
/-- [I -/
def k8 : Class := { plain "[I" (some 0) with kind := .array 7 .int, interfaces := #[3, 4], accessFlags := 1041 }

def heap : Heap := #[]
def classes : Array Class := #[k0, k1, k2, k3, k4, k5, k6, k7, k8]
def interned : List (Array UInt16 × Addr) := []
def slotsUsed : Nat := 0
def theMethod : MethodId := ⟨1, 1⟩
def args0 : Array Value := #[.int 100]
def aboutOver (below : List Frame) : State where
  vm := { classes := classes, interned := interned.toArray }
  heap := heap
  slotsUsed := slotsUsed
  threads := #[{ frames := .invoking theMethod args0 :: below }]
def below0 : List Frame := [.native { method := ⟨0, 0⟩, args := #[] }]
def about1 : State := aboutOver below0
def p0 : Program := .bare "" "" ""
def e0 : Env := launch0.env 0 0 0
theorem w_frames : about1.frames = Frame.invoking theMethod args0 :: below0 := rfl
set_option maxRecDepth 65536 in
theorem w_args : argsFit about1.vm theMethod args0 = true := by decide +kernel
set_option maxRecDepth 65536 in
theorem w_heap : heapFits about1 = true := by decide +kernel
set_option maxRecDepth 65536 in
theorem w_runnable : about1.curStatus? = some .runnable := by decide +kernel
set_option maxRecDepth 65536 in
theorem w_alone : about1.alone = true := by decide +kernel
set_option maxRecDepth 65536 in
theorem w_named : about1.methodNamed? x = some theMethod := by decide +kernel
set_option maxRecDepth 65536 in
theorem w_hears : about1.hears theMethod below0 = true := by decide +kernel
set_option maxRecDepth 65536 in
theorem w_ripe : about1.ripe theMethod args0 below0 = true := by decide +kernel
theorem w_running : about1.status = .running := rfl
set_option maxRecDepth 65536 in
theorem w_room : about1.hasRoom e0.platform room_1 = true :=
  launch0.hasRoom_least _ room_1 (by decide +kernel) (by decide +kernel) (by decide +kernel) (by decide +kernel) (by decide +kernel) (by decide +kernel)
theorem allAtoms_all (ts : List Jvm.Cond) (a : Array Jvm.Value) (st : Jvm.State) : (allAtoms ts).before a st = ts.all (fun c => c.before a st) := by
  induction ts with
  | nil => rfl
  | cons c t ih =>
    show (Jvm.Cond.and c (allAtoms t)).before a st = _
    rw [Jvm.Cond.before_and, ih, List.all_cons]
def words1 : List Jvm.Cond := Jvm.Cond.code x code maxLocals ret :: tables_1
/-- a 'code' word, met by the world's own term for the bytes: nothing is compared byte by byte -/
theorem code_word {y : MethodName} {bytes : ByteArray} {mx : Nat} {rt : Option FieldType} {a : Array Value} {s : State} {m : MethodId} {meth : Method} {c : Code} (h1 : s.methodNamed? y = some m) (h2 : s.vm.method? m = some meth) (h3 : meth.code = some c) (h4 : c.code = bytes)
    (h5 : (c.maxLocals == mx && c.exceptionTable.isEmpty && decide (c.maxStack ≤ mostOperands) && decide (meth.sig.returnType = rt) && !meth.locks && decide (parseMethodDescriptor y.desc = some meth.sig)) = true) : (Jvm.Cond.code y bytes mx rt).before a s = true := by
  simp only [Bool.and_eq_true, beq_iff_eq, Bool.not_eq_true', decide_eq_true_eq] at h5
  obtain ⟨⟨⟨⟨⟨g1, g2⟩, g3⟩, g4⟩, g5⟩, g6⟩ := h5
  simp [Cond.before, Cond.holds, Cond.value, h1, h2, h3, h4, g1, g2, g3, g4, g5, g6]
def isCode : Jvm.Cond → Bool
  | .code _ _ _ _ => true
  | _ => false
theorem all_split {L : List Jvm.Cond} {P : Jvm.Cond → Bool} (h1 : L.all (fun c => isCode c || P c) = true) (h2 : ∀ c ∈ L.filter isCode, P c = true) : L.all P = true := by
  refine List.all_eq_true.mpr fun c hc => ?_
  have h := List.all_eq_true.mp h1 c hc
  rcases Bool.eq_false_or_eq_true (isCode c) with hi | hi
  · exact h2 c (List.mem_filter.mpr ⟨hc, hi⟩)
  · simpa [hi] using h
set_option maxRecDepth 65536 in
theorem w_c0 : (Jvm.Cond.code x code maxLocals ret).before args0 about1 = true := code_word (m := ⟨1, 1⟩) (meth := k1m1) (c := k1c1) (by decide +kernel) rfl rfl rfl (by decide +kernel)
set_option maxRecDepth 65536 in
theorem w_c1 : (Jvm.Cond.code ({ cls := "com/example/hamster/hamster/PlaceTables", name := "capacityFor", desc := "(I)I" } : Jvm.MethodName) prog_9_method_2_code (2 : Nat) (Option.some Jvm.ClassFile.FieldType.int)).before args0 about1 = true := code_word (m := ⟨2, 1⟩) (meth := k2m1) (c := k2c1) (by decide +kernel) rfl rfl rfl (by decide +kernel)
def codes1 : List Jvm.Cond := [Jvm.Cond.code x code maxLocals ret, Jvm.Cond.code ({ cls := "com/example/hamster/hamster/PlaceTables", name := "capacityFor", desc := "(I)I" } : Jvm.MethodName) prog_9_method_2_code (2 : Nat) (Option.some Jvm.ClassFile.FieldType.int)]
set_option maxRecDepth 65536 in
theorem codes_eq : words1.filter isCode = codes1 := rfl
theorem w_codes : ∀ c ∈ words1.filter isCode, c.before args0 about1 = true := by
  rw [codes_eq]
  intro c hc
  simp only [codes1, List.mem_cons, List.not_mem_nil, or_false] at hc
  rcases hc with rfl | rfl
  · exact w_c0
  · exact w_c1
set_option maxRecDepth 65536 in
theorem w_t1 : words1.all (fun c => isCode c || c.before args0 about1) = true := by decide +kernel
theorem w_tables : (allAtoms (Jvm.Cond.code x code maxLocals ret :: tables_1)).before args0 about1 = true := by
  rw [allAtoms_all]
  show words1.all (fun c => c.before args0 about1) = true
  refine all_split ?_ w_codes
  rw [w_t1]
set_option maxRecDepth 65536 in
theorem w_case : (Jvm.Cond.and given_1 narrow_1).before args0 about1 = true := by decide +kernel
theorem w_applies : (headSpec (Jvm.Cond.code x code maxLocals ret :: tables_1) room_1).applies x e0.platform about1 = true :=
  (Spec.applies_iff w_frames).mpr ⟨w_running, w_runnable, w_alone, w_named, w_hears, w_ripe, w_room, w_tables⟩
theorem atStart : AtStart classFile x code maxLocals ret World_1 tables_1 room_1 Calls_1 rest_1 Pre_1 launch0 p0 e0 about1 theMethod args0 below0 :=
  ⟨lists_1, trivial, launch0.admits_env _ _ _, launch0.least_env, fairChoices_fair.cas, fairChoices_fair.clock, w_frames, w_args, w_heap, w_applies, trivial, trivial, w_case⟩
end start1
theorem witness_1 : WitnessClaimed_1 := ⟨start1.p0, start1.e0, start1.about1, start1.theMethod, start1.args0, start1.below0, start1.atStart⟩
end Jvm.Pilot.@@N@@
