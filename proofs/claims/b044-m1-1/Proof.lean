import JvmDerived
import JvmDerived.Pilot.@@N@@Statement
import JvmDerived.Pilot.@@N@@Code
set_option linter.unusedVariables false
set_option linter.unusedSimpArgs false
namespace Jvm.RoadKit
open Sem ClassFile Op Lib Jvm.Stand Jvm.Free Jvm.LawKit
section New
variable {p : Program} {l : Launch} {e : Env} {R : Room} {s : State} {m : MethodId} {args : Array Value} {below : List Frame} {meth : Method} {c : Code} {T : State} {locs : List Loc} {cells slots : Nat}
theorem retI (X : Stand p l e R s m args below meth c T locs cells slots) (hx : p.tables.exec = Jvm.exec) {pc : Nat} {Ls : Array Slot} {z : Int32} {rest : List Value} (hret : meth.sig.returnType = some .int) (hd : decode c.code pc = .ok (.ireturn, 1)) {fs : List Frame}
    (hl : ∀ (f : JFrame) (acts : List Action), f.method = m → f.locked = none → f.entered = [] → (doReturn e (T.setTop f) acts (some (.int z))).1 = T.setFrames fs) : Steps p.tables e below (T.setTop (mkF m pc Ls (.int z :: rest))) (T.setFrames fs) := by
  have hm' : T.vm.method? m = some meth := X.method'
  have hn : narrow .int (.int z) = .int z := rfl
  show Steps p.tables e below (T.setTop { method := m, pc := pc, locals := Ls, stack := _ :: rest, locked := none }) _
  jvm_step X.here [X.here.top, hx, hd, hm', hret, hn]
  first | (intro acts; rw [hl _ acts rfl rfl rfl]) | rw [hl _ _ rfl rfl rfl]
  exact Steps.refl _
end New
end Jvm.RoadKit
namespace Jvm.Pilot.@@N@@
open Jvm Jvm.ClassFile Sem Op Lib Jvm.Free Jvm.Stand Jvm.LawKit Jvm.RoadKit Bundle Jvm.Pilot.@@N@@.Jvm.D
/-- a step ahead of a run that ends -/
theorem own_go {p : Program} {e : Env} {below : List Frame} {P : State → Outcome → Prop} {a b : State} (h : ∀ t, Steps p.tables e below b t → Steps p.tables e below a t) (k : ∃ s₂ o, Steps p.tables e below b s₂ ∧ P s₂ o) : ∃ s₂ o, Steps p.tables e below a s₂ ∧ P s₂ o := by
  obtain ⟨t, o, h1, h2⟩ := k; exact ⟨t, o, h t h1, h2⟩
theorem own_fld {args : Array Value} {s : State} {t : Term} {C n d : String} {k : Int32} {x : Addr} (h : (Jvm.Cond.eq (Jvm.Term.field t C n d) (Jvm.Term.int k)).value args s none s [] = some true) (e : t.eval args s none [] s = some (.ref x)) : Fld s s.heap x C n d (.int k) := by
  obtain ⟨u, w, h1, h2, k1, k2⟩ := cmp_v (Or.inl h)
  have hwk : w = .int k := Option.some.inj (h2.symm.trans (Term.int_eval k))
  subst hwk
  obtain ⟨z, rfl⟩ : ∃ z, u = .int z := k2
  have q : (Jvm.Cond.eq (Jvm.Term.field t C n d) (Jvm.Term.int k)).value args s none s [] = some (decide (z = k)) := by simp [Cond.value, h1, h2]
  have hz : z = k := gotT q h
  rw [fld_at e, hz] at h1
  exact Fld.start h1
theorem own_ne {Z : State} {h : Heap} {a b : Addr} {C n d : String} {j k : Int32} (F : Fld Z h a C n d (.int j)) (G : Fld Z h b C n d (.int k)) (hjk : ¬ j = k) : ¬ a = b := by
  rintro rfl
  obtain ⟨c1, f1, k1, i1, g1, p1, p2, -, -, -, -, p7⟩ := F
  obtain ⟨c2, f2, k2, i2, g2, q1, q2, -, -, -, -, q7⟩ := G
  cases p1.symm.trans q1
  cases p2.symm.trans q2
  exact hjk (Value.int.inj (Option.some.inj (p7.symm.trans q7)))
theorem own_pd0 : parseMethodDescriptor "()Lcom/example/careful_allocator/carefulallocator/synthesis/LatencyObjective;" = some ⟨[], some (.object "com/example/careful_allocator/carefulallocator/synthesis/LatencyObjective")⟩ := by decide +kernel
theorem own_pn0 : plainName "com/example/careful_allocator/carefulallocator/synthesis/LatencyObjective" = true := by first | (simp [plainName, overriddenIn]; done) | decide +kernel
theorem own_pn1 : plainName "com/example/careful_allocator/carefulallocator/synthesis/LatencyObjectiveTieBreakerPinLaw" = true := by first | (simp [plainName, overriddenIn]; done) | decide +kernel
def own_Q1 (r : Addr) (h0 : Heap) (n0 : Nat) (v : Option Value) (h : Heap) (L : List Loc) : Prop := v = some (.ref r) ∧ Fr n0 L ∧ h = h0
theorem d_own_rm1_0 : decode prog_41_method_8_code 0 = .ok (.aload_n 0, 1) := by decide +kernel
theorem d_own_rm1_1 : decode prog_41_method_8_code 1 = .ok (.getstatic 3, 3) := by decide +kernel
theorem d_own_rm1_4 : decode prog_41_method_8_code 4 = .ok (.if_acmp .ne 9, 3) := by decide +kernel
theorem d_own_rm1_7 : decode prog_41_method_8_code 7 = .ok (.getstatic 7, 3) := by decide +kernel
theorem d_own_rm1_10 : decode prog_41_method_8_code 10 = .ok (.goto 6, 3) := by decide +kernel
theorem d_own_rm1_13 : decode prog_41_method_8_code 13 = .ok (.getstatic 3, 3) := by decide +kernel
theorem d_own_rm1_16 : decode prog_41_method_8_code 16 = .ok (.areturn, 1) := by decide +kernel
theorem ef_own_rm1 (m : MethodId) (x0 : Addr) : entryFrame m #[(.ref x0)] 1 = mkF m 0 #[.val (.ref x0)] [] := by first | (simp [entryFrame, mkF, argsToLocals, Value.category]; done) | rfl
set_option maxRecDepth 65536 in
set_option maxHeartbeats 40000000 in
theorem own_rm1 (l : Launch) (Z : State) (a0 : Array Value) (hw : ∀ d ∈ tables_1, d.before a0 Z = true) (ws : List Jvm.Cond) (b0 : Addr) (bA bB r : Addr) (h0 : Heap) (n0 : Nat) (Z0 : n0 ≤ h0.size) (S_A : Sta Z h0 "com/example/careful_allocator/carefulallocator/synthesis/LatencyObjective" "SUM_LATENCY" "Lcom/example/careful_allocator/carefulallocator/synthesis/LatencyObjective;" (.ref bA)) (S_B : Sta Z h0 "com/example/careful_allocator/carefulallocator/synthesis/LatencyObjective" "MIN_SLACK" "Lcom/example/careful_allocator/carefulallocator/synthesis/LatencyObjective;" (.ref bB)) (hr0 : (if b0 = bA then bB else bA) = r) :
    MetFree l (⟨"com/example/careful_allocator/carefulallocator/synthesis/LatencyObjective", "tieBreaker", "()Lcom/example/careful_allocator/carefulallocator/synthesis/LatencyObjective;"⟩ : MethodName) (head1 (Jvm.Cond.code (⟨"com/example/careful_allocator/carefulallocator/synthesis/LatencyObjective", "tieBreaker", "()Lcom/example/careful_allocator/carefulallocator/synthesis/LatencyObjective;"⟩ : MethodName) prog_41_method_8_code 1 (some (.object "com/example/careful_allocator/carefulallocator/synthesis/LatencyObjective")) :: ws) ({ frames := 0, cells := 0, slots := 0, locals := 0 } : Room)) (fun a U => a = #[(.ref b0)] ∧ Z.Warmed39 U.vm ∧ U.heap = h0) (fun _ _ _ _ _ => True) (fun _ U o U' => ∃ v L, o = .returned v ∧ own_Q1 r h0 n0 v U'.heap L ∧ FrameEnd U o U' L ({ frames := 0, cells := 0, slots := 0, locals := 0 } : Room).cells ({ frames := 0, cells := 0, slots := 0, locals := 0 } : Room).slots) := by
  refine MetFree.of_bodySF (plainFor_of_name own_pn0) hisR ?_
  intro p e s m args below meth c s₁ Bd hml0 hP hK
  obtain ⟨rfl, hZ, hh⟩ := hP
  have hx := Bd.exec
  have hby := Bd.bytes
  have hml : c.maxLocals = 1 := hml0
  have hown : s.vm.findClass "com/example/careful_allocator/carefulallocator/synthesis/LatencyObjective" = some m.cls := findClass_of_methodNamed Bd.named
  have hnm := (name_of_methodNamed Bd.named Bd.method).1
  have X0 : Stand p l e ({ frames := 0, cells := 0, slots := 0, locals := 0 } : Room) s m #[(.ref b0)] below meth c s₁ [] 0 0 := Stand.of_body Bd
  have e0 : s₁.heap = h0 := by rw [← hh, Bd.state]; rfl
  have N0 := Fr.nil n0
  refine own_go (b := s₁.setTop (mkF m 0 #[.val (.ref b0)] [])) (fun t k => castTop (ef_own_rm1 m b0) k) ?_
  obtain ⟨T1, X1, e1, st1⟩ := getS2 X0 hx hZ hown (host := "") (Or.inl (hw _ (List.mem_of_getElem? (i := 10) rfl))) Via.refl e0 S_A (g := (mkF m 1 #[.val (.ref b0)] [(.ref b0)])) rfl (hb hby d_own_rm1_1)
  refine own_go (b := T1.setTop (mkF m 4 #[.val (.ref b0)] [(.ref bA), (.ref b0)])) (fun t k => ?_) ?_
  · show Steps p.tables e below (s₁.setTop (mkF m 0 #[.val (.ref b0)] [])) _
    refine XS.aloadN X0.here hx rfl (hb hby d_own_rm1_0) rfl rfl ?_
    show Steps p.tables e below (s₁.setTop (mkF m 1 #[.val (.ref b0)] [(.ref b0)])) _
    refine st1 _ ?_
    show Steps p.tables e below (T1.setTop (mkF m 4 #[.val (.ref b0)] [(.ref bA), (.ref b0)])) t
    exact k
  by_cases hc4_2 : b0 = bA
  · obtain ⟨T3, X3, e3, st3⟩ := getS2 X1 hx hZ hown (host := "") (Or.inl (hw _ (List.mem_of_getElem? (i := 11) rfl))) Via.refl e1 S_B (g := (mkF m 7 #[.val (.ref b0)] [])) rfl (hb hby d_own_rm1_7)
    obtain ⟨fs, hr, hrun, hended, hW, hsame⟩ := X3.leave (v := some (.ref bB)) (fun h => by rw [Bd.returns] at h; cases h)
    refine ⟨_, _, ?_, hrun, hended, _, _, rfl, ?_, ⟨_, rfl⟩, hW, hsame.mono (by decide) (by decide)⟩
    · show Steps p.tables e below (T1.setTop (mkF m 4 #[.val (.ref b0)] [(.ref bA), (.ref b0)])) _
      refine Jvm.RoadKit.acmp (g := (mkF m 4 #[.val (.ref b0)] [(.ref bA), (.ref b0)])) X1 hx rfl rfl rfl (pc0 := 4) (pc' := 7) (same := true) rfl (hb hby d_own_rm1_4) rfl (decide_eq_true (congrArg Value.ref hc4_2)) (by decide) (by decide) ?_
      show Steps p.tables e below (T1.setTop (mkF m 7 #[.val (.ref b0)] [])) _
      refine st3 _ ?_
      show Steps p.tables e below (T3.setTop (mkF m 10 #[.val (.ref b0)] [(.ref bB)])) _
      refine XS.goto X3.here hx rfl (pc0 := 10) (pc' := 16) rfl (hb hby d_own_rm1_10) (by decide) (by decide) ?_
      show Steps p.tables e below (T3.setTop (mkF m 16 #[.val (.ref b0)] [(.ref bB)])) _
      jvm_step X3.here [X3.here.top, hx, (hb hby d_own_rm1_16), X3.method', Bd.returns, Value.isRef, FieldType.isReference]
      first | (intro acts; rw [hr _ acts rfl rfl rfl]) | rw [hr _ _ rfl rfl rfl]
      exact Steps.refl _
    · show own_Q1 r h0 n0 _ T3.heap _
      rw [e3]
      exact ⟨by rw [← hr0, if_pos hc4_2], N0, rfl⟩
  · obtain ⟨T4, X4, e4, st4⟩ := getS2 X1 hx hZ hown (host := "") (Or.inl (hw _ (List.mem_of_getElem? (i := 10) rfl))) Via.refl e1 S_A (g := (mkF m 13 #[.val (.ref b0)] [])) rfl (hb hby d_own_rm1_13)
    obtain ⟨fs, hr, hrun, hended, hW, hsame⟩ := X4.leave (v := some (.ref bA)) (fun h => by rw [Bd.returns] at h; cases h)
    refine ⟨_, _, ?_, hrun, hended, _, _, rfl, ?_, ⟨_, rfl⟩, hW, hsame.mono (by decide) (by decide)⟩
    · show Steps p.tables e below (T1.setTop (mkF m 4 #[.val (.ref b0)] [(.ref bA), (.ref b0)])) _
      refine Jvm.RoadKit.acmp (g := (mkF m 4 #[.val (.ref b0)] [(.ref bA), (.ref b0)])) X1 hx rfl rfl rfl (pc0 := 4) (pc' := 13) (same := false) rfl (hb hby d_own_rm1_4) rfl (decide_eq_false fun q => hc4_2 (Value.ref.inj q)) (by decide) (by decide) ?_
      show Steps p.tables e below (T1.setTop (mkF m 13 #[.val (.ref b0)] [])) _
      refine st4 _ ?_
      show Steps p.tables e below (T4.setTop (mkF m 16 #[.val (.ref b0)] [(.ref bA)])) _
      jvm_step X4.here [X4.here.top, hx, (hb hby d_own_rm1_16), X4.method', Bd.returns, Value.isRef, FieldType.isReference]
      first | (intro acts; rw [hr _ acts rfl rfl rfl]) | rw [hr _ _ rfl rfl rfl]
      exact Steps.refl _
    · show own_Q1 r h0 n0 _ T4.heap _
      rw [e4]
      exact ⟨by rw [← hr0, if_neg hc4_2], N0, rfl⟩
def own_Q0 (n0 : Nat) (v : Option Value) (h : Heap) (L : List Loc) : Prop := v = some (.int (1 : Int32)) ∧ Fr n0 L
theorem ef_own_rm0 (m : MethodId) (x0 : Int32) : entryFrame m #[(.int x0)] maxLocals = mkF m 0 #[.val (.int x0), .unset, .unset, .unset, .unset, .unset] [] := by first | (simp [entryFrame, mkF, argsToLocals, Value.category, maxLocals]; done) | rfl
set_option maxRecDepth 65536 in
set_option maxHeartbeats 40000000 in
theorem own_rm0 (l : Launch) (Z : State) (a0 : Array Value) (hw : ∀ d ∈ tables_1, d.before a0 Z = true) (ws : List Jvm.Cond) (p0 : Int32) (bA bB : Addr) (h0 : Heap) (n0 : Nat) (Z0 : n0 ≤ h0.size) (S_A : Sta Z h0 "com/example/careful_allocator/carefulallocator/synthesis/LatencyObjective" "SUM_LATENCY" "Lcom/example/careful_allocator/carefulallocator/synthesis/LatencyObjective;" (.ref bA)) (S_B : Sta Z h0 "com/example/careful_allocator/carefulallocator/synthesis/LatencyObjective" "MIN_SLACK" "Lcom/example/careful_allocator/carefulallocator/synthesis/LatencyObjective;" (.ref bB)) (E_A : Exa Z h0 bA "com/example/careful_allocator/carefulallocator/synthesis/LatencyObjective") (E_B : Exa Z h0 bB "com/example/careful_allocator/carefulallocator/synthesis/LatencyObjective") (hne : ¬ bA = bB) (hne' : ¬ bB = bA) :
    MetFree l x (head1 (Jvm.Cond.code x code maxLocals ret :: ws) room_1) (fun a U => a = #[(.int p0)] ∧ Z.Warmed39 U.vm ∧ U.heap = h0) (fun _ _ _ _ _ => True) (fun _ U o U' => ∃ v L, o = .returned v ∧ own_Q0 n0 v U'.heap L ∧ FrameEnd U o U' L room_1.cells room_1.slots) := by
  refine MetFree.of_bodySF (plainFor_of_name own_pn1) hisR ?_
  intro p e s m args below meth c s₁ Bd hml0 hP hK
  obtain ⟨rfl, hZ, hh⟩ := hP
  have hx := Bd.exec
  have hby := Bd.bytes
  have hml : c.maxLocals = 6 := hml0
  have hown : s.vm.findClass "com/example/careful_allocator/carefulallocator/synthesis/LatencyObjectiveTieBreakerPinLaw" = some m.cls := findClass_of_methodNamed Bd.named
  have hnm := (name_of_methodNamed Bd.named Bd.method).1
  have X0 : Stand p l e room_1 s m #[(.int p0)] below meth c s₁ [] 0 0 := Stand.of_body Bd
  have e0 : s₁.heap = h0 := by rw [← hh, Bd.state]; rfl
  have N0 := Fr.nil n0
  refine own_go (b := s₁.setTop (mkF m 0 #[.val (.int p0), .unset, .unset, .unset, .unset, .unset] [])) (fun t k => castTop (ef_own_rm0 m p0) k) ?_
  refine own_go (b := s₁.setTop (mkF m 3 #[.val (.int p0), .unset, .unset, .unset, .unset, .unset] [(.int (p0 &&& (1 : Int32)))])) (fun t k => ?_) ?_
  · show Steps p.tables e below (s₁.setTop (mkF m 0 #[.val (.int p0), .unset, .unset, .unset, .unset, .unset] [])) _
    refine XS.iloadN X0.here hx rfl (hb hby at_0) rfl ?_
    show Steps p.tables e below (s₁.setTop (mkF m 1 #[.val (.int p0), .unset, .unset, .unset, .unset, .unset] [(.int p0)])) _
    refine XS.iconst X0.here hx rfl (hb hby at_1) ?_
    show Steps p.tables e below (s₁.setTop (mkF m 2 #[.val (.int p0), .unset, .unset, .unset, .unset, .unset] [(.int (1 : Int32)), (.int p0)])) _
    refine XS.iand X0.here hx rfl (hb hby at_2) rfl ?_
    show Steps p.tables e below (s₁.setTop (mkF m 3 #[.val (.int p0), .unset, .unset, .unset, .unset, .unset] [(.int (p0 &&& (1 : Int32)))])) t
    exact k
  by_cases hc3_1 : (p0 &&& (1 : Int32)) = (0 : Int32)
  · obtain ⟨T2, X2, e2, st2⟩ := getS2 X0 hx hZ hown (host := "") (Or.inl (hw _ (List.mem_of_getElem? (i := 0) rfl))) Via.refl e0 S_A (g := (mkF m 16 #[.val (.int p0), .val (.int (1 : Int32)), .unset, .unset, .unset, .unset] [])) rfl (hb hby at_16)
    obtain ⟨T3, X3, e3, st3⟩ := getS2 X2 hx hZ hown (host := "") (Or.inl (hw _ (List.mem_of_getElem? (i := 3) rfl))) Via.refl e2 S_B (g := (mkF m 30 #[.val (.int p0), .val (.int (1 : Int32)), .val (.ref bA), .unset, .unset, .unset] [])) rfl (hb hby at_30)
    obtain ⟨cq4, kq4, q4a, q4b, q4c⟩ := isOf hZ e3 E_A
    obtain ⟨_, _, ⟨T4, L4, k4, n4⟩, -, X4, ⟨Lc4, hQ4, l4, y4, z4⟩, st4⟩ := X3.virtualBack hx (y := (⟨"com/example/careful_allocator/carefulallocator/synthesis/LatencyObjective", "tieBreaker", "()Lcom/example/careful_allocator/carefulallocator/synthesis/LatencyObjective;"⟩ : MethodName)) (z := (⟨"com/example/careful_allocator/carefulallocator/synthesis/LatencyObjective", "tieBreaker", "()Lcom/example/careful_allocator/carefulallocator/synthesis/LatencyObjective;"⟩ : MethodName)) hown (mvT hZ (hw _ (List.mem_of_getElem? (i := 5) rfl))) (mvT hZ (hw _ (List.mem_of_getElem? (i := 6) rfl))) (notFace_of_selects (args := #[]) (mvT hZ (hw _ (List.mem_of_getElem? (i := 8) rfl)))) (mvT hZ (hw _ (List.mem_of_getElem? (i := 8) rfl))) (mvT hZ (hw _ (List.mem_of_getElem? (i := 7) rfl))) (by decide) (backOf (W := 0) (own_rm1 l Z a0 hw [] bA bA bB bB h0 n0 Z0 S_A S_B (if_pos rfl)) hZ (hw _ (List.mem_of_getElem? (i := 9) rfl)) (hw _ (List.mem_of_getElem? (i := 1) rfl)) (by decide) (by decide)) q4a q4c (g := (mkF m 41 #[.val (.int p0), .val (.int (1 : Int32)), .val (.ref bA), .val (.ref bB), .unset, .unset] [(.ref bA)])) rfl (by rw [hml]; rfl) (Steps.refl _) (argsL := []) (rest := []) (lenOf own_pd0 rfl) rfl (by show 2 * 0 + _ ≤ _; exact Nat.le_of_eq rfl) (hb hby at_41) (fun _ _ => ⟨rfl, e3, (by decide : 0 + 0 ≤ _), (by decide : 0 + 0 ≤ _)⟩)
    dsimp only [Pt.U, Pt.locs, Pt.cells, Pt.slots] at X4 l4 y4 z4 st4 hQ4
    subst l4 y4 z4
    obtain ⟨rfl, N4q, e4⟩ := hQ4
    have N4 := Fr.app N0 N4q
    obtain ⟨cq5, kq5, q5a, q5b, q5c⟩ := isOf hZ e4 E_B
    obtain ⟨_, _, ⟨T5, L5, k5, n5⟩, -, X5, ⟨Lc5, hQ5, l5, y5, z5⟩, st5⟩ := X4.virtualBack hx (y := (⟨"com/example/careful_allocator/carefulallocator/synthesis/LatencyObjective", "tieBreaker", "()Lcom/example/careful_allocator/carefulallocator/synthesis/LatencyObjective;"⟩ : MethodName)) (z := (⟨"com/example/careful_allocator/carefulallocator/synthesis/LatencyObjective", "tieBreaker", "()Lcom/example/careful_allocator/carefulallocator/synthesis/LatencyObjective;"⟩ : MethodName)) hown (mvT hZ (hw _ (List.mem_of_getElem? (i := 5) rfl))) (mvT hZ (hw _ (List.mem_of_getElem? (i := 6) rfl))) (notFace_of_selects (args := #[]) (mvT hZ (hw _ (List.mem_of_getElem? (i := 8) rfl)))) (mvT hZ (hw _ (List.mem_of_getElem? (i := 8) rfl))) (mvT hZ (hw _ (List.mem_of_getElem? (i := 7) rfl))) (by decide) (backOf (W := 0) (own_rm1 l Z a0 hw [] bB bA bB bA h0 n0 Z0 S_A S_B (if_neg hne')) hZ (hw _ (List.mem_of_getElem? (i := 9) rfl)) (hw _ (List.mem_of_getElem? (i := 1) rfl)) (by decide) (by decide)) q5a q5c (g := (mkF m 48 #[.val (.int p0), .val (.int (1 : Int32)), .val (.ref bA), .val (.ref bB), .val (.ref bB), .unset] [(.ref bB)])) rfl (by rw [hml]; rfl) (Steps.refl _) (argsL := []) (rest := []) (lenOf own_pd0 rfl) rfl (by show 2 * 0 + _ ≤ _; exact Nat.le_of_eq rfl) (hb hby at_48) (fun _ _ => ⟨rfl, e4, (by decide : 0 + 0 ≤ _), (by decide : 0 + 0 ≤ _)⟩)
    dsimp only [Pt.U, Pt.locs, Pt.cells, Pt.slots] at X5 l5 y5 z5 st5 hQ5
    subst l5 y5 z5
    obtain ⟨rfl, N5q, e5⟩ := hQ5
    have N5 := Fr.app N4 N5q
    obtain ⟨fs, hr, hrun, hended, hW, hsame⟩ := X5.leave (v := some (.int (1 : Int32))) (fun h => by rw [Bd.returns] at h; cases h)
    refine ⟨_, _, ?_, hrun, hended, _, _, rfl, ?_, ⟨_, rfl⟩, hW, hsame.mono (by decide) (by decide)⟩
    · show Steps p.tables e below (s₁.setTop (mkF m 3 #[.val (.int p0), .unset, .unset, .unset, .unset, .unset] [(.int (p0 &&& (1 : Int32)))])) _
      refine XS.ifNo X0.here hx rfl (hb hby at_3) rfl ((if0 _ _).trans (teq hc3_1).2) ?_
      show Steps p.tables e below (s₁.setTop (mkF m 6 #[.val (.int p0), .unset, .unset, .unset, .unset, .unset] [])) _
      refine XS.iconst X0.here hx rfl (hb hby at_6) ?_
      show Steps p.tables e below (s₁.setTop (mkF m 7 #[.val (.int p0), .unset, .unset, .unset, .unset, .unset] [(.int (1 : Int32))])) _
      refine XS.goto X0.here hx rfl (pc0 := 7) (pc' := 11) rfl (hb hby at_7) (by decide) (by decide) ?_
      show Steps p.tables e below (s₁.setTop (mkF m 11 #[.val (.int p0), .unset, .unset, .unset, .unset, .unset] [(.int (1 : Int32))])) _
      refine XS.istoreN X0.here hx rfl (hb hby at_11) rfl (l' := #[.val (.int p0), .val (.int (1 : Int32)), .unset, .unset, .unset, .unset]) rfl ?_
      show Steps p.tables e below (s₁.setTop (mkF m 12 #[.val (.int p0), .val (.int (1 : Int32)), .unset, .unset, .unset, .unset] [])) _
      refine XS.iloadN X0.here hx rfl (hb hby at_12) rfl ?_
      show Steps p.tables e below (s₁.setTop (mkF m 13 #[.val (.int p0), .val (.int (1 : Int32)), .unset, .unset, .unset, .unset] [(.int (1 : Int32))])) _
      refine XS.ifNo X0.here hx rfl (hb hby at_13) rfl ((if0 _ _).trans (feq ((by decide) : ¬ ((1 : Int32) = (0 : Int32)))).1) ?_
      show Steps p.tables e below (s₁.setTop (mkF m 16 #[.val (.int p0), .val (.int (1 : Int32)), .unset, .unset, .unset, .unset] [])) _
      refine st2 _ ?_
      show Steps p.tables e below (T2.setTop (mkF m 19 #[.val (.int p0), .val (.int (1 : Int32)), .unset, .unset, .unset, .unset] [(.ref bA)])) _
      refine XS.goto X2.here hx rfl (pc0 := 19) (pc' := 25) rfl (hb hby at_19) (by decide) (by decide) ?_
      show Steps p.tables e below (T2.setTop (mkF m 25 #[.val (.int p0), .val (.int (1 : Int32)), .unset, .unset, .unset, .unset] [(.ref bA)])) _
      refine XS.astoreN X2.here hx rfl (hb hby at_25) rfl rfl (l' := #[.val (.int p0), .val (.int (1 : Int32)), .val (.ref bA), .unset, .unset, .unset]) rfl ?_
      show Steps p.tables e below (T2.setTop (mkF m 26 #[.val (.int p0), .val (.int (1 : Int32)), .val (.ref bA), .unset, .unset, .unset] [])) _
      refine XS.iloadN X2.here hx rfl (hb hby at_26) rfl ?_
      show Steps p.tables e below (T2.setTop (mkF m 27 #[.val (.int p0), .val (.int (1 : Int32)), .val (.ref bA), .unset, .unset, .unset] [(.int (1 : Int32))])) _
      refine XS.ifNo X2.here hx rfl (hb hby at_27) rfl ((if0 _ _).trans (feq ((by decide) : ¬ ((1 : Int32) = (0 : Int32)))).1) ?_
      show Steps p.tables e below (T2.setTop (mkF m 30 #[.val (.int p0), .val (.int (1 : Int32)), .val (.ref bA), .unset, .unset, .unset] [])) _
      refine st3 _ ?_
      show Steps p.tables e below (T3.setTop (mkF m 33 #[.val (.int p0), .val (.int (1 : Int32)), .val (.ref bA), .unset, .unset, .unset] [(.ref bB)])) _
      refine XS.goto X3.here hx rfl (pc0 := 33) (pc' := 39) rfl (hb hby at_33) (by decide) (by decide) ?_
      show Steps p.tables e below (T3.setTop (mkF m 39 #[.val (.int p0), .val (.int (1 : Int32)), .val (.ref bA), .unset, .unset, .unset] [(.ref bB)])) _
      refine XS.astoreN X3.here hx rfl (hb hby at_39) rfl rfl (l' := #[.val (.int p0), .val (.int (1 : Int32)), .val (.ref bA), .val (.ref bB), .unset, .unset]) rfl ?_
      show Steps p.tables e below (T3.setTop (mkF m 40 #[.val (.int p0), .val (.int (1 : Int32)), .val (.ref bA), .val (.ref bB), .unset, .unset] [])) _
      refine XS.aloadN X3.here hx rfl (hb hby at_40) rfl rfl ?_
      show Steps p.tables e below (T3.setTop (mkF m 41 #[.val (.int p0), .val (.int (1 : Int32)), .val (.ref bA), .val (.ref bB), .unset, .unset] [(.ref bA)])) _
      refine st4.trans ?_
      show Steps p.tables e below (T4.setTop (mkF m 44 #[.val (.int p0), .val (.int (1 : Int32)), .val (.ref bA), .val (.ref bB), .unset, .unset] [(.ref bB)])) _
      refine XS.astore X4.here hx rfl (hb hby at_44) rfl rfl (l' := #[.val (.int p0), .val (.int (1 : Int32)), .val (.ref bA), .val (.ref bB), .val (.ref bB), .unset]) rfl ?_
      show Steps p.tables e below (T4.setTop (mkF m 46 #[.val (.int p0), .val (.int (1 : Int32)), .val (.ref bA), .val (.ref bB), .val (.ref bB), .unset] [])) _
      refine XS.aload X4.here hx rfl (hb hby at_46) rfl rfl ?_
      show Steps p.tables e below (T4.setTop (mkF m 48 #[.val (.int p0), .val (.int (1 : Int32)), .val (.ref bA), .val (.ref bB), .val (.ref bB), .unset] [(.ref bB)])) _
      refine st5.trans ?_
      show Steps p.tables e below (T5.setTop (mkF m 51 #[.val (.int p0), .val (.int (1 : Int32)), .val (.ref bA), .val (.ref bB), .val (.ref bB), .unset] [(.ref bA)])) _
      refine XS.astore X5.here hx rfl (hb hby at_51) rfl rfl (l' := #[.val (.int p0), .val (.int (1 : Int32)), .val (.ref bA), .val (.ref bB), .val (.ref bB), .val (.ref bA)]) rfl ?_
      show Steps p.tables e below (T5.setTop (mkF m 53 #[.val (.int p0), .val (.int (1 : Int32)), .val (.ref bA), .val (.ref bB), .val (.ref bB), .val (.ref bA)] [])) _
      refine XS.aload X5.here hx rfl (hb hby at_53) rfl rfl ?_
      show Steps p.tables e below (T5.setTop (mkF m 55 #[.val (.int p0), .val (.int (1 : Int32)), .val (.ref bA), .val (.ref bB), .val (.ref bB), .val (.ref bA)] [(.ref bB)])) _
      refine XS.aloadN X5.here hx rfl (hb hby at_55) rfl rfl ?_
      show Steps p.tables e below (T5.setTop (mkF m 56 #[.val (.int p0), .val (.int (1 : Int32)), .val (.ref bA), .val (.ref bB), .val (.ref bB), .val (.ref bA)] [(.ref bB), (.ref bB)])) _
      refine Jvm.RoadKit.acmp (g := (mkF m 56 #[.val (.int p0), .val (.int (1 : Int32)), .val (.ref bA), .val (.ref bB), .val (.ref bB), .val (.ref bA)] [(.ref bB), (.ref bB)])) X5 hx rfl rfl rfl (pc0 := 56) (pc' := 59) (same := true) rfl (hb hby at_56) rfl (decide_eq_true rfl) (by decide) (by decide) ?_
      show Steps p.tables e below (T5.setTop (mkF m 59 #[.val (.int p0), .val (.int (1 : Int32)), .val (.ref bA), .val (.ref bB), .val (.ref bB), .val (.ref bA)] [])) _
      refine XS.aload X5.here hx rfl (hb hby at_59) rfl rfl ?_
      show Steps p.tables e below (T5.setTop (mkF m 61 #[.val (.int p0), .val (.int (1 : Int32)), .val (.ref bA), .val (.ref bB), .val (.ref bB), .val (.ref bA)] [(.ref bB)])) _
      refine XS.aloadN X5.here hx rfl (hb hby at_61) rfl rfl ?_
      show Steps p.tables e below (T5.setTop (mkF m 62 #[.val (.int p0), .val (.int (1 : Int32)), .val (.ref bA), .val (.ref bB), .val (.ref bB), .val (.ref bA)] [(.ref bA), (.ref bB)])) _
      refine Jvm.RoadKit.acmp (g := (mkF m 62 #[.val (.int p0), .val (.int (1 : Int32)), .val (.ref bA), .val (.ref bB), .val (.ref bB), .val (.ref bA)] [(.ref bA), (.ref bB)])) X5 hx rfl rfl rfl (pc0 := 62) (pc' := 65) (same := false) rfl (hb hby at_62) rfl (decide_eq_false fun q => (hne' : ¬ (bB = bA)) (Value.ref.inj q)) (by decide) (by decide) ?_
      show Steps p.tables e below (T5.setTop (mkF m 65 #[.val (.int p0), .val (.int (1 : Int32)), .val (.ref bA), .val (.ref bB), .val (.ref bB), .val (.ref bA)] [])) _
      refine XS.aload X5.here hx rfl (hb hby at_65) rfl rfl ?_
      show Steps p.tables e below (T5.setTop (mkF m 67 #[.val (.int p0), .val (.int (1 : Int32)), .val (.ref bA), .val (.ref bB), .val (.ref bB), .val (.ref bA)] [(.ref bA)])) _
      refine XS.aloadN X5.here hx rfl (hb hby at_67) rfl rfl ?_
      show Steps p.tables e below (T5.setTop (mkF m 68 #[.val (.int p0), .val (.int (1 : Int32)), .val (.ref bA), .val (.ref bB), .val (.ref bB), .val (.ref bA)] [(.ref bA), (.ref bA)])) _
      refine Jvm.RoadKit.acmp (g := (mkF m 68 #[.val (.int p0), .val (.int (1 : Int32)), .val (.ref bA), .val (.ref bB), .val (.ref bB), .val (.ref bA)] [(.ref bA), (.ref bA)])) X5 hx rfl rfl rfl (pc0 := 68) (pc' := 71) (same := true) rfl (hb hby at_68) rfl (decide_eq_true rfl) (by decide) (by decide) ?_
      show Steps p.tables e below (T5.setTop (mkF m 71 #[.val (.int p0), .val (.int (1 : Int32)), .val (.ref bA), .val (.ref bB), .val (.ref bB), .val (.ref bA)] [])) _
      refine XS.iconst X5.here hx rfl (hb hby at_71) ?_
      show Steps p.tables e below (T5.setTop (mkF m 72 #[.val (.int p0), .val (.int (1 : Int32)), .val (.ref bA), .val (.ref bB), .val (.ref bB), .val (.ref bA)] [(.int (1 : Int32))])) _
      refine XS.goto X5.here hx rfl (pc0 := 72) (pc' := 76) rfl (hb hby at_72) (by decide) (by decide) ?_
      show Steps p.tables e below (T5.setTop (mkF m 76 #[.val (.int p0), .val (.int (1 : Int32)), .val (.ref bA), .val (.ref bB), .val (.ref bB), .val (.ref bA)] [(.int (1 : Int32))])) _
      exact retN X5 hx (t := .boolean) Bd.returns (by simp) (hb hby at_76) hr
    · show own_Q0 n0 _ T5.heap _
      rw [e5]
      exact ⟨rfl, N5⟩
  · obtain ⟨T6, X6, e6, st6⟩ := getS2 X0 hx hZ hown (host := "") (Or.inl (hw _ (List.mem_of_getElem? (i := 3) rfl))) Via.refl e0 S_B (g := (mkF m 22 #[.val (.int p0), .val (.int (0 : Int32)), .unset, .unset, .unset, .unset] [])) rfl (hb hby at_22)
    obtain ⟨T7, X7, e7, st7⟩ := getS2 X6 hx hZ hown (host := "") (Or.inl (hw _ (List.mem_of_getElem? (i := 0) rfl))) Via.refl e6 S_A (g := (mkF m 36 #[.val (.int p0), .val (.int (0 : Int32)), .val (.ref bB), .unset, .unset, .unset] [])) rfl (hb hby at_36)
    obtain ⟨cq8, kq8, q8a, q8b, q8c⟩ := isOf hZ e7 E_B
    obtain ⟨_, _, ⟨T8, L8, k8, n8⟩, -, X8, ⟨Lc8, hQ8, l8, y8, z8⟩, st8⟩ := X7.virtualBack hx (y := (⟨"com/example/careful_allocator/carefulallocator/synthesis/LatencyObjective", "tieBreaker", "()Lcom/example/careful_allocator/carefulallocator/synthesis/LatencyObjective;"⟩ : MethodName)) (z := (⟨"com/example/careful_allocator/carefulallocator/synthesis/LatencyObjective", "tieBreaker", "()Lcom/example/careful_allocator/carefulallocator/synthesis/LatencyObjective;"⟩ : MethodName)) hown (mvT hZ (hw _ (List.mem_of_getElem? (i := 5) rfl))) (mvT hZ (hw _ (List.mem_of_getElem? (i := 6) rfl))) (notFace_of_selects (args := #[]) (mvT hZ (hw _ (List.mem_of_getElem? (i := 8) rfl)))) (mvT hZ (hw _ (List.mem_of_getElem? (i := 8) rfl))) (mvT hZ (hw _ (List.mem_of_getElem? (i := 7) rfl))) (by decide) (backOf (W := 0) (own_rm1 l Z a0 hw [] bB bA bB bA h0 n0 Z0 S_A S_B (if_neg hne')) hZ (hw _ (List.mem_of_getElem? (i := 9) rfl)) (hw _ (List.mem_of_getElem? (i := 1) rfl)) (by decide) (by decide)) q8a q8c (g := (mkF m 41 #[.val (.int p0), .val (.int (0 : Int32)), .val (.ref bB), .val (.ref bA), .unset, .unset] [(.ref bB)])) rfl (by rw [hml]; rfl) (Steps.refl _) (argsL := []) (rest := []) (lenOf own_pd0 rfl) rfl (by show 2 * 0 + _ ≤ _; exact Nat.le_of_eq rfl) (hb hby at_41) (fun _ _ => ⟨rfl, e7, (by decide : 0 + 0 ≤ _), (by decide : 0 + 0 ≤ _)⟩)
    dsimp only [Pt.U, Pt.locs, Pt.cells, Pt.slots] at X8 l8 y8 z8 st8 hQ8
    subst l8 y8 z8
    obtain ⟨rfl, N8q, e8⟩ := hQ8
    have N8 := Fr.app N0 N8q
    obtain ⟨cq9, kq9, q9a, q9b, q9c⟩ := isOf hZ e8 E_A
    obtain ⟨_, _, ⟨T9, L9, k9, n9⟩, -, X9, ⟨Lc9, hQ9, l9, y9, z9⟩, st9⟩ := X8.virtualBack hx (y := (⟨"com/example/careful_allocator/carefulallocator/synthesis/LatencyObjective", "tieBreaker", "()Lcom/example/careful_allocator/carefulallocator/synthesis/LatencyObjective;"⟩ : MethodName)) (z := (⟨"com/example/careful_allocator/carefulallocator/synthesis/LatencyObjective", "tieBreaker", "()Lcom/example/careful_allocator/carefulallocator/synthesis/LatencyObjective;"⟩ : MethodName)) hown (mvT hZ (hw _ (List.mem_of_getElem? (i := 5) rfl))) (mvT hZ (hw _ (List.mem_of_getElem? (i := 6) rfl))) (notFace_of_selects (args := #[]) (mvT hZ (hw _ (List.mem_of_getElem? (i := 8) rfl)))) (mvT hZ (hw _ (List.mem_of_getElem? (i := 8) rfl))) (mvT hZ (hw _ (List.mem_of_getElem? (i := 7) rfl))) (by decide) (backOf (W := 0) (own_rm1 l Z a0 hw [] bA bA bB bB h0 n0 Z0 S_A S_B (if_pos rfl)) hZ (hw _ (List.mem_of_getElem? (i := 9) rfl)) (hw _ (List.mem_of_getElem? (i := 1) rfl)) (by decide) (by decide)) q9a q9c (g := (mkF m 48 #[.val (.int p0), .val (.int (0 : Int32)), .val (.ref bB), .val (.ref bA), .val (.ref bA), .unset] [(.ref bA)])) rfl (by rw [hml]; rfl) (Steps.refl _) (argsL := []) (rest := []) (lenOf own_pd0 rfl) rfl (by show 2 * 0 + _ ≤ _; exact Nat.le_of_eq rfl) (hb hby at_48) (fun _ _ => ⟨rfl, e8, (by decide : 0 + 0 ≤ _), (by decide : 0 + 0 ≤ _)⟩)
    dsimp only [Pt.U, Pt.locs, Pt.cells, Pt.slots] at X9 l9 y9 z9 st9 hQ9
    subst l9 y9 z9
    obtain ⟨rfl, N9q, e9⟩ := hQ9
    have N9 := Fr.app N8 N9q
    obtain ⟨fs, hr, hrun, hended, hW, hsame⟩ := X9.leave (v := some (.int (1 : Int32))) (fun h => by rw [Bd.returns] at h; cases h)
    refine ⟨_, _, ?_, hrun, hended, _, _, rfl, ?_, ⟨_, rfl⟩, hW, hsame.mono (by decide) (by decide)⟩
    · show Steps p.tables e below (s₁.setTop (mkF m 3 #[.val (.int p0), .unset, .unset, .unset, .unset, .unset] [(.int (p0 &&& (1 : Int32)))])) _
      refine XS.ifYes X0.here hx rfl (pc0 := 3) (pc' := 10) rfl (hb hby at_3) rfl ((if0 _ _).trans (feq hc3_1).2) (by decide) (by decide) ?_
      show Steps p.tables e below (s₁.setTop (mkF m 10 #[.val (.int p0), .unset, .unset, .unset, .unset, .unset] [])) _
      refine XS.iconst X0.here hx rfl (hb hby at_10) ?_
      show Steps p.tables e below (s₁.setTop (mkF m 11 #[.val (.int p0), .unset, .unset, .unset, .unset, .unset] [(.int (0 : Int32))])) _
      refine XS.istoreN X0.here hx rfl (hb hby at_11) rfl (l' := #[.val (.int p0), .val (.int (0 : Int32)), .unset, .unset, .unset, .unset]) rfl ?_
      show Steps p.tables e below (s₁.setTop (mkF m 12 #[.val (.int p0), .val (.int (0 : Int32)), .unset, .unset, .unset, .unset] [])) _
      refine XS.iloadN X0.here hx rfl (hb hby at_12) rfl ?_
      show Steps p.tables e below (s₁.setTop (mkF m 13 #[.val (.int p0), .val (.int (0 : Int32)), .unset, .unset, .unset, .unset] [(.int (0 : Int32))])) _
      refine XS.ifYes X0.here hx rfl (pc0 := 13) (pc' := 22) rfl (hb hby at_13) rfl ((if0 _ _).trans (teq ((by decide) : (0 : Int32) = (0 : Int32))).1) (by decide) (by decide) ?_
      show Steps p.tables e below (s₁.setTop (mkF m 22 #[.val (.int p0), .val (.int (0 : Int32)), .unset, .unset, .unset, .unset] [])) _
      refine st6 _ ?_
      show Steps p.tables e below (T6.setTop (mkF m 25 #[.val (.int p0), .val (.int (0 : Int32)), .unset, .unset, .unset, .unset] [(.ref bB)])) _
      refine XS.astoreN X6.here hx rfl (hb hby at_25) rfl rfl (l' := #[.val (.int p0), .val (.int (0 : Int32)), .val (.ref bB), .unset, .unset, .unset]) rfl ?_
      show Steps p.tables e below (T6.setTop (mkF m 26 #[.val (.int p0), .val (.int (0 : Int32)), .val (.ref bB), .unset, .unset, .unset] [])) _
      refine XS.iloadN X6.here hx rfl (hb hby at_26) rfl ?_
      show Steps p.tables e below (T6.setTop (mkF m 27 #[.val (.int p0), .val (.int (0 : Int32)), .val (.ref bB), .unset, .unset, .unset] [(.int (0 : Int32))])) _
      refine XS.ifYes X6.here hx rfl (pc0 := 27) (pc' := 36) rfl (hb hby at_27) rfl ((if0 _ _).trans (teq ((by decide) : (0 : Int32) = (0 : Int32))).1) (by decide) (by decide) ?_
      show Steps p.tables e below (T6.setTop (mkF m 36 #[.val (.int p0), .val (.int (0 : Int32)), .val (.ref bB), .unset, .unset, .unset] [])) _
      refine st7 _ ?_
      show Steps p.tables e below (T7.setTop (mkF m 39 #[.val (.int p0), .val (.int (0 : Int32)), .val (.ref bB), .unset, .unset, .unset] [(.ref bA)])) _
      refine XS.astoreN X7.here hx rfl (hb hby at_39) rfl rfl (l' := #[.val (.int p0), .val (.int (0 : Int32)), .val (.ref bB), .val (.ref bA), .unset, .unset]) rfl ?_
      show Steps p.tables e below (T7.setTop (mkF m 40 #[.val (.int p0), .val (.int (0 : Int32)), .val (.ref bB), .val (.ref bA), .unset, .unset] [])) _
      refine XS.aloadN X7.here hx rfl (hb hby at_40) rfl rfl ?_
      show Steps p.tables e below (T7.setTop (mkF m 41 #[.val (.int p0), .val (.int (0 : Int32)), .val (.ref bB), .val (.ref bA), .unset, .unset] [(.ref bB)])) _
      refine st8.trans ?_
      show Steps p.tables e below (T8.setTop (mkF m 44 #[.val (.int p0), .val (.int (0 : Int32)), .val (.ref bB), .val (.ref bA), .unset, .unset] [(.ref bA)])) _
      refine XS.astore X8.here hx rfl (hb hby at_44) rfl rfl (l' := #[.val (.int p0), .val (.int (0 : Int32)), .val (.ref bB), .val (.ref bA), .val (.ref bA), .unset]) rfl ?_
      show Steps p.tables e below (T8.setTop (mkF m 46 #[.val (.int p0), .val (.int (0 : Int32)), .val (.ref bB), .val (.ref bA), .val (.ref bA), .unset] [])) _
      refine XS.aload X8.here hx rfl (hb hby at_46) rfl rfl ?_
      show Steps p.tables e below (T8.setTop (mkF m 48 #[.val (.int p0), .val (.int (0 : Int32)), .val (.ref bB), .val (.ref bA), .val (.ref bA), .unset] [(.ref bA)])) _
      refine st9.trans ?_
      show Steps p.tables e below (T9.setTop (mkF m 51 #[.val (.int p0), .val (.int (0 : Int32)), .val (.ref bB), .val (.ref bA), .val (.ref bA), .unset] [(.ref bB)])) _
      refine XS.astore X9.here hx rfl (hb hby at_51) rfl rfl (l' := #[.val (.int p0), .val (.int (0 : Int32)), .val (.ref bB), .val (.ref bA), .val (.ref bA), .val (.ref bB)]) rfl ?_
      show Steps p.tables e below (T9.setTop (mkF m 53 #[.val (.int p0), .val (.int (0 : Int32)), .val (.ref bB), .val (.ref bA), .val (.ref bA), .val (.ref bB)] [])) _
      refine XS.aload X9.here hx rfl (hb hby at_53) rfl rfl ?_
      show Steps p.tables e below (T9.setTop (mkF m 55 #[.val (.int p0), .val (.int (0 : Int32)), .val (.ref bB), .val (.ref bA), .val (.ref bA), .val (.ref bB)] [(.ref bA)])) _
      refine XS.aloadN X9.here hx rfl (hb hby at_55) rfl rfl ?_
      show Steps p.tables e below (T9.setTop (mkF m 56 #[.val (.int p0), .val (.int (0 : Int32)), .val (.ref bB), .val (.ref bA), .val (.ref bA), .val (.ref bB)] [(.ref bA), (.ref bA)])) _
      refine Jvm.RoadKit.acmp (g := (mkF m 56 #[.val (.int p0), .val (.int (0 : Int32)), .val (.ref bB), .val (.ref bA), .val (.ref bA), .val (.ref bB)] [(.ref bA), (.ref bA)])) X9 hx rfl rfl rfl (pc0 := 56) (pc' := 59) (same := true) rfl (hb hby at_56) rfl (decide_eq_true rfl) (by decide) (by decide) ?_
      show Steps p.tables e below (T9.setTop (mkF m 59 #[.val (.int p0), .val (.int (0 : Int32)), .val (.ref bB), .val (.ref bA), .val (.ref bA), .val (.ref bB)] [])) _
      refine XS.aload X9.here hx rfl (hb hby at_59) rfl rfl ?_
      show Steps p.tables e below (T9.setTop (mkF m 61 #[.val (.int p0), .val (.int (0 : Int32)), .val (.ref bB), .val (.ref bA), .val (.ref bA), .val (.ref bB)] [(.ref bA)])) _
      refine XS.aloadN X9.here hx rfl (hb hby at_61) rfl rfl ?_
      show Steps p.tables e below (T9.setTop (mkF m 62 #[.val (.int p0), .val (.int (0 : Int32)), .val (.ref bB), .val (.ref bA), .val (.ref bA), .val (.ref bB)] [(.ref bB), (.ref bA)])) _
      refine Jvm.RoadKit.acmp (g := (mkF m 62 #[.val (.int p0), .val (.int (0 : Int32)), .val (.ref bB), .val (.ref bA), .val (.ref bA), .val (.ref bB)] [(.ref bB), (.ref bA)])) X9 hx rfl rfl rfl (pc0 := 62) (pc' := 65) (same := false) rfl (hb hby at_62) rfl (decide_eq_false fun q => (hne : ¬ (bA = bB)) (Value.ref.inj q)) (by decide) (by decide) ?_
      show Steps p.tables e below (T9.setTop (mkF m 65 #[.val (.int p0), .val (.int (0 : Int32)), .val (.ref bB), .val (.ref bA), .val (.ref bA), .val (.ref bB)] [])) _
      refine XS.aload X9.here hx rfl (hb hby at_65) rfl rfl ?_
      show Steps p.tables e below (T9.setTop (mkF m 67 #[.val (.int p0), .val (.int (0 : Int32)), .val (.ref bB), .val (.ref bA), .val (.ref bA), .val (.ref bB)] [(.ref bB)])) _
      refine XS.aloadN X9.here hx rfl (hb hby at_67) rfl rfl ?_
      show Steps p.tables e below (T9.setTop (mkF m 68 #[.val (.int p0), .val (.int (0 : Int32)), .val (.ref bB), .val (.ref bA), .val (.ref bA), .val (.ref bB)] [(.ref bB), (.ref bB)])) _
      refine Jvm.RoadKit.acmp (g := (mkF m 68 #[.val (.int p0), .val (.int (0 : Int32)), .val (.ref bB), .val (.ref bA), .val (.ref bA), .val (.ref bB)] [(.ref bB), (.ref bB)])) X9 hx rfl rfl rfl (pc0 := 68) (pc' := 71) (same := true) rfl (hb hby at_68) rfl (decide_eq_true rfl) (by decide) (by decide) ?_
      show Steps p.tables e below (T9.setTop (mkF m 71 #[.val (.int p0), .val (.int (0 : Int32)), .val (.ref bB), .val (.ref bA), .val (.ref bA), .val (.ref bB)] [])) _
      refine XS.iconst X9.here hx rfl (hb hby at_71) ?_
      show Steps p.tables e below (T9.setTop (mkF m 72 #[.val (.int p0), .val (.int (0 : Int32)), .val (.ref bB), .val (.ref bA), .val (.ref bA), .val (.ref bB)] [(.int (1 : Int32))])) _
      refine XS.goto X9.here hx rfl (pc0 := 72) (pc' := 76) rfl (hb hby at_72) (by decide) (by decide) ?_
      show Steps p.tables e below (T9.setTop (mkF m 76 #[.val (.int p0), .val (.int (0 : Int32)), .val (.ref bB), .val (.ref bA), .val (.ref bA), .val (.ref bB)] [(.int (1 : Int32))])) _
      exact retN X9 hx (t := .boolean) Bd.returns (by simp) (hb hby at_76) hr
    · show own_Q0 n0 _ T9.heap _
      rw [e9]
      exact ⟨rfl, N9⟩
set_option maxRecDepth 65536 in
set_option maxHeartbeats 40000000 in
theorem comes_1 {Post : Tables → Env → Array Value → State → Outcome → State → Prop} (hpost : ∀ tb e args s v u, (limb_1_1.after args s (.returned v) u = true ∧ limb_1_2.after args s (.returned v) u = true ∧ True) → FrameEnd s (.returned v) u (Jvm.fieldLocs frame_1_writes args s ++ Jvm.arrayLocs frame_1_arrays args s ++ Jvm.staticLocs frame_1_statics s) 0 0 → Post tb e args s (.returned v) u) :
    ArmFor flags0 classFile x code maxLocals ret World_1 tables_1 room_1 Calls_1 rest_1 Pre_1 Post := by
  intro l hfl _ _ p e ha hc hk s m args below hf hA hF happ hP
  obtain ⟨hcalls, hrest, hpre⟩ := hP
  obtain ⟨-, -, -, hnamed, -, -, -, hat⟩ := (Spec.applies_iff hf).mp happ
  obtain ⟨hg, hn⟩ := and_e (Cond.before_iff.mp (show (Jvm.Cond.and given_1 narrow_1).before args s = true from hpre))
  obtain ⟨gc0, gr0⟩ := and_e hg
  obtain ⟨w0, rfl⟩ : ∃ w0 : Value, args = #[w0] := by
    have hs : args.size = 1 := by simpa [Cond.value, given_1] using gc0
    obtain ⟨L⟩ := args
    match L, hs with
    | [w0], _ => exact ⟨w0, rfl⟩
  have hw := fun d (hd : d ∈ tables_1) => atoms_spec (ws := Jvm.Cond.code x code maxLocals ret :: tables_1) hat d (List.mem_cons_of_mem _ hd)
  obtain ⟨i0, ei0⟩ := is_v gr0
  obtain rfl : w0 = (.int i0) := Option.some.inj ei0
  obtain ⟨na0, nb0⟩ := and_e hn
  obtain ⟨na1, nb1⟩ := and_e nb0
  obtain ⟨na2, nb2⟩ := and_e nb1
  obtain ⟨ad_SUM_LATENCY, ev_SUM_LATENCY⟩ := exa_v na0
  have E_SUM_LATENCY := Exa.start ev_SUM_LATENCY na0
  have S_SUM_LATENCY := Sta.start ev_SUM_LATENCY (Or.inr ⟨(hw _ (List.mem_of_getElem? (i := 1) rfl)), (hw _ (List.mem_of_getElem? (i := 2) rfl))⟩)
  obtain ⟨ad_MIN_SLACK, ev_MIN_SLACK⟩ := exa_v na1
  have E_MIN_SLACK := Exa.start ev_MIN_SLACK na1
  have S_MIN_SLACK := Sta.start ev_MIN_SLACK (Or.inr ⟨(hw _ (List.mem_of_getElem? (i := 1) rfl)), (hw _ (List.mem_of_getElem? (i := 4) rfl))⟩)
  have F_MIN_SLACK_ordinal := own_fld na2 ev_MIN_SLACK
  have F_SUM_LATENCY_ordinal := own_fld nb2 ev_SUM_LATENCY
  have hne := own_ne F_SUM_LATENCY_ordinal F_MIN_SLACK_ordinal (by decide)
  obtain ⟨n, o, h1, h2, h3, _, L, rfl, ⟨rfl, N⟩, hq⟩ := own_rm0 l s _ hw tables_1 i0 ad_SUM_LATENCY ad_MIN_SLACK s.heap s.heap.size (Nat.le_refl _) S_SUM_LATENCY S_MIN_SLACK E_SUM_LATENCY E_MIN_SLACK hne (fun q => hne q.symm) p e ha hc hk s m _ below hf ((Spec.applies_iff_loose hf).mp happ).1 ⟨rfl, State.Warmed39.refl s, rfl⟩ trivial
  refine ⟨n, _, h1, h2, h3, hpost _ _ _ _ _ _ ⟨Cond.after_iff.mpr rfl, Cond.after_iff.mpr (eq_i res_at (Term.int_eval (1)) rfl), trivial⟩ ⟨hq.1, hq.2.1, (hq.2.2.sift fun y hy => Or.inr (N y hy)).mono (by decide) (by decide)⟩⟩
theorem main_1_1 : Claimed_1_1 := comes_1 fun _ _ _ _ _ _ h hF => ⟨h.1, hF⟩
theorem main_1_2 : Claimed_1_2 := comes_1 fun _ _ _ _ _ _ h hF => ⟨h.2.1, hF⟩
end Jvm.Pilot.@@N@@
namespace Jvm.Pilot.@@N@@
open Jvm Jvm.ClassFile Sem Op Lib Jvm.Free Jvm.Stand Jvm.Pilot.@@N@@.Jvm.D
/-! MADE BY PROGRAM (witnessworld.py) out of the Statement's table words and the real class files: 13 classes; the members and pool entries that the words name. The judged class is class 1, her method 1. -/
namespace start1
open Jvm.ClassFile
def u (s : String) : CpInfo := .utf8 (stringToUtf16 s)
/-- a pool by its gaps: so many unusable entries, then the entry; so many at the end -/
def gap : Nat → List CpInfo → List CpInfo
  | 0, r => r
  | n + 1, r => .unusable :: gap n r
def poolList (es : List (Nat × CpInfo)) (last : Nat) : List CpInfo := es.foldr (fun e r => gap e.1 (e.2 :: r)) (gap last [])
def pool (es : List (Nat × CpInfo)) (last : Nat) : Array CpInfo := ⟨poolList es last⟩
def fileOf (pool : Array CpInfo) (this : Nat) (attrs : Array Attribute := #[]) (ms : Array MethodInfo := #[]) (fl : Nat := 33) (sup : Nat := 0) (ifs : Array Nat := #[]) (fds : Array FieldInfo := #[]) : ClassFile where
  minorVersion := 0
  majorVersion := 65
  constantPool := pool
  accessFlags := fl
  thisClass := this
  superClass := sup
  interfaces := ifs
  fields := fds
  methods := ms
  attributes := attrs
def plain (name : String) (sup : Option ClassId) : Class where
  name := name
  kind := .ordinary
  loader := none
  accessFlags := 33
  super := sup
  interfaces := #[]
  cf := none
  fields := #[]
  methods := #[]
  instanceTypes := #[]
  staticTypes := #[]
  resolved := #[]
  callSites := []
  init := .initialized
  statics := none
  mirror := none

def pool0 : Array CpInfo := pool [(5, u "<init>"), (0, u "()V"), (1, .class_ 10), (1, u "java/lang/Object")] 113

def k0m0 : Method := { name := "<init>", desc := "()V", sig := { parameters := [], returnType := none }, accessFlags := 1, code := none }
/-- java/lang/Object -/
def k0 : Class := { plain "java/lang/Object" none with
  accessFlags := 33
  interfaces := #[]
  cf := some (fileOf pool0 8 #[] #[{ accessFlags := 1, nameIndex := 5, descriptorIndex := 6, attributes := #[] }] 33 0 #[] #[])
  fields := #[]
  methods := #[k0m0]
  instanceTypes := #[]
  staticTypes := #[]
  resolved := Array.replicate 124 none
  statics := none }

def pool1 : Array CpInfo := pool [(2, .class_ 4), (1, u "java/lang/Object"), (0, u "<init>"), (0, u "()V"), (0, .fieldref 8 9), (0, .class_ 10), (0, .nameAndType 11 12), (0, u "com/example/careful_allocator/carefulallocator/synthesis/LatencyObjective"), (0, u "SUM_LATENCY"), (0, u "Lcom/example/careful_allocator/carefulallocator/synthesis/LatencyObjective;"), (0, .fieldref 8 14), (0, .nameAndType 15 12), (0, u "MIN_SLACK"), (0, .methodref 8 17), (0, .nameAndType 18 19), (0, u "tieBreaker"), (0, u "()Lcom/example/careful_allocator/carefulallocator/synthesis/LatencyObjective;"), (0, .class_ 21), (0, u "com/example/careful_allocator/carefulallocator/synthesis/LatencyObjectiveTieBreakerPinLaw"), (2, u "law"), (0, u "(I)Z")] 3

def k1m0 : Method := { name := "<init>", desc := "()V", sig := { parameters := [], returnType := none }, accessFlags := 2, code := none }
def k1c1 : Code := { maxStack := 2, maxLocals := 6, code := code, exceptionTable := #[], attributes := #[] }
def k1m1 : Method := { name := "law", desc := "(I)Z", sig := { parameters := [.int], returnType := some .boolean }, accessFlags := 9, code := some k1c1 }
/-- com/example/careful_allocator/carefulallocator/synthesis/LatencyObjectiveTieBreakerPinLaw -/
def k1 : Class := { plain "com/example/careful_allocator/carefulallocator/synthesis/LatencyObjectiveTieBreakerPinLaw" (some 0) with
  accessFlags := 49
  interfaces := #[]
  cf := some (fileOf pool1 20 #[] #[{ accessFlags := 2, nameIndex := 5, descriptorIndex := 6, attributes := #[] }, { accessFlags := 9, nameIndex := 24, descriptorIndex := 25, attributes := #[] }] 49 2 #[] #[])
  fields := #[]
  methods := #[k1m0, k1m1]
  instanceTypes := #[]
  staticTypes := #[]
  resolved := Array.replicate 29 none
  statics := none }

def pool2 : Array CpInfo := pool [(1, .class_ 2), (0, u "java/lang/constant/Constable"), (0, .class_ 4), (0, u "java/lang/Object")] 6

/-- java/lang/constant/Constable -/
def k2 : Class := { plain "java/lang/constant/Constable" (some 0) with
  accessFlags := 1537
  interfaces := #[]
  cf := some (fileOf pool2 1 #[] #[] 1537 3 #[] #[])
  fields := #[]
  methods := #[]
  instanceTypes := #[]
  staticTypes := #[]
  resolved := Array.replicate 11 none
  statics := none }

def pool3 : Array CpInfo := pool [(1, .class_ 2), (0, u "java/lang/Comparable"), (0, .class_ 4), (0, u "java/lang/Object")] 7

/-- java/lang/Comparable -/
def k3 : Class := { plain "java/lang/Comparable" (some 0) with
  accessFlags := 1537
  interfaces := #[]
  cf := some (fileOf pool3 1 #[] #[] 1537 3 #[] #[])
  fields := #[]
  methods := #[]
  instanceTypes := #[]
  staticTypes := #[]
  resolved := Array.replicate 12 none
  statics := none }

def pool4 : Array CpInfo := pool [(1, .class_ 2), (0, u "java/io/Serializable"), (0, .class_ 4), (0, u "java/lang/Object")] 2

/-- java/io/Serializable -/
def k4 : Class := { plain "java/io/Serializable" (some 0) with
  accessFlags := 1537
  interfaces := #[]
  cf := some (fileOf pool4 1 #[] #[] 1537 3 #[] #[])
  fields := #[]
  methods := #[]
  instanceTypes := #[]
  staticTypes := #[]
  resolved := Array.replicate 7 none
  statics := none }

def pool5 : Array CpInfo := pool [(2, .class_ 4), (1, u "java/lang/Enum"), (0, u "name"), (0, u "Ljava/lang/String;"), (2, u "ordinal"), (0, u "I"), (1, .class_ 14), (1, u "java/lang/Object"), (4, u "hash"), (86, .class_ 108), (1, u "java/lang/Enum$EnumDesc"), (2, .class_ 112), (0, u "java/lang/constant/Constable"), (0, .class_ 114), (0, u "java/lang/Comparable"), (0, .class_ 116), (0, u "java/io/Serializable")] 87

/-- java/lang/Enum -/
def k5 : Class := { plain "java/lang/Enum" (some 0) with
  accessFlags := 1057
  interfaces := #[2, 3, 4]
  cf := some (fileOf pool5 2 #[.nestMembers #[106]] #[] 1057 12 #[111, 113, 115] #[{ accessFlags := 18, nameIndex := 5, descriptorIndex := 6, attributes := #[] }, { accessFlags := 18, nameIndex := 9, descriptorIndex := 10, attributes := #[] }, { accessFlags := 2, nameIndex := 19, descriptorIndex := 10, attributes := #[] }])
  fields := #[{ name := "name", type := (.object "java/lang/String"), accessFlags := 18, slot := 0, constantValue := 0 }, { name := "ordinal", type := .int, accessFlags := 18, slot := 1, constantValue := 0 }, { name := "hash", type := .int, accessFlags := 2, slot := 2, constantValue := 0 }]
  methods := #[]
  instanceTypes := #[(.object "java/lang/String"), .int, .int]
  staticTypes := #[]
  resolved := Array.replicate 204 none
  statics := none }

def pool6 : Array CpInfo := pool [(1, .class_ 2), (0, u "com/example/careful_allocator/carefulallocator/synthesis/Objective"), (0, .class_ 4), (0, u "java/lang/Object")] 12

/-- com/example/careful_allocator/carefulallocator/synthesis/Objective -/
def k6 : Class := { plain "com/example/careful_allocator/carefulallocator/synthesis/Objective" (some 0) with
  accessFlags := 1537
  interfaces := #[]
  cf := some (fileOf pool6 1 #[] #[] 1537 3 #[] #[])
  fields := #[]
  methods := #[]
  instanceTypes := #[]
  staticTypes := #[]
  resolved := Array.replicate 17 none
  statics := none }

def pool7 : Array CpInfo := pool [(1, .class_ 2), (0, u "com/example/careful_allocator/carefulallocator/synthesis/LatencyObjective"), (0, .fieldref 1 4), (0, .nameAndType 5 6), (0, u "SUM_LATENCY"), (0, u "Lcom/example/careful_allocator/carefulallocator/synthesis/LatencyObjective;"), (0, .fieldref 1 8), (0, .nameAndType 9 6), (0, u "MIN_SLACK"), (2, u "$VALUES"), (0, u "[Lcom/example/careful_allocator/carefulallocator/synthesis/LatencyObjective;"), (6, .class_ 22), (1, u "java/lang/Enum"), (8, u "label"), (0, u "Ljava/lang/String;"), (128, u "tieBreaker"), (0, u "()Lcom/example/careful_allocator/carefulallocator/synthesis/LatencyObjective;"), (56, .class_ 220), (0, u "com/example/careful_allocator/carefulallocator/synthesis/Objective")] 102

def k7c0 : Code := { maxStack := 2, maxLocals := 1, code := prog_41_method_8_code, exceptionTable := #[], attributes := #[] }
def k7m0 : Method := { name := "tieBreaker", desc := "()Lcom/example/careful_allocator/carefulallocator/synthesis/LatencyObjective;", sig := { parameters := [], returnType := some (.object "com/example/careful_allocator/carefulallocator/synthesis/LatencyObjective") }, accessFlags := 1, code := some k7c0 }
/-- com/example/careful_allocator/carefulallocator/synthesis/LatencyObjective -/
def k7 : Class := { plain "com/example/careful_allocator/carefulallocator/synthesis/LatencyObjective" (some 5) with
  accessFlags := 16433
  interfaces := #[6]
  cf := some (fileOf pool7 1 #[] #[{ accessFlags := 1, nameIndex := 161, descriptorIndex := 162, attributes := #[] }] 16433 20 #[219] #[{ accessFlags := 16409, nameIndex := 5, descriptorIndex := 6, attributes := #[] }, { accessFlags := 16409, nameIndex := 9, descriptorIndex := 6, attributes := #[] }, { accessFlags := 18, nameIndex := 31, descriptorIndex := 32, attributes := #[] }, { accessFlags := 4122, nameIndex := 12, descriptorIndex := 13, attributes := #[] }])
  fields := #[{ name := "SUM_LATENCY", type := (.object "com/example/careful_allocator/carefulallocator/synthesis/LatencyObjective"), accessFlags := 16409, slot := 0, constantValue := 0 }, { name := "MIN_SLACK", type := (.object "com/example/careful_allocator/carefulallocator/synthesis/LatencyObjective"), accessFlags := 16409, slot := 1, constantValue := 0 }, { name := "label", type := (.object "java/lang/String"), accessFlags := 18, slot := 3, constantValue := 0 }, { name := "$VALUES", type := (.array (.object "com/example/careful_allocator/carefulallocator/synthesis/LatencyObjective")), accessFlags := 4122, slot := 2, constantValue := 0 }]
  methods := #[k7m0]
  instanceTypes := #[(.object "java/lang/String"), .int, .int, (.object "java/lang/String")]
  staticTypes := #[(.object "com/example/careful_allocator/carefulallocator/synthesis/LatencyObjective"), (.object "com/example/careful_allocator/carefulallocator/synthesis/LatencyObjective"), (.array (.object "com/example/careful_allocator/carefulallocator/synthesis/LatencyObjective"))]
  resolved := Array.replicate 323 none
  statics := some 0 }

def pool8 : Array CpInfo := pool [(1, u "java/lang/Cloneable"), (0, .class_ 1), (0, u "java/lang/Object"), (0, .class_ 3)] 3

/-- java/lang/Cloneable -/
def k8 : Class := { plain "java/lang/Cloneable" (some 0) with
  accessFlags := 1537
  interfaces := #[]
  cf := some (fileOf pool8 2 #[] #[] 1537 4 #[] #[])
  fields := #[]
  methods := #[]
  instanceTypes := #[]
  staticTypes := #[]
  resolved := Array.replicate 8 none
  statics := none }

/-- the primitive byte -/
def k9 : Class := { plain "byte" none with kind := .primitive 'B', accessFlags := 0x411 }
/-- [B -/
def k10 : Class := { plain "[B" (some 0) with kind := .array 9 .byte, interfaces := #[8, 4], accessFlags := 1041 }

/-- the primitive int -/
def k11 : Class := { plain "int" none with kind := .primitive 'I', accessFlags := 0x411 }
/-- [I -/
def k12 : Class := { plain "[I" (some 0) with kind := .array 11 .int, interfaces := #[8, 4], accessFlags := 1041 }

def heap : Heap := #[{ cls := 7, slots := #[.ref 1, .ref 2, .null], vm := .statics 7 },
  { cls := 7, slots := #[.null, .int 0, .int 0, .null], vm := .none },
  { cls := 7, slots := #[.null, .int 1, .int 0, .null], vm := .none }]
def classes : Array Class := #[k0, k1, k2, k3, k4, k5, k6, k7, k8, k9, k10, k11, k12]
def interned : List (Array UInt16 × Addr) := []
def slotsUsed : Nat := 11
def theMethod : MethodId := ⟨1, 1⟩
def args0 : Array Value := #[.int 5]
def aboutOver (below : List Frame) : State where
  vm := { classes := classes, interned := interned.toArray }
  heap := heap
  slotsUsed := slotsUsed
  threads := #[{ frames := .invoking theMethod args0 :: below }]
def below0 : List Frame := [.native { method := ⟨0, 0⟩, args := #[] }]
def about1 : State := aboutOver below0
def p0 : Program := .bare "" "" ""
def e0 : Env := launch0.env 0 0 0
theorem w_frames : about1.frames = Frame.invoking theMethod args0 :: below0 := rfl
set_option maxRecDepth 65536 in
theorem w_args : argsFit about1.vm theMethod args0 = true := by decide +kernel
set_option maxRecDepth 65536 in
theorem w_heap : heapFits about1 = true := by decide +kernel
set_option maxRecDepth 65536 in
theorem w_runnable : about1.curStatus? = some .runnable := by decide +kernel
set_option maxRecDepth 65536 in
theorem w_alone : about1.alone = true := by decide +kernel
set_option maxRecDepth 65536 in
theorem w_named : about1.methodNamed? x = some theMethod := by decide +kernel
set_option maxRecDepth 65536 in
theorem w_hears : about1.hears theMethod below0 = true := by decide +kernel
set_option maxRecDepth 65536 in
theorem w_ripe : about1.ripe theMethod args0 below0 = true := by decide +kernel
theorem w_running : about1.status = .running := rfl
set_option maxRecDepth 65536 in
theorem w_room : about1.hasRoom e0.platform room_1 = true :=
  launch0.hasRoom_least _ room_1 (by decide +kernel) (by decide +kernel) (by decide +kernel) (by decide +kernel) (by decide +kernel) (by decide +kernel)
theorem allAtoms_all (ts : List Jvm.Cond) (a : Array Jvm.Value) (st : Jvm.State) : (allAtoms ts).before a st = ts.all (fun c => c.before a st) := by
  induction ts with
  | nil => rfl
  | cons c t ih =>
    show (Jvm.Cond.and c (allAtoms t)).before a st = _
    rw [Jvm.Cond.before_and, ih, List.all_cons]
def words1 : List Jvm.Cond := Jvm.Cond.code x code maxLocals ret :: tables_1
/-- a 'code' word, met by the world's own term for the bytes: nothing is compared byte by byte -/
theorem code_word {y : MethodName} {bytes : ByteArray} {mx : Nat} {rt : Option FieldType} {a : Array Value} {s : State} {m : MethodId} {meth : Method} {c : Code} (h1 : s.methodNamed? y = some m) (h2 : s.vm.method? m = some meth) (h3 : meth.code = some c) (h4 : c.code = bytes)
    (h5 : (c.maxLocals == mx && c.exceptionTable.isEmpty && decide (c.maxStack ≤ mostOperands) && decide (meth.sig.returnType = rt) && !meth.locks && decide (parseMethodDescriptor y.desc = some meth.sig)) = true) : (Jvm.Cond.code y bytes mx rt).before a s = true := by
  simp only [Bool.and_eq_true, beq_iff_eq, Bool.not_eq_true', decide_eq_true_eq] at h5
  obtain ⟨⟨⟨⟨⟨g1, g2⟩, g3⟩, g4⟩, g5⟩, g6⟩ := h5
  simp [Cond.before, Cond.holds, Cond.value, h1, h2, h3, h4, g1, g2, g3, g4, g5, g6]
def isCode : Jvm.Cond → Bool
  | .code _ _ _ _ => true
  | _ => false
theorem all_split {L : List Jvm.Cond} {P : Jvm.Cond → Bool} (h1 : L.all (fun c => isCode c || P c) = true) (h2 : ∀ c ∈ L.filter isCode, P c = true) : L.all P = true := by
  refine List.all_eq_true.mpr fun c hc => ?_
  have h := List.all_eq_true.mp h1 c hc
  rcases Bool.eq_false_or_eq_true (isCode c) with hi | hi
  · exact h2 c (List.mem_filter.mpr ⟨hc, hi⟩)
  · simpa [hi] using h
set_option maxRecDepth 65536 in
theorem w_c0 : (Jvm.Cond.code x code maxLocals ret).before args0 about1 = true := code_word (m := ⟨1, 1⟩) (meth := k1m1) (c := k1c1) (by decide +kernel) rfl rfl rfl (by decide +kernel)
set_option maxRecDepth 65536 in
theorem w_c1 : (Jvm.Cond.code ({ cls := "com/example/careful_allocator/carefulallocator/synthesis/LatencyObjective", name := "tieBreaker", desc := "()Lcom/example/careful_allocator/carefulallocator/synthesis/LatencyObjective;" } : Jvm.MethodName) prog_41_method_8_code (1 : Nat) (Option.some (Jvm.ClassFile.FieldType.object "com/example/careful_allocator/carefulallocator/synthesis/LatencyObjective"))).before args0 about1 = true := code_word (m := ⟨7, 0⟩) (meth := k7m0) (c := k7c0) (by decide +kernel) rfl rfl rfl (by decide +kernel)
def codes1 : List Jvm.Cond := [Jvm.Cond.code x code maxLocals ret, Jvm.Cond.code ({ cls := "com/example/careful_allocator/carefulallocator/synthesis/LatencyObjective", name := "tieBreaker", desc := "()Lcom/example/careful_allocator/carefulallocator/synthesis/LatencyObjective;" } : Jvm.MethodName) prog_41_method_8_code (1 : Nat) (Option.some (Jvm.ClassFile.FieldType.object "com/example/careful_allocator/carefulallocator/synthesis/LatencyObjective"))]
set_option maxRecDepth 65536 in
theorem codes_eq : words1.filter isCode = codes1 := rfl
theorem w_codes : ∀ c ∈ words1.filter isCode, c.before args0 about1 = true := by
  rw [codes_eq]
  intro c hc
  simp only [codes1, List.mem_cons, List.not_mem_nil, or_false] at hc
  rcases hc with rfl | rfl
  · exact w_c0
  · exact w_c1
set_option maxRecDepth 65536 in
theorem w_t1 : words1.all (fun c => isCode c || c.before args0 about1) = true := by decide +kernel
theorem w_tables : (allAtoms (Jvm.Cond.code x code maxLocals ret :: tables_1)).before args0 about1 = true := by
  rw [allAtoms_all]
  show words1.all (fun c => c.before args0 about1) = true
  refine all_split ?_ w_codes
  rw [w_t1]
set_option maxRecDepth 65536 in
theorem w_case : (Jvm.Cond.and given_1 narrow_1).before args0 about1 = true := by decide +kernel
theorem w_applies : (headSpec (Jvm.Cond.code x code maxLocals ret :: tables_1) room_1).applies x e0.platform about1 = true :=
  (Spec.applies_iff w_frames).mpr ⟨w_running, w_runnable, w_alone, w_named, w_hears, w_ripe, w_room, w_tables⟩
theorem atStart : AtStart classFile x code maxLocals ret World_1 tables_1 room_1 Calls_1 rest_1 Pre_1 launch0 p0 e0 about1 theMethod args0 below0 :=
  ⟨lists_1, trivial, launch0.admits_env _ _ _, launch0.least_env, fairChoices_fair.cas, fairChoices_fair.clock, w_frames, w_args, w_heap, w_applies, trivial, trivial, w_case⟩
end start1
theorem witness_1 : WitnessClaimed_1 := ⟨start1.p0, start1.e0, start1.about1, start1.theMethod, start1.args0, start1.below0, start1.atStart⟩
end Jvm.Pilot.@@N@@
