import JvmDerived
import JvmDerived.Pilot.@@N@@Statement
import JvmDerived.Pilot.@@N@@Code
set_option linter.unusedVariables false
set_option linter.unusedSimpArgs false
@@BLOCK:NumsL.lean.txt@@
namespace Jvm.RoadKit
open Sem ClassFile Op Lib Jvm.Stand Jvm.Free Jvm.LawKit
section New
variable {p : Program} {l : Launch} {e : Env} {R : Room} {s : State} {m : MethodId} {args : Array Value} {below : List Frame} {meth : Method} {c : Code} {T : State} {locs : List Loc} {cells slots : Nat}
theorem retI (X : Stand p l e R s m args below meth c T locs cells slots) (hx : p.tables.exec = Jvm.exec) {pc : Nat} {Ls : Array Slot} {z : Int32} {rest : List Value} (hret : meth.sig.returnType = some .int) (hd : decode c.code pc = .ok (.ireturn, 1)) {fs : List Frame}
    (hl : ∀ (f : JFrame) (acts : List Action), f.method = m → f.locked = none → f.entered = [] → (doReturn e (T.setTop f) acts (some (.int z))).1 = T.setFrames fs) : Steps p.tables e below (T.setTop (mkF m pc Ls (.int z :: rest))) (T.setFrames fs) := by
  have hm' : T.vm.method? m = some meth := X.method'
  have hn : narrow .int (.int z) = .int z := rfl
  show Steps p.tables e below (T.setTop { method := m, pc := pc, locals := Ls, stack := _ :: rest, locked := none }) _
  jvm_step X.here [X.here.top, hx, hd, hm', hret, hn]
  first | (intro acts; rw [hl _ acts rfl rfl rfl]) | rw [hl _ _ rfl rfl rfl]
  exact Steps.refl _
end New
end Jvm.RoadKit
namespace Jvm.Pilot.@@N@@
open Jvm Jvm.ClassFile Sem Op Lib Jvm.Free Jvm.Stand Jvm.LawKit Jvm.RoadKit Bundle Jvm.Pilot.@@N@@.Jvm.D
/-- a step ahead of a run that ends -/
theorem own_go {p : Program} {e : Env} {below : List Frame} {P : State → Outcome → Prop} {a b : State} (h : ∀ t, Steps p.tables e below b t → Steps p.tables e below a t) (k : ∃ s₂ o, Steps p.tables e below b s₂ ∧ P s₂ o) : ∃ s₂ o, Steps p.tables e below a s₂ ∧ P s₂ o := by
  obtain ⟨t, o, h1, h2⟩ := k; exact ⟨t, o, h t h1, h2⟩
theorem own_fld {args : Array Value} {s : State} {t : Term} {C n d : String} {k : Int32} {x : Addr} (h : (Jvm.Cond.eq (Jvm.Term.field t C n d) (Jvm.Term.int k)).value args s none s [] = some true) (e : t.eval args s none [] s = some (.ref x)) : Fld s s.heap x C n d (.int k) := by
  obtain ⟨u, w, h1, h2, k1, k2⟩ := cmp_v (Or.inl h)
  have hwk : w = .int k := Option.some.inj (h2.symm.trans (Term.int_eval k))
  subst hwk
  obtain ⟨z, rfl⟩ : ∃ z, u = .int z := k2
  have q : (Jvm.Cond.eq (Jvm.Term.field t C n d) (Jvm.Term.int k)).value args s none s [] = some (decide (z = k)) := by simp [Cond.value, h1, h2]
  have hz : z = k := gotT q h
  rw [fld_at e, hz] at h1
  exact Fld.start h1
theorem own_ne {Z : State} {h : Heap} {a b : Addr} {C n d : String} {j k : Int32} (F : Fld Z h a C n d (.int j)) (G : Fld Z h b C n d (.int k)) (hjk : ¬ j = k) : ¬ a = b := by
  rintro rfl
  obtain ⟨c1, f1, k1, i1, g1, p1, p2, -, -, -, -, p7⟩ := F
  obtain ⟨c2, f2, k2, i2, g2, q1, q2, -, -, -, -, q7⟩ := G
  cases p1.symm.trans q1
  cases p2.symm.trans q2
  exact hjk (Value.int.inj (Option.some.inj (p7.symm.trans q7)))
theorem own_rem (x y : Int32) : (x - (x / y) * y).toInt = x.toInt.tmod y.toInt := by
  have a := (x % y).toInt_lt; have b := (x % y).le_toInt
  rw [Int32.toInt_mod] at a b
  rw [Int32.toInt_sub, Int32.toInt_mul, Int32.toInt_div, ← Int.sub_bmod_bmod, ← Int.bmod_mul_bmod]
  simp only [Int.bmod_bmod, Int.bmod_mul_bmod, Int.sub_bmod_bmod]
  have h : x.toInt - x.toInt.tdiv y.toInt * y.toInt = x.toInt.tmod y.toInt := by
    have := Int.mul_tdiv_add_tmod x.toInt y.toInt
    rw [Int.mul_comm]; omega
  rw [h]
  exact Int.bmod_eq_of_le (by omega) (by omega)
/-- x % k for 0 <= x and a small k > 0 -/
theorem own_rem_pos {x y : Int32} (hx : 0 ≤ x.toInt) : (x - (x / y) * y).toInt = x.toInt % y.toInt := by rw [own_rem, Int.tmod_eq_emod_of_nonneg hx]
theorem own_mask31 (x : Int32) : 0 ≤ (x &&& (2147483647 : Int32)).toInt := by
  have e1 : (x &&& (2147483647 : Int32)).toInt = x.toInt % 2 ^ 31 := Jvm.Kit.i32_mask x 2147483647 (k := 31) (by decide) (by decide)
  rw [e1]; exact Int.emod_nonneg _ (by decide)
theorem own_mod9 (x : Int32) : ((x &&& (2147483647 : Int32)) - ((x &&& (2147483647 : Int32)) / (9 : Int32)) * (9 : Int32)) = (0 : Int32) ∨ ((x &&& (2147483647 : Int32)) - ((x &&& (2147483647 : Int32)) / (9 : Int32)) * (9 : Int32)) = (1 : Int32) ∨ ((x &&& (2147483647 : Int32)) - ((x &&& (2147483647 : Int32)) / (9 : Int32)) * (9 : Int32)) = (2 : Int32) ∨ ((x &&& (2147483647 : Int32)) - ((x &&& (2147483647 : Int32)) / (9 : Int32)) * (9 : Int32)) = (3 : Int32) ∨ ((x &&& (2147483647 : Int32)) - ((x &&& (2147483647 : Int32)) / (9 : Int32)) * (9 : Int32)) = (4 : Int32) ∨ ((x &&& (2147483647 : Int32)) - ((x &&& (2147483647 : Int32)) / (9 : Int32)) * (9 : Int32)) = (5 : Int32) ∨ ((x &&& (2147483647 : Int32)) - ((x &&& (2147483647 : Int32)) / (9 : Int32)) * (9 : Int32)) = (6 : Int32) ∨ ((x &&& (2147483647 : Int32)) - ((x &&& (2147483647 : Int32)) / (9 : Int32)) * (9 : Int32)) = (7 : Int32) ∨ ((x &&& (2147483647 : Int32)) - ((x &&& (2147483647 : Int32)) / (9 : Int32)) * (9 : Int32)) = (8 : Int32) := by
  have h1 := own_mask31 x
  have e0 : (9 : Int32).toInt = 9 := rfl
  have h2 := own_rem_pos (y := (9 : Int32)) h1
  rw [e0] at h2
  have l0 : (0 : Int32).toInt = 0 := rfl
  have l1 : (1 : Int32).toInt = 1 := rfl
  have l2 : (2 : Int32).toInt = 2 := rfl
  have l3 : (3 : Int32).toInt = 3 := rfl
  have l4 : (4 : Int32).toInt = 4 := rfl
  have l5 : (5 : Int32).toInt = 5 := rfl
  have l6 : (6 : Int32).toInt = 6 := rfl
  have l7 : (7 : Int32).toInt = 7 := rfl
  have l8 : (8 : Int32).toInt = 8 := rfl
  simp only [← Int32.toInt_inj, h2, l0, l1, l2, l3, l4, l5, l6, l7, l8]
  omega
theorem own_pd0 : parseMethodDescriptor "()I" = some ⟨[], some .int⟩ := by decide +kernel
theorem own_pd1 : parseMethodDescriptor "(Lcom/example/careful_allocator/carefulallocator/can/IdentifierFormat;I)I" = some ⟨[(.object "com/example/careful_allocator/carefulallocator/can/IdentifierFormat"), .int], some .int⟩ := by decide +kernel
theorem own_pn0 : plainName "com/example/careful_allocator/carefulallocator/can/IdentifierFormat" = true := by first | (simp [plainName, overriddenIn]; done) | decide +kernel
theorem own_pn1 : plainName "com/example/careful_allocator/carefulallocator/can/FrameTiming" = true := by first | (simp [plainName, overriddenIn]; done) | decide +kernel
theorem own_pn2 : plainName "com/example/careful_allocator/carefulallocator/can/FrameTimingWorstCaseBitsPinLaw" = true := by first | (simp [plainName, overriddenIn]; done) | decide +kernel
def own_Q1 (u : Int32) (h0 : Heap) (n0 : Nat) (v : Option Value) (h : Heap) (L : List Loc) : Prop := v = some (.int u) ∧ Fr n0 L ∧ h = h0
theorem d_own_rm1_0 : decode prog_18_method_4_code 0 = .ok (.aload_n 0, 1) := by decide +kernel
theorem d_own_rm1_1 : decode prog_18_method_4_code 1 = .ok (.getfield 29, 3) := by decide +kernel
theorem d_own_rm1_4 : decode prog_18_method_4_code 4 = .ok (.ireturn, 1) := by decide +kernel
theorem ef_own_rm1 (m : MethodId) (x0 : Addr) : entryFrame m #[(.ref x0)] 1 = mkF m 0 #[.val (.ref x0)] [] := by first | (simp [entryFrame, mkF, argsToLocals, Value.category]; done) | rfl
set_option maxRecDepth 65536 in
set_option maxHeartbeats 40000000 in
theorem own_rm1 (l : Launch) (Z : State) (a0 : Array Value) (hw : ∀ d ∈ tables_1, d.before a0 Z = true) (ws : List Jvm.Cond) (b0 : Addr) (u : Int32) (h0 : Heap) (n0 : Nat) (Z0 : n0 ≤ h0.size) (F_o : Fld Z h0 b0 "com/example/careful_allocator/carefulallocator/can/IdentifierFormat" "stuffedOverheadBits" "I" (.int u)) :
    MetFree l (⟨"com/example/careful_allocator/carefulallocator/can/IdentifierFormat", "stuffedOverheadBits", "()I"⟩ : MethodName) (head1 (Jvm.Cond.code (⟨"com/example/careful_allocator/carefulallocator/can/IdentifierFormat", "stuffedOverheadBits", "()I"⟩ : MethodName) prog_18_method_4_code 1 (some .int) :: ws) ({ frames := 0, cells := 0, slots := 0, locals := 0 } : Room)) (fun a U => a = #[(.ref b0)] ∧ Z.Warmed39 U.vm ∧ U.heap = h0) (fun _ _ _ _ _ => True) (fun _ U o U' => ∃ v L, o = .returned v ∧ own_Q1 u h0 n0 v U'.heap L ∧ FrameEnd U o U' L ({ frames := 0, cells := 0, slots := 0, locals := 0 } : Room).cells ({ frames := 0, cells := 0, slots := 0, locals := 0 } : Room).slots) := by
  refine MetFree.of_bodySF (plainFor_of_name own_pn0) hisR ?_
  intro p e s m args below meth c s₁ Bd hml0 hP hK
  obtain ⟨rfl, hZ, hh⟩ := hP
  have hx := Bd.exec
  have hby := Bd.bytes
  have hml : c.maxLocals = 1 := hml0
  have hown : s.vm.findClass "com/example/careful_allocator/carefulallocator/can/IdentifierFormat" = some m.cls := findClass_of_methodNamed Bd.named
  have hnm := (name_of_methodNamed Bd.named Bd.method).1
  have X0 : Stand p l e ({ frames := 0, cells := 0, slots := 0, locals := 0 } : Room) s m #[(.ref b0)] below meth c s₁ [] 0 0 := Stand.of_body Bd
  have e0 : s₁.heap = h0 := by rw [← hh, Bd.state]; rfl
  have N0 := Fr.nil n0
  refine own_go (b := s₁.setTop (mkF m 0 #[.val (.ref b0)] [])) (fun t k => castTop (ef_own_rm1 m b0) k) ?_
  obtain ⟨T1, X1, e1, st1⟩ := getF X0 hx hZ hown (host := "") (Or.inl (hw _ (List.mem_of_getElem? (i := 13) rfl))) Via.refl e0 F_o (g := (mkF m 1 #[.val (.ref b0)] [(.ref b0)])) rfl rfl (hb hby d_own_rm1_1)
  obtain ⟨fs, hr, hrun, hended, hW, hsame⟩ := X1.leave (v := some (.int u)) (fun h => by rw [Bd.returns] at h; cases h)
  refine ⟨_, _, ?_, hrun, hended, _, _, rfl, ?_, ⟨_, rfl⟩, hW, hsame.mono (by decide) (by decide)⟩
  · show Steps p.tables e below (s₁.setTop (mkF m 0 #[.val (.ref b0)] [])) _
    refine XS.aloadN X0.here hx rfl (hb hby d_own_rm1_0) rfl rfl ?_
    show Steps p.tables e below (s₁.setTop (mkF m 1 #[.val (.ref b0)] [(.ref b0)])) _
    refine st1 _ ?_
    show Steps p.tables e below (T1.setTop (mkF m 4 #[.val (.ref b0)] [(.int u)])) _
    exact retI X1 hx Bd.returns (hb hby d_own_rm1_4) hr
  · show own_Q1 u h0 n0 _ T1.heap _
    rw [e1]
    exact ⟨rfl, N0, rfl⟩
def own_Q2 (u p1 : Int32) (h0 : Heap) (n0 : Nat) (v : Option Value) (h : Heap) (L : List Loc) : Prop := v = some (.int (((u + ((8 : Int32) * p1)) + (13 : Int32)) + (((u + ((8 : Int32) * p1)) - (1 : Int32)) / (4 : Int32)))) ∧ Fr n0 L ∧ h = h0
theorem d_own_rm2_0 : decode prog_16_method_2_code 0 = .ok (.iload_n 1, 1) := by decide +kernel
theorem d_own_rm2_1 : decode prog_16_method_2_code 1 = .ok (.ifCond .lt 9, 3) := by decide +kernel
theorem d_own_rm2_4 : decode prog_16_method_2_code 4 = .ok (.iload_n 1, 1) := by decide +kernel
theorem d_own_rm2_5 : decode prog_16_method_2_code 5 = .ok (.bipush 8, 2) := by decide +kernel
theorem d_own_rm2_7 : decode prog_16_method_2_code 7 = .ok (.if_icmp .le 17, 3) := by decide +kernel
theorem d_own_rm2_24 : decode prog_16_method_2_code 24 = .ok (.aload_n 0, 1) := by decide +kernel
theorem d_own_rm2_25 : decode prog_16_method_2_code 25 = .ok (.invokevirtual 18, 3) := by decide +kernel
theorem d_own_rm2_28 : decode prog_16_method_2_code 28 = .ok (.bipush 8, 2) := by decide +kernel
theorem d_own_rm2_30 : decode prog_16_method_2_code 30 = .ok (.iload_n 1, 1) := by decide +kernel
theorem d_own_rm2_31 : decode prog_16_method_2_code 31 = .ok (.imul, 1) := by decide +kernel
theorem d_own_rm2_32 : decode prog_16_method_2_code 32 = .ok (.iadd, 1) := by decide +kernel
theorem d_own_rm2_33 : decode prog_16_method_2_code 33 = .ok (.istore_n 2, 1) := by decide +kernel
theorem d_own_rm2_34 : decode prog_16_method_2_code 34 = .ok (.iload_n 2, 1) := by decide +kernel
theorem d_own_rm2_35 : decode prog_16_method_2_code 35 = .ok (.bipush 13, 2) := by decide +kernel
theorem d_own_rm2_37 : decode prog_16_method_2_code 37 = .ok (.iadd, 1) := by decide +kernel
theorem d_own_rm2_38 : decode prog_16_method_2_code 38 = .ok (.iload_n 2, 1) := by decide +kernel
theorem d_own_rm2_39 : decode prog_16_method_2_code 39 = .ok (.iconst 1, 1) := by decide +kernel
theorem d_own_rm2_40 : decode prog_16_method_2_code 40 = .ok (.isub, 1) := by decide +kernel
theorem d_own_rm2_41 : decode prog_16_method_2_code 41 = .ok (.iconst 4, 1) := by decide +kernel
theorem d_own_rm2_42 : decode prog_16_method_2_code 42 = .ok (.idiv, 1) := by decide +kernel
theorem d_own_rm2_43 : decode prog_16_method_2_code 43 = .ok (.iadd, 1) := by decide +kernel
theorem d_own_rm2_44 : decode prog_16_method_2_code 44 = .ok (.ireturn, 1) := by decide +kernel
theorem ef_own_rm2 (m : MethodId) (x0 : Addr) (x1 : Int32) : entryFrame m #[(.ref x0), (.int x1)] 3 = mkF m 0 #[.val (.ref x0), .val (.int x1), .unset] [] := by first | (simp [entryFrame, mkF, argsToLocals, Value.category]; done) | rfl
set_option maxRecDepth 65536 in
set_option maxHeartbeats 40000000 in
theorem own_rm2 (l : Launch) (Z : State) (a0 : Array Value) (hw : ∀ d ∈ tables_1, d.before a0 Z = true) (ws : List Jvm.Cond) (b0 : Addr) (p1 : Int32) (u : Int32) (h0 : Heap) (n0 : Nat) (Z0 : n0 ≤ h0.size) (F_o : Fld Z h0 b0 "com/example/careful_allocator/carefulallocator/can/IdentifierFormat" "stuffedOverheadBits" "I" (.int u)) (E_o : Exa Z h0 b0 "com/example/careful_allocator/carefulallocator/can/IdentifierFormat") (hlo : ¬ p1 < (0 : Int32)) (hhi : ¬ (8 : Int32) < p1) :
    MetFree l (⟨"com/example/careful_allocator/carefulallocator/can/FrameTiming", "worstCaseBits", "(Lcom/example/careful_allocator/carefulallocator/can/IdentifierFormat;I)I"⟩ : MethodName) (head1 (Jvm.Cond.code (⟨"com/example/careful_allocator/carefulallocator/can/FrameTiming", "worstCaseBits", "(Lcom/example/careful_allocator/carefulallocator/can/IdentifierFormat;I)I"⟩ : MethodName) prog_16_method_2_code 3 (some .int) :: ws) ({ frames := 1, cells := 0, slots := 0, locals := 12 } : Room)) (fun a U => a = #[(.ref b0), (.int p1)] ∧ Z.Warmed39 U.vm ∧ U.heap = h0) (fun _ _ _ _ _ => True) (fun _ U o U' => ∃ v L, o = .returned v ∧ own_Q2 u p1 h0 n0 v U'.heap L ∧ FrameEnd U o U' L ({ frames := 1, cells := 0, slots := 0, locals := 12 } : Room).cells ({ frames := 1, cells := 0, slots := 0, locals := 12 } : Room).slots) := by
  refine MetFree.of_bodySF (plainFor_of_name own_pn1) hisR ?_
  intro p e s m args below meth c s₁ Bd hml0 hP hK
  obtain ⟨rfl, hZ, hh⟩ := hP
  have hx := Bd.exec
  have hby := Bd.bytes
  have hml : c.maxLocals = 3 := hml0
  have hown : s.vm.findClass "com/example/careful_allocator/carefulallocator/can/FrameTiming" = some m.cls := findClass_of_methodNamed Bd.named
  have hnm := (name_of_methodNamed Bd.named Bd.method).1
  have X0 : Stand p l e ({ frames := 1, cells := 0, slots := 0, locals := 12 } : Room) s m #[(.ref b0), (.int p1)] below meth c s₁ [] 0 0 := Stand.of_body Bd
  have e0 : s₁.heap = h0 := by rw [← hh, Bd.state]; rfl
  have N0 := Fr.nil n0
  refine own_go (b := s₁.setTop (mkF m 0 #[.val (.ref b0), .val (.int p1), .unset] [])) (fun t k => castTop (ef_own_rm2 m b0 p1) k) ?_
  obtain ⟨cq1, kq1, q1a, q1b, q1c⟩ := isOf hZ e0 E_o
  obtain ⟨_, _, ⟨T1, L1, k1, n1⟩, -, X1, ⟨Lc1, hQ1, l1, y1, z1⟩, st1⟩ := X0.virtualBack hx (y := (⟨"com/example/careful_allocator/carefulallocator/can/IdentifierFormat", "stuffedOverheadBits", "()I"⟩ : MethodName)) (z := (⟨"com/example/careful_allocator/carefulallocator/can/IdentifierFormat", "stuffedOverheadBits", "()I"⟩ : MethodName)) hown (mvT hZ (hw _ (List.mem_of_getElem? (i := 8) rfl))) (mvT hZ (hw _ (List.mem_of_getElem? (i := 9) rfl))) (notFace_of_selects (args := #[]) (mvT hZ (hw _ (List.mem_of_getElem? (i := 11) rfl)))) (mvT hZ (hw _ (List.mem_of_getElem? (i := 11) rfl))) (mvT hZ (hw _ (List.mem_of_getElem? (i := 10) rfl))) (by decide) (backOf (W := 0) (own_rm1 l Z a0 hw [] b0 u h0 n0 Z0 F_o) hZ (hw _ (List.mem_of_getElem? (i := 12) rfl)) (hw _ (List.mem_of_getElem? (i := 2) rfl)) (by decide) (by decide)) q1a q1c (g := (mkF m 25 #[.val (.ref b0), .val (.int p1), .unset] [(.ref b0)])) rfl (by rw [hml]; rfl) (Steps.refl _) (argsL := []) (rest := []) (lenOf own_pd0 rfl) rfl (by show 2 * 0 + _ ≤ _; exact Nat.le_of_eq rfl) (hb hby d_own_rm2_25) (fun _ _ => ⟨rfl, e0, (by decide : 0 + 0 ≤ _), (by decide : 0 + 0 ≤ _)⟩)
  dsimp only [Pt.U, Pt.locs, Pt.cells, Pt.slots] at X1 l1 y1 z1 st1 hQ1
  subst l1 y1 z1
  obtain ⟨rfl, N1q, e1⟩ := hQ1
  have N1 := Fr.app N0 N1q
  obtain ⟨fs, hr, hrun, hended, hW, hsame⟩ := X1.leave (v := some (.int (((u + ((8 : Int32) * p1)) + (13 : Int32)) + (((u + ((8 : Int32) * p1)) - (1 : Int32)) / (4 : Int32))))) (fun h => by rw [Bd.returns] at h; cases h)
  refine ⟨_, _, ?_, hrun, hended, _, _, rfl, ?_, ⟨_, rfl⟩, hW, hsame.mono (by decide) (by decide)⟩
  · show Steps p.tables e below (s₁.setTop (mkF m 0 #[.val (.ref b0), .val (.int p1), .unset] [])) _
    refine XS.iloadN X0.here hx rfl (hb hby d_own_rm2_0) rfl ?_
    show Steps p.tables e below (s₁.setTop (mkF m 1 #[.val (.ref b0), .val (.int p1), .unset] [(.int p1)])) _
    refine XS.ifNo X0.here hx rfl (hb hby d_own_rm2_1) rfl ((if0 _ _).trans (flt (hlo : ¬ (p1 < (0 : Int32)))).1) ?_
    show Steps p.tables e below (s₁.setTop (mkF m 4 #[.val (.ref b0), .val (.int p1), .unset] [])) _
    refine XS.iloadN X0.here hx rfl (hb hby d_own_rm2_4) rfl ?_
    show Steps p.tables e below (s₁.setTop (mkF m 5 #[.val (.ref b0), .val (.int p1), .unset] [(.int p1)])) _
    refine XS.bipush X0.here hx rfl (hb hby d_own_rm2_5) ?_
    show Steps p.tables e below (s₁.setTop (mkF m 7 #[.val (.ref b0), .val (.int p1), .unset] [(.int (8 : Int32)), (.int p1)])) _
    refine XS.icmpYes X0.here hx rfl (pc0 := 7) (pc' := 24) rfl (hb hby d_own_rm2_7) rfl (flt (hhi : ¬ ((8 : Int32) < p1))).2.2.2 (by decide) (by decide) ?_
    show Steps p.tables e below (s₁.setTop (mkF m 24 #[.val (.ref b0), .val (.int p1), .unset] [])) _
    refine XS.aloadN X0.here hx rfl (hb hby d_own_rm2_24) rfl rfl ?_
    show Steps p.tables e below (s₁.setTop (mkF m 25 #[.val (.ref b0), .val (.int p1), .unset] [(.ref b0)])) _
    refine st1.trans ?_
    show Steps p.tables e below (T1.setTop (mkF m 28 #[.val (.ref b0), .val (.int p1), .unset] [(.int u)])) _
    refine XS.bipush X1.here hx rfl (hb hby d_own_rm2_28) ?_
    show Steps p.tables e below (T1.setTop (mkF m 30 #[.val (.ref b0), .val (.int p1), .unset] [(.int (8 : Int32)), (.int u)])) _
    refine XS.iloadN X1.here hx rfl (hb hby d_own_rm2_30) rfl ?_
    show Steps p.tables e below (T1.setTop (mkF m 31 #[.val (.ref b0), .val (.int p1), .unset] [(.int p1), (.int (8 : Int32)), (.int u)])) _
    refine XS.imul X1.here hx rfl (hb hby d_own_rm2_31) rfl ?_
    show Steps p.tables e below (T1.setTop (mkF m 32 #[.val (.ref b0), .val (.int p1), .unset] [(.int ((8 : Int32) * p1)), (.int u)])) _
    refine XS.iadd X1.here hx rfl (hb hby d_own_rm2_32) rfl ?_
    show Steps p.tables e below (T1.setTop (mkF m 33 #[.val (.ref b0), .val (.int p1), .unset] [(.int (u + ((8 : Int32) * p1)))])) _
    refine XS.istoreN X1.here hx rfl (hb hby d_own_rm2_33) rfl (l' := #[.val (.ref b0), .val (.int p1), .val (.int (u + ((8 : Int32) * p1)))]) rfl ?_
    show Steps p.tables e below (T1.setTop (mkF m 34 #[.val (.ref b0), .val (.int p1), .val (.int (u + ((8 : Int32) * p1)))] [])) _
    refine XS.iloadN X1.here hx rfl (hb hby d_own_rm2_34) rfl ?_
    show Steps p.tables e below (T1.setTop (mkF m 35 #[.val (.ref b0), .val (.int p1), .val (.int (u + ((8 : Int32) * p1)))] [(.int (u + ((8 : Int32) * p1)))])) _
    refine XS.bipush X1.here hx rfl (hb hby d_own_rm2_35) ?_
    show Steps p.tables e below (T1.setTop (mkF m 37 #[.val (.ref b0), .val (.int p1), .val (.int (u + ((8 : Int32) * p1)))] [(.int (13 : Int32)), (.int (u + ((8 : Int32) * p1)))])) _
    refine XS.iadd X1.here hx rfl (hb hby d_own_rm2_37) rfl ?_
    show Steps p.tables e below (T1.setTop (mkF m 38 #[.val (.ref b0), .val (.int p1), .val (.int (u + ((8 : Int32) * p1)))] [(.int ((u + ((8 : Int32) * p1)) + (13 : Int32)))])) _
    refine XS.iloadN X1.here hx rfl (hb hby d_own_rm2_38) rfl ?_
    show Steps p.tables e below (T1.setTop (mkF m 39 #[.val (.ref b0), .val (.int p1), .val (.int (u + ((8 : Int32) * p1)))] [(.int (u + ((8 : Int32) * p1))), (.int ((u + ((8 : Int32) * p1)) + (13 : Int32)))])) _
    refine XS.iconst X1.here hx rfl (hb hby d_own_rm2_39) ?_
    show Steps p.tables e below (T1.setTop (mkF m 40 #[.val (.ref b0), .val (.int p1), .val (.int (u + ((8 : Int32) * p1)))] [(.int (1 : Int32)), (.int (u + ((8 : Int32) * p1))), (.int ((u + ((8 : Int32) * p1)) + (13 : Int32)))])) _
    refine XS.isub X1.here hx rfl (hb hby d_own_rm2_40) rfl ?_
    show Steps p.tables e below (T1.setTop (mkF m 41 #[.val (.ref b0), .val (.int p1), .val (.int (u + ((8 : Int32) * p1)))] [(.int ((u + ((8 : Int32) * p1)) - (1 : Int32))), (.int ((u + ((8 : Int32) * p1)) + (13 : Int32)))])) _
    refine XS.iconst X1.here hx rfl (hb hby d_own_rm2_41) ?_
    show Steps p.tables e below (T1.setTop (mkF m 42 #[.val (.ref b0), .val (.int p1), .val (.int (u + ((8 : Int32) * p1)))] [(.int (4 : Int32)), (.int ((u + ((8 : Int32) * p1)) - (1 : Int32))), (.int ((u + ((8 : Int32) * p1)) + (13 : Int32)))])) _
    refine XS.idiv X1.here hx rfl (hb hby d_own_rm2_42) rfl (by decide) ?_
    show Steps p.tables e below (T1.setTop (mkF m 43 #[.val (.ref b0), .val (.int p1), .val (.int (u + ((8 : Int32) * p1)))] [(.int (((u + ((8 : Int32) * p1)) - (1 : Int32)) / (4 : Int32))), (.int ((u + ((8 : Int32) * p1)) + (13 : Int32)))])) _
    refine XS.iadd X1.here hx rfl (hb hby d_own_rm2_43) rfl ?_
    show Steps p.tables e below (T1.setTop (mkF m 44 #[.val (.ref b0), .val (.int p1), .val (.int (u + ((8 : Int32) * p1)))] [(.int (((u + ((8 : Int32) * p1)) + (13 : Int32)) + (((u + ((8 : Int32) * p1)) - (1 : Int32)) / (4 : Int32))))])) _
    exact retI X1 hx Bd.returns (hb hby d_own_rm2_44) hr
  · show own_Q2 u p1 h0 n0 _ T1.heap _
    rw [e1]
    exact ⟨rfl, N1, rfl⟩
def own_Q0 (n0 : Nat) (v : Option Value) (h : Heap) (L : List Loc) : Prop := v = some (.int (1 : Int32)) ∧ Fr n0 L
theorem ef_own_rm0 (m : MethodId) (x0 : Int32) (x1 : Int32) : entryFrame m #[(.int x0), (.int x1)] maxLocals = mkF m 0 #[.val (.int x0), .val (.int x1), .unset, .unset, .unset, .unset] [] := by first | (simp [entryFrame, mkF, argsToLocals, Value.category, maxLocals]; done) | rfl
set_option maxRecDepth 65536 in
set_option maxHeartbeats 40000000 in
theorem own_rm0 (l : Launch) (Z : State) (a0 : Array Value) (hw : ∀ d ∈ tables_1, d.before a0 Z = true) (ws : List Jvm.Cond) (p0 : Int32) (p1 : Int32) (bB bE : Addr) (h0 : Heap) (n0 : Nat) (Z0 : n0 ≤ h0.size) (S_B : Sta Z h0 "com/example/careful_allocator/carefulallocator/can/IdentifierFormat" "BASE" "Lcom/example/careful_allocator/carefulallocator/can/IdentifierFormat;" (.ref bB)) (E_B : Exa Z h0 bB "com/example/careful_allocator/carefulallocator/can/IdentifierFormat") (F_B : Fld Z h0 bB "com/example/careful_allocator/carefulallocator/can/IdentifierFormat" "stuffedOverheadBits" "I" (.int (34 : Int32))) (S_E : Sta Z h0 "com/example/careful_allocator/carefulallocator/can/IdentifierFormat" "EXTENDED" "Lcom/example/careful_allocator/carefulallocator/can/IdentifierFormat;" (.ref bE)) (E_E : Exa Z h0 bE "com/example/careful_allocator/carefulallocator/can/IdentifierFormat") (F_E : Fld Z h0 bE "com/example/careful_allocator/carefulallocator/can/IdentifierFormat" "stuffedOverheadBits" "I" (.int (54 : Int32))) :
    MetFree l x (head1 (Jvm.Cond.code x code maxLocals ret :: ws) room_1) (fun a U => a = #[(.int p0), (.int p1)] ∧ Z.Warmed39 U.vm ∧ U.heap = h0) (fun _ _ _ _ _ => True) (fun _ U o U' => ∃ v L, o = .returned v ∧ own_Q0 n0 v U'.heap L ∧ FrameEnd U o U' L room_1.cells room_1.slots) := by
  refine MetFree.of_bodySF (plainFor_of_name own_pn2) hisR ?_
  intro p e s m args below meth c s₁ Bd hml0 hP hK
  obtain ⟨rfl, hZ, hh⟩ := hP
  have hx := Bd.exec
  have hby := Bd.bytes
  have hml : c.maxLocals = 6 := hml0
  have hown : s.vm.findClass "com/example/careful_allocator/carefulallocator/can/FrameTimingWorstCaseBitsPinLaw" = some m.cls := findClass_of_methodNamed Bd.named
  have hnm := (name_of_methodNamed Bd.named Bd.method).1
  have X0 : Stand p l e room_1 s m #[(.int p0), (.int p1)] below meth c s₁ [] 0 0 := Stand.of_body Bd
  have e0 : s₁.heap = h0 := by rw [← hh, Bd.state]; rfl
  have N0 := Fr.nil n0
  refine own_go (b := s₁.setTop (mkF m 0 #[.val (.int p0), .val (.int p1), .unset, .unset, .unset, .unset] [])) (fun t k => castTop (ef_own_rm0 m p0 p1) k) ?_
  refine own_go (b := s₁.setTop (mkF m 3 #[.val (.int p0), .val (.int p1), .unset, .unset, .unset, .unset] [(.int (p0 &&& (1 : Int32)))])) (fun t k => ?_) ?_
  · show Steps p.tables e below (s₁.setTop (mkF m 0 #[.val (.int p0), .val (.int p1), .unset, .unset, .unset, .unset] [])) _
    refine XS.iloadN X0.here hx rfl (hb hby at_0) rfl ?_
    show Steps p.tables e below (s₁.setTop (mkF m 1 #[.val (.int p0), .val (.int p1), .unset, .unset, .unset, .unset] [(.int p0)])) _
    refine XS.iconst X0.here hx rfl (hb hby at_1) ?_
    show Steps p.tables e below (s₁.setTop (mkF m 2 #[.val (.int p0), .val (.int p1), .unset, .unset, .unset, .unset] [(.int (1 : Int32)), (.int p0)])) _
    refine XS.iand X0.here hx rfl (hb hby at_2) rfl ?_
    show Steps p.tables e below (s₁.setTop (mkF m 3 #[.val (.int p0), .val (.int p1), .unset, .unset, .unset, .unset] [(.int (p0 &&& (1 : Int32)))])) t
    exact k
  by_cases hc3_1 : (p0 &&& (1 : Int32)) = (0 : Int32)
  · refine own_go (b := s₁.setTop (mkF m 19 #[.val (.int p0), .val (.int p1), .val (.int (0 : Int32)), .unset, .unset, .unset] [(.int ((p1 &&& (2147483647 : Int32)) - ((p1 &&& (2147483647 : Int32)) / (9 : Int32)) * (9 : Int32)))])) (fun t k => ?_) ?_
    · show Steps p.tables e below (s₁.setTop (mkF m 3 #[.val (.int p0), .val (.int p1), .unset, .unset, .unset, .unset] [(.int (p0 &&& (1 : Int32)))])) _
      refine XS.ifYes X0.here hx rfl (pc0 := 3) (pc' := 10) rfl (hb hby at_3) rfl ((if0 _ _).trans (teq hc3_1).1) (by decide) (by decide) ?_
      show Steps p.tables e below (s₁.setTop (mkF m 10 #[.val (.int p0), .val (.int p1), .unset, .unset, .unset, .unset] [])) _
      refine XS.iconst X0.here hx rfl (hb hby at_10) ?_
      show Steps p.tables e below (s₁.setTop (mkF m 11 #[.val (.int p0), .val (.int p1), .unset, .unset, .unset, .unset] [(.int (0 : Int32))])) _
      refine XS.istoreN X0.here hx rfl (hb hby at_11) rfl (l' := #[.val (.int p0), .val (.int p1), .val (.int (0 : Int32)), .unset, .unset, .unset]) rfl ?_
      show Steps p.tables e below (s₁.setTop (mkF m 12 #[.val (.int p0), .val (.int p1), .val (.int (0 : Int32)), .unset, .unset, .unset] [])) _
      refine XS.iloadN X0.here hx rfl (hb hby at_12) rfl ?_
      show Steps p.tables e below (s₁.setTop (mkF m 13 #[.val (.int p0), .val (.int p1), .val (.int (0 : Int32)), .unset, .unset, .unset] [(.int p1)])) _
      refine X0.ldcInt hx hown (mvT hZ (hw _ (List.mem_of_getElem? (i := 0) rfl))) (g := (mkF m 13 #[.val (.int p0), .val (.int p1), .val (.int (0 : Int32)), .unset, .unset, .unset] [(.int p1)])) rfl (hb hby at_13) _ ?_
      show Steps p.tables e below (s₁.setTop (mkF m 15 #[.val (.int p0), .val (.int p1), .val (.int (0 : Int32)), .unset, .unset, .unset] [(.int (2147483647 : Int32)), (.int p1)])) _
      refine XS.iand X0.here hx rfl (hb hby at_15) rfl ?_
      show Steps p.tables e below (s₁.setTop (mkF m 16 #[.val (.int p0), .val (.int p1), .val (.int (0 : Int32)), .unset, .unset, .unset] [(.int (p1 &&& (2147483647 : Int32)))])) _
      refine XS.bipush X0.here hx rfl (hb hby at_16) ?_
      show Steps p.tables e below (s₁.setTop (mkF m 18 #[.val (.int p0), .val (.int p1), .val (.int (0 : Int32)), .unset, .unset, .unset] [(.int (9 : Int32)), (.int (p1 &&& (2147483647 : Int32)))])) _
      refine XS.irem X0.here hx rfl (hb hby at_18) rfl (by decide) ?_
      show Steps p.tables e below (s₁.setTop (mkF m 19 #[.val (.int p0), .val (.int p1), .val (.int (0 : Int32)), .unset, .unset, .unset] [(.int ((p1 &&& (2147483647 : Int32)) - ((p1 &&& (2147483647 : Int32)) / (9 : Int32)) * (9 : Int32)))])) t
      exact k
    have hm_i := own_mod9 p1
    generalize ((p1 &&& (2147483647 : Int32)) - ((p1 &&& (2147483647 : Int32)) / (9 : Int32)) * (9 : Int32)) = v_i at hm_i ⊢
    rcases hm_i with rfl | rfl | rfl | rfl | rfl | rfl | rfl | rfl | rfl
    · obtain ⟨T2, X2, e2, st2⟩ := getS2 X0 hx hZ hown (host := "") (Or.inl (hw _ (List.mem_of_getElem? (i := 1) rfl))) Via.refl e0 S_B (g := (mkF m 30 #[.val (.int p0), .val (.int p1), .val (.int (0 : Int32)), .val (.int (0 : Int32)), .unset, .unset] [])) rfl (hb hby at_30)
      obtain ⟨_, _, ⟨T3, L3, k3, n3⟩, -, X3, ⟨Lc3, hQ3, l3, y3, z3⟩, st3⟩ := Jvm.LawKit.callS X2 hx (y := (⟨"com/example/careful_allocator/carefulallocator/can/FrameTiming", "worstCaseBits", "(Lcom/example/careful_allocator/carefulallocator/can/IdentifierFormat;I)I"⟩ : MethodName)) hown (mvT hZ (hw _ (List.mem_of_getElem? (i := 4) rfl))) (mvT hZ (hw _ (List.mem_of_getElem? (i := 5) rfl))) (mvT hZ (hw _ (List.mem_of_getElem? (i := 6) rfl))) (mvT hZ (hw _ (List.mem_of_getElem? (i := 7) rfl))) (by decide) (backOf (W := 0) (own_rm2 l Z a0 hw [] bB (0 : Int32) (34 : Int32) h0 n0 Z0 F_B E_B (by decide) (by decide)) hZ (hw _ (List.mem_of_getElem? (i := 7) rfl)) (hw _ (List.mem_of_getElem? (i := 6) rfl)) (by decide) (by decide)) (g := (mkF m 63 #[.val (.int p0), .val (.int p1), .val (.int (0 : Int32)), .val (.int (0 : Int32)), .val (.ref bB), .val (.int ((55 : Int32) + ((10 : Int32) * (0 : Int32))))] [(.int (0 : Int32)), (.ref bB)])) rfl (by rw [hml]; rfl) (argsL := [(.ref bB), (.int (0 : Int32))]) (rest := []) (lenOf own_pd1 rfl) rfl (by show 2 * 0 + _ ≤ _; exact Nat.le_of_eq rfl) (hb hby at_63) (fun _ _ => ⟨rfl, e2, (by decide : 0 + 0 ≤ _), (by decide : 0 + 0 ≤ _)⟩)
      dsimp only [Pt.U, Pt.locs, Pt.cells, Pt.slots] at X3 l3 y3 z3 st3 hQ3
      subst l3 y3 z3
      obtain ⟨rfl, N3q, e3⟩ := hQ3
      have N3 := Fr.app N0 N3q
      obtain ⟨fs, hr, hrun, hended, hW, hsame⟩ := X3.leave (v := some (.int (1 : Int32))) (fun h => by rw [Bd.returns] at h; cases h)
      refine ⟨_, _, ?_, hrun, hended, _, _, rfl, ?_, ⟨_, rfl⟩, hW, hsame.mono (by decide) (by decide)⟩
      · show Steps p.tables e below (s₁.setTop (mkF m 19 #[.val (.int p0), .val (.int p1), .val (.int (0 : Int32)), .unset, .unset, .unset] [(.int (0 : Int32))])) _
        refine XS.istoreN X0.here hx rfl (hb hby at_19) rfl (l' := #[.val (.int p0), .val (.int p1), .val (.int (0 : Int32)), .val (.int (0 : Int32)), .unset, .unset]) rfl ?_
        show Steps p.tables e below (s₁.setTop (mkF m 20 #[.val (.int p0), .val (.int p1), .val (.int (0 : Int32)), .val (.int (0 : Int32)), .unset, .unset] [])) _
        refine XS.iloadN X0.here hx rfl (hb hby at_20) rfl ?_
        show Steps p.tables e below (s₁.setTop (mkF m 21 #[.val (.int p0), .val (.int p1), .val (.int (0 : Int32)), .val (.int (0 : Int32)), .unset, .unset] [(.int (0 : Int32))])) _
        refine XS.ifYes X0.here hx rfl (pc0 := 21) (pc' := 30) rfl (hb hby at_21) rfl ((if0 _ _).trans (teq ((by decide) : (0 : Int32) = (0 : Int32))).1) (by decide) (by decide) ?_
        show Steps p.tables e below (s₁.setTop (mkF m 30 #[.val (.int p0), .val (.int p1), .val (.int (0 : Int32)), .val (.int (0 : Int32)), .unset, .unset] [])) _
        refine st2 _ ?_
        show Steps p.tables e below (T2.setTop (mkF m 33 #[.val (.int p0), .val (.int p1), .val (.int (0 : Int32)), .val (.int (0 : Int32)), .unset, .unset] [(.ref bB)])) _
        refine XS.astore X2.here hx rfl (hb hby at_33) rfl rfl (l' := #[.val (.int p0), .val (.int p1), .val (.int (0 : Int32)), .val (.int (0 : Int32)), .val (.ref bB), .unset]) rfl ?_
        show Steps p.tables e below (T2.setTop (mkF m 35 #[.val (.int p0), .val (.int p1), .val (.int (0 : Int32)), .val (.int (0 : Int32)), .val (.ref bB), .unset] [])) _
        refine XS.iloadN X2.here hx rfl (hb hby at_35) rfl ?_
        show Steps p.tables e below (T2.setTop (mkF m 36 #[.val (.int p0), .val (.int p1), .val (.int (0 : Int32)), .val (.int (0 : Int32)), .val (.ref bB), .unset] [(.int (0 : Int32))])) _
        refine XS.ifYes X2.here hx rfl (pc0 := 36) (pc' := 51) rfl (hb hby at_36) rfl ((if0 _ _).trans (teq ((by decide) : (0 : Int32) = (0 : Int32))).1) (by decide) (by decide) ?_
        show Steps p.tables e below (T2.setTop (mkF m 51 #[.val (.int p0), .val (.int p1), .val (.int (0 : Int32)), .val (.int (0 : Int32)), .val (.ref bB), .unset] [])) _
        refine XS.bipush X2.here hx rfl (hb hby at_51) ?_
        show Steps p.tables e below (T2.setTop (mkF m 53 #[.val (.int p0), .val (.int p1), .val (.int (0 : Int32)), .val (.int (0 : Int32)), .val (.ref bB), .unset] [(.int (55 : Int32))])) _
        refine XS.bipush X2.here hx rfl (hb hby at_53) ?_
        show Steps p.tables e below (T2.setTop (mkF m 55 #[.val (.int p0), .val (.int p1), .val (.int (0 : Int32)), .val (.int (0 : Int32)), .val (.ref bB), .unset] [(.int (10 : Int32)), (.int (55 : Int32))])) _
        refine XS.iloadN X2.here hx rfl (hb hby at_55) rfl ?_
        show Steps p.tables e below (T2.setTop (mkF m 56 #[.val (.int p0), .val (.int p1), .val (.int (0 : Int32)), .val (.int (0 : Int32)), .val (.ref bB), .unset] [(.int (0 : Int32)), (.int (10 : Int32)), (.int (55 : Int32))])) _
        refine XS.imul X2.here hx rfl (hb hby at_56) rfl ?_
        show Steps p.tables e below (T2.setTop (mkF m 57 #[.val (.int p0), .val (.int p1), .val (.int (0 : Int32)), .val (.int (0 : Int32)), .val (.ref bB), .unset] [(.int ((10 : Int32) * (0 : Int32))), (.int (55 : Int32))])) _
        refine XS.iadd X2.here hx rfl (hb hby at_57) rfl ?_
        show Steps p.tables e below (T2.setTop (mkF m 58 #[.val (.int p0), .val (.int p1), .val (.int (0 : Int32)), .val (.int (0 : Int32)), .val (.ref bB), .unset] [(.int ((55 : Int32) + ((10 : Int32) * (0 : Int32))))])) _
        refine XS.istore X2.here hx rfl (hb hby at_58) rfl (l' := #[.val (.int p0), .val (.int p1), .val (.int (0 : Int32)), .val (.int (0 : Int32)), .val (.ref bB), .val (.int ((55 : Int32) + ((10 : Int32) * (0 : Int32))))]) rfl ?_
        show Steps p.tables e below (T2.setTop (mkF m 60 #[.val (.int p0), .val (.int p1), .val (.int (0 : Int32)), .val (.int (0 : Int32)), .val (.ref bB), .val (.int ((55 : Int32) + ((10 : Int32) * (0 : Int32))))] [])) _
        refine XS.aload X2.here hx rfl (hb hby at_60) rfl rfl ?_
        show Steps p.tables e below (T2.setTop (mkF m 62 #[.val (.int p0), .val (.int p1), .val (.int (0 : Int32)), .val (.int (0 : Int32)), .val (.ref bB), .val (.int ((55 : Int32) + ((10 : Int32) * (0 : Int32))))] [(.ref bB)])) _
        refine XS.iloadN X2.here hx rfl (hb hby at_62) rfl ?_
        show Steps p.tables e below (T2.setTop (mkF m 63 #[.val (.int p0), .val (.int p1), .val (.int (0 : Int32)), .val (.int (0 : Int32)), .val (.ref bB), .val (.int ((55 : Int32) + ((10 : Int32) * (0 : Int32))))] [(.int (0 : Int32)), (.ref bB)])) _
        refine st3 _ ?_
        show Steps p.tables e below (T3.setTop (mkF m 66 #[.val (.int p0), .val (.int p1), .val (.int (0 : Int32)), .val (.int (0 : Int32)), .val (.ref bB), .val (.int ((55 : Int32) + ((10 : Int32) * (0 : Int32))))] [(.int ((((34 : Int32) + ((8 : Int32) * (0 : Int32))) + (13 : Int32)) + ((((34 : Int32) + ((8 : Int32) * (0 : Int32))) - (1 : Int32)) / (4 : Int32))))])) _
        refine XS.iload X3.here hx rfl (hb hby at_66) rfl ?_
        show Steps p.tables e below (T3.setTop (mkF m 68 #[.val (.int p0), .val (.int p1), .val (.int (0 : Int32)), .val (.int (0 : Int32)), .val (.ref bB), .val (.int ((55 : Int32) + ((10 : Int32) * (0 : Int32))))] [(.int ((55 : Int32) + ((10 : Int32) * (0 : Int32)))), (.int ((((34 : Int32) + ((8 : Int32) * (0 : Int32))) + (13 : Int32)) + ((((34 : Int32) + ((8 : Int32) * (0 : Int32))) - (1 : Int32)) / (4 : Int32))))])) _
        refine XS.icmpNo X3.here hx rfl (hb hby at_68) rfl (teq (by decide : ((((34 : Int32) + ((8 : Int32) * (0 : Int32))) + (13 : Int32)) + ((((34 : Int32) + ((8 : Int32) * (0 : Int32))) - (1 : Int32)) / (4 : Int32))) = ((55 : Int32) + ((10 : Int32) * (0 : Int32))))).2 ?_
        show Steps p.tables e below (T3.setTop (mkF m 71 #[.val (.int p0), .val (.int p1), .val (.int (0 : Int32)), .val (.int (0 : Int32)), .val (.ref bB), .val (.int ((55 : Int32) + ((10 : Int32) * (0 : Int32))))] [])) _
        refine XS.iconst X3.here hx rfl (hb hby at_71) ?_
        show Steps p.tables e below (T3.setTop (mkF m 72 #[.val (.int p0), .val (.int p1), .val (.int (0 : Int32)), .val (.int (0 : Int32)), .val (.ref bB), .val (.int ((55 : Int32) + ((10 : Int32) * (0 : Int32))))] [(.int (1 : Int32))])) _
        refine XS.goto X3.here hx rfl (pc0 := 72) (pc' := 76) rfl (hb hby at_72) (by decide) (by decide) ?_
        show Steps p.tables e below (T3.setTop (mkF m 76 #[.val (.int p0), .val (.int p1), .val (.int (0 : Int32)), .val (.int (0 : Int32)), .val (.ref bB), .val (.int ((55 : Int32) + ((10 : Int32) * (0 : Int32))))] [(.int (1 : Int32))])) _
        exact retN X3 hx (t := .boolean) Bd.returns (by simp) (hb hby at_76) hr
      · show own_Q0 n0 _ T3.heap _
        rw [e3]
        exact ⟨rfl, N3⟩
    · obtain ⟨T4, X4, e4, st4⟩ := getS2 X0 hx hZ hown (host := "") (Or.inl (hw _ (List.mem_of_getElem? (i := 1) rfl))) Via.refl e0 S_B (g := (mkF m 30 #[.val (.int p0), .val (.int p1), .val (.int (0 : Int32)), .val (.int (1 : Int32)), .unset, .unset] [])) rfl (hb hby at_30)
      obtain ⟨_, _, ⟨T5, L5, k5, n5⟩, -, X5, ⟨Lc5, hQ5, l5, y5, z5⟩, st5⟩ := Jvm.LawKit.callS X4 hx (y := (⟨"com/example/careful_allocator/carefulallocator/can/FrameTiming", "worstCaseBits", "(Lcom/example/careful_allocator/carefulallocator/can/IdentifierFormat;I)I"⟩ : MethodName)) hown (mvT hZ (hw _ (List.mem_of_getElem? (i := 4) rfl))) (mvT hZ (hw _ (List.mem_of_getElem? (i := 5) rfl))) (mvT hZ (hw _ (List.mem_of_getElem? (i := 6) rfl))) (mvT hZ (hw _ (List.mem_of_getElem? (i := 7) rfl))) (by decide) (backOf (W := 0) (own_rm2 l Z a0 hw [] bB (1 : Int32) (34 : Int32) h0 n0 Z0 F_B E_B (by decide) (by decide)) hZ (hw _ (List.mem_of_getElem? (i := 7) rfl)) (hw _ (List.mem_of_getElem? (i := 6) rfl)) (by decide) (by decide)) (g := (mkF m 63 #[.val (.int p0), .val (.int p1), .val (.int (0 : Int32)), .val (.int (1 : Int32)), .val (.ref bB), .val (.int ((55 : Int32) + ((10 : Int32) * (1 : Int32))))] [(.int (1 : Int32)), (.ref bB)])) rfl (by rw [hml]; rfl) (argsL := [(.ref bB), (.int (1 : Int32))]) (rest := []) (lenOf own_pd1 rfl) rfl (by show 2 * 0 + _ ≤ _; exact Nat.le_of_eq rfl) (hb hby at_63) (fun _ _ => ⟨rfl, e4, (by decide : 0 + 0 ≤ _), (by decide : 0 + 0 ≤ _)⟩)
      dsimp only [Pt.U, Pt.locs, Pt.cells, Pt.slots] at X5 l5 y5 z5 st5 hQ5
      subst l5 y5 z5
      obtain ⟨rfl, N5q, e5⟩ := hQ5
      have N5 := Fr.app N0 N5q
      obtain ⟨fs, hr, hrun, hended, hW, hsame⟩ := X5.leave (v := some (.int (1 : Int32))) (fun h => by rw [Bd.returns] at h; cases h)
      refine ⟨_, _, ?_, hrun, hended, _, _, rfl, ?_, ⟨_, rfl⟩, hW, hsame.mono (by decide) (by decide)⟩
      · show Steps p.tables e below (s₁.setTop (mkF m 19 #[.val (.int p0), .val (.int p1), .val (.int (0 : Int32)), .unset, .unset, .unset] [(.int (1 : Int32))])) _
        refine XS.istoreN X0.here hx rfl (hb hby at_19) rfl (l' := #[.val (.int p0), .val (.int p1), .val (.int (0 : Int32)), .val (.int (1 : Int32)), .unset, .unset]) rfl ?_
        show Steps p.tables e below (s₁.setTop (mkF m 20 #[.val (.int p0), .val (.int p1), .val (.int (0 : Int32)), .val (.int (1 : Int32)), .unset, .unset] [])) _
        refine XS.iloadN X0.here hx rfl (hb hby at_20) rfl ?_
        show Steps p.tables e below (s₁.setTop (mkF m 21 #[.val (.int p0), .val (.int p1), .val (.int (0 : Int32)), .val (.int (1 : Int32)), .unset, .unset] [(.int (0 : Int32))])) _
        refine XS.ifYes X0.here hx rfl (pc0 := 21) (pc' := 30) rfl (hb hby at_21) rfl ((if0 _ _).trans (teq ((by decide) : (0 : Int32) = (0 : Int32))).1) (by decide) (by decide) ?_
        show Steps p.tables e below (s₁.setTop (mkF m 30 #[.val (.int p0), .val (.int p1), .val (.int (0 : Int32)), .val (.int (1 : Int32)), .unset, .unset] [])) _
        refine st4 _ ?_
        show Steps p.tables e below (T4.setTop (mkF m 33 #[.val (.int p0), .val (.int p1), .val (.int (0 : Int32)), .val (.int (1 : Int32)), .unset, .unset] [(.ref bB)])) _
        refine XS.astore X4.here hx rfl (hb hby at_33) rfl rfl (l' := #[.val (.int p0), .val (.int p1), .val (.int (0 : Int32)), .val (.int (1 : Int32)), .val (.ref bB), .unset]) rfl ?_
        show Steps p.tables e below (T4.setTop (mkF m 35 #[.val (.int p0), .val (.int p1), .val (.int (0 : Int32)), .val (.int (1 : Int32)), .val (.ref bB), .unset] [])) _
        refine XS.iloadN X4.here hx rfl (hb hby at_35) rfl ?_
        show Steps p.tables e below (T4.setTop (mkF m 36 #[.val (.int p0), .val (.int p1), .val (.int (0 : Int32)), .val (.int (1 : Int32)), .val (.ref bB), .unset] [(.int (0 : Int32))])) _
        refine XS.ifYes X4.here hx rfl (pc0 := 36) (pc' := 51) rfl (hb hby at_36) rfl ((if0 _ _).trans (teq ((by decide) : (0 : Int32) = (0 : Int32))).1) (by decide) (by decide) ?_
        show Steps p.tables e below (T4.setTop (mkF m 51 #[.val (.int p0), .val (.int p1), .val (.int (0 : Int32)), .val (.int (1 : Int32)), .val (.ref bB), .unset] [])) _
        refine XS.bipush X4.here hx rfl (hb hby at_51) ?_
        show Steps p.tables e below (T4.setTop (mkF m 53 #[.val (.int p0), .val (.int p1), .val (.int (0 : Int32)), .val (.int (1 : Int32)), .val (.ref bB), .unset] [(.int (55 : Int32))])) _
        refine XS.bipush X4.here hx rfl (hb hby at_53) ?_
        show Steps p.tables e below (T4.setTop (mkF m 55 #[.val (.int p0), .val (.int p1), .val (.int (0 : Int32)), .val (.int (1 : Int32)), .val (.ref bB), .unset] [(.int (10 : Int32)), (.int (55 : Int32))])) _
        refine XS.iloadN X4.here hx rfl (hb hby at_55) rfl ?_
        show Steps p.tables e below (T4.setTop (mkF m 56 #[.val (.int p0), .val (.int p1), .val (.int (0 : Int32)), .val (.int (1 : Int32)), .val (.ref bB), .unset] [(.int (1 : Int32)), (.int (10 : Int32)), (.int (55 : Int32))])) _
        refine XS.imul X4.here hx rfl (hb hby at_56) rfl ?_
        show Steps p.tables e below (T4.setTop (mkF m 57 #[.val (.int p0), .val (.int p1), .val (.int (0 : Int32)), .val (.int (1 : Int32)), .val (.ref bB), .unset] [(.int ((10 : Int32) * (1 : Int32))), (.int (55 : Int32))])) _
        refine XS.iadd X4.here hx rfl (hb hby at_57) rfl ?_
        show Steps p.tables e below (T4.setTop (mkF m 58 #[.val (.int p0), .val (.int p1), .val (.int (0 : Int32)), .val (.int (1 : Int32)), .val (.ref bB), .unset] [(.int ((55 : Int32) + ((10 : Int32) * (1 : Int32))))])) _
        refine XS.istore X4.here hx rfl (hb hby at_58) rfl (l' := #[.val (.int p0), .val (.int p1), .val (.int (0 : Int32)), .val (.int (1 : Int32)), .val (.ref bB), .val (.int ((55 : Int32) + ((10 : Int32) * (1 : Int32))))]) rfl ?_
        show Steps p.tables e below (T4.setTop (mkF m 60 #[.val (.int p0), .val (.int p1), .val (.int (0 : Int32)), .val (.int (1 : Int32)), .val (.ref bB), .val (.int ((55 : Int32) + ((10 : Int32) * (1 : Int32))))] [])) _
        refine XS.aload X4.here hx rfl (hb hby at_60) rfl rfl ?_
        show Steps p.tables e below (T4.setTop (mkF m 62 #[.val (.int p0), .val (.int p1), .val (.int (0 : Int32)), .val (.int (1 : Int32)), .val (.ref bB), .val (.int ((55 : Int32) + ((10 : Int32) * (1 : Int32))))] [(.ref bB)])) _
        refine XS.iloadN X4.here hx rfl (hb hby at_62) rfl ?_
        show Steps p.tables e below (T4.setTop (mkF m 63 #[.val (.int p0), .val (.int p1), .val (.int (0 : Int32)), .val (.int (1 : Int32)), .val (.ref bB), .val (.int ((55 : Int32) + ((10 : Int32) * (1 : Int32))))] [(.int (1 : Int32)), (.ref bB)])) _
        refine st5 _ ?_
        show Steps p.tables e below (T5.setTop (mkF m 66 #[.val (.int p0), .val (.int p1), .val (.int (0 : Int32)), .val (.int (1 : Int32)), .val (.ref bB), .val (.int ((55 : Int32) + ((10 : Int32) * (1 : Int32))))] [(.int ((((34 : Int32) + ((8 : Int32) * (1 : Int32))) + (13 : Int32)) + ((((34 : Int32) + ((8 : Int32) * (1 : Int32))) - (1 : Int32)) / (4 : Int32))))])) _
        refine XS.iload X5.here hx rfl (hb hby at_66) rfl ?_
        show Steps p.tables e below (T5.setTop (mkF m 68 #[.val (.int p0), .val (.int p1), .val (.int (0 : Int32)), .val (.int (1 : Int32)), .val (.ref bB), .val (.int ((55 : Int32) + ((10 : Int32) * (1 : Int32))))] [(.int ((55 : Int32) + ((10 : Int32) * (1 : Int32)))), (.int ((((34 : Int32) + ((8 : Int32) * (1 : Int32))) + (13 : Int32)) + ((((34 : Int32) + ((8 : Int32) * (1 : Int32))) - (1 : Int32)) / (4 : Int32))))])) _
        refine XS.icmpNo X5.here hx rfl (hb hby at_68) rfl (teq (by decide : ((((34 : Int32) + ((8 : Int32) * (1 : Int32))) + (13 : Int32)) + ((((34 : Int32) + ((8 : Int32) * (1 : Int32))) - (1 : Int32)) / (4 : Int32))) = ((55 : Int32) + ((10 : Int32) * (1 : Int32))))).2 ?_
        show Steps p.tables e below (T5.setTop (mkF m 71 #[.val (.int p0), .val (.int p1), .val (.int (0 : Int32)), .val (.int (1 : Int32)), .val (.ref bB), .val (.int ((55 : Int32) + ((10 : Int32) * (1 : Int32))))] [])) _
        refine XS.iconst X5.here hx rfl (hb hby at_71) ?_
        show Steps p.tables e below (T5.setTop (mkF m 72 #[.val (.int p0), .val (.int p1), .val (.int (0 : Int32)), .val (.int (1 : Int32)), .val (.ref bB), .val (.int ((55 : Int32) + ((10 : Int32) * (1 : Int32))))] [(.int (1 : Int32))])) _
        refine XS.goto X5.here hx rfl (pc0 := 72) (pc' := 76) rfl (hb hby at_72) (by decide) (by decide) ?_
        show Steps p.tables e below (T5.setTop (mkF m 76 #[.val (.int p0), .val (.int p1), .val (.int (0 : Int32)), .val (.int (1 : Int32)), .val (.ref bB), .val (.int ((55 : Int32) + ((10 : Int32) * (1 : Int32))))] [(.int (1 : Int32))])) _
        exact retN X5 hx (t := .boolean) Bd.returns (by simp) (hb hby at_76) hr
      · show own_Q0 n0 _ T5.heap _
        rw [e5]
        exact ⟨rfl, N5⟩
    · obtain ⟨T6, X6, e6, st6⟩ := getS2 X0 hx hZ hown (host := "") (Or.inl (hw _ (List.mem_of_getElem? (i := 1) rfl))) Via.refl e0 S_B (g := (mkF m 30 #[.val (.int p0), .val (.int p1), .val (.int (0 : Int32)), .val (.int (2 : Int32)), .unset, .unset] [])) rfl (hb hby at_30)
      obtain ⟨_, _, ⟨T7, L7, k7, n7⟩, -, X7, ⟨Lc7, hQ7, l7, y7, z7⟩, st7⟩ := Jvm.LawKit.callS X6 hx (y := (⟨"com/example/careful_allocator/carefulallocator/can/FrameTiming", "worstCaseBits", "(Lcom/example/careful_allocator/carefulallocator/can/IdentifierFormat;I)I"⟩ : MethodName)) hown (mvT hZ (hw _ (List.mem_of_getElem? (i := 4) rfl))) (mvT hZ (hw _ (List.mem_of_getElem? (i := 5) rfl))) (mvT hZ (hw _ (List.mem_of_getElem? (i := 6) rfl))) (mvT hZ (hw _ (List.mem_of_getElem? (i := 7) rfl))) (by decide) (backOf (W := 0) (own_rm2 l Z a0 hw [] bB (2 : Int32) (34 : Int32) h0 n0 Z0 F_B E_B (by decide) (by decide)) hZ (hw _ (List.mem_of_getElem? (i := 7) rfl)) (hw _ (List.mem_of_getElem? (i := 6) rfl)) (by decide) (by decide)) (g := (mkF m 63 #[.val (.int p0), .val (.int p1), .val (.int (0 : Int32)), .val (.int (2 : Int32)), .val (.ref bB), .val (.int ((55 : Int32) + ((10 : Int32) * (2 : Int32))))] [(.int (2 : Int32)), (.ref bB)])) rfl (by rw [hml]; rfl) (argsL := [(.ref bB), (.int (2 : Int32))]) (rest := []) (lenOf own_pd1 rfl) rfl (by show 2 * 0 + _ ≤ _; exact Nat.le_of_eq rfl) (hb hby at_63) (fun _ _ => ⟨rfl, e6, (by decide : 0 + 0 ≤ _), (by decide : 0 + 0 ≤ _)⟩)
      dsimp only [Pt.U, Pt.locs, Pt.cells, Pt.slots] at X7 l7 y7 z7 st7 hQ7
      subst l7 y7 z7
      obtain ⟨rfl, N7q, e7⟩ := hQ7
      have N7 := Fr.app N0 N7q
      obtain ⟨fs, hr, hrun, hended, hW, hsame⟩ := X7.leave (v := some (.int (1 : Int32))) (fun h => by rw [Bd.returns] at h; cases h)
      refine ⟨_, _, ?_, hrun, hended, _, _, rfl, ?_, ⟨_, rfl⟩, hW, hsame.mono (by decide) (by decide)⟩
      · show Steps p.tables e below (s₁.setTop (mkF m 19 #[.val (.int p0), .val (.int p1), .val (.int (0 : Int32)), .unset, .unset, .unset] [(.int (2 : Int32))])) _
        refine XS.istoreN X0.here hx rfl (hb hby at_19) rfl (l' := #[.val (.int p0), .val (.int p1), .val (.int (0 : Int32)), .val (.int (2 : Int32)), .unset, .unset]) rfl ?_
        show Steps p.tables e below (s₁.setTop (mkF m 20 #[.val (.int p0), .val (.int p1), .val (.int (0 : Int32)), .val (.int (2 : Int32)), .unset, .unset] [])) _
        refine XS.iloadN X0.here hx rfl (hb hby at_20) rfl ?_
        show Steps p.tables e below (s₁.setTop (mkF m 21 #[.val (.int p0), .val (.int p1), .val (.int (0 : Int32)), .val (.int (2 : Int32)), .unset, .unset] [(.int (0 : Int32))])) _
        refine XS.ifYes X0.here hx rfl (pc0 := 21) (pc' := 30) rfl (hb hby at_21) rfl ((if0 _ _).trans (teq ((by decide) : (0 : Int32) = (0 : Int32))).1) (by decide) (by decide) ?_
        show Steps p.tables e below (s₁.setTop (mkF m 30 #[.val (.int p0), .val (.int p1), .val (.int (0 : Int32)), .val (.int (2 : Int32)), .unset, .unset] [])) _
        refine st6 _ ?_
        show Steps p.tables e below (T6.setTop (mkF m 33 #[.val (.int p0), .val (.int p1), .val (.int (0 : Int32)), .val (.int (2 : Int32)), .unset, .unset] [(.ref bB)])) _
        refine XS.astore X6.here hx rfl (hb hby at_33) rfl rfl (l' := #[.val (.int p0), .val (.int p1), .val (.int (0 : Int32)), .val (.int (2 : Int32)), .val (.ref bB), .unset]) rfl ?_
        show Steps p.tables e below (T6.setTop (mkF m 35 #[.val (.int p0), .val (.int p1), .val (.int (0 : Int32)), .val (.int (2 : Int32)), .val (.ref bB), .unset] [])) _
        refine XS.iloadN X6.here hx rfl (hb hby at_35) rfl ?_
        show Steps p.tables e below (T6.setTop (mkF m 36 #[.val (.int p0), .val (.int p1), .val (.int (0 : Int32)), .val (.int (2 : Int32)), .val (.ref bB), .unset] [(.int (0 : Int32))])) _
        refine XS.ifYes X6.here hx rfl (pc0 := 36) (pc' := 51) rfl (hb hby at_36) rfl ((if0 _ _).trans (teq ((by decide) : (0 : Int32) = (0 : Int32))).1) (by decide) (by decide) ?_
        show Steps p.tables e below (T6.setTop (mkF m 51 #[.val (.int p0), .val (.int p1), .val (.int (0 : Int32)), .val (.int (2 : Int32)), .val (.ref bB), .unset] [])) _
        refine XS.bipush X6.here hx rfl (hb hby at_51) ?_
        show Steps p.tables e below (T6.setTop (mkF m 53 #[.val (.int p0), .val (.int p1), .val (.int (0 : Int32)), .val (.int (2 : Int32)), .val (.ref bB), .unset] [(.int (55 : Int32))])) _
        refine XS.bipush X6.here hx rfl (hb hby at_53) ?_
        show Steps p.tables e below (T6.setTop (mkF m 55 #[.val (.int p0), .val (.int p1), .val (.int (0 : Int32)), .val (.int (2 : Int32)), .val (.ref bB), .unset] [(.int (10 : Int32)), (.int (55 : Int32))])) _
        refine XS.iloadN X6.here hx rfl (hb hby at_55) rfl ?_
        show Steps p.tables e below (T6.setTop (mkF m 56 #[.val (.int p0), .val (.int p1), .val (.int (0 : Int32)), .val (.int (2 : Int32)), .val (.ref bB), .unset] [(.int (2 : Int32)), (.int (10 : Int32)), (.int (55 : Int32))])) _
        refine XS.imul X6.here hx rfl (hb hby at_56) rfl ?_
        show Steps p.tables e below (T6.setTop (mkF m 57 #[.val (.int p0), .val (.int p1), .val (.int (0 : Int32)), .val (.int (2 : Int32)), .val (.ref bB), .unset] [(.int ((10 : Int32) * (2 : Int32))), (.int (55 : Int32))])) _
        refine XS.iadd X6.here hx rfl (hb hby at_57) rfl ?_
        show Steps p.tables e below (T6.setTop (mkF m 58 #[.val (.int p0), .val (.int p1), .val (.int (0 : Int32)), .val (.int (2 : Int32)), .val (.ref bB), .unset] [(.int ((55 : Int32) + ((10 : Int32) * (2 : Int32))))])) _
        refine XS.istore X6.here hx rfl (hb hby at_58) rfl (l' := #[.val (.int p0), .val (.int p1), .val (.int (0 : Int32)), .val (.int (2 : Int32)), .val (.ref bB), .val (.int ((55 : Int32) + ((10 : Int32) * (2 : Int32))))]) rfl ?_
        show Steps p.tables e below (T6.setTop (mkF m 60 #[.val (.int p0), .val (.int p1), .val (.int (0 : Int32)), .val (.int (2 : Int32)), .val (.ref bB), .val (.int ((55 : Int32) + ((10 : Int32) * (2 : Int32))))] [])) _
        refine XS.aload X6.here hx rfl (hb hby at_60) rfl rfl ?_
        show Steps p.tables e below (T6.setTop (mkF m 62 #[.val (.int p0), .val (.int p1), .val (.int (0 : Int32)), .val (.int (2 : Int32)), .val (.ref bB), .val (.int ((55 : Int32) + ((10 : Int32) * (2 : Int32))))] [(.ref bB)])) _
        refine XS.iloadN X6.here hx rfl (hb hby at_62) rfl ?_
        show Steps p.tables e below (T6.setTop (mkF m 63 #[.val (.int p0), .val (.int p1), .val (.int (0 : Int32)), .val (.int (2 : Int32)), .val (.ref bB), .val (.int ((55 : Int32) + ((10 : Int32) * (2 : Int32))))] [(.int (2 : Int32)), (.ref bB)])) _
        refine st7 _ ?_
        show Steps p.tables e below (T7.setTop (mkF m 66 #[.val (.int p0), .val (.int p1), .val (.int (0 : Int32)), .val (.int (2 : Int32)), .val (.ref bB), .val (.int ((55 : Int32) + ((10 : Int32) * (2 : Int32))))] [(.int ((((34 : Int32) + ((8 : Int32) * (2 : Int32))) + (13 : Int32)) + ((((34 : Int32) + ((8 : Int32) * (2 : Int32))) - (1 : Int32)) / (4 : Int32))))])) _
        refine XS.iload X7.here hx rfl (hb hby at_66) rfl ?_
        show Steps p.tables e below (T7.setTop (mkF m 68 #[.val (.int p0), .val (.int p1), .val (.int (0 : Int32)), .val (.int (2 : Int32)), .val (.ref bB), .val (.int ((55 : Int32) + ((10 : Int32) * (2 : Int32))))] [(.int ((55 : Int32) + ((10 : Int32) * (2 : Int32)))), (.int ((((34 : Int32) + ((8 : Int32) * (2 : Int32))) + (13 : Int32)) + ((((34 : Int32) + ((8 : Int32) * (2 : Int32))) - (1 : Int32)) / (4 : Int32))))])) _
        refine XS.icmpNo X7.here hx rfl (hb hby at_68) rfl (teq (by decide : ((((34 : Int32) + ((8 : Int32) * (2 : Int32))) + (13 : Int32)) + ((((34 : Int32) + ((8 : Int32) * (2 : Int32))) - (1 : Int32)) / (4 : Int32))) = ((55 : Int32) + ((10 : Int32) * (2 : Int32))))).2 ?_
        show Steps p.tables e below (T7.setTop (mkF m 71 #[.val (.int p0), .val (.int p1), .val (.int (0 : Int32)), .val (.int (2 : Int32)), .val (.ref bB), .val (.int ((55 : Int32) + ((10 : Int32) * (2 : Int32))))] [])) _
        refine XS.iconst X7.here hx rfl (hb hby at_71) ?_
        show Steps p.tables e below (T7.setTop (mkF m 72 #[.val (.int p0), .val (.int p1), .val (.int (0 : Int32)), .val (.int (2 : Int32)), .val (.ref bB), .val (.int ((55 : Int32) + ((10 : Int32) * (2 : Int32))))] [(.int (1 : Int32))])) _
        refine XS.goto X7.here hx rfl (pc0 := 72) (pc' := 76) rfl (hb hby at_72) (by decide) (by decide) ?_
        show Steps p.tables e below (T7.setTop (mkF m 76 #[.val (.int p0), .val (.int p1), .val (.int (0 : Int32)), .val (.int (2 : Int32)), .val (.ref bB), .val (.int ((55 : Int32) + ((10 : Int32) * (2 : Int32))))] [(.int (1 : Int32))])) _
        exact retN X7 hx (t := .boolean) Bd.returns (by simp) (hb hby at_76) hr
      · show own_Q0 n0 _ T7.heap _
        rw [e7]
        exact ⟨rfl, N7⟩
    · obtain ⟨T8, X8, e8, st8⟩ := getS2 X0 hx hZ hown (host := "") (Or.inl (hw _ (List.mem_of_getElem? (i := 1) rfl))) Via.refl e0 S_B (g := (mkF m 30 #[.val (.int p0), .val (.int p1), .val (.int (0 : Int32)), .val (.int (3 : Int32)), .unset, .unset] [])) rfl (hb hby at_30)
      obtain ⟨_, _, ⟨T9, L9, k9, n9⟩, -, X9, ⟨Lc9, hQ9, l9, y9, z9⟩, st9⟩ := Jvm.LawKit.callS X8 hx (y := (⟨"com/example/careful_allocator/carefulallocator/can/FrameTiming", "worstCaseBits", "(Lcom/example/careful_allocator/carefulallocator/can/IdentifierFormat;I)I"⟩ : MethodName)) hown (mvT hZ (hw _ (List.mem_of_getElem? (i := 4) rfl))) (mvT hZ (hw _ (List.mem_of_getElem? (i := 5) rfl))) (mvT hZ (hw _ (List.mem_of_getElem? (i := 6) rfl))) (mvT hZ (hw _ (List.mem_of_getElem? (i := 7) rfl))) (by decide) (backOf (W := 0) (own_rm2 l Z a0 hw [] bB (3 : Int32) (34 : Int32) h0 n0 Z0 F_B E_B (by decide) (by decide)) hZ (hw _ (List.mem_of_getElem? (i := 7) rfl)) (hw _ (List.mem_of_getElem? (i := 6) rfl)) (by decide) (by decide)) (g := (mkF m 63 #[.val (.int p0), .val (.int p1), .val (.int (0 : Int32)), .val (.int (3 : Int32)), .val (.ref bB), .val (.int ((55 : Int32) + ((10 : Int32) * (3 : Int32))))] [(.int (3 : Int32)), (.ref bB)])) rfl (by rw [hml]; rfl) (argsL := [(.ref bB), (.int (3 : Int32))]) (rest := []) (lenOf own_pd1 rfl) rfl (by show 2 * 0 + _ ≤ _; exact Nat.le_of_eq rfl) (hb hby at_63) (fun _ _ => ⟨rfl, e8, (by decide : 0 + 0 ≤ _), (by decide : 0 + 0 ≤ _)⟩)
      dsimp only [Pt.U, Pt.locs, Pt.cells, Pt.slots] at X9 l9 y9 z9 st9 hQ9
      subst l9 y9 z9
      obtain ⟨rfl, N9q, e9⟩ := hQ9
      have N9 := Fr.app N0 N9q
      obtain ⟨fs, hr, hrun, hended, hW, hsame⟩ := X9.leave (v := some (.int (1 : Int32))) (fun h => by rw [Bd.returns] at h; cases h)
      refine ⟨_, _, ?_, hrun, hended, _, _, rfl, ?_, ⟨_, rfl⟩, hW, hsame.mono (by decide) (by decide)⟩
      · show Steps p.tables e below (s₁.setTop (mkF m 19 #[.val (.int p0), .val (.int p1), .val (.int (0 : Int32)), .unset, .unset, .unset] [(.int (3 : Int32))])) _
        refine XS.istoreN X0.here hx rfl (hb hby at_19) rfl (l' := #[.val (.int p0), .val (.int p1), .val (.int (0 : Int32)), .val (.int (3 : Int32)), .unset, .unset]) rfl ?_
        show Steps p.tables e below (s₁.setTop (mkF m 20 #[.val (.int p0), .val (.int p1), .val (.int (0 : Int32)), .val (.int (3 : Int32)), .unset, .unset] [])) _
        refine XS.iloadN X0.here hx rfl (hb hby at_20) rfl ?_
        show Steps p.tables e below (s₁.setTop (mkF m 21 #[.val (.int p0), .val (.int p1), .val (.int (0 : Int32)), .val (.int (3 : Int32)), .unset, .unset] [(.int (0 : Int32))])) _
        refine XS.ifYes X0.here hx rfl (pc0 := 21) (pc' := 30) rfl (hb hby at_21) rfl ((if0 _ _).trans (teq ((by decide) : (0 : Int32) = (0 : Int32))).1) (by decide) (by decide) ?_
        show Steps p.tables e below (s₁.setTop (mkF m 30 #[.val (.int p0), .val (.int p1), .val (.int (0 : Int32)), .val (.int (3 : Int32)), .unset, .unset] [])) _
        refine st8 _ ?_
        show Steps p.tables e below (T8.setTop (mkF m 33 #[.val (.int p0), .val (.int p1), .val (.int (0 : Int32)), .val (.int (3 : Int32)), .unset, .unset] [(.ref bB)])) _
        refine XS.astore X8.here hx rfl (hb hby at_33) rfl rfl (l' := #[.val (.int p0), .val (.int p1), .val (.int (0 : Int32)), .val (.int (3 : Int32)), .val (.ref bB), .unset]) rfl ?_
        show Steps p.tables e below (T8.setTop (mkF m 35 #[.val (.int p0), .val (.int p1), .val (.int (0 : Int32)), .val (.int (3 : Int32)), .val (.ref bB), .unset] [])) _
        refine XS.iloadN X8.here hx rfl (hb hby at_35) rfl ?_
        show Steps p.tables e below (T8.setTop (mkF m 36 #[.val (.int p0), .val (.int p1), .val (.int (0 : Int32)), .val (.int (3 : Int32)), .val (.ref bB), .unset] [(.int (0 : Int32))])) _
        refine XS.ifYes X8.here hx rfl (pc0 := 36) (pc' := 51) rfl (hb hby at_36) rfl ((if0 _ _).trans (teq ((by decide) : (0 : Int32) = (0 : Int32))).1) (by decide) (by decide) ?_
        show Steps p.tables e below (T8.setTop (mkF m 51 #[.val (.int p0), .val (.int p1), .val (.int (0 : Int32)), .val (.int (3 : Int32)), .val (.ref bB), .unset] [])) _
        refine XS.bipush X8.here hx rfl (hb hby at_51) ?_
        show Steps p.tables e below (T8.setTop (mkF m 53 #[.val (.int p0), .val (.int p1), .val (.int (0 : Int32)), .val (.int (3 : Int32)), .val (.ref bB), .unset] [(.int (55 : Int32))])) _
        refine XS.bipush X8.here hx rfl (hb hby at_53) ?_
        show Steps p.tables e below (T8.setTop (mkF m 55 #[.val (.int p0), .val (.int p1), .val (.int (0 : Int32)), .val (.int (3 : Int32)), .val (.ref bB), .unset] [(.int (10 : Int32)), (.int (55 : Int32))])) _
        refine XS.iloadN X8.here hx rfl (hb hby at_55) rfl ?_
        show Steps p.tables e below (T8.setTop (mkF m 56 #[.val (.int p0), .val (.int p1), .val (.int (0 : Int32)), .val (.int (3 : Int32)), .val (.ref bB), .unset] [(.int (3 : Int32)), (.int (10 : Int32)), (.int (55 : Int32))])) _
        refine XS.imul X8.here hx rfl (hb hby at_56) rfl ?_
        show Steps p.tables e below (T8.setTop (mkF m 57 #[.val (.int p0), .val (.int p1), .val (.int (0 : Int32)), .val (.int (3 : Int32)), .val (.ref bB), .unset] [(.int ((10 : Int32) * (3 : Int32))), (.int (55 : Int32))])) _
        refine XS.iadd X8.here hx rfl (hb hby at_57) rfl ?_
        show Steps p.tables e below (T8.setTop (mkF m 58 #[.val (.int p0), .val (.int p1), .val (.int (0 : Int32)), .val (.int (3 : Int32)), .val (.ref bB), .unset] [(.int ((55 : Int32) + ((10 : Int32) * (3 : Int32))))])) _
        refine XS.istore X8.here hx rfl (hb hby at_58) rfl (l' := #[.val (.int p0), .val (.int p1), .val (.int (0 : Int32)), .val (.int (3 : Int32)), .val (.ref bB), .val (.int ((55 : Int32) + ((10 : Int32) * (3 : Int32))))]) rfl ?_
        show Steps p.tables e below (T8.setTop (mkF m 60 #[.val (.int p0), .val (.int p1), .val (.int (0 : Int32)), .val (.int (3 : Int32)), .val (.ref bB), .val (.int ((55 : Int32) + ((10 : Int32) * (3 : Int32))))] [])) _
        refine XS.aload X8.here hx rfl (hb hby at_60) rfl rfl ?_
        show Steps p.tables e below (T8.setTop (mkF m 62 #[.val (.int p0), .val (.int p1), .val (.int (0 : Int32)), .val (.int (3 : Int32)), .val (.ref bB), .val (.int ((55 : Int32) + ((10 : Int32) * (3 : Int32))))] [(.ref bB)])) _
        refine XS.iloadN X8.here hx rfl (hb hby at_62) rfl ?_
        show Steps p.tables e below (T8.setTop (mkF m 63 #[.val (.int p0), .val (.int p1), .val (.int (0 : Int32)), .val (.int (3 : Int32)), .val (.ref bB), .val (.int ((55 : Int32) + ((10 : Int32) * (3 : Int32))))] [(.int (3 : Int32)), (.ref bB)])) _
        refine st9 _ ?_
        show Steps p.tables e below (T9.setTop (mkF m 66 #[.val (.int p0), .val (.int p1), .val (.int (0 : Int32)), .val (.int (3 : Int32)), .val (.ref bB), .val (.int ((55 : Int32) + ((10 : Int32) * (3 : Int32))))] [(.int ((((34 : Int32) + ((8 : Int32) * (3 : Int32))) + (13 : Int32)) + ((((34 : Int32) + ((8 : Int32) * (3 : Int32))) - (1 : Int32)) / (4 : Int32))))])) _
        refine XS.iload X9.here hx rfl (hb hby at_66) rfl ?_
        show Steps p.tables e below (T9.setTop (mkF m 68 #[.val (.int p0), .val (.int p1), .val (.int (0 : Int32)), .val (.int (3 : Int32)), .val (.ref bB), .val (.int ((55 : Int32) + ((10 : Int32) * (3 : Int32))))] [(.int ((55 : Int32) + ((10 : Int32) * (3 : Int32)))), (.int ((((34 : Int32) + ((8 : Int32) * (3 : Int32))) + (13 : Int32)) + ((((34 : Int32) + ((8 : Int32) * (3 : Int32))) - (1 : Int32)) / (4 : Int32))))])) _
        refine XS.icmpNo X9.here hx rfl (hb hby at_68) rfl (teq (by decide : ((((34 : Int32) + ((8 : Int32) * (3 : Int32))) + (13 : Int32)) + ((((34 : Int32) + ((8 : Int32) * (3 : Int32))) - (1 : Int32)) / (4 : Int32))) = ((55 : Int32) + ((10 : Int32) * (3 : Int32))))).2 ?_
        show Steps p.tables e below (T9.setTop (mkF m 71 #[.val (.int p0), .val (.int p1), .val (.int (0 : Int32)), .val (.int (3 : Int32)), .val (.ref bB), .val (.int ((55 : Int32) + ((10 : Int32) * (3 : Int32))))] [])) _
        refine XS.iconst X9.here hx rfl (hb hby at_71) ?_
        show Steps p.tables e below (T9.setTop (mkF m 72 #[.val (.int p0), .val (.int p1), .val (.int (0 : Int32)), .val (.int (3 : Int32)), .val (.ref bB), .val (.int ((55 : Int32) + ((10 : Int32) * (3 : Int32))))] [(.int (1 : Int32))])) _
        refine XS.goto X9.here hx rfl (pc0 := 72) (pc' := 76) rfl (hb hby at_72) (by decide) (by decide) ?_
        show Steps p.tables e below (T9.setTop (mkF m 76 #[.val (.int p0), .val (.int p1), .val (.int (0 : Int32)), .val (.int (3 : Int32)), .val (.ref bB), .val (.int ((55 : Int32) + ((10 : Int32) * (3 : Int32))))] [(.int (1 : Int32))])) _
        exact retN X9 hx (t := .boolean) Bd.returns (by simp) (hb hby at_76) hr
      · show own_Q0 n0 _ T9.heap _
        rw [e9]
        exact ⟨rfl, N9⟩
    · obtain ⟨T10, X10, e10, st10⟩ := getS2 X0 hx hZ hown (host := "") (Or.inl (hw _ (List.mem_of_getElem? (i := 1) rfl))) Via.refl e0 S_B (g := (mkF m 30 #[.val (.int p0), .val (.int p1), .val (.int (0 : Int32)), .val (.int (4 : Int32)), .unset, .unset] [])) rfl (hb hby at_30)
      obtain ⟨_, _, ⟨T11, L11, k11, n11⟩, -, X11, ⟨Lc11, hQ11, l11, y11, z11⟩, st11⟩ := Jvm.LawKit.callS X10 hx (y := (⟨"com/example/careful_allocator/carefulallocator/can/FrameTiming", "worstCaseBits", "(Lcom/example/careful_allocator/carefulallocator/can/IdentifierFormat;I)I"⟩ : MethodName)) hown (mvT hZ (hw _ (List.mem_of_getElem? (i := 4) rfl))) (mvT hZ (hw _ (List.mem_of_getElem? (i := 5) rfl))) (mvT hZ (hw _ (List.mem_of_getElem? (i := 6) rfl))) (mvT hZ (hw _ (List.mem_of_getElem? (i := 7) rfl))) (by decide) (backOf (W := 0) (own_rm2 l Z a0 hw [] bB (4 : Int32) (34 : Int32) h0 n0 Z0 F_B E_B (by decide) (by decide)) hZ (hw _ (List.mem_of_getElem? (i := 7) rfl)) (hw _ (List.mem_of_getElem? (i := 6) rfl)) (by decide) (by decide)) (g := (mkF m 63 #[.val (.int p0), .val (.int p1), .val (.int (0 : Int32)), .val (.int (4 : Int32)), .val (.ref bB), .val (.int ((55 : Int32) + ((10 : Int32) * (4 : Int32))))] [(.int (4 : Int32)), (.ref bB)])) rfl (by rw [hml]; rfl) (argsL := [(.ref bB), (.int (4 : Int32))]) (rest := []) (lenOf own_pd1 rfl) rfl (by show 2 * 0 + _ ≤ _; exact Nat.le_of_eq rfl) (hb hby at_63) (fun _ _ => ⟨rfl, e10, (by decide : 0 + 0 ≤ _), (by decide : 0 + 0 ≤ _)⟩)
      dsimp only [Pt.U, Pt.locs, Pt.cells, Pt.slots] at X11 l11 y11 z11 st11 hQ11
      subst l11 y11 z11
      obtain ⟨rfl, N11q, e11⟩ := hQ11
      have N11 := Fr.app N0 N11q
      obtain ⟨fs, hr, hrun, hended, hW, hsame⟩ := X11.leave (v := some (.int (1 : Int32))) (fun h => by rw [Bd.returns] at h; cases h)
      refine ⟨_, _, ?_, hrun, hended, _, _, rfl, ?_, ⟨_, rfl⟩, hW, hsame.mono (by decide) (by decide)⟩
      · show Steps p.tables e below (s₁.setTop (mkF m 19 #[.val (.int p0), .val (.int p1), .val (.int (0 : Int32)), .unset, .unset, .unset] [(.int (4 : Int32))])) _
        refine XS.istoreN X0.here hx rfl (hb hby at_19) rfl (l' := #[.val (.int p0), .val (.int p1), .val (.int (0 : Int32)), .val (.int (4 : Int32)), .unset, .unset]) rfl ?_
        show Steps p.tables e below (s₁.setTop (mkF m 20 #[.val (.int p0), .val (.int p1), .val (.int (0 : Int32)), .val (.int (4 : Int32)), .unset, .unset] [])) _
        refine XS.iloadN X0.here hx rfl (hb hby at_20) rfl ?_
        show Steps p.tables e below (s₁.setTop (mkF m 21 #[.val (.int p0), .val (.int p1), .val (.int (0 : Int32)), .val (.int (4 : Int32)), .unset, .unset] [(.int (0 : Int32))])) _
        refine XS.ifYes X0.here hx rfl (pc0 := 21) (pc' := 30) rfl (hb hby at_21) rfl ((if0 _ _).trans (teq ((by decide) : (0 : Int32) = (0 : Int32))).1) (by decide) (by decide) ?_
        show Steps p.tables e below (s₁.setTop (mkF m 30 #[.val (.int p0), .val (.int p1), .val (.int (0 : Int32)), .val (.int (4 : Int32)), .unset, .unset] [])) _
        refine st10 _ ?_
        show Steps p.tables e below (T10.setTop (mkF m 33 #[.val (.int p0), .val (.int p1), .val (.int (0 : Int32)), .val (.int (4 : Int32)), .unset, .unset] [(.ref bB)])) _
        refine XS.astore X10.here hx rfl (hb hby at_33) rfl rfl (l' := #[.val (.int p0), .val (.int p1), .val (.int (0 : Int32)), .val (.int (4 : Int32)), .val (.ref bB), .unset]) rfl ?_
        show Steps p.tables e below (T10.setTop (mkF m 35 #[.val (.int p0), .val (.int p1), .val (.int (0 : Int32)), .val (.int (4 : Int32)), .val (.ref bB), .unset] [])) _
        refine XS.iloadN X10.here hx rfl (hb hby at_35) rfl ?_
        show Steps p.tables e below (T10.setTop (mkF m 36 #[.val (.int p0), .val (.int p1), .val (.int (0 : Int32)), .val (.int (4 : Int32)), .val (.ref bB), .unset] [(.int (0 : Int32))])) _
        refine XS.ifYes X10.here hx rfl (pc0 := 36) (pc' := 51) rfl (hb hby at_36) rfl ((if0 _ _).trans (teq ((by decide) : (0 : Int32) = (0 : Int32))).1) (by decide) (by decide) ?_
        show Steps p.tables e below (T10.setTop (mkF m 51 #[.val (.int p0), .val (.int p1), .val (.int (0 : Int32)), .val (.int (4 : Int32)), .val (.ref bB), .unset] [])) _
        refine XS.bipush X10.here hx rfl (hb hby at_51) ?_
        show Steps p.tables e below (T10.setTop (mkF m 53 #[.val (.int p0), .val (.int p1), .val (.int (0 : Int32)), .val (.int (4 : Int32)), .val (.ref bB), .unset] [(.int (55 : Int32))])) _
        refine XS.bipush X10.here hx rfl (hb hby at_53) ?_
        show Steps p.tables e below (T10.setTop (mkF m 55 #[.val (.int p0), .val (.int p1), .val (.int (0 : Int32)), .val (.int (4 : Int32)), .val (.ref bB), .unset] [(.int (10 : Int32)), (.int (55 : Int32))])) _
        refine XS.iloadN X10.here hx rfl (hb hby at_55) rfl ?_
        show Steps p.tables e below (T10.setTop (mkF m 56 #[.val (.int p0), .val (.int p1), .val (.int (0 : Int32)), .val (.int (4 : Int32)), .val (.ref bB), .unset] [(.int (4 : Int32)), (.int (10 : Int32)), (.int (55 : Int32))])) _
        refine XS.imul X10.here hx rfl (hb hby at_56) rfl ?_
        show Steps p.tables e below (T10.setTop (mkF m 57 #[.val (.int p0), .val (.int p1), .val (.int (0 : Int32)), .val (.int (4 : Int32)), .val (.ref bB), .unset] [(.int ((10 : Int32) * (4 : Int32))), (.int (55 : Int32))])) _
        refine XS.iadd X10.here hx rfl (hb hby at_57) rfl ?_
        show Steps p.tables e below (T10.setTop (mkF m 58 #[.val (.int p0), .val (.int p1), .val (.int (0 : Int32)), .val (.int (4 : Int32)), .val (.ref bB), .unset] [(.int ((55 : Int32) + ((10 : Int32) * (4 : Int32))))])) _
        refine XS.istore X10.here hx rfl (hb hby at_58) rfl (l' := #[.val (.int p0), .val (.int p1), .val (.int (0 : Int32)), .val (.int (4 : Int32)), .val (.ref bB), .val (.int ((55 : Int32) + ((10 : Int32) * (4 : Int32))))]) rfl ?_
        show Steps p.tables e below (T10.setTop (mkF m 60 #[.val (.int p0), .val (.int p1), .val (.int (0 : Int32)), .val (.int (4 : Int32)), .val (.ref bB), .val (.int ((55 : Int32) + ((10 : Int32) * (4 : Int32))))] [])) _
        refine XS.aload X10.here hx rfl (hb hby at_60) rfl rfl ?_
        show Steps p.tables e below (T10.setTop (mkF m 62 #[.val (.int p0), .val (.int p1), .val (.int (0 : Int32)), .val (.int (4 : Int32)), .val (.ref bB), .val (.int ((55 : Int32) + ((10 : Int32) * (4 : Int32))))] [(.ref bB)])) _
        refine XS.iloadN X10.here hx rfl (hb hby at_62) rfl ?_
        show Steps p.tables e below (T10.setTop (mkF m 63 #[.val (.int p0), .val (.int p1), .val (.int (0 : Int32)), .val (.int (4 : Int32)), .val (.ref bB), .val (.int ((55 : Int32) + ((10 : Int32) * (4 : Int32))))] [(.int (4 : Int32)), (.ref bB)])) _
        refine st11 _ ?_
        show Steps p.tables e below (T11.setTop (mkF m 66 #[.val (.int p0), .val (.int p1), .val (.int (0 : Int32)), .val (.int (4 : Int32)), .val (.ref bB), .val (.int ((55 : Int32) + ((10 : Int32) * (4 : Int32))))] [(.int ((((34 : Int32) + ((8 : Int32) * (4 : Int32))) + (13 : Int32)) + ((((34 : Int32) + ((8 : Int32) * (4 : Int32))) - (1 : Int32)) / (4 : Int32))))])) _
        refine XS.iload X11.here hx rfl (hb hby at_66) rfl ?_
        show Steps p.tables e below (T11.setTop (mkF m 68 #[.val (.int p0), .val (.int p1), .val (.int (0 : Int32)), .val (.int (4 : Int32)), .val (.ref bB), .val (.int ((55 : Int32) + ((10 : Int32) * (4 : Int32))))] [(.int ((55 : Int32) + ((10 : Int32) * (4 : Int32)))), (.int ((((34 : Int32) + ((8 : Int32) * (4 : Int32))) + (13 : Int32)) + ((((34 : Int32) + ((8 : Int32) * (4 : Int32))) - (1 : Int32)) / (4 : Int32))))])) _
        refine XS.icmpNo X11.here hx rfl (hb hby at_68) rfl (teq (by decide : ((((34 : Int32) + ((8 : Int32) * (4 : Int32))) + (13 : Int32)) + ((((34 : Int32) + ((8 : Int32) * (4 : Int32))) - (1 : Int32)) / (4 : Int32))) = ((55 : Int32) + ((10 : Int32) * (4 : Int32))))).2 ?_
        show Steps p.tables e below (T11.setTop (mkF m 71 #[.val (.int p0), .val (.int p1), .val (.int (0 : Int32)), .val (.int (4 : Int32)), .val (.ref bB), .val (.int ((55 : Int32) + ((10 : Int32) * (4 : Int32))))] [])) _
        refine XS.iconst X11.here hx rfl (hb hby at_71) ?_
        show Steps p.tables e below (T11.setTop (mkF m 72 #[.val (.int p0), .val (.int p1), .val (.int (0 : Int32)), .val (.int (4 : Int32)), .val (.ref bB), .val (.int ((55 : Int32) + ((10 : Int32) * (4 : Int32))))] [(.int (1 : Int32))])) _
        refine XS.goto X11.here hx rfl (pc0 := 72) (pc' := 76) rfl (hb hby at_72) (by decide) (by decide) ?_
        show Steps p.tables e below (T11.setTop (mkF m 76 #[.val (.int p0), .val (.int p1), .val (.int (0 : Int32)), .val (.int (4 : Int32)), .val (.ref bB), .val (.int ((55 : Int32) + ((10 : Int32) * (4 : Int32))))] [(.int (1 : Int32))])) _
        exact retN X11 hx (t := .boolean) Bd.returns (by simp) (hb hby at_76) hr
      · show own_Q0 n0 _ T11.heap _
        rw [e11]
        exact ⟨rfl, N11⟩
    · obtain ⟨T12, X12, e12, st12⟩ := getS2 X0 hx hZ hown (host := "") (Or.inl (hw _ (List.mem_of_getElem? (i := 1) rfl))) Via.refl e0 S_B (g := (mkF m 30 #[.val (.int p0), .val (.int p1), .val (.int (0 : Int32)), .val (.int (5 : Int32)), .unset, .unset] [])) rfl (hb hby at_30)
      obtain ⟨_, _, ⟨T13, L13, k13, n13⟩, -, X13, ⟨Lc13, hQ13, l13, y13, z13⟩, st13⟩ := Jvm.LawKit.callS X12 hx (y := (⟨"com/example/careful_allocator/carefulallocator/can/FrameTiming", "worstCaseBits", "(Lcom/example/careful_allocator/carefulallocator/can/IdentifierFormat;I)I"⟩ : MethodName)) hown (mvT hZ (hw _ (List.mem_of_getElem? (i := 4) rfl))) (mvT hZ (hw _ (List.mem_of_getElem? (i := 5) rfl))) (mvT hZ (hw _ (List.mem_of_getElem? (i := 6) rfl))) (mvT hZ (hw _ (List.mem_of_getElem? (i := 7) rfl))) (by decide) (backOf (W := 0) (own_rm2 l Z a0 hw [] bB (5 : Int32) (34 : Int32) h0 n0 Z0 F_B E_B (by decide) (by decide)) hZ (hw _ (List.mem_of_getElem? (i := 7) rfl)) (hw _ (List.mem_of_getElem? (i := 6) rfl)) (by decide) (by decide)) (g := (mkF m 63 #[.val (.int p0), .val (.int p1), .val (.int (0 : Int32)), .val (.int (5 : Int32)), .val (.ref bB), .val (.int ((55 : Int32) + ((10 : Int32) * (5 : Int32))))] [(.int (5 : Int32)), (.ref bB)])) rfl (by rw [hml]; rfl) (argsL := [(.ref bB), (.int (5 : Int32))]) (rest := []) (lenOf own_pd1 rfl) rfl (by show 2 * 0 + _ ≤ _; exact Nat.le_of_eq rfl) (hb hby at_63) (fun _ _ => ⟨rfl, e12, (by decide : 0 + 0 ≤ _), (by decide : 0 + 0 ≤ _)⟩)
      dsimp only [Pt.U, Pt.locs, Pt.cells, Pt.slots] at X13 l13 y13 z13 st13 hQ13
      subst l13 y13 z13
      obtain ⟨rfl, N13q, e13⟩ := hQ13
      have N13 := Fr.app N0 N13q
      obtain ⟨fs, hr, hrun, hended, hW, hsame⟩ := X13.leave (v := some (.int (1 : Int32))) (fun h => by rw [Bd.returns] at h; cases h)
      refine ⟨_, _, ?_, hrun, hended, _, _, rfl, ?_, ⟨_, rfl⟩, hW, hsame.mono (by decide) (by decide)⟩
      · show Steps p.tables e below (s₁.setTop (mkF m 19 #[.val (.int p0), .val (.int p1), .val (.int (0 : Int32)), .unset, .unset, .unset] [(.int (5 : Int32))])) _
        refine XS.istoreN X0.here hx rfl (hb hby at_19) rfl (l' := #[.val (.int p0), .val (.int p1), .val (.int (0 : Int32)), .val (.int (5 : Int32)), .unset, .unset]) rfl ?_
        show Steps p.tables e below (s₁.setTop (mkF m 20 #[.val (.int p0), .val (.int p1), .val (.int (0 : Int32)), .val (.int (5 : Int32)), .unset, .unset] [])) _
        refine XS.iloadN X0.here hx rfl (hb hby at_20) rfl ?_
        show Steps p.tables e below (s₁.setTop (mkF m 21 #[.val (.int p0), .val (.int p1), .val (.int (0 : Int32)), .val (.int (5 : Int32)), .unset, .unset] [(.int (0 : Int32))])) _
        refine XS.ifYes X0.here hx rfl (pc0 := 21) (pc' := 30) rfl (hb hby at_21) rfl ((if0 _ _).trans (teq ((by decide) : (0 : Int32) = (0 : Int32))).1) (by decide) (by decide) ?_
        show Steps p.tables e below (s₁.setTop (mkF m 30 #[.val (.int p0), .val (.int p1), .val (.int (0 : Int32)), .val (.int (5 : Int32)), .unset, .unset] [])) _
        refine st12 _ ?_
        show Steps p.tables e below (T12.setTop (mkF m 33 #[.val (.int p0), .val (.int p1), .val (.int (0 : Int32)), .val (.int (5 : Int32)), .unset, .unset] [(.ref bB)])) _
        refine XS.astore X12.here hx rfl (hb hby at_33) rfl rfl (l' := #[.val (.int p0), .val (.int p1), .val (.int (0 : Int32)), .val (.int (5 : Int32)), .val (.ref bB), .unset]) rfl ?_
        show Steps p.tables e below (T12.setTop (mkF m 35 #[.val (.int p0), .val (.int p1), .val (.int (0 : Int32)), .val (.int (5 : Int32)), .val (.ref bB), .unset] [])) _
        refine XS.iloadN X12.here hx rfl (hb hby at_35) rfl ?_
        show Steps p.tables e below (T12.setTop (mkF m 36 #[.val (.int p0), .val (.int p1), .val (.int (0 : Int32)), .val (.int (5 : Int32)), .val (.ref bB), .unset] [(.int (0 : Int32))])) _
        refine XS.ifYes X12.here hx rfl (pc0 := 36) (pc' := 51) rfl (hb hby at_36) rfl ((if0 _ _).trans (teq ((by decide) : (0 : Int32) = (0 : Int32))).1) (by decide) (by decide) ?_
        show Steps p.tables e below (T12.setTop (mkF m 51 #[.val (.int p0), .val (.int p1), .val (.int (0 : Int32)), .val (.int (5 : Int32)), .val (.ref bB), .unset] [])) _
        refine XS.bipush X12.here hx rfl (hb hby at_51) ?_
        show Steps p.tables e below (T12.setTop (mkF m 53 #[.val (.int p0), .val (.int p1), .val (.int (0 : Int32)), .val (.int (5 : Int32)), .val (.ref bB), .unset] [(.int (55 : Int32))])) _
        refine XS.bipush X12.here hx rfl (hb hby at_53) ?_
        show Steps p.tables e below (T12.setTop (mkF m 55 #[.val (.int p0), .val (.int p1), .val (.int (0 : Int32)), .val (.int (5 : Int32)), .val (.ref bB), .unset] [(.int (10 : Int32)), (.int (55 : Int32))])) _
        refine XS.iloadN X12.here hx rfl (hb hby at_55) rfl ?_
        show Steps p.tables e below (T12.setTop (mkF m 56 #[.val (.int p0), .val (.int p1), .val (.int (0 : Int32)), .val (.int (5 : Int32)), .val (.ref bB), .unset] [(.int (5 : Int32)), (.int (10 : Int32)), (.int (55 : Int32))])) _
        refine XS.imul X12.here hx rfl (hb hby at_56) rfl ?_
        show Steps p.tables e below (T12.setTop (mkF m 57 #[.val (.int p0), .val (.int p1), .val (.int (0 : Int32)), .val (.int (5 : Int32)), .val (.ref bB), .unset] [(.int ((10 : Int32) * (5 : Int32))), (.int (55 : Int32))])) _
        refine XS.iadd X12.here hx rfl (hb hby at_57) rfl ?_
        show Steps p.tables e below (T12.setTop (mkF m 58 #[.val (.int p0), .val (.int p1), .val (.int (0 : Int32)), .val (.int (5 : Int32)), .val (.ref bB), .unset] [(.int ((55 : Int32) + ((10 : Int32) * (5 : Int32))))])) _
        refine XS.istore X12.here hx rfl (hb hby at_58) rfl (l' := #[.val (.int p0), .val (.int p1), .val (.int (0 : Int32)), .val (.int (5 : Int32)), .val (.ref bB), .val (.int ((55 : Int32) + ((10 : Int32) * (5 : Int32))))]) rfl ?_
        show Steps p.tables e below (T12.setTop (mkF m 60 #[.val (.int p0), .val (.int p1), .val (.int (0 : Int32)), .val (.int (5 : Int32)), .val (.ref bB), .val (.int ((55 : Int32) + ((10 : Int32) * (5 : Int32))))] [])) _
        refine XS.aload X12.here hx rfl (hb hby at_60) rfl rfl ?_
        show Steps p.tables e below (T12.setTop (mkF m 62 #[.val (.int p0), .val (.int p1), .val (.int (0 : Int32)), .val (.int (5 : Int32)), .val (.ref bB), .val (.int ((55 : Int32) + ((10 : Int32) * (5 : Int32))))] [(.ref bB)])) _
        refine XS.iloadN X12.here hx rfl (hb hby at_62) rfl ?_
        show Steps p.tables e below (T12.setTop (mkF m 63 #[.val (.int p0), .val (.int p1), .val (.int (0 : Int32)), .val (.int (5 : Int32)), .val (.ref bB), .val (.int ((55 : Int32) + ((10 : Int32) * (5 : Int32))))] [(.int (5 : Int32)), (.ref bB)])) _
        refine st13 _ ?_
        show Steps p.tables e below (T13.setTop (mkF m 66 #[.val (.int p0), .val (.int p1), .val (.int (0 : Int32)), .val (.int (5 : Int32)), .val (.ref bB), .val (.int ((55 : Int32) + ((10 : Int32) * (5 : Int32))))] [(.int ((((34 : Int32) + ((8 : Int32) * (5 : Int32))) + (13 : Int32)) + ((((34 : Int32) + ((8 : Int32) * (5 : Int32))) - (1 : Int32)) / (4 : Int32))))])) _
        refine XS.iload X13.here hx rfl (hb hby at_66) rfl ?_
        show Steps p.tables e below (T13.setTop (mkF m 68 #[.val (.int p0), .val (.int p1), .val (.int (0 : Int32)), .val (.int (5 : Int32)), .val (.ref bB), .val (.int ((55 : Int32) + ((10 : Int32) * (5 : Int32))))] [(.int ((55 : Int32) + ((10 : Int32) * (5 : Int32)))), (.int ((((34 : Int32) + ((8 : Int32) * (5 : Int32))) + (13 : Int32)) + ((((34 : Int32) + ((8 : Int32) * (5 : Int32))) - (1 : Int32)) / (4 : Int32))))])) _
        refine XS.icmpNo X13.here hx rfl (hb hby at_68) rfl (teq (by decide : ((((34 : Int32) + ((8 : Int32) * (5 : Int32))) + (13 : Int32)) + ((((34 : Int32) + ((8 : Int32) * (5 : Int32))) - (1 : Int32)) / (4 : Int32))) = ((55 : Int32) + ((10 : Int32) * (5 : Int32))))).2 ?_
        show Steps p.tables e below (T13.setTop (mkF m 71 #[.val (.int p0), .val (.int p1), .val (.int (0 : Int32)), .val (.int (5 : Int32)), .val (.ref bB), .val (.int ((55 : Int32) + ((10 : Int32) * (5 : Int32))))] [])) _
        refine XS.iconst X13.here hx rfl (hb hby at_71) ?_
        show Steps p.tables e below (T13.setTop (mkF m 72 #[.val (.int p0), .val (.int p1), .val (.int (0 : Int32)), .val (.int (5 : Int32)), .val (.ref bB), .val (.int ((55 : Int32) + ((10 : Int32) * (5 : Int32))))] [(.int (1 : Int32))])) _
        refine XS.goto X13.here hx rfl (pc0 := 72) (pc' := 76) rfl (hb hby at_72) (by decide) (by decide) ?_
        show Steps p.tables e below (T13.setTop (mkF m 76 #[.val (.int p0), .val (.int p1), .val (.int (0 : Int32)), .val (.int (5 : Int32)), .val (.ref bB), .val (.int ((55 : Int32) + ((10 : Int32) * (5 : Int32))))] [(.int (1 : Int32))])) _
        exact retN X13 hx (t := .boolean) Bd.returns (by simp) (hb hby at_76) hr
      · show own_Q0 n0 _ T13.heap _
        rw [e13]
        exact ⟨rfl, N13⟩
    · obtain ⟨T14, X14, e14, st14⟩ := getS2 X0 hx hZ hown (host := "") (Or.inl (hw _ (List.mem_of_getElem? (i := 1) rfl))) Via.refl e0 S_B (g := (mkF m 30 #[.val (.int p0), .val (.int p1), .val (.int (0 : Int32)), .val (.int (6 : Int32)), .unset, .unset] [])) rfl (hb hby at_30)
      obtain ⟨_, _, ⟨T15, L15, k15, n15⟩, -, X15, ⟨Lc15, hQ15, l15, y15, z15⟩, st15⟩ := Jvm.LawKit.callS X14 hx (y := (⟨"com/example/careful_allocator/carefulallocator/can/FrameTiming", "worstCaseBits", "(Lcom/example/careful_allocator/carefulallocator/can/IdentifierFormat;I)I"⟩ : MethodName)) hown (mvT hZ (hw _ (List.mem_of_getElem? (i := 4) rfl))) (mvT hZ (hw _ (List.mem_of_getElem? (i := 5) rfl))) (mvT hZ (hw _ (List.mem_of_getElem? (i := 6) rfl))) (mvT hZ (hw _ (List.mem_of_getElem? (i := 7) rfl))) (by decide) (backOf (W := 0) (own_rm2 l Z a0 hw [] bB (6 : Int32) (34 : Int32) h0 n0 Z0 F_B E_B (by decide) (by decide)) hZ (hw _ (List.mem_of_getElem? (i := 7) rfl)) (hw _ (List.mem_of_getElem? (i := 6) rfl)) (by decide) (by decide)) (g := (mkF m 63 #[.val (.int p0), .val (.int p1), .val (.int (0 : Int32)), .val (.int (6 : Int32)), .val (.ref bB), .val (.int ((55 : Int32) + ((10 : Int32) * (6 : Int32))))] [(.int (6 : Int32)), (.ref bB)])) rfl (by rw [hml]; rfl) (argsL := [(.ref bB), (.int (6 : Int32))]) (rest := []) (lenOf own_pd1 rfl) rfl (by show 2 * 0 + _ ≤ _; exact Nat.le_of_eq rfl) (hb hby at_63) (fun _ _ => ⟨rfl, e14, (by decide : 0 + 0 ≤ _), (by decide : 0 + 0 ≤ _)⟩)
      dsimp only [Pt.U, Pt.locs, Pt.cells, Pt.slots] at X15 l15 y15 z15 st15 hQ15
      subst l15 y15 z15
      obtain ⟨rfl, N15q, e15⟩ := hQ15
      have N15 := Fr.app N0 N15q
      obtain ⟨fs, hr, hrun, hended, hW, hsame⟩ := X15.leave (v := some (.int (1 : Int32))) (fun h => by rw [Bd.returns] at h; cases h)
      refine ⟨_, _, ?_, hrun, hended, _, _, rfl, ?_, ⟨_, rfl⟩, hW, hsame.mono (by decide) (by decide)⟩
      · show Steps p.tables e below (s₁.setTop (mkF m 19 #[.val (.int p0), .val (.int p1), .val (.int (0 : Int32)), .unset, .unset, .unset] [(.int (6 : Int32))])) _
        refine XS.istoreN X0.here hx rfl (hb hby at_19) rfl (l' := #[.val (.int p0), .val (.int p1), .val (.int (0 : Int32)), .val (.int (6 : Int32)), .unset, .unset]) rfl ?_
        show Steps p.tables e below (s₁.setTop (mkF m 20 #[.val (.int p0), .val (.int p1), .val (.int (0 : Int32)), .val (.int (6 : Int32)), .unset, .unset] [])) _
        refine XS.iloadN X0.here hx rfl (hb hby at_20) rfl ?_
        show Steps p.tables e below (s₁.setTop (mkF m 21 #[.val (.int p0), .val (.int p1), .val (.int (0 : Int32)), .val (.int (6 : Int32)), .unset, .unset] [(.int (0 : Int32))])) _
        refine XS.ifYes X0.here hx rfl (pc0 := 21) (pc' := 30) rfl (hb hby at_21) rfl ((if0 _ _).trans (teq ((by decide) : (0 : Int32) = (0 : Int32))).1) (by decide) (by decide) ?_
        show Steps p.tables e below (s₁.setTop (mkF m 30 #[.val (.int p0), .val (.int p1), .val (.int (0 : Int32)), .val (.int (6 : Int32)), .unset, .unset] [])) _
        refine st14 _ ?_
        show Steps p.tables e below (T14.setTop (mkF m 33 #[.val (.int p0), .val (.int p1), .val (.int (0 : Int32)), .val (.int (6 : Int32)), .unset, .unset] [(.ref bB)])) _
        refine XS.astore X14.here hx rfl (hb hby at_33) rfl rfl (l' := #[.val (.int p0), .val (.int p1), .val (.int (0 : Int32)), .val (.int (6 : Int32)), .val (.ref bB), .unset]) rfl ?_
        show Steps p.tables e below (T14.setTop (mkF m 35 #[.val (.int p0), .val (.int p1), .val (.int (0 : Int32)), .val (.int (6 : Int32)), .val (.ref bB), .unset] [])) _
        refine XS.iloadN X14.here hx rfl (hb hby at_35) rfl ?_
        show Steps p.tables e below (T14.setTop (mkF m 36 #[.val (.int p0), .val (.int p1), .val (.int (0 : Int32)), .val (.int (6 : Int32)), .val (.ref bB), .unset] [(.int (0 : Int32))])) _
        refine XS.ifYes X14.here hx rfl (pc0 := 36) (pc' := 51) rfl (hb hby at_36) rfl ((if0 _ _).trans (teq ((by decide) : (0 : Int32) = (0 : Int32))).1) (by decide) (by decide) ?_
        show Steps p.tables e below (T14.setTop (mkF m 51 #[.val (.int p0), .val (.int p1), .val (.int (0 : Int32)), .val (.int (6 : Int32)), .val (.ref bB), .unset] [])) _
        refine XS.bipush X14.here hx rfl (hb hby at_51) ?_
        show Steps p.tables e below (T14.setTop (mkF m 53 #[.val (.int p0), .val (.int p1), .val (.int (0 : Int32)), .val (.int (6 : Int32)), .val (.ref bB), .unset] [(.int (55 : Int32))])) _
        refine XS.bipush X14.here hx rfl (hb hby at_53) ?_
        show Steps p.tables e below (T14.setTop (mkF m 55 #[.val (.int p0), .val (.int p1), .val (.int (0 : Int32)), .val (.int (6 : Int32)), .val (.ref bB), .unset] [(.int (10 : Int32)), (.int (55 : Int32))])) _
        refine XS.iloadN X14.here hx rfl (hb hby at_55) rfl ?_
        show Steps p.tables e below (T14.setTop (mkF m 56 #[.val (.int p0), .val (.int p1), .val (.int (0 : Int32)), .val (.int (6 : Int32)), .val (.ref bB), .unset] [(.int (6 : Int32)), (.int (10 : Int32)), (.int (55 : Int32))])) _
        refine XS.imul X14.here hx rfl (hb hby at_56) rfl ?_
        show Steps p.tables e below (T14.setTop (mkF m 57 #[.val (.int p0), .val (.int p1), .val (.int (0 : Int32)), .val (.int (6 : Int32)), .val (.ref bB), .unset] [(.int ((10 : Int32) * (6 : Int32))), (.int (55 : Int32))])) _
        refine XS.iadd X14.here hx rfl (hb hby at_57) rfl ?_
        show Steps p.tables e below (T14.setTop (mkF m 58 #[.val (.int p0), .val (.int p1), .val (.int (0 : Int32)), .val (.int (6 : Int32)), .val (.ref bB), .unset] [(.int ((55 : Int32) + ((10 : Int32) * (6 : Int32))))])) _
        refine XS.istore X14.here hx rfl (hb hby at_58) rfl (l' := #[.val (.int p0), .val (.int p1), .val (.int (0 : Int32)), .val (.int (6 : Int32)), .val (.ref bB), .val (.int ((55 : Int32) + ((10 : Int32) * (6 : Int32))))]) rfl ?_
        show Steps p.tables e below (T14.setTop (mkF m 60 #[.val (.int p0), .val (.int p1), .val (.int (0 : Int32)), .val (.int (6 : Int32)), .val (.ref bB), .val (.int ((55 : Int32) + ((10 : Int32) * (6 : Int32))))] [])) _
        refine XS.aload X14.here hx rfl (hb hby at_60) rfl rfl ?_
        show Steps p.tables e below (T14.setTop (mkF m 62 #[.val (.int p0), .val (.int p1), .val (.int (0 : Int32)), .val (.int (6 : Int32)), .val (.ref bB), .val (.int ((55 : Int32) + ((10 : Int32) * (6 : Int32))))] [(.ref bB)])) _
        refine XS.iloadN X14.here hx rfl (hb hby at_62) rfl ?_
        show Steps p.tables e below (T14.setTop (mkF m 63 #[.val (.int p0), .val (.int p1), .val (.int (0 : Int32)), .val (.int (6 : Int32)), .val (.ref bB), .val (.int ((55 : Int32) + ((10 : Int32) * (6 : Int32))))] [(.int (6 : Int32)), (.ref bB)])) _
        refine st15 _ ?_
        show Steps p.tables e below (T15.setTop (mkF m 66 #[.val (.int p0), .val (.int p1), .val (.int (0 : Int32)), .val (.int (6 : Int32)), .val (.ref bB), .val (.int ((55 : Int32) + ((10 : Int32) * (6 : Int32))))] [(.int ((((34 : Int32) + ((8 : Int32) * (6 : Int32))) + (13 : Int32)) + ((((34 : Int32) + ((8 : Int32) * (6 : Int32))) - (1 : Int32)) / (4 : Int32))))])) _
        refine XS.iload X15.here hx rfl (hb hby at_66) rfl ?_
        show Steps p.tables e below (T15.setTop (mkF m 68 #[.val (.int p0), .val (.int p1), .val (.int (0 : Int32)), .val (.int (6 : Int32)), .val (.ref bB), .val (.int ((55 : Int32) + ((10 : Int32) * (6 : Int32))))] [(.int ((55 : Int32) + ((10 : Int32) * (6 : Int32)))), (.int ((((34 : Int32) + ((8 : Int32) * (6 : Int32))) + (13 : Int32)) + ((((34 : Int32) + ((8 : Int32) * (6 : Int32))) - (1 : Int32)) / (4 : Int32))))])) _
        refine XS.icmpNo X15.here hx rfl (hb hby at_68) rfl (teq (by decide : ((((34 : Int32) + ((8 : Int32) * (6 : Int32))) + (13 : Int32)) + ((((34 : Int32) + ((8 : Int32) * (6 : Int32))) - (1 : Int32)) / (4 : Int32))) = ((55 : Int32) + ((10 : Int32) * (6 : Int32))))).2 ?_
        show Steps p.tables e below (T15.setTop (mkF m 71 #[.val (.int p0), .val (.int p1), .val (.int (0 : Int32)), .val (.int (6 : Int32)), .val (.ref bB), .val (.int ((55 : Int32) + ((10 : Int32) * (6 : Int32))))] [])) _
        refine XS.iconst X15.here hx rfl (hb hby at_71) ?_
        show Steps p.tables e below (T15.setTop (mkF m 72 #[.val (.int p0), .val (.int p1), .val (.int (0 : Int32)), .val (.int (6 : Int32)), .val (.ref bB), .val (.int ((55 : Int32) + ((10 : Int32) * (6 : Int32))))] [(.int (1 : Int32))])) _
        refine XS.goto X15.here hx rfl (pc0 := 72) (pc' := 76) rfl (hb hby at_72) (by decide) (by decide) ?_
        show Steps p.tables e below (T15.setTop (mkF m 76 #[.val (.int p0), .val (.int p1), .val (.int (0 : Int32)), .val (.int (6 : Int32)), .val (.ref bB), .val (.int ((55 : Int32) + ((10 : Int32) * (6 : Int32))))] [(.int (1 : Int32))])) _
        exact retN X15 hx (t := .boolean) Bd.returns (by simp) (hb hby at_76) hr
      · show own_Q0 n0 _ T15.heap _
        rw [e15]
        exact ⟨rfl, N15⟩
    · obtain ⟨T16, X16, e16, st16⟩ := getS2 X0 hx hZ hown (host := "") (Or.inl (hw _ (List.mem_of_getElem? (i := 1) rfl))) Via.refl e0 S_B (g := (mkF m 30 #[.val (.int p0), .val (.int p1), .val (.int (0 : Int32)), .val (.int (7 : Int32)), .unset, .unset] [])) rfl (hb hby at_30)
      obtain ⟨_, _, ⟨T17, L17, k17, n17⟩, -, X17, ⟨Lc17, hQ17, l17, y17, z17⟩, st17⟩ := Jvm.LawKit.callS X16 hx (y := (⟨"com/example/careful_allocator/carefulallocator/can/FrameTiming", "worstCaseBits", "(Lcom/example/careful_allocator/carefulallocator/can/IdentifierFormat;I)I"⟩ : MethodName)) hown (mvT hZ (hw _ (List.mem_of_getElem? (i := 4) rfl))) (mvT hZ (hw _ (List.mem_of_getElem? (i := 5) rfl))) (mvT hZ (hw _ (List.mem_of_getElem? (i := 6) rfl))) (mvT hZ (hw _ (List.mem_of_getElem? (i := 7) rfl))) (by decide) (backOf (W := 0) (own_rm2 l Z a0 hw [] bB (7 : Int32) (34 : Int32) h0 n0 Z0 F_B E_B (by decide) (by decide)) hZ (hw _ (List.mem_of_getElem? (i := 7) rfl)) (hw _ (List.mem_of_getElem? (i := 6) rfl)) (by decide) (by decide)) (g := (mkF m 63 #[.val (.int p0), .val (.int p1), .val (.int (0 : Int32)), .val (.int (7 : Int32)), .val (.ref bB), .val (.int ((55 : Int32) + ((10 : Int32) * (7 : Int32))))] [(.int (7 : Int32)), (.ref bB)])) rfl (by rw [hml]; rfl) (argsL := [(.ref bB), (.int (7 : Int32))]) (rest := []) (lenOf own_pd1 rfl) rfl (by show 2 * 0 + _ ≤ _; exact Nat.le_of_eq rfl) (hb hby at_63) (fun _ _ => ⟨rfl, e16, (by decide : 0 + 0 ≤ _), (by decide : 0 + 0 ≤ _)⟩)
      dsimp only [Pt.U, Pt.locs, Pt.cells, Pt.slots] at X17 l17 y17 z17 st17 hQ17
      subst l17 y17 z17
      obtain ⟨rfl, N17q, e17⟩ := hQ17
      have N17 := Fr.app N0 N17q
      obtain ⟨fs, hr, hrun, hended, hW, hsame⟩ := X17.leave (v := some (.int (1 : Int32))) (fun h => by rw [Bd.returns] at h; cases h)
      refine ⟨_, _, ?_, hrun, hended, _, _, rfl, ?_, ⟨_, rfl⟩, hW, hsame.mono (by decide) (by decide)⟩
      · show Steps p.tables e below (s₁.setTop (mkF m 19 #[.val (.int p0), .val (.int p1), .val (.int (0 : Int32)), .unset, .unset, .unset] [(.int (7 : Int32))])) _
        refine XS.istoreN X0.here hx rfl (hb hby at_19) rfl (l' := #[.val (.int p0), .val (.int p1), .val (.int (0 : Int32)), .val (.int (7 : Int32)), .unset, .unset]) rfl ?_
        show Steps p.tables e below (s₁.setTop (mkF m 20 #[.val (.int p0), .val (.int p1), .val (.int (0 : Int32)), .val (.int (7 : Int32)), .unset, .unset] [])) _
        refine XS.iloadN X0.here hx rfl (hb hby at_20) rfl ?_
        show Steps p.tables e below (s₁.setTop (mkF m 21 #[.val (.int p0), .val (.int p1), .val (.int (0 : Int32)), .val (.int (7 : Int32)), .unset, .unset] [(.int (0 : Int32))])) _
        refine XS.ifYes X0.here hx rfl (pc0 := 21) (pc' := 30) rfl (hb hby at_21) rfl ((if0 _ _).trans (teq ((by decide) : (0 : Int32) = (0 : Int32))).1) (by decide) (by decide) ?_
        show Steps p.tables e below (s₁.setTop (mkF m 30 #[.val (.int p0), .val (.int p1), .val (.int (0 : Int32)), .val (.int (7 : Int32)), .unset, .unset] [])) _
        refine st16 _ ?_
        show Steps p.tables e below (T16.setTop (mkF m 33 #[.val (.int p0), .val (.int p1), .val (.int (0 : Int32)), .val (.int (7 : Int32)), .unset, .unset] [(.ref bB)])) _
        refine XS.astore X16.here hx rfl (hb hby at_33) rfl rfl (l' := #[.val (.int p0), .val (.int p1), .val (.int (0 : Int32)), .val (.int (7 : Int32)), .val (.ref bB), .unset]) rfl ?_
        show Steps p.tables e below (T16.setTop (mkF m 35 #[.val (.int p0), .val (.int p1), .val (.int (0 : Int32)), .val (.int (7 : Int32)), .val (.ref bB), .unset] [])) _
        refine XS.iloadN X16.here hx rfl (hb hby at_35) rfl ?_
        show Steps p.tables e below (T16.setTop (mkF m 36 #[.val (.int p0), .val (.int p1), .val (.int (0 : Int32)), .val (.int (7 : Int32)), .val (.ref bB), .unset] [(.int (0 : Int32))])) _
        refine XS.ifYes X16.here hx rfl (pc0 := 36) (pc' := 51) rfl (hb hby at_36) rfl ((if0 _ _).trans (teq ((by decide) : (0 : Int32) = (0 : Int32))).1) (by decide) (by decide) ?_
        show Steps p.tables e below (T16.setTop (mkF m 51 #[.val (.int p0), .val (.int p1), .val (.int (0 : Int32)), .val (.int (7 : Int32)), .val (.ref bB), .unset] [])) _
        refine XS.bipush X16.here hx rfl (hb hby at_51) ?_
        show Steps p.tables e below (T16.setTop (mkF m 53 #[.val (.int p0), .val (.int p1), .val (.int (0 : Int32)), .val (.int (7 : Int32)), .val (.ref bB), .unset] [(.int (55 : Int32))])) _
        refine XS.bipush X16.here hx rfl (hb hby at_53) ?_
        show Steps p.tables e below (T16.setTop (mkF m 55 #[.val (.int p0), .val (.int p1), .val (.int (0 : Int32)), .val (.int (7 : Int32)), .val (.ref bB), .unset] [(.int (10 : Int32)), (.int (55 : Int32))])) _
        refine XS.iloadN X16.here hx rfl (hb hby at_55) rfl ?_
        show Steps p.tables e below (T16.setTop (mkF m 56 #[.val (.int p0), .val (.int p1), .val (.int (0 : Int32)), .val (.int (7 : Int32)), .val (.ref bB), .unset] [(.int (7 : Int32)), (.int (10 : Int32)), (.int (55 : Int32))])) _
        refine XS.imul X16.here hx rfl (hb hby at_56) rfl ?_
        show Steps p.tables e below (T16.setTop (mkF m 57 #[.val (.int p0), .val (.int p1), .val (.int (0 : Int32)), .val (.int (7 : Int32)), .val (.ref bB), .unset] [(.int ((10 : Int32) * (7 : Int32))), (.int (55 : Int32))])) _
        refine XS.iadd X16.here hx rfl (hb hby at_57) rfl ?_
        show Steps p.tables e below (T16.setTop (mkF m 58 #[.val (.int p0), .val (.int p1), .val (.int (0 : Int32)), .val (.int (7 : Int32)), .val (.ref bB), .unset] [(.int ((55 : Int32) + ((10 : Int32) * (7 : Int32))))])) _
        refine XS.istore X16.here hx rfl (hb hby at_58) rfl (l' := #[.val (.int p0), .val (.int p1), .val (.int (0 : Int32)), .val (.int (7 : Int32)), .val (.ref bB), .val (.int ((55 : Int32) + ((10 : Int32) * (7 : Int32))))]) rfl ?_
        show Steps p.tables e below (T16.setTop (mkF m 60 #[.val (.int p0), .val (.int p1), .val (.int (0 : Int32)), .val (.int (7 : Int32)), .val (.ref bB), .val (.int ((55 : Int32) + ((10 : Int32) * (7 : Int32))))] [])) _
        refine XS.aload X16.here hx rfl (hb hby at_60) rfl rfl ?_
        show Steps p.tables e below (T16.setTop (mkF m 62 #[.val (.int p0), .val (.int p1), .val (.int (0 : Int32)), .val (.int (7 : Int32)), .val (.ref bB), .val (.int ((55 : Int32) + ((10 : Int32) * (7 : Int32))))] [(.ref bB)])) _
        refine XS.iloadN X16.here hx rfl (hb hby at_62) rfl ?_
        show Steps p.tables e below (T16.setTop (mkF m 63 #[.val (.int p0), .val (.int p1), .val (.int (0 : Int32)), .val (.int (7 : Int32)), .val (.ref bB), .val (.int ((55 : Int32) + ((10 : Int32) * (7 : Int32))))] [(.int (7 : Int32)), (.ref bB)])) _
        refine st17 _ ?_
        show Steps p.tables e below (T17.setTop (mkF m 66 #[.val (.int p0), .val (.int p1), .val (.int (0 : Int32)), .val (.int (7 : Int32)), .val (.ref bB), .val (.int ((55 : Int32) + ((10 : Int32) * (7 : Int32))))] [(.int ((((34 : Int32) + ((8 : Int32) * (7 : Int32))) + (13 : Int32)) + ((((34 : Int32) + ((8 : Int32) * (7 : Int32))) - (1 : Int32)) / (4 : Int32))))])) _
        refine XS.iload X17.here hx rfl (hb hby at_66) rfl ?_
        show Steps p.tables e below (T17.setTop (mkF m 68 #[.val (.int p0), .val (.int p1), .val (.int (0 : Int32)), .val (.int (7 : Int32)), .val (.ref bB), .val (.int ((55 : Int32) + ((10 : Int32) * (7 : Int32))))] [(.int ((55 : Int32) + ((10 : Int32) * (7 : Int32)))), (.int ((((34 : Int32) + ((8 : Int32) * (7 : Int32))) + (13 : Int32)) + ((((34 : Int32) + ((8 : Int32) * (7 : Int32))) - (1 : Int32)) / (4 : Int32))))])) _
        refine XS.icmpNo X17.here hx rfl (hb hby at_68) rfl (teq (by decide : ((((34 : Int32) + ((8 : Int32) * (7 : Int32))) + (13 : Int32)) + ((((34 : Int32) + ((8 : Int32) * (7 : Int32))) - (1 : Int32)) / (4 : Int32))) = ((55 : Int32) + ((10 : Int32) * (7 : Int32))))).2 ?_
        show Steps p.tables e below (T17.setTop (mkF m 71 #[.val (.int p0), .val (.int p1), .val (.int (0 : Int32)), .val (.int (7 : Int32)), .val (.ref bB), .val (.int ((55 : Int32) + ((10 : Int32) * (7 : Int32))))] [])) _
        refine XS.iconst X17.here hx rfl (hb hby at_71) ?_
        show Steps p.tables e below (T17.setTop (mkF m 72 #[.val (.int p0), .val (.int p1), .val (.int (0 : Int32)), .val (.int (7 : Int32)), .val (.ref bB), .val (.int ((55 : Int32) + ((10 : Int32) * (7 : Int32))))] [(.int (1 : Int32))])) _
        refine XS.goto X17.here hx rfl (pc0 := 72) (pc' := 76) rfl (hb hby at_72) (by decide) (by decide) ?_
        show Steps p.tables e below (T17.setTop (mkF m 76 #[.val (.int p0), .val (.int p1), .val (.int (0 : Int32)), .val (.int (7 : Int32)), .val (.ref bB), .val (.int ((55 : Int32) + ((10 : Int32) * (7 : Int32))))] [(.int (1 : Int32))])) _
        exact retN X17 hx (t := .boolean) Bd.returns (by simp) (hb hby at_76) hr
      · show own_Q0 n0 _ T17.heap _
        rw [e17]
        exact ⟨rfl, N17⟩
    · obtain ⟨T18, X18, e18, st18⟩ := getS2 X0 hx hZ hown (host := "") (Or.inl (hw _ (List.mem_of_getElem? (i := 1) rfl))) Via.refl e0 S_B (g := (mkF m 30 #[.val (.int p0), .val (.int p1), .val (.int (0 : Int32)), .val (.int (8 : Int32)), .unset, .unset] [])) rfl (hb hby at_30)
      obtain ⟨_, _, ⟨T19, L19, k19, n19⟩, -, X19, ⟨Lc19, hQ19, l19, y19, z19⟩, st19⟩ := Jvm.LawKit.callS X18 hx (y := (⟨"com/example/careful_allocator/carefulallocator/can/FrameTiming", "worstCaseBits", "(Lcom/example/careful_allocator/carefulallocator/can/IdentifierFormat;I)I"⟩ : MethodName)) hown (mvT hZ (hw _ (List.mem_of_getElem? (i := 4) rfl))) (mvT hZ (hw _ (List.mem_of_getElem? (i := 5) rfl))) (mvT hZ (hw _ (List.mem_of_getElem? (i := 6) rfl))) (mvT hZ (hw _ (List.mem_of_getElem? (i := 7) rfl))) (by decide) (backOf (W := 0) (own_rm2 l Z a0 hw [] bB (8 : Int32) (34 : Int32) h0 n0 Z0 F_B E_B (by decide) (by decide)) hZ (hw _ (List.mem_of_getElem? (i := 7) rfl)) (hw _ (List.mem_of_getElem? (i := 6) rfl)) (by decide) (by decide)) (g := (mkF m 63 #[.val (.int p0), .val (.int p1), .val (.int (0 : Int32)), .val (.int (8 : Int32)), .val (.ref bB), .val (.int ((55 : Int32) + ((10 : Int32) * (8 : Int32))))] [(.int (8 : Int32)), (.ref bB)])) rfl (by rw [hml]; rfl) (argsL := [(.ref bB), (.int (8 : Int32))]) (rest := []) (lenOf own_pd1 rfl) rfl (by show 2 * 0 + _ ≤ _; exact Nat.le_of_eq rfl) (hb hby at_63) (fun _ _ => ⟨rfl, e18, (by decide : 0 + 0 ≤ _), (by decide : 0 + 0 ≤ _)⟩)
      dsimp only [Pt.U, Pt.locs, Pt.cells, Pt.slots] at X19 l19 y19 z19 st19 hQ19
      subst l19 y19 z19
      obtain ⟨rfl, N19q, e19⟩ := hQ19
      have N19 := Fr.app N0 N19q
      obtain ⟨fs, hr, hrun, hended, hW, hsame⟩ := X19.leave (v := some (.int (1 : Int32))) (fun h => by rw [Bd.returns] at h; cases h)
      refine ⟨_, _, ?_, hrun, hended, _, _, rfl, ?_, ⟨_, rfl⟩, hW, hsame.mono (by decide) (by decide)⟩
      · show Steps p.tables e below (s₁.setTop (mkF m 19 #[.val (.int p0), .val (.int p1), .val (.int (0 : Int32)), .unset, .unset, .unset] [(.int (8 : Int32))])) _
        refine XS.istoreN X0.here hx rfl (hb hby at_19) rfl (l' := #[.val (.int p0), .val (.int p1), .val (.int (0 : Int32)), .val (.int (8 : Int32)), .unset, .unset]) rfl ?_
        show Steps p.tables e below (s₁.setTop (mkF m 20 #[.val (.int p0), .val (.int p1), .val (.int (0 : Int32)), .val (.int (8 : Int32)), .unset, .unset] [])) _
        refine XS.iloadN X0.here hx rfl (hb hby at_20) rfl ?_
        show Steps p.tables e below (s₁.setTop (mkF m 21 #[.val (.int p0), .val (.int p1), .val (.int (0 : Int32)), .val (.int (8 : Int32)), .unset, .unset] [(.int (0 : Int32))])) _
        refine XS.ifYes X0.here hx rfl (pc0 := 21) (pc' := 30) rfl (hb hby at_21) rfl ((if0 _ _).trans (teq ((by decide) : (0 : Int32) = (0 : Int32))).1) (by decide) (by decide) ?_
        show Steps p.tables e below (s₁.setTop (mkF m 30 #[.val (.int p0), .val (.int p1), .val (.int (0 : Int32)), .val (.int (8 : Int32)), .unset, .unset] [])) _
        refine st18 _ ?_
        show Steps p.tables e below (T18.setTop (mkF m 33 #[.val (.int p0), .val (.int p1), .val (.int (0 : Int32)), .val (.int (8 : Int32)), .unset, .unset] [(.ref bB)])) _
        refine XS.astore X18.here hx rfl (hb hby at_33) rfl rfl (l' := #[.val (.int p0), .val (.int p1), .val (.int (0 : Int32)), .val (.int (8 : Int32)), .val (.ref bB), .unset]) rfl ?_
        show Steps p.tables e below (T18.setTop (mkF m 35 #[.val (.int p0), .val (.int p1), .val (.int (0 : Int32)), .val (.int (8 : Int32)), .val (.ref bB), .unset] [])) _
        refine XS.iloadN X18.here hx rfl (hb hby at_35) rfl ?_
        show Steps p.tables e below (T18.setTop (mkF m 36 #[.val (.int p0), .val (.int p1), .val (.int (0 : Int32)), .val (.int (8 : Int32)), .val (.ref bB), .unset] [(.int (0 : Int32))])) _
        refine XS.ifYes X18.here hx rfl (pc0 := 36) (pc' := 51) rfl (hb hby at_36) rfl ((if0 _ _).trans (teq ((by decide) : (0 : Int32) = (0 : Int32))).1) (by decide) (by decide) ?_
        show Steps p.tables e below (T18.setTop (mkF m 51 #[.val (.int p0), .val (.int p1), .val (.int (0 : Int32)), .val (.int (8 : Int32)), .val (.ref bB), .unset] [])) _
        refine XS.bipush X18.here hx rfl (hb hby at_51) ?_
        show Steps p.tables e below (T18.setTop (mkF m 53 #[.val (.int p0), .val (.int p1), .val (.int (0 : Int32)), .val (.int (8 : Int32)), .val (.ref bB), .unset] [(.int (55 : Int32))])) _
        refine XS.bipush X18.here hx rfl (hb hby at_53) ?_
        show Steps p.tables e below (T18.setTop (mkF m 55 #[.val (.int p0), .val (.int p1), .val (.int (0 : Int32)), .val (.int (8 : Int32)), .val (.ref bB), .unset] [(.int (10 : Int32)), (.int (55 : Int32))])) _
        refine XS.iloadN X18.here hx rfl (hb hby at_55) rfl ?_
        show Steps p.tables e below (T18.setTop (mkF m 56 #[.val (.int p0), .val (.int p1), .val (.int (0 : Int32)), .val (.int (8 : Int32)), .val (.ref bB), .unset] [(.int (8 : Int32)), (.int (10 : Int32)), (.int (55 : Int32))])) _
        refine XS.imul X18.here hx rfl (hb hby at_56) rfl ?_
        show Steps p.tables e below (T18.setTop (mkF m 57 #[.val (.int p0), .val (.int p1), .val (.int (0 : Int32)), .val (.int (8 : Int32)), .val (.ref bB), .unset] [(.int ((10 : Int32) * (8 : Int32))), (.int (55 : Int32))])) _
        refine XS.iadd X18.here hx rfl (hb hby at_57) rfl ?_
        show Steps p.tables e below (T18.setTop (mkF m 58 #[.val (.int p0), .val (.int p1), .val (.int (0 : Int32)), .val (.int (8 : Int32)), .val (.ref bB), .unset] [(.int ((55 : Int32) + ((10 : Int32) * (8 : Int32))))])) _
        refine XS.istore X18.here hx rfl (hb hby at_58) rfl (l' := #[.val (.int p0), .val (.int p1), .val (.int (0 : Int32)), .val (.int (8 : Int32)), .val (.ref bB), .val (.int ((55 : Int32) + ((10 : Int32) * (8 : Int32))))]) rfl ?_
        show Steps p.tables e below (T18.setTop (mkF m 60 #[.val (.int p0), .val (.int p1), .val (.int (0 : Int32)), .val (.int (8 : Int32)), .val (.ref bB), .val (.int ((55 : Int32) + ((10 : Int32) * (8 : Int32))))] [])) _
        refine XS.aload X18.here hx rfl (hb hby at_60) rfl rfl ?_
        show Steps p.tables e below (T18.setTop (mkF m 62 #[.val (.int p0), .val (.int p1), .val (.int (0 : Int32)), .val (.int (8 : Int32)), .val (.ref bB), .val (.int ((55 : Int32) + ((10 : Int32) * (8 : Int32))))] [(.ref bB)])) _
        refine XS.iloadN X18.here hx rfl (hb hby at_62) rfl ?_
        show Steps p.tables e below (T18.setTop (mkF m 63 #[.val (.int p0), .val (.int p1), .val (.int (0 : Int32)), .val (.int (8 : Int32)), .val (.ref bB), .val (.int ((55 : Int32) + ((10 : Int32) * (8 : Int32))))] [(.int (8 : Int32)), (.ref bB)])) _
        refine st19 _ ?_
        show Steps p.tables e below (T19.setTop (mkF m 66 #[.val (.int p0), .val (.int p1), .val (.int (0 : Int32)), .val (.int (8 : Int32)), .val (.ref bB), .val (.int ((55 : Int32) + ((10 : Int32) * (8 : Int32))))] [(.int ((((34 : Int32) + ((8 : Int32) * (8 : Int32))) + (13 : Int32)) + ((((34 : Int32) + ((8 : Int32) * (8 : Int32))) - (1 : Int32)) / (4 : Int32))))])) _
        refine XS.iload X19.here hx rfl (hb hby at_66) rfl ?_
        show Steps p.tables e below (T19.setTop (mkF m 68 #[.val (.int p0), .val (.int p1), .val (.int (0 : Int32)), .val (.int (8 : Int32)), .val (.ref bB), .val (.int ((55 : Int32) + ((10 : Int32) * (8 : Int32))))] [(.int ((55 : Int32) + ((10 : Int32) * (8 : Int32)))), (.int ((((34 : Int32) + ((8 : Int32) * (8 : Int32))) + (13 : Int32)) + ((((34 : Int32) + ((8 : Int32) * (8 : Int32))) - (1 : Int32)) / (4 : Int32))))])) _
        refine XS.icmpNo X19.here hx rfl (hb hby at_68) rfl (teq (by decide : ((((34 : Int32) + ((8 : Int32) * (8 : Int32))) + (13 : Int32)) + ((((34 : Int32) + ((8 : Int32) * (8 : Int32))) - (1 : Int32)) / (4 : Int32))) = ((55 : Int32) + ((10 : Int32) * (8 : Int32))))).2 ?_
        show Steps p.tables e below (T19.setTop (mkF m 71 #[.val (.int p0), .val (.int p1), .val (.int (0 : Int32)), .val (.int (8 : Int32)), .val (.ref bB), .val (.int ((55 : Int32) + ((10 : Int32) * (8 : Int32))))] [])) _
        refine XS.iconst X19.here hx rfl (hb hby at_71) ?_
        show Steps p.tables e below (T19.setTop (mkF m 72 #[.val (.int p0), .val (.int p1), .val (.int (0 : Int32)), .val (.int (8 : Int32)), .val (.ref bB), .val (.int ((55 : Int32) + ((10 : Int32) * (8 : Int32))))] [(.int (1 : Int32))])) _
        refine XS.goto X19.here hx rfl (pc0 := 72) (pc' := 76) rfl (hb hby at_72) (by decide) (by decide) ?_
        show Steps p.tables e below (T19.setTop (mkF m 76 #[.val (.int p0), .val (.int p1), .val (.int (0 : Int32)), .val (.int (8 : Int32)), .val (.ref bB), .val (.int ((55 : Int32) + ((10 : Int32) * (8 : Int32))))] [(.int (1 : Int32))])) _
        exact retN X19 hx (t := .boolean) Bd.returns (by simp) (hb hby at_76) hr
      · show own_Q0 n0 _ T19.heap _
        rw [e19]
        exact ⟨rfl, N19⟩
  · refine own_go (b := s₁.setTop (mkF m 19 #[.val (.int p0), .val (.int p1), .val (.int (1 : Int32)), .unset, .unset, .unset] [(.int ((p1 &&& (2147483647 : Int32)) - ((p1 &&& (2147483647 : Int32)) / (9 : Int32)) * (9 : Int32)))])) (fun t k => ?_) ?_
    · show Steps p.tables e below (s₁.setTop (mkF m 3 #[.val (.int p0), .val (.int p1), .unset, .unset, .unset, .unset] [(.int (p0 &&& (1 : Int32)))])) _
      refine XS.ifNo X0.here hx rfl (hb hby at_3) rfl ((if0 _ _).trans (feq hc3_1).1) ?_
      show Steps p.tables e below (s₁.setTop (mkF m 6 #[.val (.int p0), .val (.int p1), .unset, .unset, .unset, .unset] [])) _
      refine XS.iconst X0.here hx rfl (hb hby at_6) ?_
      show Steps p.tables e below (s₁.setTop (mkF m 7 #[.val (.int p0), .val (.int p1), .unset, .unset, .unset, .unset] [(.int (1 : Int32))])) _
      refine XS.goto X0.here hx rfl (pc0 := 7) (pc' := 11) rfl (hb hby at_7) (by decide) (by decide) ?_
      show Steps p.tables e below (s₁.setTop (mkF m 11 #[.val (.int p0), .val (.int p1), .unset, .unset, .unset, .unset] [(.int (1 : Int32))])) _
      refine XS.istoreN X0.here hx rfl (hb hby at_11) rfl (l' := #[.val (.int p0), .val (.int p1), .val (.int (1 : Int32)), .unset, .unset, .unset]) rfl ?_
      show Steps p.tables e below (s₁.setTop (mkF m 12 #[.val (.int p0), .val (.int p1), .val (.int (1 : Int32)), .unset, .unset, .unset] [])) _
      refine XS.iloadN X0.here hx rfl (hb hby at_12) rfl ?_
      show Steps p.tables e below (s₁.setTop (mkF m 13 #[.val (.int p0), .val (.int p1), .val (.int (1 : Int32)), .unset, .unset, .unset] [(.int p1)])) _
      refine X0.ldcInt hx hown (mvT hZ (hw _ (List.mem_of_getElem? (i := 0) rfl))) (g := (mkF m 13 #[.val (.int p0), .val (.int p1), .val (.int (1 : Int32)), .unset, .unset, .unset] [(.int p1)])) rfl (hb hby at_13) _ ?_
      show Steps p.tables e below (s₁.setTop (mkF m 15 #[.val (.int p0), .val (.int p1), .val (.int (1 : Int32)), .unset, .unset, .unset] [(.int (2147483647 : Int32)), (.int p1)])) _
      refine XS.iand X0.here hx rfl (hb hby at_15) rfl ?_
      show Steps p.tables e below (s₁.setTop (mkF m 16 #[.val (.int p0), .val (.int p1), .val (.int (1 : Int32)), .unset, .unset, .unset] [(.int (p1 &&& (2147483647 : Int32)))])) _
      refine XS.bipush X0.here hx rfl (hb hby at_16) ?_
      show Steps p.tables e below (s₁.setTop (mkF m 18 #[.val (.int p0), .val (.int p1), .val (.int (1 : Int32)), .unset, .unset, .unset] [(.int (9 : Int32)), (.int (p1 &&& (2147483647 : Int32)))])) _
      refine XS.irem X0.here hx rfl (hb hby at_18) rfl (by decide) ?_
      show Steps p.tables e below (s₁.setTop (mkF m 19 #[.val (.int p0), .val (.int p1), .val (.int (1 : Int32)), .unset, .unset, .unset] [(.int ((p1 &&& (2147483647 : Int32)) - ((p1 &&& (2147483647 : Int32)) / (9 : Int32)) * (9 : Int32)))])) t
      exact k
    have hm_i := own_mod9 p1
    generalize ((p1 &&& (2147483647 : Int32)) - ((p1 &&& (2147483647 : Int32)) / (9 : Int32)) * (9 : Int32)) = v_i at hm_i ⊢
    rcases hm_i with rfl | rfl | rfl | rfl | rfl | rfl | rfl | rfl | rfl
    · obtain ⟨T20, X20, e20, st20⟩ := getS2 X0 hx hZ hown (host := "") (Or.inl (hw _ (List.mem_of_getElem? (i := 15) rfl))) Via.refl e0 S_E (g := (mkF m 24 #[.val (.int p0), .val (.int p1), .val (.int (1 : Int32)), .val (.int (0 : Int32)), .unset, .unset] [])) rfl (hb hby at_24)
      obtain ⟨_, _, ⟨T21, L21, k21, n21⟩, -, X21, ⟨Lc21, hQ21, l21, y21, z21⟩, st21⟩ := Jvm.LawKit.callS X20 hx (y := (⟨"com/example/careful_allocator/carefulallocator/can/FrameTiming", "worstCaseBits", "(Lcom/example/careful_allocator/carefulallocator/can/IdentifierFormat;I)I"⟩ : MethodName)) hown (mvT hZ (hw _ (List.mem_of_getElem? (i := 4) rfl))) (mvT hZ (hw _ (List.mem_of_getElem? (i := 5) rfl))) (mvT hZ (hw _ (List.mem_of_getElem? (i := 6) rfl))) (mvT hZ (hw _ (List.mem_of_getElem? (i := 7) rfl))) (by decide) (backOf (W := 0) (own_rm2 l Z a0 hw [] bE (0 : Int32) (54 : Int32) h0 n0 Z0 F_E E_E (by decide) (by decide)) hZ (hw _ (List.mem_of_getElem? (i := 7) rfl)) (hw _ (List.mem_of_getElem? (i := 6) rfl)) (by decide) (by decide)) (g := (mkF m 63 #[.val (.int p0), .val (.int p1), .val (.int (1 : Int32)), .val (.int (0 : Int32)), .val (.ref bE), .val (.int ((80 : Int32) + ((10 : Int32) * (0 : Int32))))] [(.int (0 : Int32)), (.ref bE)])) rfl (by rw [hml]; rfl) (argsL := [(.ref bE), (.int (0 : Int32))]) (rest := []) (lenOf own_pd1 rfl) rfl (by show 2 * 0 + _ ≤ _; exact Nat.le_of_eq rfl) (hb hby at_63) (fun _ _ => ⟨rfl, e20, (by decide : 0 + 0 ≤ _), (by decide : 0 + 0 ≤ _)⟩)
      dsimp only [Pt.U, Pt.locs, Pt.cells, Pt.slots] at X21 l21 y21 z21 st21 hQ21
      subst l21 y21 z21
      obtain ⟨rfl, N21q, e21⟩ := hQ21
      have N21 := Fr.app N0 N21q
      obtain ⟨fs, hr, hrun, hended, hW, hsame⟩ := X21.leave (v := some (.int (1 : Int32))) (fun h => by rw [Bd.returns] at h; cases h)
      refine ⟨_, _, ?_, hrun, hended, _, _, rfl, ?_, ⟨_, rfl⟩, hW, hsame.mono (by decide) (by decide)⟩
      · show Steps p.tables e below (s₁.setTop (mkF m 19 #[.val (.int p0), .val (.int p1), .val (.int (1 : Int32)), .unset, .unset, .unset] [(.int (0 : Int32))])) _
        refine XS.istoreN X0.here hx rfl (hb hby at_19) rfl (l' := #[.val (.int p0), .val (.int p1), .val (.int (1 : Int32)), .val (.int (0 : Int32)), .unset, .unset]) rfl ?_
        show Steps p.tables e below (s₁.setTop (mkF m 20 #[.val (.int p0), .val (.int p1), .val (.int (1 : Int32)), .val (.int (0 : Int32)), .unset, .unset] [])) _
        refine XS.iloadN X0.here hx rfl (hb hby at_20) rfl ?_
        show Steps p.tables e below (s₁.setTop (mkF m 21 #[.val (.int p0), .val (.int p1), .val (.int (1 : Int32)), .val (.int (0 : Int32)), .unset, .unset] [(.int (1 : Int32))])) _
        refine XS.ifNo X0.here hx rfl (hb hby at_21) rfl ((if0 _ _).trans (feq ((by decide) : ¬ ((1 : Int32) = (0 : Int32)))).1) ?_
        show Steps p.tables e below (s₁.setTop (mkF m 24 #[.val (.int p0), .val (.int p1), .val (.int (1 : Int32)), .val (.int (0 : Int32)), .unset, .unset] [])) _
        refine st20 _ ?_
        show Steps p.tables e below (T20.setTop (mkF m 27 #[.val (.int p0), .val (.int p1), .val (.int (1 : Int32)), .val (.int (0 : Int32)), .unset, .unset] [(.ref bE)])) _
        refine XS.goto X20.here hx rfl (pc0 := 27) (pc' := 33) rfl (hb hby at_27) (by decide) (by decide) ?_
        show Steps p.tables e below (T20.setTop (mkF m 33 #[.val (.int p0), .val (.int p1), .val (.int (1 : Int32)), .val (.int (0 : Int32)), .unset, .unset] [(.ref bE)])) _
        refine XS.astore X20.here hx rfl (hb hby at_33) rfl rfl (l' := #[.val (.int p0), .val (.int p1), .val (.int (1 : Int32)), .val (.int (0 : Int32)), .val (.ref bE), .unset]) rfl ?_
        show Steps p.tables e below (T20.setTop (mkF m 35 #[.val (.int p0), .val (.int p1), .val (.int (1 : Int32)), .val (.int (0 : Int32)), .val (.ref bE), .unset] [])) _
        refine XS.iloadN X20.here hx rfl (hb hby at_35) rfl ?_
        show Steps p.tables e below (T20.setTop (mkF m 36 #[.val (.int p0), .val (.int p1), .val (.int (1 : Int32)), .val (.int (0 : Int32)), .val (.ref bE), .unset] [(.int (1 : Int32))])) _
        refine XS.ifNo X20.here hx rfl (hb hby at_36) rfl ((if0 _ _).trans (feq ((by decide) : ¬ ((1 : Int32) = (0 : Int32)))).1) ?_
        show Steps p.tables e below (T20.setTop (mkF m 39 #[.val (.int p0), .val (.int p1), .val (.int (1 : Int32)), .val (.int (0 : Int32)), .val (.ref bE), .unset] [])) _
        refine XS.bipush X20.here hx rfl (hb hby at_39) ?_
        show Steps p.tables e below (T20.setTop (mkF m 41 #[.val (.int p0), .val (.int p1), .val (.int (1 : Int32)), .val (.int (0 : Int32)), .val (.ref bE), .unset] [(.int (80 : Int32))])) _
        refine XS.bipush X20.here hx rfl (hb hby at_41) ?_
        show Steps p.tables e below (T20.setTop (mkF m 43 #[.val (.int p0), .val (.int p1), .val (.int (1 : Int32)), .val (.int (0 : Int32)), .val (.ref bE), .unset] [(.int (10 : Int32)), (.int (80 : Int32))])) _
        refine XS.iloadN X20.here hx rfl (hb hby at_43) rfl ?_
        show Steps p.tables e below (T20.setTop (mkF m 44 #[.val (.int p0), .val (.int p1), .val (.int (1 : Int32)), .val (.int (0 : Int32)), .val (.ref bE), .unset] [(.int (0 : Int32)), (.int (10 : Int32)), (.int (80 : Int32))])) _
        refine XS.imul X20.here hx rfl (hb hby at_44) rfl ?_
        show Steps p.tables e below (T20.setTop (mkF m 45 #[.val (.int p0), .val (.int p1), .val (.int (1 : Int32)), .val (.int (0 : Int32)), .val (.ref bE), .unset] [(.int ((10 : Int32) * (0 : Int32))), (.int (80 : Int32))])) _
        refine XS.iadd X20.here hx rfl (hb hby at_45) rfl ?_
        show Steps p.tables e below (T20.setTop (mkF m 46 #[.val (.int p0), .val (.int p1), .val (.int (1 : Int32)), .val (.int (0 : Int32)), .val (.ref bE), .unset] [(.int ((80 : Int32) + ((10 : Int32) * (0 : Int32))))])) _
        refine XS.istore X20.here hx rfl (hb hby at_46) rfl (l' := #[.val (.int p0), .val (.int p1), .val (.int (1 : Int32)), .val (.int (0 : Int32)), .val (.ref bE), .val (.int ((80 : Int32) + ((10 : Int32) * (0 : Int32))))]) rfl ?_
        show Steps p.tables e below (T20.setTop (mkF m 48 #[.val (.int p0), .val (.int p1), .val (.int (1 : Int32)), .val (.int (0 : Int32)), .val (.ref bE), .val (.int ((80 : Int32) + ((10 : Int32) * (0 : Int32))))] [])) _
        refine XS.goto X20.here hx rfl (pc0 := 48) (pc' := 60) rfl (hb hby at_48) (by decide) (by decide) ?_
        show Steps p.tables e below (T20.setTop (mkF m 60 #[.val (.int p0), .val (.int p1), .val (.int (1 : Int32)), .val (.int (0 : Int32)), .val (.ref bE), .val (.int ((80 : Int32) + ((10 : Int32) * (0 : Int32))))] [])) _
        refine XS.aload X20.here hx rfl (hb hby at_60) rfl rfl ?_
        show Steps p.tables e below (T20.setTop (mkF m 62 #[.val (.int p0), .val (.int p1), .val (.int (1 : Int32)), .val (.int (0 : Int32)), .val (.ref bE), .val (.int ((80 : Int32) + ((10 : Int32) * (0 : Int32))))] [(.ref bE)])) _
        refine XS.iloadN X20.here hx rfl (hb hby at_62) rfl ?_
        show Steps p.tables e below (T20.setTop (mkF m 63 #[.val (.int p0), .val (.int p1), .val (.int (1 : Int32)), .val (.int (0 : Int32)), .val (.ref bE), .val (.int ((80 : Int32) + ((10 : Int32) * (0 : Int32))))] [(.int (0 : Int32)), (.ref bE)])) _
        refine st21 _ ?_
        show Steps p.tables e below (T21.setTop (mkF m 66 #[.val (.int p0), .val (.int p1), .val (.int (1 : Int32)), .val (.int (0 : Int32)), .val (.ref bE), .val (.int ((80 : Int32) + ((10 : Int32) * (0 : Int32))))] [(.int ((((54 : Int32) + ((8 : Int32) * (0 : Int32))) + (13 : Int32)) + ((((54 : Int32) + ((8 : Int32) * (0 : Int32))) - (1 : Int32)) / (4 : Int32))))])) _
        refine XS.iload X21.here hx rfl (hb hby at_66) rfl ?_
        show Steps p.tables e below (T21.setTop (mkF m 68 #[.val (.int p0), .val (.int p1), .val (.int (1 : Int32)), .val (.int (0 : Int32)), .val (.ref bE), .val (.int ((80 : Int32) + ((10 : Int32) * (0 : Int32))))] [(.int ((80 : Int32) + ((10 : Int32) * (0 : Int32)))), (.int ((((54 : Int32) + ((8 : Int32) * (0 : Int32))) + (13 : Int32)) + ((((54 : Int32) + ((8 : Int32) * (0 : Int32))) - (1 : Int32)) / (4 : Int32))))])) _
        refine XS.icmpNo X21.here hx rfl (hb hby at_68) rfl (teq (by decide : ((((54 : Int32) + ((8 : Int32) * (0 : Int32))) + (13 : Int32)) + ((((54 : Int32) + ((8 : Int32) * (0 : Int32))) - (1 : Int32)) / (4 : Int32))) = ((80 : Int32) + ((10 : Int32) * (0 : Int32))))).2 ?_
        show Steps p.tables e below (T21.setTop (mkF m 71 #[.val (.int p0), .val (.int p1), .val (.int (1 : Int32)), .val (.int (0 : Int32)), .val (.ref bE), .val (.int ((80 : Int32) + ((10 : Int32) * (0 : Int32))))] [])) _
        refine XS.iconst X21.here hx rfl (hb hby at_71) ?_
        show Steps p.tables e below (T21.setTop (mkF m 72 #[.val (.int p0), .val (.int p1), .val (.int (1 : Int32)), .val (.int (0 : Int32)), .val (.ref bE), .val (.int ((80 : Int32) + ((10 : Int32) * (0 : Int32))))] [(.int (1 : Int32))])) _
        refine XS.goto X21.here hx rfl (pc0 := 72) (pc' := 76) rfl (hb hby at_72) (by decide) (by decide) ?_
        show Steps p.tables e below (T21.setTop (mkF m 76 #[.val (.int p0), .val (.int p1), .val (.int (1 : Int32)), .val (.int (0 : Int32)), .val (.ref bE), .val (.int ((80 : Int32) + ((10 : Int32) * (0 : Int32))))] [(.int (1 : Int32))])) _
        exact retN X21 hx (t := .boolean) Bd.returns (by simp) (hb hby at_76) hr
      · show own_Q0 n0 _ T21.heap _
        rw [e21]
        exact ⟨rfl, N21⟩
    · obtain ⟨T22, X22, e22, st22⟩ := getS2 X0 hx hZ hown (host := "") (Or.inl (hw _ (List.mem_of_getElem? (i := 15) rfl))) Via.refl e0 S_E (g := (mkF m 24 #[.val (.int p0), .val (.int p1), .val (.int (1 : Int32)), .val (.int (1 : Int32)), .unset, .unset] [])) rfl (hb hby at_24)
      obtain ⟨_, _, ⟨T23, L23, k23, n23⟩, -, X23, ⟨Lc23, hQ23, l23, y23, z23⟩, st23⟩ := Jvm.LawKit.callS X22 hx (y := (⟨"com/example/careful_allocator/carefulallocator/can/FrameTiming", "worstCaseBits", "(Lcom/example/careful_allocator/carefulallocator/can/IdentifierFormat;I)I"⟩ : MethodName)) hown (mvT hZ (hw _ (List.mem_of_getElem? (i := 4) rfl))) (mvT hZ (hw _ (List.mem_of_getElem? (i := 5) rfl))) (mvT hZ (hw _ (List.mem_of_getElem? (i := 6) rfl))) (mvT hZ (hw _ (List.mem_of_getElem? (i := 7) rfl))) (by decide) (backOf (W := 0) (own_rm2 l Z a0 hw [] bE (1 : Int32) (54 : Int32) h0 n0 Z0 F_E E_E (by decide) (by decide)) hZ (hw _ (List.mem_of_getElem? (i := 7) rfl)) (hw _ (List.mem_of_getElem? (i := 6) rfl)) (by decide) (by decide)) (g := (mkF m 63 #[.val (.int p0), .val (.int p1), .val (.int (1 : Int32)), .val (.int (1 : Int32)), .val (.ref bE), .val (.int ((80 : Int32) + ((10 : Int32) * (1 : Int32))))] [(.int (1 : Int32)), (.ref bE)])) rfl (by rw [hml]; rfl) (argsL := [(.ref bE), (.int (1 : Int32))]) (rest := []) (lenOf own_pd1 rfl) rfl (by show 2 * 0 + _ ≤ _; exact Nat.le_of_eq rfl) (hb hby at_63) (fun _ _ => ⟨rfl, e22, (by decide : 0 + 0 ≤ _), (by decide : 0 + 0 ≤ _)⟩)
      dsimp only [Pt.U, Pt.locs, Pt.cells, Pt.slots] at X23 l23 y23 z23 st23 hQ23
      subst l23 y23 z23
      obtain ⟨rfl, N23q, e23⟩ := hQ23
      have N23 := Fr.app N0 N23q
      obtain ⟨fs, hr, hrun, hended, hW, hsame⟩ := X23.leave (v := some (.int (1 : Int32))) (fun h => by rw [Bd.returns] at h; cases h)
      refine ⟨_, _, ?_, hrun, hended, _, _, rfl, ?_, ⟨_, rfl⟩, hW, hsame.mono (by decide) (by decide)⟩
      · show Steps p.tables e below (s₁.setTop (mkF m 19 #[.val (.int p0), .val (.int p1), .val (.int (1 : Int32)), .unset, .unset, .unset] [(.int (1 : Int32))])) _
        refine XS.istoreN X0.here hx rfl (hb hby at_19) rfl (l' := #[.val (.int p0), .val (.int p1), .val (.int (1 : Int32)), .val (.int (1 : Int32)), .unset, .unset]) rfl ?_
        show Steps p.tables e below (s₁.setTop (mkF m 20 #[.val (.int p0), .val (.int p1), .val (.int (1 : Int32)), .val (.int (1 : Int32)), .unset, .unset] [])) _
        refine XS.iloadN X0.here hx rfl (hb hby at_20) rfl ?_
        show Steps p.tables e below (s₁.setTop (mkF m 21 #[.val (.int p0), .val (.int p1), .val (.int (1 : Int32)), .val (.int (1 : Int32)), .unset, .unset] [(.int (1 : Int32))])) _
        refine XS.ifNo X0.here hx rfl (hb hby at_21) rfl ((if0 _ _).trans (feq ((by decide) : ¬ ((1 : Int32) = (0 : Int32)))).1) ?_
        show Steps p.tables e below (s₁.setTop (mkF m 24 #[.val (.int p0), .val (.int p1), .val (.int (1 : Int32)), .val (.int (1 : Int32)), .unset, .unset] [])) _
        refine st22 _ ?_
        show Steps p.tables e below (T22.setTop (mkF m 27 #[.val (.int p0), .val (.int p1), .val (.int (1 : Int32)), .val (.int (1 : Int32)), .unset, .unset] [(.ref bE)])) _
        refine XS.goto X22.here hx rfl (pc0 := 27) (pc' := 33) rfl (hb hby at_27) (by decide) (by decide) ?_
        show Steps p.tables e below (T22.setTop (mkF m 33 #[.val (.int p0), .val (.int p1), .val (.int (1 : Int32)), .val (.int (1 : Int32)), .unset, .unset] [(.ref bE)])) _
        refine XS.astore X22.here hx rfl (hb hby at_33) rfl rfl (l' := #[.val (.int p0), .val (.int p1), .val (.int (1 : Int32)), .val (.int (1 : Int32)), .val (.ref bE), .unset]) rfl ?_
        show Steps p.tables e below (T22.setTop (mkF m 35 #[.val (.int p0), .val (.int p1), .val (.int (1 : Int32)), .val (.int (1 : Int32)), .val (.ref bE), .unset] [])) _
        refine XS.iloadN X22.here hx rfl (hb hby at_35) rfl ?_
        show Steps p.tables e below (T22.setTop (mkF m 36 #[.val (.int p0), .val (.int p1), .val (.int (1 : Int32)), .val (.int (1 : Int32)), .val (.ref bE), .unset] [(.int (1 : Int32))])) _
        refine XS.ifNo X22.here hx rfl (hb hby at_36) rfl ((if0 _ _).trans (feq ((by decide) : ¬ ((1 : Int32) = (0 : Int32)))).1) ?_
        show Steps p.tables e below (T22.setTop (mkF m 39 #[.val (.int p0), .val (.int p1), .val (.int (1 : Int32)), .val (.int (1 : Int32)), .val (.ref bE), .unset] [])) _
        refine XS.bipush X22.here hx rfl (hb hby at_39) ?_
        show Steps p.tables e below (T22.setTop (mkF m 41 #[.val (.int p0), .val (.int p1), .val (.int (1 : Int32)), .val (.int (1 : Int32)), .val (.ref bE), .unset] [(.int (80 : Int32))])) _
        refine XS.bipush X22.here hx rfl (hb hby at_41) ?_
        show Steps p.tables e below (T22.setTop (mkF m 43 #[.val (.int p0), .val (.int p1), .val (.int (1 : Int32)), .val (.int (1 : Int32)), .val (.ref bE), .unset] [(.int (10 : Int32)), (.int (80 : Int32))])) _
        refine XS.iloadN X22.here hx rfl (hb hby at_43) rfl ?_
        show Steps p.tables e below (T22.setTop (mkF m 44 #[.val (.int p0), .val (.int p1), .val (.int (1 : Int32)), .val (.int (1 : Int32)), .val (.ref bE), .unset] [(.int (1 : Int32)), (.int (10 : Int32)), (.int (80 : Int32))])) _
        refine XS.imul X22.here hx rfl (hb hby at_44) rfl ?_
        show Steps p.tables e below (T22.setTop (mkF m 45 #[.val (.int p0), .val (.int p1), .val (.int (1 : Int32)), .val (.int (1 : Int32)), .val (.ref bE), .unset] [(.int ((10 : Int32) * (1 : Int32))), (.int (80 : Int32))])) _
        refine XS.iadd X22.here hx rfl (hb hby at_45) rfl ?_
        show Steps p.tables e below (T22.setTop (mkF m 46 #[.val (.int p0), .val (.int p1), .val (.int (1 : Int32)), .val (.int (1 : Int32)), .val (.ref bE), .unset] [(.int ((80 : Int32) + ((10 : Int32) * (1 : Int32))))])) _
        refine XS.istore X22.here hx rfl (hb hby at_46) rfl (l' := #[.val (.int p0), .val (.int p1), .val (.int (1 : Int32)), .val (.int (1 : Int32)), .val (.ref bE), .val (.int ((80 : Int32) + ((10 : Int32) * (1 : Int32))))]) rfl ?_
        show Steps p.tables e below (T22.setTop (mkF m 48 #[.val (.int p0), .val (.int p1), .val (.int (1 : Int32)), .val (.int (1 : Int32)), .val (.ref bE), .val (.int ((80 : Int32) + ((10 : Int32) * (1 : Int32))))] [])) _
        refine XS.goto X22.here hx rfl (pc0 := 48) (pc' := 60) rfl (hb hby at_48) (by decide) (by decide) ?_
        show Steps p.tables e below (T22.setTop (mkF m 60 #[.val (.int p0), .val (.int p1), .val (.int (1 : Int32)), .val (.int (1 : Int32)), .val (.ref bE), .val (.int ((80 : Int32) + ((10 : Int32) * (1 : Int32))))] [])) _
        refine XS.aload X22.here hx rfl (hb hby at_60) rfl rfl ?_
        show Steps p.tables e below (T22.setTop (mkF m 62 #[.val (.int p0), .val (.int p1), .val (.int (1 : Int32)), .val (.int (1 : Int32)), .val (.ref bE), .val (.int ((80 : Int32) + ((10 : Int32) * (1 : Int32))))] [(.ref bE)])) _
        refine XS.iloadN X22.here hx rfl (hb hby at_62) rfl ?_
        show Steps p.tables e below (T22.setTop (mkF m 63 #[.val (.int p0), .val (.int p1), .val (.int (1 : Int32)), .val (.int (1 : Int32)), .val (.ref bE), .val (.int ((80 : Int32) + ((10 : Int32) * (1 : Int32))))] [(.int (1 : Int32)), (.ref bE)])) _
        refine st23 _ ?_
        show Steps p.tables e below (T23.setTop (mkF m 66 #[.val (.int p0), .val (.int p1), .val (.int (1 : Int32)), .val (.int (1 : Int32)), .val (.ref bE), .val (.int ((80 : Int32) + ((10 : Int32) * (1 : Int32))))] [(.int ((((54 : Int32) + ((8 : Int32) * (1 : Int32))) + (13 : Int32)) + ((((54 : Int32) + ((8 : Int32) * (1 : Int32))) - (1 : Int32)) / (4 : Int32))))])) _
        refine XS.iload X23.here hx rfl (hb hby at_66) rfl ?_
        show Steps p.tables e below (T23.setTop (mkF m 68 #[.val (.int p0), .val (.int p1), .val (.int (1 : Int32)), .val (.int (1 : Int32)), .val (.ref bE), .val (.int ((80 : Int32) + ((10 : Int32) * (1 : Int32))))] [(.int ((80 : Int32) + ((10 : Int32) * (1 : Int32)))), (.int ((((54 : Int32) + ((8 : Int32) * (1 : Int32))) + (13 : Int32)) + ((((54 : Int32) + ((8 : Int32) * (1 : Int32))) - (1 : Int32)) / (4 : Int32))))])) _
        refine XS.icmpNo X23.here hx rfl (hb hby at_68) rfl (teq (by decide : ((((54 : Int32) + ((8 : Int32) * (1 : Int32))) + (13 : Int32)) + ((((54 : Int32) + ((8 : Int32) * (1 : Int32))) - (1 : Int32)) / (4 : Int32))) = ((80 : Int32) + ((10 : Int32) * (1 : Int32))))).2 ?_
        show Steps p.tables e below (T23.setTop (mkF m 71 #[.val (.int p0), .val (.int p1), .val (.int (1 : Int32)), .val (.int (1 : Int32)), .val (.ref bE), .val (.int ((80 : Int32) + ((10 : Int32) * (1 : Int32))))] [])) _
        refine XS.iconst X23.here hx rfl (hb hby at_71) ?_
        show Steps p.tables e below (T23.setTop (mkF m 72 #[.val (.int p0), .val (.int p1), .val (.int (1 : Int32)), .val (.int (1 : Int32)), .val (.ref bE), .val (.int ((80 : Int32) + ((10 : Int32) * (1 : Int32))))] [(.int (1 : Int32))])) _
        refine XS.goto X23.here hx rfl (pc0 := 72) (pc' := 76) rfl (hb hby at_72) (by decide) (by decide) ?_
        show Steps p.tables e below (T23.setTop (mkF m 76 #[.val (.int p0), .val (.int p1), .val (.int (1 : Int32)), .val (.int (1 : Int32)), .val (.ref bE), .val (.int ((80 : Int32) + ((10 : Int32) * (1 : Int32))))] [(.int (1 : Int32))])) _
        exact retN X23 hx (t := .boolean) Bd.returns (by simp) (hb hby at_76) hr
      · show own_Q0 n0 _ T23.heap _
        rw [e23]
        exact ⟨rfl, N23⟩
    · obtain ⟨T24, X24, e24, st24⟩ := getS2 X0 hx hZ hown (host := "") (Or.inl (hw _ (List.mem_of_getElem? (i := 15) rfl))) Via.refl e0 S_E (g := (mkF m 24 #[.val (.int p0), .val (.int p1), .val (.int (1 : Int32)), .val (.int (2 : Int32)), .unset, .unset] [])) rfl (hb hby at_24)
      obtain ⟨_, _, ⟨T25, L25, k25, n25⟩, -, X25, ⟨Lc25, hQ25, l25, y25, z25⟩, st25⟩ := Jvm.LawKit.callS X24 hx (y := (⟨"com/example/careful_allocator/carefulallocator/can/FrameTiming", "worstCaseBits", "(Lcom/example/careful_allocator/carefulallocator/can/IdentifierFormat;I)I"⟩ : MethodName)) hown (mvT hZ (hw _ (List.mem_of_getElem? (i := 4) rfl))) (mvT hZ (hw _ (List.mem_of_getElem? (i := 5) rfl))) (mvT hZ (hw _ (List.mem_of_getElem? (i := 6) rfl))) (mvT hZ (hw _ (List.mem_of_getElem? (i := 7) rfl))) (by decide) (backOf (W := 0) (own_rm2 l Z a0 hw [] bE (2 : Int32) (54 : Int32) h0 n0 Z0 F_E E_E (by decide) (by decide)) hZ (hw _ (List.mem_of_getElem? (i := 7) rfl)) (hw _ (List.mem_of_getElem? (i := 6) rfl)) (by decide) (by decide)) (g := (mkF m 63 #[.val (.int p0), .val (.int p1), .val (.int (1 : Int32)), .val (.int (2 : Int32)), .val (.ref bE), .val (.int ((80 : Int32) + ((10 : Int32) * (2 : Int32))))] [(.int (2 : Int32)), (.ref bE)])) rfl (by rw [hml]; rfl) (argsL := [(.ref bE), (.int (2 : Int32))]) (rest := []) (lenOf own_pd1 rfl) rfl (by show 2 * 0 + _ ≤ _; exact Nat.le_of_eq rfl) (hb hby at_63) (fun _ _ => ⟨rfl, e24, (by decide : 0 + 0 ≤ _), (by decide : 0 + 0 ≤ _)⟩)
      dsimp only [Pt.U, Pt.locs, Pt.cells, Pt.slots] at X25 l25 y25 z25 st25 hQ25
      subst l25 y25 z25
      obtain ⟨rfl, N25q, e25⟩ := hQ25
      have N25 := Fr.app N0 N25q
      obtain ⟨fs, hr, hrun, hended, hW, hsame⟩ := X25.leave (v := some (.int (1 : Int32))) (fun h => by rw [Bd.returns] at h; cases h)
      refine ⟨_, _, ?_, hrun, hended, _, _, rfl, ?_, ⟨_, rfl⟩, hW, hsame.mono (by decide) (by decide)⟩
      · show Steps p.tables e below (s₁.setTop (mkF m 19 #[.val (.int p0), .val (.int p1), .val (.int (1 : Int32)), .unset, .unset, .unset] [(.int (2 : Int32))])) _
        refine XS.istoreN X0.here hx rfl (hb hby at_19) rfl (l' := #[.val (.int p0), .val (.int p1), .val (.int (1 : Int32)), .val (.int (2 : Int32)), .unset, .unset]) rfl ?_
        show Steps p.tables e below (s₁.setTop (mkF m 20 #[.val (.int p0), .val (.int p1), .val (.int (1 : Int32)), .val (.int (2 : Int32)), .unset, .unset] [])) _
        refine XS.iloadN X0.here hx rfl (hb hby at_20) rfl ?_
        show Steps p.tables e below (s₁.setTop (mkF m 21 #[.val (.int p0), .val (.int p1), .val (.int (1 : Int32)), .val (.int (2 : Int32)), .unset, .unset] [(.int (1 : Int32))])) _
        refine XS.ifNo X0.here hx rfl (hb hby at_21) rfl ((if0 _ _).trans (feq ((by decide) : ¬ ((1 : Int32) = (0 : Int32)))).1) ?_
        show Steps p.tables e below (s₁.setTop (mkF m 24 #[.val (.int p0), .val (.int p1), .val (.int (1 : Int32)), .val (.int (2 : Int32)), .unset, .unset] [])) _
        refine st24 _ ?_
        show Steps p.tables e below (T24.setTop (mkF m 27 #[.val (.int p0), .val (.int p1), .val (.int (1 : Int32)), .val (.int (2 : Int32)), .unset, .unset] [(.ref bE)])) _
        refine XS.goto X24.here hx rfl (pc0 := 27) (pc' := 33) rfl (hb hby at_27) (by decide) (by decide) ?_
        show Steps p.tables e below (T24.setTop (mkF m 33 #[.val (.int p0), .val (.int p1), .val (.int (1 : Int32)), .val (.int (2 : Int32)), .unset, .unset] [(.ref bE)])) _
        refine XS.astore X24.here hx rfl (hb hby at_33) rfl rfl (l' := #[.val (.int p0), .val (.int p1), .val (.int (1 : Int32)), .val (.int (2 : Int32)), .val (.ref bE), .unset]) rfl ?_
        show Steps p.tables e below (T24.setTop (mkF m 35 #[.val (.int p0), .val (.int p1), .val (.int (1 : Int32)), .val (.int (2 : Int32)), .val (.ref bE), .unset] [])) _
        refine XS.iloadN X24.here hx rfl (hb hby at_35) rfl ?_
        show Steps p.tables e below (T24.setTop (mkF m 36 #[.val (.int p0), .val (.int p1), .val (.int (1 : Int32)), .val (.int (2 : Int32)), .val (.ref bE), .unset] [(.int (1 : Int32))])) _
        refine XS.ifNo X24.here hx rfl (hb hby at_36) rfl ((if0 _ _).trans (feq ((by decide) : ¬ ((1 : Int32) = (0 : Int32)))).1) ?_
        show Steps p.tables e below (T24.setTop (mkF m 39 #[.val (.int p0), .val (.int p1), .val (.int (1 : Int32)), .val (.int (2 : Int32)), .val (.ref bE), .unset] [])) _
        refine XS.bipush X24.here hx rfl (hb hby at_39) ?_
        show Steps p.tables e below (T24.setTop (mkF m 41 #[.val (.int p0), .val (.int p1), .val (.int (1 : Int32)), .val (.int (2 : Int32)), .val (.ref bE), .unset] [(.int (80 : Int32))])) _
        refine XS.bipush X24.here hx rfl (hb hby at_41) ?_
        show Steps p.tables e below (T24.setTop (mkF m 43 #[.val (.int p0), .val (.int p1), .val (.int (1 : Int32)), .val (.int (2 : Int32)), .val (.ref bE), .unset] [(.int (10 : Int32)), (.int (80 : Int32))])) _
        refine XS.iloadN X24.here hx rfl (hb hby at_43) rfl ?_
        show Steps p.tables e below (T24.setTop (mkF m 44 #[.val (.int p0), .val (.int p1), .val (.int (1 : Int32)), .val (.int (2 : Int32)), .val (.ref bE), .unset] [(.int (2 : Int32)), (.int (10 : Int32)), (.int (80 : Int32))])) _
        refine XS.imul X24.here hx rfl (hb hby at_44) rfl ?_
        show Steps p.tables e below (T24.setTop (mkF m 45 #[.val (.int p0), .val (.int p1), .val (.int (1 : Int32)), .val (.int (2 : Int32)), .val (.ref bE), .unset] [(.int ((10 : Int32) * (2 : Int32))), (.int (80 : Int32))])) _
        refine XS.iadd X24.here hx rfl (hb hby at_45) rfl ?_
        show Steps p.tables e below (T24.setTop (mkF m 46 #[.val (.int p0), .val (.int p1), .val (.int (1 : Int32)), .val (.int (2 : Int32)), .val (.ref bE), .unset] [(.int ((80 : Int32) + ((10 : Int32) * (2 : Int32))))])) _
        refine XS.istore X24.here hx rfl (hb hby at_46) rfl (l' := #[.val (.int p0), .val (.int p1), .val (.int (1 : Int32)), .val (.int (2 : Int32)), .val (.ref bE), .val (.int ((80 : Int32) + ((10 : Int32) * (2 : Int32))))]) rfl ?_
        show Steps p.tables e below (T24.setTop (mkF m 48 #[.val (.int p0), .val (.int p1), .val (.int (1 : Int32)), .val (.int (2 : Int32)), .val (.ref bE), .val (.int ((80 : Int32) + ((10 : Int32) * (2 : Int32))))] [])) _
        refine XS.goto X24.here hx rfl (pc0 := 48) (pc' := 60) rfl (hb hby at_48) (by decide) (by decide) ?_
        show Steps p.tables e below (T24.setTop (mkF m 60 #[.val (.int p0), .val (.int p1), .val (.int (1 : Int32)), .val (.int (2 : Int32)), .val (.ref bE), .val (.int ((80 : Int32) + ((10 : Int32) * (2 : Int32))))] [])) _
        refine XS.aload X24.here hx rfl (hb hby at_60) rfl rfl ?_
        show Steps p.tables e below (T24.setTop (mkF m 62 #[.val (.int p0), .val (.int p1), .val (.int (1 : Int32)), .val (.int (2 : Int32)), .val (.ref bE), .val (.int ((80 : Int32) + ((10 : Int32) * (2 : Int32))))] [(.ref bE)])) _
        refine XS.iloadN X24.here hx rfl (hb hby at_62) rfl ?_
        show Steps p.tables e below (T24.setTop (mkF m 63 #[.val (.int p0), .val (.int p1), .val (.int (1 : Int32)), .val (.int (2 : Int32)), .val (.ref bE), .val (.int ((80 : Int32) + ((10 : Int32) * (2 : Int32))))] [(.int (2 : Int32)), (.ref bE)])) _
        refine st25 _ ?_
        show Steps p.tables e below (T25.setTop (mkF m 66 #[.val (.int p0), .val (.int p1), .val (.int (1 : Int32)), .val (.int (2 : Int32)), .val (.ref bE), .val (.int ((80 : Int32) + ((10 : Int32) * (2 : Int32))))] [(.int ((((54 : Int32) + ((8 : Int32) * (2 : Int32))) + (13 : Int32)) + ((((54 : Int32) + ((8 : Int32) * (2 : Int32))) - (1 : Int32)) / (4 : Int32))))])) _
        refine XS.iload X25.here hx rfl (hb hby at_66) rfl ?_
        show Steps p.tables e below (T25.setTop (mkF m 68 #[.val (.int p0), .val (.int p1), .val (.int (1 : Int32)), .val (.int (2 : Int32)), .val (.ref bE), .val (.int ((80 : Int32) + ((10 : Int32) * (2 : Int32))))] [(.int ((80 : Int32) + ((10 : Int32) * (2 : Int32)))), (.int ((((54 : Int32) + ((8 : Int32) * (2 : Int32))) + (13 : Int32)) + ((((54 : Int32) + ((8 : Int32) * (2 : Int32))) - (1 : Int32)) / (4 : Int32))))])) _
        refine XS.icmpNo X25.here hx rfl (hb hby at_68) rfl (teq (by decide : ((((54 : Int32) + ((8 : Int32) * (2 : Int32))) + (13 : Int32)) + ((((54 : Int32) + ((8 : Int32) * (2 : Int32))) - (1 : Int32)) / (4 : Int32))) = ((80 : Int32) + ((10 : Int32) * (2 : Int32))))).2 ?_
        show Steps p.tables e below (T25.setTop (mkF m 71 #[.val (.int p0), .val (.int p1), .val (.int (1 : Int32)), .val (.int (2 : Int32)), .val (.ref bE), .val (.int ((80 : Int32) + ((10 : Int32) * (2 : Int32))))] [])) _
        refine XS.iconst X25.here hx rfl (hb hby at_71) ?_
        show Steps p.tables e below (T25.setTop (mkF m 72 #[.val (.int p0), .val (.int p1), .val (.int (1 : Int32)), .val (.int (2 : Int32)), .val (.ref bE), .val (.int ((80 : Int32) + ((10 : Int32) * (2 : Int32))))] [(.int (1 : Int32))])) _
        refine XS.goto X25.here hx rfl (pc0 := 72) (pc' := 76) rfl (hb hby at_72) (by decide) (by decide) ?_
        show Steps p.tables e below (T25.setTop (mkF m 76 #[.val (.int p0), .val (.int p1), .val (.int (1 : Int32)), .val (.int (2 : Int32)), .val (.ref bE), .val (.int ((80 : Int32) + ((10 : Int32) * (2 : Int32))))] [(.int (1 : Int32))])) _
        exact retN X25 hx (t := .boolean) Bd.returns (by simp) (hb hby at_76) hr
      · show own_Q0 n0 _ T25.heap _
        rw [e25]
        exact ⟨rfl, N25⟩
    · obtain ⟨T26, X26, e26, st26⟩ := getS2 X0 hx hZ hown (host := "") (Or.inl (hw _ (List.mem_of_getElem? (i := 15) rfl))) Via.refl e0 S_E (g := (mkF m 24 #[.val (.int p0), .val (.int p1), .val (.int (1 : Int32)), .val (.int (3 : Int32)), .unset, .unset] [])) rfl (hb hby at_24)
      obtain ⟨_, _, ⟨T27, L27, k27, n27⟩, -, X27, ⟨Lc27, hQ27, l27, y27, z27⟩, st27⟩ := Jvm.LawKit.callS X26 hx (y := (⟨"com/example/careful_allocator/carefulallocator/can/FrameTiming", "worstCaseBits", "(Lcom/example/careful_allocator/carefulallocator/can/IdentifierFormat;I)I"⟩ : MethodName)) hown (mvT hZ (hw _ (List.mem_of_getElem? (i := 4) rfl))) (mvT hZ (hw _ (List.mem_of_getElem? (i := 5) rfl))) (mvT hZ (hw _ (List.mem_of_getElem? (i := 6) rfl))) (mvT hZ (hw _ (List.mem_of_getElem? (i := 7) rfl))) (by decide) (backOf (W := 0) (own_rm2 l Z a0 hw [] bE (3 : Int32) (54 : Int32) h0 n0 Z0 F_E E_E (by decide) (by decide)) hZ (hw _ (List.mem_of_getElem? (i := 7) rfl)) (hw _ (List.mem_of_getElem? (i := 6) rfl)) (by decide) (by decide)) (g := (mkF m 63 #[.val (.int p0), .val (.int p1), .val (.int (1 : Int32)), .val (.int (3 : Int32)), .val (.ref bE), .val (.int ((80 : Int32) + ((10 : Int32) * (3 : Int32))))] [(.int (3 : Int32)), (.ref bE)])) rfl (by rw [hml]; rfl) (argsL := [(.ref bE), (.int (3 : Int32))]) (rest := []) (lenOf own_pd1 rfl) rfl (by show 2 * 0 + _ ≤ _; exact Nat.le_of_eq rfl) (hb hby at_63) (fun _ _ => ⟨rfl, e26, (by decide : 0 + 0 ≤ _), (by decide : 0 + 0 ≤ _)⟩)
      dsimp only [Pt.U, Pt.locs, Pt.cells, Pt.slots] at X27 l27 y27 z27 st27 hQ27
      subst l27 y27 z27
      obtain ⟨rfl, N27q, e27⟩ := hQ27
      have N27 := Fr.app N0 N27q
      obtain ⟨fs, hr, hrun, hended, hW, hsame⟩ := X27.leave (v := some (.int (1 : Int32))) (fun h => by rw [Bd.returns] at h; cases h)
      refine ⟨_, _, ?_, hrun, hended, _, _, rfl, ?_, ⟨_, rfl⟩, hW, hsame.mono (by decide) (by decide)⟩
      · show Steps p.tables e below (s₁.setTop (mkF m 19 #[.val (.int p0), .val (.int p1), .val (.int (1 : Int32)), .unset, .unset, .unset] [(.int (3 : Int32))])) _
        refine XS.istoreN X0.here hx rfl (hb hby at_19) rfl (l' := #[.val (.int p0), .val (.int p1), .val (.int (1 : Int32)), .val (.int (3 : Int32)), .unset, .unset]) rfl ?_
        show Steps p.tables e below (s₁.setTop (mkF m 20 #[.val (.int p0), .val (.int p1), .val (.int (1 : Int32)), .val (.int (3 : Int32)), .unset, .unset] [])) _
        refine XS.iloadN X0.here hx rfl (hb hby at_20) rfl ?_
        show Steps p.tables e below (s₁.setTop (mkF m 21 #[.val (.int p0), .val (.int p1), .val (.int (1 : Int32)), .val (.int (3 : Int32)), .unset, .unset] [(.int (1 : Int32))])) _
        refine XS.ifNo X0.here hx rfl (hb hby at_21) rfl ((if0 _ _).trans (feq ((by decide) : ¬ ((1 : Int32) = (0 : Int32)))).1) ?_
        show Steps p.tables e below (s₁.setTop (mkF m 24 #[.val (.int p0), .val (.int p1), .val (.int (1 : Int32)), .val (.int (3 : Int32)), .unset, .unset] [])) _
        refine st26 _ ?_
        show Steps p.tables e below (T26.setTop (mkF m 27 #[.val (.int p0), .val (.int p1), .val (.int (1 : Int32)), .val (.int (3 : Int32)), .unset, .unset] [(.ref bE)])) _
        refine XS.goto X26.here hx rfl (pc0 := 27) (pc' := 33) rfl (hb hby at_27) (by decide) (by decide) ?_
        show Steps p.tables e below (T26.setTop (mkF m 33 #[.val (.int p0), .val (.int p1), .val (.int (1 : Int32)), .val (.int (3 : Int32)), .unset, .unset] [(.ref bE)])) _
        refine XS.astore X26.here hx rfl (hb hby at_33) rfl rfl (l' := #[.val (.int p0), .val (.int p1), .val (.int (1 : Int32)), .val (.int (3 : Int32)), .val (.ref bE), .unset]) rfl ?_
        show Steps p.tables e below (T26.setTop (mkF m 35 #[.val (.int p0), .val (.int p1), .val (.int (1 : Int32)), .val (.int (3 : Int32)), .val (.ref bE), .unset] [])) _
        refine XS.iloadN X26.here hx rfl (hb hby at_35) rfl ?_
        show Steps p.tables e below (T26.setTop (mkF m 36 #[.val (.int p0), .val (.int p1), .val (.int (1 : Int32)), .val (.int (3 : Int32)), .val (.ref bE), .unset] [(.int (1 : Int32))])) _
        refine XS.ifNo X26.here hx rfl (hb hby at_36) rfl ((if0 _ _).trans (feq ((by decide) : ¬ ((1 : Int32) = (0 : Int32)))).1) ?_
        show Steps p.tables e below (T26.setTop (mkF m 39 #[.val (.int p0), .val (.int p1), .val (.int (1 : Int32)), .val (.int (3 : Int32)), .val (.ref bE), .unset] [])) _
        refine XS.bipush X26.here hx rfl (hb hby at_39) ?_
        show Steps p.tables e below (T26.setTop (mkF m 41 #[.val (.int p0), .val (.int p1), .val (.int (1 : Int32)), .val (.int (3 : Int32)), .val (.ref bE), .unset] [(.int (80 : Int32))])) _
        refine XS.bipush X26.here hx rfl (hb hby at_41) ?_
        show Steps p.tables e below (T26.setTop (mkF m 43 #[.val (.int p0), .val (.int p1), .val (.int (1 : Int32)), .val (.int (3 : Int32)), .val (.ref bE), .unset] [(.int (10 : Int32)), (.int (80 : Int32))])) _
        refine XS.iloadN X26.here hx rfl (hb hby at_43) rfl ?_
        show Steps p.tables e below (T26.setTop (mkF m 44 #[.val (.int p0), .val (.int p1), .val (.int (1 : Int32)), .val (.int (3 : Int32)), .val (.ref bE), .unset] [(.int (3 : Int32)), (.int (10 : Int32)), (.int (80 : Int32))])) _
        refine XS.imul X26.here hx rfl (hb hby at_44) rfl ?_
        show Steps p.tables e below (T26.setTop (mkF m 45 #[.val (.int p0), .val (.int p1), .val (.int (1 : Int32)), .val (.int (3 : Int32)), .val (.ref bE), .unset] [(.int ((10 : Int32) * (3 : Int32))), (.int (80 : Int32))])) _
        refine XS.iadd X26.here hx rfl (hb hby at_45) rfl ?_
        show Steps p.tables e below (T26.setTop (mkF m 46 #[.val (.int p0), .val (.int p1), .val (.int (1 : Int32)), .val (.int (3 : Int32)), .val (.ref bE), .unset] [(.int ((80 : Int32) + ((10 : Int32) * (3 : Int32))))])) _
        refine XS.istore X26.here hx rfl (hb hby at_46) rfl (l' := #[.val (.int p0), .val (.int p1), .val (.int (1 : Int32)), .val (.int (3 : Int32)), .val (.ref bE), .val (.int ((80 : Int32) + ((10 : Int32) * (3 : Int32))))]) rfl ?_
        show Steps p.tables e below (T26.setTop (mkF m 48 #[.val (.int p0), .val (.int p1), .val (.int (1 : Int32)), .val (.int (3 : Int32)), .val (.ref bE), .val (.int ((80 : Int32) + ((10 : Int32) * (3 : Int32))))] [])) _
        refine XS.goto X26.here hx rfl (pc0 := 48) (pc' := 60) rfl (hb hby at_48) (by decide) (by decide) ?_
        show Steps p.tables e below (T26.setTop (mkF m 60 #[.val (.int p0), .val (.int p1), .val (.int (1 : Int32)), .val (.int (3 : Int32)), .val (.ref bE), .val (.int ((80 : Int32) + ((10 : Int32) * (3 : Int32))))] [])) _
        refine XS.aload X26.here hx rfl (hb hby at_60) rfl rfl ?_
        show Steps p.tables e below (T26.setTop (mkF m 62 #[.val (.int p0), .val (.int p1), .val (.int (1 : Int32)), .val (.int (3 : Int32)), .val (.ref bE), .val (.int ((80 : Int32) + ((10 : Int32) * (3 : Int32))))] [(.ref bE)])) _
        refine XS.iloadN X26.here hx rfl (hb hby at_62) rfl ?_
        show Steps p.tables e below (T26.setTop (mkF m 63 #[.val (.int p0), .val (.int p1), .val (.int (1 : Int32)), .val (.int (3 : Int32)), .val (.ref bE), .val (.int ((80 : Int32) + ((10 : Int32) * (3 : Int32))))] [(.int (3 : Int32)), (.ref bE)])) _
        refine st27 _ ?_
        show Steps p.tables e below (T27.setTop (mkF m 66 #[.val (.int p0), .val (.int p1), .val (.int (1 : Int32)), .val (.int (3 : Int32)), .val (.ref bE), .val (.int ((80 : Int32) + ((10 : Int32) * (3 : Int32))))] [(.int ((((54 : Int32) + ((8 : Int32) * (3 : Int32))) + (13 : Int32)) + ((((54 : Int32) + ((8 : Int32) * (3 : Int32))) - (1 : Int32)) / (4 : Int32))))])) _
        refine XS.iload X27.here hx rfl (hb hby at_66) rfl ?_
        show Steps p.tables e below (T27.setTop (mkF m 68 #[.val (.int p0), .val (.int p1), .val (.int (1 : Int32)), .val (.int (3 : Int32)), .val (.ref bE), .val (.int ((80 : Int32) + ((10 : Int32) * (3 : Int32))))] [(.int ((80 : Int32) + ((10 : Int32) * (3 : Int32)))), (.int ((((54 : Int32) + ((8 : Int32) * (3 : Int32))) + (13 : Int32)) + ((((54 : Int32) + ((8 : Int32) * (3 : Int32))) - (1 : Int32)) / (4 : Int32))))])) _
        refine XS.icmpNo X27.here hx rfl (hb hby at_68) rfl (teq (by decide : ((((54 : Int32) + ((8 : Int32) * (3 : Int32))) + (13 : Int32)) + ((((54 : Int32) + ((8 : Int32) * (3 : Int32))) - (1 : Int32)) / (4 : Int32))) = ((80 : Int32) + ((10 : Int32) * (3 : Int32))))).2 ?_
        show Steps p.tables e below (T27.setTop (mkF m 71 #[.val (.int p0), .val (.int p1), .val (.int (1 : Int32)), .val (.int (3 : Int32)), .val (.ref bE), .val (.int ((80 : Int32) + ((10 : Int32) * (3 : Int32))))] [])) _
        refine XS.iconst X27.here hx rfl (hb hby at_71) ?_
        show Steps p.tables e below (T27.setTop (mkF m 72 #[.val (.int p0), .val (.int p1), .val (.int (1 : Int32)), .val (.int (3 : Int32)), .val (.ref bE), .val (.int ((80 : Int32) + ((10 : Int32) * (3 : Int32))))] [(.int (1 : Int32))])) _
        refine XS.goto X27.here hx rfl (pc0 := 72) (pc' := 76) rfl (hb hby at_72) (by decide) (by decide) ?_
        show Steps p.tables e below (T27.setTop (mkF m 76 #[.val (.int p0), .val (.int p1), .val (.int (1 : Int32)), .val (.int (3 : Int32)), .val (.ref bE), .val (.int ((80 : Int32) + ((10 : Int32) * (3 : Int32))))] [(.int (1 : Int32))])) _
        exact retN X27 hx (t := .boolean) Bd.returns (by simp) (hb hby at_76) hr
      · show own_Q0 n0 _ T27.heap _
        rw [e27]
        exact ⟨rfl, N27⟩
    · obtain ⟨T28, X28, e28, st28⟩ := getS2 X0 hx hZ hown (host := "") (Or.inl (hw _ (List.mem_of_getElem? (i := 15) rfl))) Via.refl e0 S_E (g := (mkF m 24 #[.val (.int p0), .val (.int p1), .val (.int (1 : Int32)), .val (.int (4 : Int32)), .unset, .unset] [])) rfl (hb hby at_24)
      obtain ⟨_, _, ⟨T29, L29, k29, n29⟩, -, X29, ⟨Lc29, hQ29, l29, y29, z29⟩, st29⟩ := Jvm.LawKit.callS X28 hx (y := (⟨"com/example/careful_allocator/carefulallocator/can/FrameTiming", "worstCaseBits", "(Lcom/example/careful_allocator/carefulallocator/can/IdentifierFormat;I)I"⟩ : MethodName)) hown (mvT hZ (hw _ (List.mem_of_getElem? (i := 4) rfl))) (mvT hZ (hw _ (List.mem_of_getElem? (i := 5) rfl))) (mvT hZ (hw _ (List.mem_of_getElem? (i := 6) rfl))) (mvT hZ (hw _ (List.mem_of_getElem? (i := 7) rfl))) (by decide) (backOf (W := 0) (own_rm2 l Z a0 hw [] bE (4 : Int32) (54 : Int32) h0 n0 Z0 F_E E_E (by decide) (by decide)) hZ (hw _ (List.mem_of_getElem? (i := 7) rfl)) (hw _ (List.mem_of_getElem? (i := 6) rfl)) (by decide) (by decide)) (g := (mkF m 63 #[.val (.int p0), .val (.int p1), .val (.int (1 : Int32)), .val (.int (4 : Int32)), .val (.ref bE), .val (.int ((80 : Int32) + ((10 : Int32) * (4 : Int32))))] [(.int (4 : Int32)), (.ref bE)])) rfl (by rw [hml]; rfl) (argsL := [(.ref bE), (.int (4 : Int32))]) (rest := []) (lenOf own_pd1 rfl) rfl (by show 2 * 0 + _ ≤ _; exact Nat.le_of_eq rfl) (hb hby at_63) (fun _ _ => ⟨rfl, e28, (by decide : 0 + 0 ≤ _), (by decide : 0 + 0 ≤ _)⟩)
      dsimp only [Pt.U, Pt.locs, Pt.cells, Pt.slots] at X29 l29 y29 z29 st29 hQ29
      subst l29 y29 z29
      obtain ⟨rfl, N29q, e29⟩ := hQ29
      have N29 := Fr.app N0 N29q
      obtain ⟨fs, hr, hrun, hended, hW, hsame⟩ := X29.leave (v := some (.int (1 : Int32))) (fun h => by rw [Bd.returns] at h; cases h)
      refine ⟨_, _, ?_, hrun, hended, _, _, rfl, ?_, ⟨_, rfl⟩, hW, hsame.mono (by decide) (by decide)⟩
      · show Steps p.tables e below (s₁.setTop (mkF m 19 #[.val (.int p0), .val (.int p1), .val (.int (1 : Int32)), .unset, .unset, .unset] [(.int (4 : Int32))])) _
        refine XS.istoreN X0.here hx rfl (hb hby at_19) rfl (l' := #[.val (.int p0), .val (.int p1), .val (.int (1 : Int32)), .val (.int (4 : Int32)), .unset, .unset]) rfl ?_
        show Steps p.tables e below (s₁.setTop (mkF m 20 #[.val (.int p0), .val (.int p1), .val (.int (1 : Int32)), .val (.int (4 : Int32)), .unset, .unset] [])) _
        refine XS.iloadN X0.here hx rfl (hb hby at_20) rfl ?_
        show Steps p.tables e below (s₁.setTop (mkF m 21 #[.val (.int p0), .val (.int p1), .val (.int (1 : Int32)), .val (.int (4 : Int32)), .unset, .unset] [(.int (1 : Int32))])) _
        refine XS.ifNo X0.here hx rfl (hb hby at_21) rfl ((if0 _ _).trans (feq ((by decide) : ¬ ((1 : Int32) = (0 : Int32)))).1) ?_
        show Steps p.tables e below (s₁.setTop (mkF m 24 #[.val (.int p0), .val (.int p1), .val (.int (1 : Int32)), .val (.int (4 : Int32)), .unset, .unset] [])) _
        refine st28 _ ?_
        show Steps p.tables e below (T28.setTop (mkF m 27 #[.val (.int p0), .val (.int p1), .val (.int (1 : Int32)), .val (.int (4 : Int32)), .unset, .unset] [(.ref bE)])) _
        refine XS.goto X28.here hx rfl (pc0 := 27) (pc' := 33) rfl (hb hby at_27) (by decide) (by decide) ?_
        show Steps p.tables e below (T28.setTop (mkF m 33 #[.val (.int p0), .val (.int p1), .val (.int (1 : Int32)), .val (.int (4 : Int32)), .unset, .unset] [(.ref bE)])) _
        refine XS.astore X28.here hx rfl (hb hby at_33) rfl rfl (l' := #[.val (.int p0), .val (.int p1), .val (.int (1 : Int32)), .val (.int (4 : Int32)), .val (.ref bE), .unset]) rfl ?_
        show Steps p.tables e below (T28.setTop (mkF m 35 #[.val (.int p0), .val (.int p1), .val (.int (1 : Int32)), .val (.int (4 : Int32)), .val (.ref bE), .unset] [])) _
        refine XS.iloadN X28.here hx rfl (hb hby at_35) rfl ?_
        show Steps p.tables e below (T28.setTop (mkF m 36 #[.val (.int p0), .val (.int p1), .val (.int (1 : Int32)), .val (.int (4 : Int32)), .val (.ref bE), .unset] [(.int (1 : Int32))])) _
        refine XS.ifNo X28.here hx rfl (hb hby at_36) rfl ((if0 _ _).trans (feq ((by decide) : ¬ ((1 : Int32) = (0 : Int32)))).1) ?_
        show Steps p.tables e below (T28.setTop (mkF m 39 #[.val (.int p0), .val (.int p1), .val (.int (1 : Int32)), .val (.int (4 : Int32)), .val (.ref bE), .unset] [])) _
        refine XS.bipush X28.here hx rfl (hb hby at_39) ?_
        show Steps p.tables e below (T28.setTop (mkF m 41 #[.val (.int p0), .val (.int p1), .val (.int (1 : Int32)), .val (.int (4 : Int32)), .val (.ref bE), .unset] [(.int (80 : Int32))])) _
        refine XS.bipush X28.here hx rfl (hb hby at_41) ?_
        show Steps p.tables e below (T28.setTop (mkF m 43 #[.val (.int p0), .val (.int p1), .val (.int (1 : Int32)), .val (.int (4 : Int32)), .val (.ref bE), .unset] [(.int (10 : Int32)), (.int (80 : Int32))])) _
        refine XS.iloadN X28.here hx rfl (hb hby at_43) rfl ?_
        show Steps p.tables e below (T28.setTop (mkF m 44 #[.val (.int p0), .val (.int p1), .val (.int (1 : Int32)), .val (.int (4 : Int32)), .val (.ref bE), .unset] [(.int (4 : Int32)), (.int (10 : Int32)), (.int (80 : Int32))])) _
        refine XS.imul X28.here hx rfl (hb hby at_44) rfl ?_
        show Steps p.tables e below (T28.setTop (mkF m 45 #[.val (.int p0), .val (.int p1), .val (.int (1 : Int32)), .val (.int (4 : Int32)), .val (.ref bE), .unset] [(.int ((10 : Int32) * (4 : Int32))), (.int (80 : Int32))])) _
        refine XS.iadd X28.here hx rfl (hb hby at_45) rfl ?_
        show Steps p.tables e below (T28.setTop (mkF m 46 #[.val (.int p0), .val (.int p1), .val (.int (1 : Int32)), .val (.int (4 : Int32)), .val (.ref bE), .unset] [(.int ((80 : Int32) + ((10 : Int32) * (4 : Int32))))])) _
        refine XS.istore X28.here hx rfl (hb hby at_46) rfl (l' := #[.val (.int p0), .val (.int p1), .val (.int (1 : Int32)), .val (.int (4 : Int32)), .val (.ref bE), .val (.int ((80 : Int32) + ((10 : Int32) * (4 : Int32))))]) rfl ?_
        show Steps p.tables e below (T28.setTop (mkF m 48 #[.val (.int p0), .val (.int p1), .val (.int (1 : Int32)), .val (.int (4 : Int32)), .val (.ref bE), .val (.int ((80 : Int32) + ((10 : Int32) * (4 : Int32))))] [])) _
        refine XS.goto X28.here hx rfl (pc0 := 48) (pc' := 60) rfl (hb hby at_48) (by decide) (by decide) ?_
        show Steps p.tables e below (T28.setTop (mkF m 60 #[.val (.int p0), .val (.int p1), .val (.int (1 : Int32)), .val (.int (4 : Int32)), .val (.ref bE), .val (.int ((80 : Int32) + ((10 : Int32) * (4 : Int32))))] [])) _
        refine XS.aload X28.here hx rfl (hb hby at_60) rfl rfl ?_
        show Steps p.tables e below (T28.setTop (mkF m 62 #[.val (.int p0), .val (.int p1), .val (.int (1 : Int32)), .val (.int (4 : Int32)), .val (.ref bE), .val (.int ((80 : Int32) + ((10 : Int32) * (4 : Int32))))] [(.ref bE)])) _
        refine XS.iloadN X28.here hx rfl (hb hby at_62) rfl ?_
        show Steps p.tables e below (T28.setTop (mkF m 63 #[.val (.int p0), .val (.int p1), .val (.int (1 : Int32)), .val (.int (4 : Int32)), .val (.ref bE), .val (.int ((80 : Int32) + ((10 : Int32) * (4 : Int32))))] [(.int (4 : Int32)), (.ref bE)])) _
        refine st29 _ ?_
        show Steps p.tables e below (T29.setTop (mkF m 66 #[.val (.int p0), .val (.int p1), .val (.int (1 : Int32)), .val (.int (4 : Int32)), .val (.ref bE), .val (.int ((80 : Int32) + ((10 : Int32) * (4 : Int32))))] [(.int ((((54 : Int32) + ((8 : Int32) * (4 : Int32))) + (13 : Int32)) + ((((54 : Int32) + ((8 : Int32) * (4 : Int32))) - (1 : Int32)) / (4 : Int32))))])) _
        refine XS.iload X29.here hx rfl (hb hby at_66) rfl ?_
        show Steps p.tables e below (T29.setTop (mkF m 68 #[.val (.int p0), .val (.int p1), .val (.int (1 : Int32)), .val (.int (4 : Int32)), .val (.ref bE), .val (.int ((80 : Int32) + ((10 : Int32) * (4 : Int32))))] [(.int ((80 : Int32) + ((10 : Int32) * (4 : Int32)))), (.int ((((54 : Int32) + ((8 : Int32) * (4 : Int32))) + (13 : Int32)) + ((((54 : Int32) + ((8 : Int32) * (4 : Int32))) - (1 : Int32)) / (4 : Int32))))])) _
        refine XS.icmpNo X29.here hx rfl (hb hby at_68) rfl (teq (by decide : ((((54 : Int32) + ((8 : Int32) * (4 : Int32))) + (13 : Int32)) + ((((54 : Int32) + ((8 : Int32) * (4 : Int32))) - (1 : Int32)) / (4 : Int32))) = ((80 : Int32) + ((10 : Int32) * (4 : Int32))))).2 ?_
        show Steps p.tables e below (T29.setTop (mkF m 71 #[.val (.int p0), .val (.int p1), .val (.int (1 : Int32)), .val (.int (4 : Int32)), .val (.ref bE), .val (.int ((80 : Int32) + ((10 : Int32) * (4 : Int32))))] [])) _
        refine XS.iconst X29.here hx rfl (hb hby at_71) ?_
        show Steps p.tables e below (T29.setTop (mkF m 72 #[.val (.int p0), .val (.int p1), .val (.int (1 : Int32)), .val (.int (4 : Int32)), .val (.ref bE), .val (.int ((80 : Int32) + ((10 : Int32) * (4 : Int32))))] [(.int (1 : Int32))])) _
        refine XS.goto X29.here hx rfl (pc0 := 72) (pc' := 76) rfl (hb hby at_72) (by decide) (by decide) ?_
        show Steps p.tables e below (T29.setTop (mkF m 76 #[.val (.int p0), .val (.int p1), .val (.int (1 : Int32)), .val (.int (4 : Int32)), .val (.ref bE), .val (.int ((80 : Int32) + ((10 : Int32) * (4 : Int32))))] [(.int (1 : Int32))])) _
        exact retN X29 hx (t := .boolean) Bd.returns (by simp) (hb hby at_76) hr
      · show own_Q0 n0 _ T29.heap _
        rw [e29]
        exact ⟨rfl, N29⟩
    · obtain ⟨T30, X30, e30, st30⟩ := getS2 X0 hx hZ hown (host := "") (Or.inl (hw _ (List.mem_of_getElem? (i := 15) rfl))) Via.refl e0 S_E (g := (mkF m 24 #[.val (.int p0), .val (.int p1), .val (.int (1 : Int32)), .val (.int (5 : Int32)), .unset, .unset] [])) rfl (hb hby at_24)
      obtain ⟨_, _, ⟨T31, L31, k31, n31⟩, -, X31, ⟨Lc31, hQ31, l31, y31, z31⟩, st31⟩ := Jvm.LawKit.callS X30 hx (y := (⟨"com/example/careful_allocator/carefulallocator/can/FrameTiming", "worstCaseBits", "(Lcom/example/careful_allocator/carefulallocator/can/IdentifierFormat;I)I"⟩ : MethodName)) hown (mvT hZ (hw _ (List.mem_of_getElem? (i := 4) rfl))) (mvT hZ (hw _ (List.mem_of_getElem? (i := 5) rfl))) (mvT hZ (hw _ (List.mem_of_getElem? (i := 6) rfl))) (mvT hZ (hw _ (List.mem_of_getElem? (i := 7) rfl))) (by decide) (backOf (W := 0) (own_rm2 l Z a0 hw [] bE (5 : Int32) (54 : Int32) h0 n0 Z0 F_E E_E (by decide) (by decide)) hZ (hw _ (List.mem_of_getElem? (i := 7) rfl)) (hw _ (List.mem_of_getElem? (i := 6) rfl)) (by decide) (by decide)) (g := (mkF m 63 #[.val (.int p0), .val (.int p1), .val (.int (1 : Int32)), .val (.int (5 : Int32)), .val (.ref bE), .val (.int ((80 : Int32) + ((10 : Int32) * (5 : Int32))))] [(.int (5 : Int32)), (.ref bE)])) rfl (by rw [hml]; rfl) (argsL := [(.ref bE), (.int (5 : Int32))]) (rest := []) (lenOf own_pd1 rfl) rfl (by show 2 * 0 + _ ≤ _; exact Nat.le_of_eq rfl) (hb hby at_63) (fun _ _ => ⟨rfl, e30, (by decide : 0 + 0 ≤ _), (by decide : 0 + 0 ≤ _)⟩)
      dsimp only [Pt.U, Pt.locs, Pt.cells, Pt.slots] at X31 l31 y31 z31 st31 hQ31
      subst l31 y31 z31
      obtain ⟨rfl, N31q, e31⟩ := hQ31
      have N31 := Fr.app N0 N31q
      obtain ⟨fs, hr, hrun, hended, hW, hsame⟩ := X31.leave (v := some (.int (1 : Int32))) (fun h => by rw [Bd.returns] at h; cases h)
      refine ⟨_, _, ?_, hrun, hended, _, _, rfl, ?_, ⟨_, rfl⟩, hW, hsame.mono (by decide) (by decide)⟩
      · show Steps p.tables e below (s₁.setTop (mkF m 19 #[.val (.int p0), .val (.int p1), .val (.int (1 : Int32)), .unset, .unset, .unset] [(.int (5 : Int32))])) _
        refine XS.istoreN X0.here hx rfl (hb hby at_19) rfl (l' := #[.val (.int p0), .val (.int p1), .val (.int (1 : Int32)), .val (.int (5 : Int32)), .unset, .unset]) rfl ?_
        show Steps p.tables e below (s₁.setTop (mkF m 20 #[.val (.int p0), .val (.int p1), .val (.int (1 : Int32)), .val (.int (5 : Int32)), .unset, .unset] [])) _
        refine XS.iloadN X0.here hx rfl (hb hby at_20) rfl ?_
        show Steps p.tables e below (s₁.setTop (mkF m 21 #[.val (.int p0), .val (.int p1), .val (.int (1 : Int32)), .val (.int (5 : Int32)), .unset, .unset] [(.int (1 : Int32))])) _
        refine XS.ifNo X0.here hx rfl (hb hby at_21) rfl ((if0 _ _).trans (feq ((by decide) : ¬ ((1 : Int32) = (0 : Int32)))).1) ?_
        show Steps p.tables e below (s₁.setTop (mkF m 24 #[.val (.int p0), .val (.int p1), .val (.int (1 : Int32)), .val (.int (5 : Int32)), .unset, .unset] [])) _
        refine st30 _ ?_
        show Steps p.tables e below (T30.setTop (mkF m 27 #[.val (.int p0), .val (.int p1), .val (.int (1 : Int32)), .val (.int (5 : Int32)), .unset, .unset] [(.ref bE)])) _
        refine XS.goto X30.here hx rfl (pc0 := 27) (pc' := 33) rfl (hb hby at_27) (by decide) (by decide) ?_
        show Steps p.tables e below (T30.setTop (mkF m 33 #[.val (.int p0), .val (.int p1), .val (.int (1 : Int32)), .val (.int (5 : Int32)), .unset, .unset] [(.ref bE)])) _
        refine XS.astore X30.here hx rfl (hb hby at_33) rfl rfl (l' := #[.val (.int p0), .val (.int p1), .val (.int (1 : Int32)), .val (.int (5 : Int32)), .val (.ref bE), .unset]) rfl ?_
        show Steps p.tables e below (T30.setTop (mkF m 35 #[.val (.int p0), .val (.int p1), .val (.int (1 : Int32)), .val (.int (5 : Int32)), .val (.ref bE), .unset] [])) _
        refine XS.iloadN X30.here hx rfl (hb hby at_35) rfl ?_
        show Steps p.tables e below (T30.setTop (mkF m 36 #[.val (.int p0), .val (.int p1), .val (.int (1 : Int32)), .val (.int (5 : Int32)), .val (.ref bE), .unset] [(.int (1 : Int32))])) _
        refine XS.ifNo X30.here hx rfl (hb hby at_36) rfl ((if0 _ _).trans (feq ((by decide) : ¬ ((1 : Int32) = (0 : Int32)))).1) ?_
        show Steps p.tables e below (T30.setTop (mkF m 39 #[.val (.int p0), .val (.int p1), .val (.int (1 : Int32)), .val (.int (5 : Int32)), .val (.ref bE), .unset] [])) _
        refine XS.bipush X30.here hx rfl (hb hby at_39) ?_
        show Steps p.tables e below (T30.setTop (mkF m 41 #[.val (.int p0), .val (.int p1), .val (.int (1 : Int32)), .val (.int (5 : Int32)), .val (.ref bE), .unset] [(.int (80 : Int32))])) _
        refine XS.bipush X30.here hx rfl (hb hby at_41) ?_
        show Steps p.tables e below (T30.setTop (mkF m 43 #[.val (.int p0), .val (.int p1), .val (.int (1 : Int32)), .val (.int (5 : Int32)), .val (.ref bE), .unset] [(.int (10 : Int32)), (.int (80 : Int32))])) _
        refine XS.iloadN X30.here hx rfl (hb hby at_43) rfl ?_
        show Steps p.tables e below (T30.setTop (mkF m 44 #[.val (.int p0), .val (.int p1), .val (.int (1 : Int32)), .val (.int (5 : Int32)), .val (.ref bE), .unset] [(.int (5 : Int32)), (.int (10 : Int32)), (.int (80 : Int32))])) _
        refine XS.imul X30.here hx rfl (hb hby at_44) rfl ?_
        show Steps p.tables e below (T30.setTop (mkF m 45 #[.val (.int p0), .val (.int p1), .val (.int (1 : Int32)), .val (.int (5 : Int32)), .val (.ref bE), .unset] [(.int ((10 : Int32) * (5 : Int32))), (.int (80 : Int32))])) _
        refine XS.iadd X30.here hx rfl (hb hby at_45) rfl ?_
        show Steps p.tables e below (T30.setTop (mkF m 46 #[.val (.int p0), .val (.int p1), .val (.int (1 : Int32)), .val (.int (5 : Int32)), .val (.ref bE), .unset] [(.int ((80 : Int32) + ((10 : Int32) * (5 : Int32))))])) _
        refine XS.istore X30.here hx rfl (hb hby at_46) rfl (l' := #[.val (.int p0), .val (.int p1), .val (.int (1 : Int32)), .val (.int (5 : Int32)), .val (.ref bE), .val (.int ((80 : Int32) + ((10 : Int32) * (5 : Int32))))]) rfl ?_
        show Steps p.tables e below (T30.setTop (mkF m 48 #[.val (.int p0), .val (.int p1), .val (.int (1 : Int32)), .val (.int (5 : Int32)), .val (.ref bE), .val (.int ((80 : Int32) + ((10 : Int32) * (5 : Int32))))] [])) _
        refine XS.goto X30.here hx rfl (pc0 := 48) (pc' := 60) rfl (hb hby at_48) (by decide) (by decide) ?_
        show Steps p.tables e below (T30.setTop (mkF m 60 #[.val (.int p0), .val (.int p1), .val (.int (1 : Int32)), .val (.int (5 : Int32)), .val (.ref bE), .val (.int ((80 : Int32) + ((10 : Int32) * (5 : Int32))))] [])) _
        refine XS.aload X30.here hx rfl (hb hby at_60) rfl rfl ?_
        show Steps p.tables e below (T30.setTop (mkF m 62 #[.val (.int p0), .val (.int p1), .val (.int (1 : Int32)), .val (.int (5 : Int32)), .val (.ref bE), .val (.int ((80 : Int32) + ((10 : Int32) * (5 : Int32))))] [(.ref bE)])) _
        refine XS.iloadN X30.here hx rfl (hb hby at_62) rfl ?_
        show Steps p.tables e below (T30.setTop (mkF m 63 #[.val (.int p0), .val (.int p1), .val (.int (1 : Int32)), .val (.int (5 : Int32)), .val (.ref bE), .val (.int ((80 : Int32) + ((10 : Int32) * (5 : Int32))))] [(.int (5 : Int32)), (.ref bE)])) _
        refine st31 _ ?_
        show Steps p.tables e below (T31.setTop (mkF m 66 #[.val (.int p0), .val (.int p1), .val (.int (1 : Int32)), .val (.int (5 : Int32)), .val (.ref bE), .val (.int ((80 : Int32) + ((10 : Int32) * (5 : Int32))))] [(.int ((((54 : Int32) + ((8 : Int32) * (5 : Int32))) + (13 : Int32)) + ((((54 : Int32) + ((8 : Int32) * (5 : Int32))) - (1 : Int32)) / (4 : Int32))))])) _
        refine XS.iload X31.here hx rfl (hb hby at_66) rfl ?_
        show Steps p.tables e below (T31.setTop (mkF m 68 #[.val (.int p0), .val (.int p1), .val (.int (1 : Int32)), .val (.int (5 : Int32)), .val (.ref bE), .val (.int ((80 : Int32) + ((10 : Int32) * (5 : Int32))))] [(.int ((80 : Int32) + ((10 : Int32) * (5 : Int32)))), (.int ((((54 : Int32) + ((8 : Int32) * (5 : Int32))) + (13 : Int32)) + ((((54 : Int32) + ((8 : Int32) * (5 : Int32))) - (1 : Int32)) / (4 : Int32))))])) _
        refine XS.icmpNo X31.here hx rfl (hb hby at_68) rfl (teq (by decide : ((((54 : Int32) + ((8 : Int32) * (5 : Int32))) + (13 : Int32)) + ((((54 : Int32) + ((8 : Int32) * (5 : Int32))) - (1 : Int32)) / (4 : Int32))) = ((80 : Int32) + ((10 : Int32) * (5 : Int32))))).2 ?_
        show Steps p.tables e below (T31.setTop (mkF m 71 #[.val (.int p0), .val (.int p1), .val (.int (1 : Int32)), .val (.int (5 : Int32)), .val (.ref bE), .val (.int ((80 : Int32) + ((10 : Int32) * (5 : Int32))))] [])) _
        refine XS.iconst X31.here hx rfl (hb hby at_71) ?_
        show Steps p.tables e below (T31.setTop (mkF m 72 #[.val (.int p0), .val (.int p1), .val (.int (1 : Int32)), .val (.int (5 : Int32)), .val (.ref bE), .val (.int ((80 : Int32) + ((10 : Int32) * (5 : Int32))))] [(.int (1 : Int32))])) _
        refine XS.goto X31.here hx rfl (pc0 := 72) (pc' := 76) rfl (hb hby at_72) (by decide) (by decide) ?_
        show Steps p.tables e below (T31.setTop (mkF m 76 #[.val (.int p0), .val (.int p1), .val (.int (1 : Int32)), .val (.int (5 : Int32)), .val (.ref bE), .val (.int ((80 : Int32) + ((10 : Int32) * (5 : Int32))))] [(.int (1 : Int32))])) _
        exact retN X31 hx (t := .boolean) Bd.returns (by simp) (hb hby at_76) hr
      · show own_Q0 n0 _ T31.heap _
        rw [e31]
        exact ⟨rfl, N31⟩
    · obtain ⟨T32, X32, e32, st32⟩ := getS2 X0 hx hZ hown (host := "") (Or.inl (hw _ (List.mem_of_getElem? (i := 15) rfl))) Via.refl e0 S_E (g := (mkF m 24 #[.val (.int p0), .val (.int p1), .val (.int (1 : Int32)), .val (.int (6 : Int32)), .unset, .unset] [])) rfl (hb hby at_24)
      obtain ⟨_, _, ⟨T33, L33, k33, n33⟩, -, X33, ⟨Lc33, hQ33, l33, y33, z33⟩, st33⟩ := Jvm.LawKit.callS X32 hx (y := (⟨"com/example/careful_allocator/carefulallocator/can/FrameTiming", "worstCaseBits", "(Lcom/example/careful_allocator/carefulallocator/can/IdentifierFormat;I)I"⟩ : MethodName)) hown (mvT hZ (hw _ (List.mem_of_getElem? (i := 4) rfl))) (mvT hZ (hw _ (List.mem_of_getElem? (i := 5) rfl))) (mvT hZ (hw _ (List.mem_of_getElem? (i := 6) rfl))) (mvT hZ (hw _ (List.mem_of_getElem? (i := 7) rfl))) (by decide) (backOf (W := 0) (own_rm2 l Z a0 hw [] bE (6 : Int32) (54 : Int32) h0 n0 Z0 F_E E_E (by decide) (by decide)) hZ (hw _ (List.mem_of_getElem? (i := 7) rfl)) (hw _ (List.mem_of_getElem? (i := 6) rfl)) (by decide) (by decide)) (g := (mkF m 63 #[.val (.int p0), .val (.int p1), .val (.int (1 : Int32)), .val (.int (6 : Int32)), .val (.ref bE), .val (.int ((80 : Int32) + ((10 : Int32) * (6 : Int32))))] [(.int (6 : Int32)), (.ref bE)])) rfl (by rw [hml]; rfl) (argsL := [(.ref bE), (.int (6 : Int32))]) (rest := []) (lenOf own_pd1 rfl) rfl (by show 2 * 0 + _ ≤ _; exact Nat.le_of_eq rfl) (hb hby at_63) (fun _ _ => ⟨rfl, e32, (by decide : 0 + 0 ≤ _), (by decide : 0 + 0 ≤ _)⟩)
      dsimp only [Pt.U, Pt.locs, Pt.cells, Pt.slots] at X33 l33 y33 z33 st33 hQ33
      subst l33 y33 z33
      obtain ⟨rfl, N33q, e33⟩ := hQ33
      have N33 := Fr.app N0 N33q
      obtain ⟨fs, hr, hrun, hended, hW, hsame⟩ := X33.leave (v := some (.int (1 : Int32))) (fun h => by rw [Bd.returns] at h; cases h)
      refine ⟨_, _, ?_, hrun, hended, _, _, rfl, ?_, ⟨_, rfl⟩, hW, hsame.mono (by decide) (by decide)⟩
      · show Steps p.tables e below (s₁.setTop (mkF m 19 #[.val (.int p0), .val (.int p1), .val (.int (1 : Int32)), .unset, .unset, .unset] [(.int (6 : Int32))])) _
        refine XS.istoreN X0.here hx rfl (hb hby at_19) rfl (l' := #[.val (.int p0), .val (.int p1), .val (.int (1 : Int32)), .val (.int (6 : Int32)), .unset, .unset]) rfl ?_
        show Steps p.tables e below (s₁.setTop (mkF m 20 #[.val (.int p0), .val (.int p1), .val (.int (1 : Int32)), .val (.int (6 : Int32)), .unset, .unset] [])) _
        refine XS.iloadN X0.here hx rfl (hb hby at_20) rfl ?_
        show Steps p.tables e below (s₁.setTop (mkF m 21 #[.val (.int p0), .val (.int p1), .val (.int (1 : Int32)), .val (.int (6 : Int32)), .unset, .unset] [(.int (1 : Int32))])) _
        refine XS.ifNo X0.here hx rfl (hb hby at_21) rfl ((if0 _ _).trans (feq ((by decide) : ¬ ((1 : Int32) = (0 : Int32)))).1) ?_
        show Steps p.tables e below (s₁.setTop (mkF m 24 #[.val (.int p0), .val (.int p1), .val (.int (1 : Int32)), .val (.int (6 : Int32)), .unset, .unset] [])) _
        refine st32 _ ?_
        show Steps p.tables e below (T32.setTop (mkF m 27 #[.val (.int p0), .val (.int p1), .val (.int (1 : Int32)), .val (.int (6 : Int32)), .unset, .unset] [(.ref bE)])) _
        refine XS.goto X32.here hx rfl (pc0 := 27) (pc' := 33) rfl (hb hby at_27) (by decide) (by decide) ?_
        show Steps p.tables e below (T32.setTop (mkF m 33 #[.val (.int p0), .val (.int p1), .val (.int (1 : Int32)), .val (.int (6 : Int32)), .unset, .unset] [(.ref bE)])) _
        refine XS.astore X32.here hx rfl (hb hby at_33) rfl rfl (l' := #[.val (.int p0), .val (.int p1), .val (.int (1 : Int32)), .val (.int (6 : Int32)), .val (.ref bE), .unset]) rfl ?_
        show Steps p.tables e below (T32.setTop (mkF m 35 #[.val (.int p0), .val (.int p1), .val (.int (1 : Int32)), .val (.int (6 : Int32)), .val (.ref bE), .unset] [])) _
        refine XS.iloadN X32.here hx rfl (hb hby at_35) rfl ?_
        show Steps p.tables e below (T32.setTop (mkF m 36 #[.val (.int p0), .val (.int p1), .val (.int (1 : Int32)), .val (.int (6 : Int32)), .val (.ref bE), .unset] [(.int (1 : Int32))])) _
        refine XS.ifNo X32.here hx rfl (hb hby at_36) rfl ((if0 _ _).trans (feq ((by decide) : ¬ ((1 : Int32) = (0 : Int32)))).1) ?_
        show Steps p.tables e below (T32.setTop (mkF m 39 #[.val (.int p0), .val (.int p1), .val (.int (1 : Int32)), .val (.int (6 : Int32)), .val (.ref bE), .unset] [])) _
        refine XS.bipush X32.here hx rfl (hb hby at_39) ?_
        show Steps p.tables e below (T32.setTop (mkF m 41 #[.val (.int p0), .val (.int p1), .val (.int (1 : Int32)), .val (.int (6 : Int32)), .val (.ref bE), .unset] [(.int (80 : Int32))])) _
        refine XS.bipush X32.here hx rfl (hb hby at_41) ?_
        show Steps p.tables e below (T32.setTop (mkF m 43 #[.val (.int p0), .val (.int p1), .val (.int (1 : Int32)), .val (.int (6 : Int32)), .val (.ref bE), .unset] [(.int (10 : Int32)), (.int (80 : Int32))])) _
        refine XS.iloadN X32.here hx rfl (hb hby at_43) rfl ?_
        show Steps p.tables e below (T32.setTop (mkF m 44 #[.val (.int p0), .val (.int p1), .val (.int (1 : Int32)), .val (.int (6 : Int32)), .val (.ref bE), .unset] [(.int (6 : Int32)), (.int (10 : Int32)), (.int (80 : Int32))])) _
        refine XS.imul X32.here hx rfl (hb hby at_44) rfl ?_
        show Steps p.tables e below (T32.setTop (mkF m 45 #[.val (.int p0), .val (.int p1), .val (.int (1 : Int32)), .val (.int (6 : Int32)), .val (.ref bE), .unset] [(.int ((10 : Int32) * (6 : Int32))), (.int (80 : Int32))])) _
        refine XS.iadd X32.here hx rfl (hb hby at_45) rfl ?_
        show Steps p.tables e below (T32.setTop (mkF m 46 #[.val (.int p0), .val (.int p1), .val (.int (1 : Int32)), .val (.int (6 : Int32)), .val (.ref bE), .unset] [(.int ((80 : Int32) + ((10 : Int32) * (6 : Int32))))])) _
        refine XS.istore X32.here hx rfl (hb hby at_46) rfl (l' := #[.val (.int p0), .val (.int p1), .val (.int (1 : Int32)), .val (.int (6 : Int32)), .val (.ref bE), .val (.int ((80 : Int32) + ((10 : Int32) * (6 : Int32))))]) rfl ?_
        show Steps p.tables e below (T32.setTop (mkF m 48 #[.val (.int p0), .val (.int p1), .val (.int (1 : Int32)), .val (.int (6 : Int32)), .val (.ref bE), .val (.int ((80 : Int32) + ((10 : Int32) * (6 : Int32))))] [])) _
        refine XS.goto X32.here hx rfl (pc0 := 48) (pc' := 60) rfl (hb hby at_48) (by decide) (by decide) ?_
        show Steps p.tables e below (T32.setTop (mkF m 60 #[.val (.int p0), .val (.int p1), .val (.int (1 : Int32)), .val (.int (6 : Int32)), .val (.ref bE), .val (.int ((80 : Int32) + ((10 : Int32) * (6 : Int32))))] [])) _
        refine XS.aload X32.here hx rfl (hb hby at_60) rfl rfl ?_
        show Steps p.tables e below (T32.setTop (mkF m 62 #[.val (.int p0), .val (.int p1), .val (.int (1 : Int32)), .val (.int (6 : Int32)), .val (.ref bE), .val (.int ((80 : Int32) + ((10 : Int32) * (6 : Int32))))] [(.ref bE)])) _
        refine XS.iloadN X32.here hx rfl (hb hby at_62) rfl ?_
        show Steps p.tables e below (T32.setTop (mkF m 63 #[.val (.int p0), .val (.int p1), .val (.int (1 : Int32)), .val (.int (6 : Int32)), .val (.ref bE), .val (.int ((80 : Int32) + ((10 : Int32) * (6 : Int32))))] [(.int (6 : Int32)), (.ref bE)])) _
        refine st33 _ ?_
        show Steps p.tables e below (T33.setTop (mkF m 66 #[.val (.int p0), .val (.int p1), .val (.int (1 : Int32)), .val (.int (6 : Int32)), .val (.ref bE), .val (.int ((80 : Int32) + ((10 : Int32) * (6 : Int32))))] [(.int ((((54 : Int32) + ((8 : Int32) * (6 : Int32))) + (13 : Int32)) + ((((54 : Int32) + ((8 : Int32) * (6 : Int32))) - (1 : Int32)) / (4 : Int32))))])) _
        refine XS.iload X33.here hx rfl (hb hby at_66) rfl ?_
        show Steps p.tables e below (T33.setTop (mkF m 68 #[.val (.int p0), .val (.int p1), .val (.int (1 : Int32)), .val (.int (6 : Int32)), .val (.ref bE), .val (.int ((80 : Int32) + ((10 : Int32) * (6 : Int32))))] [(.int ((80 : Int32) + ((10 : Int32) * (6 : Int32)))), (.int ((((54 : Int32) + ((8 : Int32) * (6 : Int32))) + (13 : Int32)) + ((((54 : Int32) + ((8 : Int32) * (6 : Int32))) - (1 : Int32)) / (4 : Int32))))])) _
        refine XS.icmpNo X33.here hx rfl (hb hby at_68) rfl (teq (by decide : ((((54 : Int32) + ((8 : Int32) * (6 : Int32))) + (13 : Int32)) + ((((54 : Int32) + ((8 : Int32) * (6 : Int32))) - (1 : Int32)) / (4 : Int32))) = ((80 : Int32) + ((10 : Int32) * (6 : Int32))))).2 ?_
        show Steps p.tables e below (T33.setTop (mkF m 71 #[.val (.int p0), .val (.int p1), .val (.int (1 : Int32)), .val (.int (6 : Int32)), .val (.ref bE), .val (.int ((80 : Int32) + ((10 : Int32) * (6 : Int32))))] [])) _
        refine XS.iconst X33.here hx rfl (hb hby at_71) ?_
        show Steps p.tables e below (T33.setTop (mkF m 72 #[.val (.int p0), .val (.int p1), .val (.int (1 : Int32)), .val (.int (6 : Int32)), .val (.ref bE), .val (.int ((80 : Int32) + ((10 : Int32) * (6 : Int32))))] [(.int (1 : Int32))])) _
        refine XS.goto X33.here hx rfl (pc0 := 72) (pc' := 76) rfl (hb hby at_72) (by decide) (by decide) ?_
        show Steps p.tables e below (T33.setTop (mkF m 76 #[.val (.int p0), .val (.int p1), .val (.int (1 : Int32)), .val (.int (6 : Int32)), .val (.ref bE), .val (.int ((80 : Int32) + ((10 : Int32) * (6 : Int32))))] [(.int (1 : Int32))])) _
        exact retN X33 hx (t := .boolean) Bd.returns (by simp) (hb hby at_76) hr
      · show own_Q0 n0 _ T33.heap _
        rw [e33]
        exact ⟨rfl, N33⟩
    · obtain ⟨T34, X34, e34, st34⟩ := getS2 X0 hx hZ hown (host := "") (Or.inl (hw _ (List.mem_of_getElem? (i := 15) rfl))) Via.refl e0 S_E (g := (mkF m 24 #[.val (.int p0), .val (.int p1), .val (.int (1 : Int32)), .val (.int (7 : Int32)), .unset, .unset] [])) rfl (hb hby at_24)
      obtain ⟨_, _, ⟨T35, L35, k35, n35⟩, -, X35, ⟨Lc35, hQ35, l35, y35, z35⟩, st35⟩ := Jvm.LawKit.callS X34 hx (y := (⟨"com/example/careful_allocator/carefulallocator/can/FrameTiming", "worstCaseBits", "(Lcom/example/careful_allocator/carefulallocator/can/IdentifierFormat;I)I"⟩ : MethodName)) hown (mvT hZ (hw _ (List.mem_of_getElem? (i := 4) rfl))) (mvT hZ (hw _ (List.mem_of_getElem? (i := 5) rfl))) (mvT hZ (hw _ (List.mem_of_getElem? (i := 6) rfl))) (mvT hZ (hw _ (List.mem_of_getElem? (i := 7) rfl))) (by decide) (backOf (W := 0) (own_rm2 l Z a0 hw [] bE (7 : Int32) (54 : Int32) h0 n0 Z0 F_E E_E (by decide) (by decide)) hZ (hw _ (List.mem_of_getElem? (i := 7) rfl)) (hw _ (List.mem_of_getElem? (i := 6) rfl)) (by decide) (by decide)) (g := (mkF m 63 #[.val (.int p0), .val (.int p1), .val (.int (1 : Int32)), .val (.int (7 : Int32)), .val (.ref bE), .val (.int ((80 : Int32) + ((10 : Int32) * (7 : Int32))))] [(.int (7 : Int32)), (.ref bE)])) rfl (by rw [hml]; rfl) (argsL := [(.ref bE), (.int (7 : Int32))]) (rest := []) (lenOf own_pd1 rfl) rfl (by show 2 * 0 + _ ≤ _; exact Nat.le_of_eq rfl) (hb hby at_63) (fun _ _ => ⟨rfl, e34, (by decide : 0 + 0 ≤ _), (by decide : 0 + 0 ≤ _)⟩)
      dsimp only [Pt.U, Pt.locs, Pt.cells, Pt.slots] at X35 l35 y35 z35 st35 hQ35
      subst l35 y35 z35
      obtain ⟨rfl, N35q, e35⟩ := hQ35
      have N35 := Fr.app N0 N35q
      obtain ⟨fs, hr, hrun, hended, hW, hsame⟩ := X35.leave (v := some (.int (1 : Int32))) (fun h => by rw [Bd.returns] at h; cases h)
      refine ⟨_, _, ?_, hrun, hended, _, _, rfl, ?_, ⟨_, rfl⟩, hW, hsame.mono (by decide) (by decide)⟩
      · show Steps p.tables e below (s₁.setTop (mkF m 19 #[.val (.int p0), .val (.int p1), .val (.int (1 : Int32)), .unset, .unset, .unset] [(.int (7 : Int32))])) _
        refine XS.istoreN X0.here hx rfl (hb hby at_19) rfl (l' := #[.val (.int p0), .val (.int p1), .val (.int (1 : Int32)), .val (.int (7 : Int32)), .unset, .unset]) rfl ?_
        show Steps p.tables e below (s₁.setTop (mkF m 20 #[.val (.int p0), .val (.int p1), .val (.int (1 : Int32)), .val (.int (7 : Int32)), .unset, .unset] [])) _
        refine XS.iloadN X0.here hx rfl (hb hby at_20) rfl ?_
        show Steps p.tables e below (s₁.setTop (mkF m 21 #[.val (.int p0), .val (.int p1), .val (.int (1 : Int32)), .val (.int (7 : Int32)), .unset, .unset] [(.int (1 : Int32))])) _
        refine XS.ifNo X0.here hx rfl (hb hby at_21) rfl ((if0 _ _).trans (feq ((by decide) : ¬ ((1 : Int32) = (0 : Int32)))).1) ?_
        show Steps p.tables e below (s₁.setTop (mkF m 24 #[.val (.int p0), .val (.int p1), .val (.int (1 : Int32)), .val (.int (7 : Int32)), .unset, .unset] [])) _
        refine st34 _ ?_
        show Steps p.tables e below (T34.setTop (mkF m 27 #[.val (.int p0), .val (.int p1), .val (.int (1 : Int32)), .val (.int (7 : Int32)), .unset, .unset] [(.ref bE)])) _
        refine XS.goto X34.here hx rfl (pc0 := 27) (pc' := 33) rfl (hb hby at_27) (by decide) (by decide) ?_
        show Steps p.tables e below (T34.setTop (mkF m 33 #[.val (.int p0), .val (.int p1), .val (.int (1 : Int32)), .val (.int (7 : Int32)), .unset, .unset] [(.ref bE)])) _
        refine XS.astore X34.here hx rfl (hb hby at_33) rfl rfl (l' := #[.val (.int p0), .val (.int p1), .val (.int (1 : Int32)), .val (.int (7 : Int32)), .val (.ref bE), .unset]) rfl ?_
        show Steps p.tables e below (T34.setTop (mkF m 35 #[.val (.int p0), .val (.int p1), .val (.int (1 : Int32)), .val (.int (7 : Int32)), .val (.ref bE), .unset] [])) _
        refine XS.iloadN X34.here hx rfl (hb hby at_35) rfl ?_
        show Steps p.tables e below (T34.setTop (mkF m 36 #[.val (.int p0), .val (.int p1), .val (.int (1 : Int32)), .val (.int (7 : Int32)), .val (.ref bE), .unset] [(.int (1 : Int32))])) _
        refine XS.ifNo X34.here hx rfl (hb hby at_36) rfl ((if0 _ _).trans (feq ((by decide) : ¬ ((1 : Int32) = (0 : Int32)))).1) ?_
        show Steps p.tables e below (T34.setTop (mkF m 39 #[.val (.int p0), .val (.int p1), .val (.int (1 : Int32)), .val (.int (7 : Int32)), .val (.ref bE), .unset] [])) _
        refine XS.bipush X34.here hx rfl (hb hby at_39) ?_
        show Steps p.tables e below (T34.setTop (mkF m 41 #[.val (.int p0), .val (.int p1), .val (.int (1 : Int32)), .val (.int (7 : Int32)), .val (.ref bE), .unset] [(.int (80 : Int32))])) _
        refine XS.bipush X34.here hx rfl (hb hby at_41) ?_
        show Steps p.tables e below (T34.setTop (mkF m 43 #[.val (.int p0), .val (.int p1), .val (.int (1 : Int32)), .val (.int (7 : Int32)), .val (.ref bE), .unset] [(.int (10 : Int32)), (.int (80 : Int32))])) _
        refine XS.iloadN X34.here hx rfl (hb hby at_43) rfl ?_
        show Steps p.tables e below (T34.setTop (mkF m 44 #[.val (.int p0), .val (.int p1), .val (.int (1 : Int32)), .val (.int (7 : Int32)), .val (.ref bE), .unset] [(.int (7 : Int32)), (.int (10 : Int32)), (.int (80 : Int32))])) _
        refine XS.imul X34.here hx rfl (hb hby at_44) rfl ?_
        show Steps p.tables e below (T34.setTop (mkF m 45 #[.val (.int p0), .val (.int p1), .val (.int (1 : Int32)), .val (.int (7 : Int32)), .val (.ref bE), .unset] [(.int ((10 : Int32) * (7 : Int32))), (.int (80 : Int32))])) _
        refine XS.iadd X34.here hx rfl (hb hby at_45) rfl ?_
        show Steps p.tables e below (T34.setTop (mkF m 46 #[.val (.int p0), .val (.int p1), .val (.int (1 : Int32)), .val (.int (7 : Int32)), .val (.ref bE), .unset] [(.int ((80 : Int32) + ((10 : Int32) * (7 : Int32))))])) _
        refine XS.istore X34.here hx rfl (hb hby at_46) rfl (l' := #[.val (.int p0), .val (.int p1), .val (.int (1 : Int32)), .val (.int (7 : Int32)), .val (.ref bE), .val (.int ((80 : Int32) + ((10 : Int32) * (7 : Int32))))]) rfl ?_
        show Steps p.tables e below (T34.setTop (mkF m 48 #[.val (.int p0), .val (.int p1), .val (.int (1 : Int32)), .val (.int (7 : Int32)), .val (.ref bE), .val (.int ((80 : Int32) + ((10 : Int32) * (7 : Int32))))] [])) _
        refine XS.goto X34.here hx rfl (pc0 := 48) (pc' := 60) rfl (hb hby at_48) (by decide) (by decide) ?_
        show Steps p.tables e below (T34.setTop (mkF m 60 #[.val (.int p0), .val (.int p1), .val (.int (1 : Int32)), .val (.int (7 : Int32)), .val (.ref bE), .val (.int ((80 : Int32) + ((10 : Int32) * (7 : Int32))))] [])) _
        refine XS.aload X34.here hx rfl (hb hby at_60) rfl rfl ?_
        show Steps p.tables e below (T34.setTop (mkF m 62 #[.val (.int p0), .val (.int p1), .val (.int (1 : Int32)), .val (.int (7 : Int32)), .val (.ref bE), .val (.int ((80 : Int32) + ((10 : Int32) * (7 : Int32))))] [(.ref bE)])) _
        refine XS.iloadN X34.here hx rfl (hb hby at_62) rfl ?_
        show Steps p.tables e below (T34.setTop (mkF m 63 #[.val (.int p0), .val (.int p1), .val (.int (1 : Int32)), .val (.int (7 : Int32)), .val (.ref bE), .val (.int ((80 : Int32) + ((10 : Int32) * (7 : Int32))))] [(.int (7 : Int32)), (.ref bE)])) _
        refine st35 _ ?_
        show Steps p.tables e below (T35.setTop (mkF m 66 #[.val (.int p0), .val (.int p1), .val (.int (1 : Int32)), .val (.int (7 : Int32)), .val (.ref bE), .val (.int ((80 : Int32) + ((10 : Int32) * (7 : Int32))))] [(.int ((((54 : Int32) + ((8 : Int32) * (7 : Int32))) + (13 : Int32)) + ((((54 : Int32) + ((8 : Int32) * (7 : Int32))) - (1 : Int32)) / (4 : Int32))))])) _
        refine XS.iload X35.here hx rfl (hb hby at_66) rfl ?_
        show Steps p.tables e below (T35.setTop (mkF m 68 #[.val (.int p0), .val (.int p1), .val (.int (1 : Int32)), .val (.int (7 : Int32)), .val (.ref bE), .val (.int ((80 : Int32) + ((10 : Int32) * (7 : Int32))))] [(.int ((80 : Int32) + ((10 : Int32) * (7 : Int32)))), (.int ((((54 : Int32) + ((8 : Int32) * (7 : Int32))) + (13 : Int32)) + ((((54 : Int32) + ((8 : Int32) * (7 : Int32))) - (1 : Int32)) / (4 : Int32))))])) _
        refine XS.icmpNo X35.here hx rfl (hb hby at_68) rfl (teq (by decide : ((((54 : Int32) + ((8 : Int32) * (7 : Int32))) + (13 : Int32)) + ((((54 : Int32) + ((8 : Int32) * (7 : Int32))) - (1 : Int32)) / (4 : Int32))) = ((80 : Int32) + ((10 : Int32) * (7 : Int32))))).2 ?_
        show Steps p.tables e below (T35.setTop (mkF m 71 #[.val (.int p0), .val (.int p1), .val (.int (1 : Int32)), .val (.int (7 : Int32)), .val (.ref bE), .val (.int ((80 : Int32) + ((10 : Int32) * (7 : Int32))))] [])) _
        refine XS.iconst X35.here hx rfl (hb hby at_71) ?_
        show Steps p.tables e below (T35.setTop (mkF m 72 #[.val (.int p0), .val (.int p1), .val (.int (1 : Int32)), .val (.int (7 : Int32)), .val (.ref bE), .val (.int ((80 : Int32) + ((10 : Int32) * (7 : Int32))))] [(.int (1 : Int32))])) _
        refine XS.goto X35.here hx rfl (pc0 := 72) (pc' := 76) rfl (hb hby at_72) (by decide) (by decide) ?_
        show Steps p.tables e below (T35.setTop (mkF m 76 #[.val (.int p0), .val (.int p1), .val (.int (1 : Int32)), .val (.int (7 : Int32)), .val (.ref bE), .val (.int ((80 : Int32) + ((10 : Int32) * (7 : Int32))))] [(.int (1 : Int32))])) _
        exact retN X35 hx (t := .boolean) Bd.returns (by simp) (hb hby at_76) hr
      · show own_Q0 n0 _ T35.heap _
        rw [e35]
        exact ⟨rfl, N35⟩
    · obtain ⟨T36, X36, e36, st36⟩ := getS2 X0 hx hZ hown (host := "") (Or.inl (hw _ (List.mem_of_getElem? (i := 15) rfl))) Via.refl e0 S_E (g := (mkF m 24 #[.val (.int p0), .val (.int p1), .val (.int (1 : Int32)), .val (.int (8 : Int32)), .unset, .unset] [])) rfl (hb hby at_24)
      obtain ⟨_, _, ⟨T37, L37, k37, n37⟩, -, X37, ⟨Lc37, hQ37, l37, y37, z37⟩, st37⟩ := Jvm.LawKit.callS X36 hx (y := (⟨"com/example/careful_allocator/carefulallocator/can/FrameTiming", "worstCaseBits", "(Lcom/example/careful_allocator/carefulallocator/can/IdentifierFormat;I)I"⟩ : MethodName)) hown (mvT hZ (hw _ (List.mem_of_getElem? (i := 4) rfl))) (mvT hZ (hw _ (List.mem_of_getElem? (i := 5) rfl))) (mvT hZ (hw _ (List.mem_of_getElem? (i := 6) rfl))) (mvT hZ (hw _ (List.mem_of_getElem? (i := 7) rfl))) (by decide) (backOf (W := 0) (own_rm2 l Z a0 hw [] bE (8 : Int32) (54 : Int32) h0 n0 Z0 F_E E_E (by decide) (by decide)) hZ (hw _ (List.mem_of_getElem? (i := 7) rfl)) (hw _ (List.mem_of_getElem? (i := 6) rfl)) (by decide) (by decide)) (g := (mkF m 63 #[.val (.int p0), .val (.int p1), .val (.int (1 : Int32)), .val (.int (8 : Int32)), .val (.ref bE), .val (.int ((80 : Int32) + ((10 : Int32) * (8 : Int32))))] [(.int (8 : Int32)), (.ref bE)])) rfl (by rw [hml]; rfl) (argsL := [(.ref bE), (.int (8 : Int32))]) (rest := []) (lenOf own_pd1 rfl) rfl (by show 2 * 0 + _ ≤ _; exact Nat.le_of_eq rfl) (hb hby at_63) (fun _ _ => ⟨rfl, e36, (by decide : 0 + 0 ≤ _), (by decide : 0 + 0 ≤ _)⟩)
      dsimp only [Pt.U, Pt.locs, Pt.cells, Pt.slots] at X37 l37 y37 z37 st37 hQ37
      subst l37 y37 z37
      obtain ⟨rfl, N37q, e37⟩ := hQ37
      have N37 := Fr.app N0 N37q
      obtain ⟨fs, hr, hrun, hended, hW, hsame⟩ := X37.leave (v := some (.int (1 : Int32))) (fun h => by rw [Bd.returns] at h; cases h)
      refine ⟨_, _, ?_, hrun, hended, _, _, rfl, ?_, ⟨_, rfl⟩, hW, hsame.mono (by decide) (by decide)⟩
      · show Steps p.tables e below (s₁.setTop (mkF m 19 #[.val (.int p0), .val (.int p1), .val (.int (1 : Int32)), .unset, .unset, .unset] [(.int (8 : Int32))])) _
        refine XS.istoreN X0.here hx rfl (hb hby at_19) rfl (l' := #[.val (.int p0), .val (.int p1), .val (.int (1 : Int32)), .val (.int (8 : Int32)), .unset, .unset]) rfl ?_
        show Steps p.tables e below (s₁.setTop (mkF m 20 #[.val (.int p0), .val (.int p1), .val (.int (1 : Int32)), .val (.int (8 : Int32)), .unset, .unset] [])) _
        refine XS.iloadN X0.here hx rfl (hb hby at_20) rfl ?_
        show Steps p.tables e below (s₁.setTop (mkF m 21 #[.val (.int p0), .val (.int p1), .val (.int (1 : Int32)), .val (.int (8 : Int32)), .unset, .unset] [(.int (1 : Int32))])) _
        refine XS.ifNo X0.here hx rfl (hb hby at_21) rfl ((if0 _ _).trans (feq ((by decide) : ¬ ((1 : Int32) = (0 : Int32)))).1) ?_
        show Steps p.tables e below (s₁.setTop (mkF m 24 #[.val (.int p0), .val (.int p1), .val (.int (1 : Int32)), .val (.int (8 : Int32)), .unset, .unset] [])) _
        refine st36 _ ?_
        show Steps p.tables e below (T36.setTop (mkF m 27 #[.val (.int p0), .val (.int p1), .val (.int (1 : Int32)), .val (.int (8 : Int32)), .unset, .unset] [(.ref bE)])) _
        refine XS.goto X36.here hx rfl (pc0 := 27) (pc' := 33) rfl (hb hby at_27) (by decide) (by decide) ?_
        show Steps p.tables e below (T36.setTop (mkF m 33 #[.val (.int p0), .val (.int p1), .val (.int (1 : Int32)), .val (.int (8 : Int32)), .unset, .unset] [(.ref bE)])) _
        refine XS.astore X36.here hx rfl (hb hby at_33) rfl rfl (l' := #[.val (.int p0), .val (.int p1), .val (.int (1 : Int32)), .val (.int (8 : Int32)), .val (.ref bE), .unset]) rfl ?_
        show Steps p.tables e below (T36.setTop (mkF m 35 #[.val (.int p0), .val (.int p1), .val (.int (1 : Int32)), .val (.int (8 : Int32)), .val (.ref bE), .unset] [])) _
        refine XS.iloadN X36.here hx rfl (hb hby at_35) rfl ?_
        show Steps p.tables e below (T36.setTop (mkF m 36 #[.val (.int p0), .val (.int p1), .val (.int (1 : Int32)), .val (.int (8 : Int32)), .val (.ref bE), .unset] [(.int (1 : Int32))])) _
        refine XS.ifNo X36.here hx rfl (hb hby at_36) rfl ((if0 _ _).trans (feq ((by decide) : ¬ ((1 : Int32) = (0 : Int32)))).1) ?_
        show Steps p.tables e below (T36.setTop (mkF m 39 #[.val (.int p0), .val (.int p1), .val (.int (1 : Int32)), .val (.int (8 : Int32)), .val (.ref bE), .unset] [])) _
        refine XS.bipush X36.here hx rfl (hb hby at_39) ?_
        show Steps p.tables e below (T36.setTop (mkF m 41 #[.val (.int p0), .val (.int p1), .val (.int (1 : Int32)), .val (.int (8 : Int32)), .val (.ref bE), .unset] [(.int (80 : Int32))])) _
        refine XS.bipush X36.here hx rfl (hb hby at_41) ?_
        show Steps p.tables e below (T36.setTop (mkF m 43 #[.val (.int p0), .val (.int p1), .val (.int (1 : Int32)), .val (.int (8 : Int32)), .val (.ref bE), .unset] [(.int (10 : Int32)), (.int (80 : Int32))])) _
        refine XS.iloadN X36.here hx rfl (hb hby at_43) rfl ?_
        show Steps p.tables e below (T36.setTop (mkF m 44 #[.val (.int p0), .val (.int p1), .val (.int (1 : Int32)), .val (.int (8 : Int32)), .val (.ref bE), .unset] [(.int (8 : Int32)), (.int (10 : Int32)), (.int (80 : Int32))])) _
        refine XS.imul X36.here hx rfl (hb hby at_44) rfl ?_
        show Steps p.tables e below (T36.setTop (mkF m 45 #[.val (.int p0), .val (.int p1), .val (.int (1 : Int32)), .val (.int (8 : Int32)), .val (.ref bE), .unset] [(.int ((10 : Int32) * (8 : Int32))), (.int (80 : Int32))])) _
        refine XS.iadd X36.here hx rfl (hb hby at_45) rfl ?_
        show Steps p.tables e below (T36.setTop (mkF m 46 #[.val (.int p0), .val (.int p1), .val (.int (1 : Int32)), .val (.int (8 : Int32)), .val (.ref bE), .unset] [(.int ((80 : Int32) + ((10 : Int32) * (8 : Int32))))])) _
        refine XS.istore X36.here hx rfl (hb hby at_46) rfl (l' := #[.val (.int p0), .val (.int p1), .val (.int (1 : Int32)), .val (.int (8 : Int32)), .val (.ref bE), .val (.int ((80 : Int32) + ((10 : Int32) * (8 : Int32))))]) rfl ?_
        show Steps p.tables e below (T36.setTop (mkF m 48 #[.val (.int p0), .val (.int p1), .val (.int (1 : Int32)), .val (.int (8 : Int32)), .val (.ref bE), .val (.int ((80 : Int32) + ((10 : Int32) * (8 : Int32))))] [])) _
        refine XS.goto X36.here hx rfl (pc0 := 48) (pc' := 60) rfl (hb hby at_48) (by decide) (by decide) ?_
        show Steps p.tables e below (T36.setTop (mkF m 60 #[.val (.int p0), .val (.int p1), .val (.int (1 : Int32)), .val (.int (8 : Int32)), .val (.ref bE), .val (.int ((80 : Int32) + ((10 : Int32) * (8 : Int32))))] [])) _
        refine XS.aload X36.here hx rfl (hb hby at_60) rfl rfl ?_
        show Steps p.tables e below (T36.setTop (mkF m 62 #[.val (.int p0), .val (.int p1), .val (.int (1 : Int32)), .val (.int (8 : Int32)), .val (.ref bE), .val (.int ((80 : Int32) + ((10 : Int32) * (8 : Int32))))] [(.ref bE)])) _
        refine XS.iloadN X36.here hx rfl (hb hby at_62) rfl ?_
        show Steps p.tables e below (T36.setTop (mkF m 63 #[.val (.int p0), .val (.int p1), .val (.int (1 : Int32)), .val (.int (8 : Int32)), .val (.ref bE), .val (.int ((80 : Int32) + ((10 : Int32) * (8 : Int32))))] [(.int (8 : Int32)), (.ref bE)])) _
        refine st37 _ ?_
        show Steps p.tables e below (T37.setTop (mkF m 66 #[.val (.int p0), .val (.int p1), .val (.int (1 : Int32)), .val (.int (8 : Int32)), .val (.ref bE), .val (.int ((80 : Int32) + ((10 : Int32) * (8 : Int32))))] [(.int ((((54 : Int32) + ((8 : Int32) * (8 : Int32))) + (13 : Int32)) + ((((54 : Int32) + ((8 : Int32) * (8 : Int32))) - (1 : Int32)) / (4 : Int32))))])) _
        refine XS.iload X37.here hx rfl (hb hby at_66) rfl ?_
        show Steps p.tables e below (T37.setTop (mkF m 68 #[.val (.int p0), .val (.int p1), .val (.int (1 : Int32)), .val (.int (8 : Int32)), .val (.ref bE), .val (.int ((80 : Int32) + ((10 : Int32) * (8 : Int32))))] [(.int ((80 : Int32) + ((10 : Int32) * (8 : Int32)))), (.int ((((54 : Int32) + ((8 : Int32) * (8 : Int32))) + (13 : Int32)) + ((((54 : Int32) + ((8 : Int32) * (8 : Int32))) - (1 : Int32)) / (4 : Int32))))])) _
        refine XS.icmpNo X37.here hx rfl (hb hby at_68) rfl (teq (by decide : ((((54 : Int32) + ((8 : Int32) * (8 : Int32))) + (13 : Int32)) + ((((54 : Int32) + ((8 : Int32) * (8 : Int32))) - (1 : Int32)) / (4 : Int32))) = ((80 : Int32) + ((10 : Int32) * (8 : Int32))))).2 ?_
        show Steps p.tables e below (T37.setTop (mkF m 71 #[.val (.int p0), .val (.int p1), .val (.int (1 : Int32)), .val (.int (8 : Int32)), .val (.ref bE), .val (.int ((80 : Int32) + ((10 : Int32) * (8 : Int32))))] [])) _
        refine XS.iconst X37.here hx rfl (hb hby at_71) ?_
        show Steps p.tables e below (T37.setTop (mkF m 72 #[.val (.int p0), .val (.int p1), .val (.int (1 : Int32)), .val (.int (8 : Int32)), .val (.ref bE), .val (.int ((80 : Int32) + ((10 : Int32) * (8 : Int32))))] [(.int (1 : Int32))])) _
        refine XS.goto X37.here hx rfl (pc0 := 72) (pc' := 76) rfl (hb hby at_72) (by decide) (by decide) ?_
        show Steps p.tables e below (T37.setTop (mkF m 76 #[.val (.int p0), .val (.int p1), .val (.int (1 : Int32)), .val (.int (8 : Int32)), .val (.ref bE), .val (.int ((80 : Int32) + ((10 : Int32) * (8 : Int32))))] [(.int (1 : Int32))])) _
        exact retN X37 hx (t := .boolean) Bd.returns (by simp) (hb hby at_76) hr
      · show own_Q0 n0 _ T37.heap _
        rw [e37]
        exact ⟨rfl, N37⟩
set_option maxRecDepth 65536 in
set_option maxHeartbeats 40000000 in
theorem comes_1 {Post : Tables → Env → Array Value → State → Outcome → State → Prop} (hpost : ∀ tb e args s v u, (limb_1_1.after args s (.returned v) u = true ∧ limb_1_2.after args s (.returned v) u = true ∧ True) → FrameEnd s (.returned v) u (Jvm.fieldLocs frame_1_writes args s ++ Jvm.arrayLocs frame_1_arrays args s ++ Jvm.staticLocs frame_1_statics s) 0 0 → Post tb e args s (.returned v) u) :
    ArmFor flags0 classFile x code maxLocals ret World_1 tables_1 room_1 Calls_1 rest_1 Pre_1 Post := by
  intro l hfl _ _ p e ha hc hk s m args below hf hA hF happ hP
  obtain ⟨hcalls, hrest, hpre⟩ := hP
  obtain ⟨-, -, -, hnamed, -, -, -, hat⟩ := (Spec.applies_iff hf).mp happ
  obtain ⟨hg, hn⟩ := and_e (Cond.before_iff.mp (show (Jvm.Cond.and given_1 narrow_1).before args s = true from hpre))
  obtain ⟨gc0, gr0⟩ := and_e hg
  obtain ⟨gc1, gr1⟩ := and_e gr0
  obtain ⟨w0, w1, rfl⟩ : ∃ w0 w1 : Value, args = #[w0, w1] := by
    have hs : args.size = 2 := by simpa [Cond.value, given_1] using gc0
    obtain ⟨L⟩ := args
    match L, hs with
    | [w0, w1], _ => exact ⟨w0, w1, rfl⟩
  have hw := fun d (hd : d ∈ tables_1) => atoms_spec (ws := Jvm.Cond.code x code maxLocals ret :: tables_1) hat d (List.mem_cons_of_mem _ hd)
  obtain ⟨i0, ei0⟩ := is_v gc1
  obtain rfl : w0 = (.int i0) := Option.some.inj ei0
  obtain ⟨i1, ei1⟩ := is_v gr1
  obtain rfl : w1 = (.int i1) := Option.some.inj ei1
  obtain ⟨na0, nb0⟩ := and_e hn
  obtain ⟨na1, nb1⟩ := and_e nb0
  obtain ⟨na2, nb2⟩ := and_e nb1
  obtain ⟨ad_BASE, ev_BASE⟩ := exa_v na0
  have E_BASE := Exa.start ev_BASE na0
  have S_BASE := Sta.start ev_BASE (Or.inr ⟨(hw _ (List.mem_of_getElem? (i := 2) rfl)), (hw _ (List.mem_of_getElem? (i := 3) rfl))⟩)
  obtain ⟨ad_EXTENDED, ev_EXTENDED⟩ := exa_v na2
  have E_EXTENDED := Exa.start ev_EXTENDED na2
  have S_EXTENDED := Sta.start ev_EXTENDED (Or.inr ⟨(hw _ (List.mem_of_getElem? (i := 2) rfl)), (hw _ (List.mem_of_getElem? (i := 16) rfl))⟩)
  have F_BASE_stuffedOverheadBits := own_fld na1 ev_BASE
  have F_EXTENDED_stuffedOverheadBits := own_fld nb2 ev_EXTENDED
  obtain ⟨n, o, h1, h2, h3, _, L, rfl, ⟨rfl, N⟩, hq⟩ := own_rm0 l s _ hw tables_1 i0 i1 ad_BASE ad_EXTENDED s.heap s.heap.size (Nat.le_refl _) S_BASE E_BASE F_BASE_stuffedOverheadBits S_EXTENDED E_EXTENDED F_EXTENDED_stuffedOverheadBits p e ha hc hk s m _ below hf ((Spec.applies_iff_loose hf).mp happ).1 ⟨rfl, State.Warmed39.refl s, rfl⟩ trivial
  refine ⟨n, _, h1, h2, h3, hpost _ _ _ _ _ _ ⟨Cond.after_iff.mpr rfl, Cond.after_iff.mpr (eq_i res_at (Term.int_eval (1)) rfl), trivial⟩ ⟨hq.1, hq.2.1, (hq.2.2.sift fun y hy => Or.inr (N y hy)).mono (by decide) (by decide)⟩⟩
theorem main_1_1 : Claimed_1_1 := comes_1 fun _ _ _ _ _ _ h hF => ⟨h.1, hF⟩
theorem main_1_2 : Claimed_1_2 := comes_1 fun _ _ _ _ _ _ h hF => ⟨h.2.1, hF⟩
end Jvm.Pilot.@@N@@
namespace Jvm.Pilot.@@N@@
open Jvm Jvm.ClassFile Sem Op Lib Jvm.Free Jvm.Stand Jvm.Pilot.@@N@@.Jvm.D
/-! MADE BY PROGRAM (witnessworld.py) out of the Statement's table words and the real class files: 13 classes; the members and pool entries that the words name. The judged class is class 1, her method 1. -/
namespace start1
open Jvm.ClassFile
def u (s : String) : CpInfo := .utf8 (stringToUtf16 s)
/-- a pool by its gaps: so many unusable entries, then the entry; so many at the end -/
def gap : Nat → List CpInfo → List CpInfo
  | 0, r => r
  | n + 1, r => .unusable :: gap n r
def poolList (es : List (Nat × CpInfo)) (last : Nat) : List CpInfo := es.foldr (fun e r => gap e.1 (e.2 :: r)) (gap last [])
def pool (es : List (Nat × CpInfo)) (last : Nat) : Array CpInfo := ⟨poolList es last⟩
def fileOf (pool : Array CpInfo) (this : Nat) (attrs : Array Attribute := #[]) (ms : Array MethodInfo := #[]) (fl : Nat := 33) (sup : Nat := 0) (ifs : Array Nat := #[]) (fds : Array FieldInfo := #[]) : ClassFile where
  minorVersion := 0
  majorVersion := 65
  constantPool := pool
  accessFlags := fl
  thisClass := this
  superClass := sup
  interfaces := ifs
  fields := fds
  methods := ms
  attributes := attrs
def plain (name : String) (sup : Option ClassId) : Class where
  name := name
  kind := .ordinary
  loader := none
  accessFlags := 33
  super := sup
  interfaces := #[]
  cf := none
  fields := #[]
  methods := #[]
  instanceTypes := #[]
  staticTypes := #[]
  resolved := #[]
  callSites := []
  init := .initialized
  statics := none
  mirror := none

def pool0 : Array CpInfo := pool [(5, u "<init>"), (0, u "()V"), (1, .class_ 10), (1, u "java/lang/Object")] 113

def k0m0 : Method := { name := "<init>", desc := "()V", sig := { parameters := [], returnType := none }, accessFlags := 1, code := none }
/-- java/lang/Object -/
def k0 : Class := { plain "java/lang/Object" none with
  accessFlags := 33
  interfaces := #[]
  cf := some (fileOf pool0 8 #[] #[{ accessFlags := 1, nameIndex := 5, descriptorIndex := 6, attributes := #[] }] 33 0 #[] #[])
  fields := #[]
  methods := #[k0m0]
  instanceTypes := #[]
  staticTypes := #[]
  resolved := Array.replicate 124 none
  statics := none }

def pool1 : Array CpInfo := pool [(2, .class_ 4), (1, u "java/lang/Object"), (0, u "<init>"), (0, u "()V"), (0, .integer 2147483647), (0, .fieldref 9 10), (0, .class_ 11), (0, .nameAndType 12 13), (0, u "com/example/careful_allocator/carefulallocator/can/IdentifierFormat"), (0, u "EXTENDED"), (0, u "Lcom/example/careful_allocator/carefulallocator/can/IdentifierFormat;"), (0, .fieldref 9 15), (0, .nameAndType 16 13), (0, u "BASE"), (0, .methodref 18 19), (0, .class_ 20), (0, .nameAndType 21 22), (0, u "com/example/careful_allocator/carefulallocator/can/FrameTiming"), (0, u "worstCaseBits"), (0, u "(Lcom/example/careful_allocator/carefulallocator/can/IdentifierFormat;I)I"), (0, .class_ 24), (0, u "com/example/careful_allocator/carefulallocator/can/FrameTimingWorstCaseBitsPinLaw"), (2, u "law"), (0, u "(II)Z")] 3

def k1m0 : Method := { name := "<init>", desc := "()V", sig := { parameters := [], returnType := none }, accessFlags := 2, code := none }
def k1c1 : Code := { maxStack := 3, maxLocals := 6, code := code, exceptionTable := #[], attributes := #[] }
def k1m1 : Method := { name := "law", desc := "(II)Z", sig := { parameters := [.int, .int], returnType := some .boolean }, accessFlags := 9, code := some k1c1 }
/-- com/example/careful_allocator/carefulallocator/can/FrameTimingWorstCaseBitsPinLaw -/
def k1 : Class := { plain "com/example/careful_allocator/carefulallocator/can/FrameTimingWorstCaseBitsPinLaw" (some 0) with
  accessFlags := 49
  interfaces := #[]
  cf := some (fileOf pool1 23 #[] #[{ accessFlags := 2, nameIndex := 5, descriptorIndex := 6, attributes := #[] }, { accessFlags := 9, nameIndex := 27, descriptorIndex := 28, attributes := #[] }] 49 2 #[] #[])
  fields := #[]
  methods := #[k1m0, k1m1]
  instanceTypes := #[]
  staticTypes := #[]
  resolved := Array.replicate 32 none
  statics := none }

def pool2 : Array CpInfo := pool [(1, .class_ 2), (0, u "java/lang/constant/Constable"), (0, .class_ 4), (0, u "java/lang/Object")] 6

/-- java/lang/constant/Constable -/
def k2 : Class := { plain "java/lang/constant/Constable" (some 0) with
  accessFlags := 1537
  interfaces := #[]
  cf := some (fileOf pool2 1 #[] #[] 1537 3 #[] #[])
  fields := #[]
  methods := #[]
  instanceTypes := #[]
  staticTypes := #[]
  resolved := Array.replicate 11 none
  statics := none }

def pool3 : Array CpInfo := pool [(1, .class_ 2), (0, u "java/lang/Comparable"), (0, .class_ 4), (0, u "java/lang/Object")] 7

/-- java/lang/Comparable -/
def k3 : Class := { plain "java/lang/Comparable" (some 0) with
  accessFlags := 1537
  interfaces := #[]
  cf := some (fileOf pool3 1 #[] #[] 1537 3 #[] #[])
  fields := #[]
  methods := #[]
  instanceTypes := #[]
  staticTypes := #[]
  resolved := Array.replicate 12 none
  statics := none }

def pool4 : Array CpInfo := pool [(1, .class_ 2), (0, u "java/io/Serializable"), (0, .class_ 4), (0, u "java/lang/Object")] 2

/-- java/io/Serializable -/
def k4 : Class := { plain "java/io/Serializable" (some 0) with
  accessFlags := 1537
  interfaces := #[]
  cf := some (fileOf pool4 1 #[] #[] 1537 3 #[] #[])
  fields := #[]
  methods := #[]
  instanceTypes := #[]
  staticTypes := #[]
  resolved := Array.replicate 7 none
  statics := none }

def pool5 : Array CpInfo := pool [(2, .class_ 4), (1, u "java/lang/Enum"), (0, u "name"), (0, u "Ljava/lang/String;"), (2, u "ordinal"), (0, u "I"), (1, .class_ 14), (1, u "java/lang/Object"), (4, u "hash"), (86, .class_ 108), (1, u "java/lang/Enum$EnumDesc"), (2, .class_ 112), (0, u "java/lang/constant/Constable"), (0, .class_ 114), (0, u "java/lang/Comparable"), (0, .class_ 116), (0, u "java/io/Serializable")] 87

/-- java/lang/Enum -/
def k5 : Class := { plain "java/lang/Enum" (some 0) with
  accessFlags := 1057
  interfaces := #[2, 3, 4]
  cf := some (fileOf pool5 2 #[.nestMembers #[106]] #[] 1057 12 #[111, 113, 115] #[{ accessFlags := 18, nameIndex := 5, descriptorIndex := 6, attributes := #[] }, { accessFlags := 18, nameIndex := 9, descriptorIndex := 10, attributes := #[] }, { accessFlags := 2, nameIndex := 19, descriptorIndex := 10, attributes := #[] }])
  fields := #[{ name := "name", type := (.object "java/lang/String"), accessFlags := 18, slot := 0, constantValue := 0 }, { name := "ordinal", type := .int, accessFlags := 18, slot := 1, constantValue := 0 }, { name := "hash", type := .int, accessFlags := 2, slot := 2, constantValue := 0 }]
  methods := #[]
  instanceTypes := #[(.object "java/lang/String"), .int, .int]
  staticTypes := #[]
  resolved := Array.replicate 204 none
  statics := none }

def pool6 : Array CpInfo := pool [(1, .class_ 2), (0, u "com/example/careful_allocator/carefulallocator/can/IdentifierFormat"), (2, u "BASE"), (0, u "Lcom/example/careful_allocator/carefulallocator/can/IdentifierFormat;"), (2, u "EXTENDED"), (2, u "$VALUES"), (0, u "[Lcom/example/careful_allocator/carefulallocator/can/IdentifierFormat;"), (6, .class_ 22), (1, u "java/lang/Enum"), (6, .fieldref 1 30), (0, .nameAndType 31 32), (0, u "stuffedOverheadBits"), (0, u "I"), (16, u "()I")] 5

def k6c0 : Code := { maxStack := 1, maxLocals := 1, code := prog_18_method_4_code, exceptionTable := #[], attributes := #[] }
def k6m0 : Method := { name := "stuffedOverheadBits", desc := "()I", sig := { parameters := [], returnType := some .int }, accessFlags := 0, code := some k6c0 }
/-- com/example/careful_allocator/carefulallocator/can/IdentifierFormat -/
def k6 : Class := { plain "com/example/careful_allocator/carefulallocator/can/IdentifierFormat" (some 5) with
  accessFlags := 16433
  interfaces := #[]
  cf := some (fileOf pool6 1 #[] #[{ accessFlags := 0, nameIndex := 31, descriptorIndex := 49, attributes := #[] }] 16433 20 #[] #[{ accessFlags := 16409, nameIndex := 5, descriptorIndex := 6, attributes := #[] }, { accessFlags := 16409, nameIndex := 9, descriptorIndex := 6, attributes := #[] }, { accessFlags := 18, nameIndex := 31, descriptorIndex := 32, attributes := #[] }, { accessFlags := 4122, nameIndex := 12, descriptorIndex := 13, attributes := #[] }])
  fields := #[{ name := "BASE", type := (.object "com/example/careful_allocator/carefulallocator/can/IdentifierFormat"), accessFlags := 16409, slot := 0, constantValue := 0 }, { name := "EXTENDED", type := (.object "com/example/careful_allocator/carefulallocator/can/IdentifierFormat"), accessFlags := 16409, slot := 1, constantValue := 0 }, { name := "stuffedOverheadBits", type := .int, accessFlags := 18, slot := 3, constantValue := 0 }, { name := "$VALUES", type := (.array (.object "com/example/careful_allocator/carefulallocator/can/IdentifierFormat")), accessFlags := 4122, slot := 2, constantValue := 0 }]
  methods := #[k6m0]
  instanceTypes := #[(.object "java/lang/String"), .int, .int, .int]
  staticTypes := #[(.object "com/example/careful_allocator/carefulallocator/can/IdentifierFormat"), (.object "com/example/careful_allocator/carefulallocator/can/IdentifierFormat"), (.array (.object "com/example/careful_allocator/carefulallocator/can/IdentifierFormat"))]
  resolved := Array.replicate 55 none
  statics := some 0 }

def pool7 : Array CpInfo := pool [(2, .class_ 4), (1, u "java/lang/Object"), (0, u "<init>"), (0, u "()V"), (0, .class_ 8), (0, u "com/example/careful_allocator/carefulallocator/can/FrameTiming"), (9, .methodref 19 20), (0, .class_ 21), (0, .nameAndType 22 23), (0, u "com/example/careful_allocator/carefulallocator/can/IdentifierFormat"), (0, u "stuffedOverheadBits"), (0, u "()I"), (6, u "worstCaseBits"), (0, u "(Lcom/example/careful_allocator/carefulallocator/can/IdentifierFormat;I)I"), (4, u "MAX_DATA_BYTES"), (0, u "I"), (2, u "MICROS_PER_SECOND"), (0, u "UNSTUFFED_TRAILER_BITS")] 25

def k7m0 : Method := { name := "<init>", desc := "()V", sig := { parameters := [], returnType := none }, accessFlags := 2, code := none }
def k7c1 : Code := { maxStack := 3, maxLocals := 3, code := prog_16_method_2_code, exceptionTable := #[], attributes := #[] }
def k7m1 : Method := { name := "worstCaseBits", desc := "(Lcom/example/careful_allocator/carefulallocator/can/IdentifierFormat;I)I", sig := { parameters := [(.object "com/example/careful_allocator/carefulallocator/can/IdentifierFormat"), .int], returnType := some .int }, accessFlags := 9, code := some k7c1 }
/-- com/example/careful_allocator/carefulallocator/can/FrameTiming -/
def k7 : Class := { plain "com/example/careful_allocator/carefulallocator/can/FrameTiming" (some 0) with
  accessFlags := 49
  interfaces := #[]
  cf := some (fileOf pool7 7 #[] #[{ accessFlags := 2, nameIndex := 5, descriptorIndex := 6, attributes := #[] }, { accessFlags := 9, nameIndex := 30, descriptorIndex := 31, attributes := #[] }] 49 2 #[] #[{ accessFlags := 25, nameIndex := 36, descriptorIndex := 37, attributes := #[] }, { accessFlags := 26, nameIndex := 40, descriptorIndex := 37, attributes := #[] }, { accessFlags := 26, nameIndex := 41, descriptorIndex := 37, attributes := #[] }])
  fields := #[{ name := "MAX_DATA_BYTES", type := .int, accessFlags := 25, slot := 0, constantValue := 0 }, { name := "MICROS_PER_SECOND", type := .int, accessFlags := 26, slot := 1, constantValue := 0 }, { name := "UNSTUFFED_TRAILER_BITS", type := .int, accessFlags := 26, slot := 2, constantValue := 0 }]
  methods := #[k7m0, k7m1]
  instanceTypes := #[]
  staticTypes := #[.int, .int, .int]
  resolved := Array.replicate 67 none
  statics := none }

def pool8 : Array CpInfo := pool [(1, u "java/lang/Cloneable"), (0, .class_ 1), (0, u "java/lang/Object"), (0, .class_ 3)] 3

/-- java/lang/Cloneable -/
def k8 : Class := { plain "java/lang/Cloneable" (some 0) with
  accessFlags := 1537
  interfaces := #[]
  cf := some (fileOf pool8 2 #[] #[] 1537 4 #[] #[])
  fields := #[]
  methods := #[]
  instanceTypes := #[]
  staticTypes := #[]
  resolved := Array.replicate 8 none
  statics := none }

/-- the primitive byte -/
def k9 : Class := { plain "byte" none with kind := .primitive 'B', accessFlags := 0x411 }
/-- [B -/
def k10 : Class := { plain "[B" (some 0) with kind := .array 9 .byte, interfaces := #[8, 4], accessFlags := 1041 }

/-- the primitive int -/
def k11 : Class := { plain "int" none with kind := .primitive 'I', accessFlags := 0x411 }
/-- [I -/
def k12 : Class := { plain "[I" (some 0) with kind := .array 11 .int, interfaces := #[8, 4], accessFlags := 1041 }

def heap : Heap := #[{ cls := 6, slots := #[.ref 1, .ref 2, .null], vm := .statics 6 },
  { cls := 6, slots := #[.null, .int 0, .int 0, .int 34], vm := .none },
  { cls := 6, slots := #[.null, .int 1, .int 0, .int 54], vm := .none }]
def classes : Array Class := #[k0, k1, k2, k3, k4, k5, k6, k7, k8, k9, k10, k11, k12]
def interned : List (Array UInt16 × Addr) := []
def slotsUsed : Nat := 11
def theMethod : MethodId := ⟨1, 1⟩
def args0 : Array Value := #[.int 5, .int 7]
def aboutOver (below : List Frame) : State where
  vm := { classes := classes, interned := interned.toArray }
  heap := heap
  slotsUsed := slotsUsed
  threads := #[{ frames := .invoking theMethod args0 :: below }]
def below0 : List Frame := [.native { method := ⟨0, 0⟩, args := #[] }]
def about1 : State := aboutOver below0
def p0 : Program := .bare "" "" ""
def e0 : Env := launch0.env 0 0 0
theorem w_frames : about1.frames = Frame.invoking theMethod args0 :: below0 := rfl
set_option maxRecDepth 65536 in
theorem w_args : argsFit about1.vm theMethod args0 = true := by decide +kernel
set_option maxRecDepth 65536 in
theorem w_heap : heapFits about1 = true := by decide +kernel
set_option maxRecDepth 65536 in
theorem w_runnable : about1.curStatus? = some .runnable := by decide +kernel
set_option maxRecDepth 65536 in
theorem w_alone : about1.alone = true := by decide +kernel
set_option maxRecDepth 65536 in
theorem w_named : about1.methodNamed? x = some theMethod := by decide +kernel
set_option maxRecDepth 65536 in
theorem w_hears : about1.hears theMethod below0 = true := by decide +kernel
set_option maxRecDepth 65536 in
theorem w_ripe : about1.ripe theMethod args0 below0 = true := by decide +kernel
theorem w_running : about1.status = .running := rfl
set_option maxRecDepth 65536 in
theorem w_room : about1.hasRoom e0.platform room_1 = true :=
  launch0.hasRoom_least _ room_1 (by decide +kernel) (by decide +kernel) (by decide +kernel) (by decide +kernel) (by decide +kernel) (by decide +kernel)
theorem allAtoms_all (ts : List Jvm.Cond) (a : Array Jvm.Value) (st : Jvm.State) : (allAtoms ts).before a st = ts.all (fun c => c.before a st) := by
  induction ts with
  | nil => rfl
  | cons c t ih =>
    show (Jvm.Cond.and c (allAtoms t)).before a st = _
    rw [Jvm.Cond.before_and, ih, List.all_cons]
def words1 : List Jvm.Cond := Jvm.Cond.code x code maxLocals ret :: tables_1
/-- a 'code' word, met by the world's own term for the bytes: nothing is compared byte by byte -/
theorem code_word {y : MethodName} {bytes : ByteArray} {mx : Nat} {rt : Option FieldType} {a : Array Value} {s : State} {m : MethodId} {meth : Method} {c : Code} (h1 : s.methodNamed? y = some m) (h2 : s.vm.method? m = some meth) (h3 : meth.code = some c) (h4 : c.code = bytes)
    (h5 : (c.maxLocals == mx && c.exceptionTable.isEmpty && decide (c.maxStack ≤ mostOperands) && decide (meth.sig.returnType = rt) && !meth.locks && decide (parseMethodDescriptor y.desc = some meth.sig)) = true) : (Jvm.Cond.code y bytes mx rt).before a s = true := by
  simp only [Bool.and_eq_true, beq_iff_eq, Bool.not_eq_true', decide_eq_true_eq] at h5
  obtain ⟨⟨⟨⟨⟨g1, g2⟩, g3⟩, g4⟩, g5⟩, g6⟩ := h5
  simp [Cond.before, Cond.holds, Cond.value, h1, h2, h3, h4, g1, g2, g3, g4, g5, g6]
def isCode : Jvm.Cond → Bool
  | .code _ _ _ _ => true
  | _ => false
theorem all_split {L : List Jvm.Cond} {P : Jvm.Cond → Bool} (h1 : L.all (fun c => isCode c || P c) = true) (h2 : ∀ c ∈ L.filter isCode, P c = true) : L.all P = true := by
  refine List.all_eq_true.mpr fun c hc => ?_
  have h := List.all_eq_true.mp h1 c hc
  rcases Bool.eq_false_or_eq_true (isCode c) with hi | hi
  · exact h2 c (List.mem_filter.mpr ⟨hc, hi⟩)
  · simpa [hi] using h
set_option maxRecDepth 65536 in
theorem w_c0 : (Jvm.Cond.code x code maxLocals ret).before args0 about1 = true := code_word (m := ⟨1, 1⟩) (meth := k1m1) (c := k1c1) (by decide +kernel) rfl rfl rfl (by decide +kernel)
set_option maxRecDepth 65536 in
theorem w_c1 : (Jvm.Cond.code ({ cls := "com/example/careful_allocator/carefulallocator/can/FrameTiming", name := "worstCaseBits", desc := "(Lcom/example/careful_allocator/carefulallocator/can/IdentifierFormat;I)I" } : Jvm.MethodName) prog_16_method_2_code (3 : Nat) (Option.some Jvm.ClassFile.FieldType.int)).before args0 about1 = true := code_word (m := ⟨7, 1⟩) (meth := k7m1) (c := k7c1) (by decide +kernel) rfl rfl rfl (by decide +kernel)
set_option maxRecDepth 65536 in
theorem w_c2 : (Jvm.Cond.code ({ cls := "com/example/careful_allocator/carefulallocator/can/IdentifierFormat", name := "stuffedOverheadBits", desc := "()I" } : Jvm.MethodName) prog_18_method_4_code (1 : Nat) (Option.some Jvm.ClassFile.FieldType.int)).before args0 about1 = true := code_word (m := ⟨6, 0⟩) (meth := k6m0) (c := k6c0) (by decide +kernel) rfl rfl rfl (by decide +kernel)
def codes1 : List Jvm.Cond := [Jvm.Cond.code x code maxLocals ret, Jvm.Cond.code ({ cls := "com/example/careful_allocator/carefulallocator/can/FrameTiming", name := "worstCaseBits", desc := "(Lcom/example/careful_allocator/carefulallocator/can/IdentifierFormat;I)I" } : Jvm.MethodName) prog_16_method_2_code (3 : Nat) (Option.some Jvm.ClassFile.FieldType.int), Jvm.Cond.code ({ cls := "com/example/careful_allocator/carefulallocator/can/IdentifierFormat", name := "stuffedOverheadBits", desc := "()I" } : Jvm.MethodName) prog_18_method_4_code (1 : Nat) (Option.some Jvm.ClassFile.FieldType.int)]
set_option maxRecDepth 65536 in
theorem codes_eq : words1.filter isCode = codes1 := rfl
theorem w_codes : ∀ c ∈ words1.filter isCode, c.before args0 about1 = true := by
  rw [codes_eq]
  intro c hc
  simp only [codes1, List.mem_cons, List.not_mem_nil, or_false] at hc
  rcases hc with rfl | rfl | rfl
  · exact w_c0
  · exact w_c1
  · exact w_c2
set_option maxRecDepth 65536 in
theorem w_t1 : words1.all (fun c => isCode c || c.before args0 about1) = true := by decide +kernel
theorem w_tables : (allAtoms (Jvm.Cond.code x code maxLocals ret :: tables_1)).before args0 about1 = true := by
  rw [allAtoms_all]
  show words1.all (fun c => c.before args0 about1) = true
  refine all_split ?_ w_codes
  rw [w_t1]
set_option maxRecDepth 65536 in
theorem w_case : (Jvm.Cond.and given_1 narrow_1).before args0 about1 = true := by decide +kernel
theorem w_applies : (headSpec (Jvm.Cond.code x code maxLocals ret :: tables_1) room_1).applies x e0.platform about1 = true :=
  (Spec.applies_iff w_frames).mpr ⟨w_running, w_runnable, w_alone, w_named, w_hears, w_ripe, w_room, w_tables⟩
theorem atStart : AtStart classFile x code maxLocals ret World_1 tables_1 room_1 Calls_1 rest_1 Pre_1 launch0 p0 e0 about1 theMethod args0 below0 :=
  ⟨lists_1, trivial, launch0.admits_env _ _ _, launch0.least_env, fairChoices_fair.cas, fairChoices_fair.clock, w_frames, w_args, w_heap, w_applies, trivial, trivial, w_case⟩
end start1
theorem witness_1 : WitnessClaimed_1 := ⟨start1.p0, start1.e0, start1.about1, start1.theMethod, start1.args0, start1.below0, start1.atStart⟩
end Jvm.Pilot.@@N@@
