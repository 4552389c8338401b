import JvmDerived
import JvmDerived.Pilot.@@N@@Statement
import JvmDerived.Pilot.@@N@@Code
set_option linter.unusedVariables false
set_option linter.unusedSimpArgs false
namespace Jvm.RoadKit
open Sem ClassFile Op Lib Jvm.Stand Jvm.Free Jvm.LawKit
section New
variable {p : Program} {l : Launch} {e : Env} {R : Room} {s : State} {m : MethodId} {args : Array Value} {below : List Frame} {meth : Method} {c : Code} {T : State} {locs : List Loc} {cells slots : Nat}
theorem retI (X : Stand p l e R s m args below meth c T locs cells slots) (hx : p.tables.exec = Jvm.exec) {pc : Nat} {Ls : Array Slot} {z : Int32} {rest : List Value} (hret : meth.sig.returnType = some .int) (hd : decode c.code pc = .ok (.ireturn, 1)) {fs : List Frame}
    (hl : ∀ (f : JFrame) (acts : List Action), f.method = m → f.locked = none → f.entered = [] → (doReturn e (T.setTop f) acts (some (.int z))).1 = T.setFrames fs) : Steps p.tables e below (T.setTop (mkF m pc Ls (.int z :: rest))) (T.setFrames fs) := by
  have hm' : T.vm.method? m = some meth := X.method'
  have hn : narrow .int (.int z) = .int z := rfl
  show Steps p.tables e below (T.setTop { method := m, pc := pc, locals := Ls, stack := _ :: rest, locked := none }) _
  jvm_step X.here [X.here.top, hx, hd, hm', hret, hn]
  first | (intro acts; rw [hl _ acts rfl rfl rfl]) | rw [hl _ _ rfl rfl rfl]
  exact Steps.refl _
end New
end Jvm.RoadKit
namespace Jvm.Pilot.@@N@@
open Jvm Jvm.ClassFile Sem Op Lib Jvm.Free Jvm.Stand Jvm.LawKit Jvm.RoadKit Bundle Jvm.Pilot.@@N@@.Jvm.D
/-- a step ahead of a run that ends -/
theorem own_go {p : Program} {e : Env} {below : List Frame} {P : State → Outcome → Prop} {a b : State} (h : ∀ t, Steps p.tables e below b t → Steps p.tables e below a t) (k : ∃ s₂ o, Steps p.tables e below b s₂ ∧ P s₂ o) : ∃ s₂ o, Steps p.tables e below a s₂ ∧ P s₂ o := by
  obtain ⟨t, o, h1, h2⟩ := k; exact ⟨t, o, h t h1, h2⟩
theorem own_gt {q : Int64} (h : ¬ q < (1 : Int64)) : ((0 : Int32).toInt64) < q := by
  have e1 : (1 : Int64).toInt = 1 := rfl
  have e0 : ((0 : Int32).toInt64).toInt = 0 := rfl
  rw [Int64.lt_iff_toInt_lt, e1] at h
  rw [Int64.lt_iff_toInt_lt, e0]
  omega
theorem own_staKeep {Z : State} {h h' : Heap} {C n d K : String} {w : Value} {a : Addr} (F : Sta Z h C n d w) (E : Exa Z h a K) (Kp : Keep h h' [a]) : Sta Z h' C n d w := by
  obtain ⟨cf, i, k, f, st, cell, h1, h2, h3, h4, h5, h6, h7⟩ := F
  refine ⟨cf, i, k, f, st, cell, h1, h2, h3, h4, Kp.2.1 st cell h5 ?_, h6, h7⟩
  intro q
  cases List.mem_singleton.mp q
  obtain ⟨c2, k2, e1, -, -, e4, -⟩ := E
  cases h5.symm.trans e1
  rw [h6] at e4
  cases e4
theorem own_pd0 : parseMethodDescriptor "()V" = some ⟨[], none⟩ := by decide +kernel
theorem own_pd1 : parseMethodDescriptor "(J)Z" = some ⟨[.long], some .boolean⟩ := by decide +kernel
theorem own_pn0 : plainName "java/util/AbstractMap" = true := by first | (simp [plainName, overriddenIn]; done) | decide +kernel
theorem own_pn1 : plainName "java/util/AbstractCollection" = true := by first | (simp [plainName, overriddenIn]; done) | decide +kernel
theorem own_pn2 : plainName "java/util/HashMap" = true := by first | (simp [plainName, overriddenIn]; done) | decide +kernel
theorem own_pn3 : plainName "java/util/AbstractList" = true := by first | (simp [plainName, overriddenIn]; done) | decide +kernel
theorem own_pn4 : plainName "java/util/ArrayList" = true := by first | (simp [plainName, overriddenIn]; done) | decide +kernel
theorem own_pn5 : plainName "com/example/matchgate/matchgate/core/OrderLedger" = true := by first | (simp [plainName, overriddenIn]; done) | decide +kernel
theorem own_pn6 : plainName "com/example/matchgate/matchgate/core/OrderLedgerAcceptedPinLaw" = true := by first | (simp [plainName, overriddenIn]; done) | decide +kernel
def own_QN (h0 : Heap) (n0 : Nat) (v : Option Value) (h : Heap) (L : List Loc) : Prop := v = none ∧ Fr n0 L ∧ h = h0
def own_QK (a : Addr) (h0 : Heap) (n0 : Nat) (v : Option Value) (h : Heap) (L : List Loc) : Prop := v = none ∧ Fr n0 L ∧ Keep h0 h [a]
def own_QA (Z : State) (a : Addr) (h0 : Heap) (n0 : Nat) (v : Option Value) (h : Heap) (L : List Loc) : Prop := v = none ∧ Fr n0 L ∧ Keep h0 h [a] ∧ Fld Z h a "java/util/ArrayList" "elementData" "[Ljava/lang/Object;" .null
def own_QO (Z : State) (a : Addr) (h0 : Heap) (n0 : Nat) (v : Option Value) (h : Heap) (L : List Loc) : Prop := v = none ∧ Fr n0 L ∧ Keep h0 h [a] ∧ Fld Z h a "com/example/matchgate/matchgate/core/OrderLedger" "count" "I" (.int (0 : Int32))
def own_QC  (h0 : Heap) (n0 : Nat) (v : Option Value) (h : Heap) (L : List Loc) : Prop := v = some (.int (0 : Int32)) ∧ Fr n0 L ∧ h = h0
theorem d_own_rmAM_0 : decode jdk_71_method_1_code 0 = .ok (.aload_n 0, 1) := by decide +kernel
theorem d_own_rmAM_1 : decode jdk_71_method_1_code 1 = .ok (.invokespecial 1, 3) := by decide +kernel
theorem d_own_rmAM_4 : decode jdk_71_method_1_code 4 = .ok (.return_, 1) := by decide +kernel
theorem ef_own_rmAM (m : MethodId) (x0 : Addr) : entryFrame m #[(.ref x0)] 1 = mkF m 0 #[.val (.ref x0)] [] := by first | (simp [entryFrame, mkF, argsToLocals, Value.category]; done) | rfl
set_option maxRecDepth 65536 in
set_option maxHeartbeats 40000000 in
theorem own_rmAM (l : Launch) (Z : State) (a0 : Array Value) (hw : ∀ d ∈ tables_1, d.before a0 Z = true) (ws : List Jvm.Cond) (a0' : Addr)  (h0 : Heap) (n0 : Nat) (Z0 : n0 ≤ h0.size)  :
    MetFree l (⟨"java/util/AbstractMap", "<init>", "()V"⟩ : MethodName) (head1 (Jvm.Cond.code (⟨"java/util/AbstractMap", "<init>", "()V"⟩ : MethodName) jdk_71_method_1_code 1 none :: ws) ({ frames := 1, cells := 0, slots := 0, locals := 12 } : Room)) (fun a U => a = #[(.ref a0')] ∧ Z.Warmed39 U.vm ∧ U.heap = h0) (fun _ _ _ _ _ => True) (fun _ U o U' => ∃ v L, o = .returned v ∧ own_QN h0 n0 v U'.heap L ∧ FrameEnd U o U' L ({ frames := 1, cells := 0, slots := 0, locals := 12 } : Room).cells ({ frames := 1, cells := 0, slots := 0, locals := 12 } : Room).slots) := by
  refine MetFree.of_bodySF (plainFor_of_name own_pn0) hisR ?_
  intro p e s m args below meth c s₁ Bd hml0 hP hK
  obtain ⟨rfl, hZ, hh⟩ := hP
  have hx := Bd.exec
  have hby := Bd.bytes
  have hml : c.maxLocals = 1 := hml0
  have hown : s.vm.findClass "java/util/AbstractMap" = some m.cls := findClass_of_methodNamed Bd.named
  have hnm := (name_of_methodNamed Bd.named Bd.method).1
  have X0 : Stand p l e ({ frames := 1, cells := 0, slots := 0, locals := 12 } : Room) s m #[(.ref a0')] below meth c s₁ [] 0 0 := Stand.of_body Bd
  have e0 : s₁.heap = h0 := by rw [← hh, Bd.state]; rfl
  have N0 := Fr.nil n0
  refine own_go (b := s₁.setTop (mkF m 0 #[.val (.ref a0')] [])) (fun t k => castTop (ef_own_rmAM m a0') k) ?_
  obtain ⟨T1, X1, e1, st1⟩ := initO X0 hx hZ hown (hw _ (List.mem_of_getElem? (i := 21) rfl)) (hw _ (List.mem_of_getElem? (i := 7) rfl)) (hw _ (List.mem_of_getElem? (i := 8) rfl)) e0 (g := (mkF m 1 #[.val (.ref a0')] [(.ref a0')])) rfl (by rw [hml]; rfl) rfl (hb hby d_own_rmAM_1) (by decide) (W := 0) (by show 2 * 0 + _ ≤ _; exact Nat.le_of_eq rfl) (by decide)
  obtain ⟨fs, hr, hrun, hended, hW, hsame⟩ := X1.leave (v := none) (fun _ => rfl)
  refine ⟨_, _, ?_, hrun, hended, _, _, rfl, ?_, ⟨_, rfl⟩, hW, hsame.mono (by decide) (by decide)⟩
  · show Steps p.tables e below (s₁.setTop (mkF m 0 #[.val (.ref a0')] [])) _
    refine XS.aloadN X0.here hx rfl (hb hby d_own_rmAM_0) rfl rfl ?_
    show Steps p.tables e below (s₁.setTop (mkF m 1 #[.val (.ref a0')] [(.ref a0')])) _
    refine st1 _ ?_
    show Steps p.tables e below (T1.setTop (mkF m 4 #[.val (.ref a0')] [])) _
    exact X1.returnOut hx Bd.returns (hb hby d_own_rmAM_4) hr
  · show own_QN h0 n0 _ T1.heap _
    rw [e1]
    exact ⟨rfl, N0, rfl⟩
theorem d_own_rmAC_0 : decode jdk_22_method_1_code 0 = .ok (.aload_n 0, 1) := by decide +kernel
theorem d_own_rmAC_1 : decode jdk_22_method_1_code 1 = .ok (.invokespecial 1, 3) := by decide +kernel
theorem d_own_rmAC_4 : decode jdk_22_method_1_code 4 = .ok (.return_, 1) := by decide +kernel
theorem ef_own_rmAC (m : MethodId) (x0 : Addr) : entryFrame m #[(.ref x0)] 1 = mkF m 0 #[.val (.ref x0)] [] := by first | (simp [entryFrame, mkF, argsToLocals, Value.category]; done) | rfl
set_option maxRecDepth 65536 in
set_option maxHeartbeats 40000000 in
theorem own_rmAC (l : Launch) (Z : State) (a0 : Array Value) (hw : ∀ d ∈ tables_1, d.before a0 Z = true) (ws : List Jvm.Cond) (a0' : Addr)  (h0 : Heap) (n0 : Nat) (Z0 : n0 ≤ h0.size)  :
    MetFree l (⟨"java/util/AbstractCollection", "<init>", "()V"⟩ : MethodName) (head1 (Jvm.Cond.code (⟨"java/util/AbstractCollection", "<init>", "()V"⟩ : MethodName) jdk_22_method_1_code 1 none :: ws) ({ frames := 1, cells := 0, slots := 0, locals := 12 } : Room)) (fun a U => a = #[(.ref a0')] ∧ Z.Warmed39 U.vm ∧ U.heap = h0) (fun _ _ _ _ _ => True) (fun _ U o U' => ∃ v L, o = .returned v ∧ own_QN h0 n0 v U'.heap L ∧ FrameEnd U o U' L ({ frames := 1, cells := 0, slots := 0, locals := 12 } : Room).cells ({ frames := 1, cells := 0, slots := 0, locals := 12 } : Room).slots) := by
  refine MetFree.of_bodySF (plainFor_of_name own_pn1) hisR ?_
  intro p e s m args below meth c s₁ Bd hml0 hP hK
  obtain ⟨rfl, hZ, hh⟩ := hP
  have hx := Bd.exec
  have hby := Bd.bytes
  have hml : c.maxLocals = 1 := hml0
  have hown : s.vm.findClass "java/util/AbstractCollection" = some m.cls := findClass_of_methodNamed Bd.named
  have hnm := (name_of_methodNamed Bd.named Bd.method).1
  have X0 : Stand p l e ({ frames := 1, cells := 0, slots := 0, locals := 12 } : Room) s m #[(.ref a0')] below meth c s₁ [] 0 0 := Stand.of_body Bd
  have e0 : s₁.heap = h0 := by rw [← hh, Bd.state]; rfl
  have N0 := Fr.nil n0
  refine own_go (b := s₁.setTop (mkF m 0 #[.val (.ref a0')] [])) (fun t k => castTop (ef_own_rmAC m a0') k) ?_
  obtain ⟨T1, X1, e1, st1⟩ := initO X0 hx hZ hown (hw _ (List.mem_of_getElem? (i := 45) rfl)) (hw _ (List.mem_of_getElem? (i := 7) rfl)) (hw _ (List.mem_of_getElem? (i := 8) rfl)) e0 (g := (mkF m 1 #[.val (.ref a0')] [(.ref a0')])) rfl (by rw [hml]; rfl) rfl (hb hby d_own_rmAC_1) (by decide) (W := 0) (by show 2 * 0 + _ ≤ _; exact Nat.le_of_eq rfl) (by decide)
  obtain ⟨fs, hr, hrun, hended, hW, hsame⟩ := X1.leave (v := none) (fun _ => rfl)
  refine ⟨_, _, ?_, hrun, hended, _, _, rfl, ?_, ⟨_, rfl⟩, hW, hsame.mono (by decide) (by decide)⟩
  · show Steps p.tables e below (s₁.setTop (mkF m 0 #[.val (.ref a0')] [])) _
    refine XS.aloadN X0.here hx rfl (hb hby d_own_rmAC_0) rfl rfl ?_
    show Steps p.tables e below (s₁.setTop (mkF m 1 #[.val (.ref a0')] [(.ref a0')])) _
    refine st1 _ ?_
    show Steps p.tables e below (T1.setTop (mkF m 4 #[.val (.ref a0')] [])) _
    exact X1.returnOut hx Bd.returns (hb hby d_own_rmAC_4) hr
  · show own_QN h0 n0 _ T1.heap _
    rw [e1]
    exact ⟨rfl, N0, rfl⟩
theorem d_own_rmHM_0 : decode jdk_69_method_7_code 0 = .ok (.aload_n 0, 1) := by decide +kernel
theorem d_own_rmHM_1 : decode jdk_69_method_7_code 1 = .ok (.invokespecial 43, 3) := by decide +kernel
theorem d_own_rmHM_4 : decode jdk_69_method_7_code 4 = .ok (.aload_n 0, 1) := by decide +kernel
theorem d_own_rmHM_5 : decode jdk_69_method_7_code 5 = .ok (.ldc 92, 2) := by decide +kernel
theorem d_own_rmHM_7 : decode jdk_69_method_7_code 7 = .ok (.putfield 81, 3) := by decide +kernel
theorem d_own_rmHM_10 : decode jdk_69_method_7_code 10 = .ok (.return_, 1) := by decide +kernel
theorem ef_own_rmHM (m : MethodId) (x0 : Addr) : entryFrame m #[(.ref x0)] 1 = mkF m 0 #[.val (.ref x0)] [] := by first | (simp [entryFrame, mkF, argsToLocals, Value.category]; done) | rfl
set_option maxRecDepth 65536 in
set_option maxHeartbeats 40000000 in
theorem own_rmHM (l : Launch) (Z : State) (a0 : Array Value) (hw : ∀ d ∈ tables_1, d.before a0 Z = true) (ws : List Jvm.Cond) (b0 : Addr)  (h0 : Heap) (n0 : Nat) (Z0 : n0 ≤ h0.size) (E_0 : Exa Z h0 b0 "java/util/HashMap") (F_0 : Fld Z h0 b0 "java/util/HashMap" "loadFactor" "F" (.float 0)) (g_0 : n0 ≤ b0) :
    MetFree l (⟨"java/util/HashMap", "<init>", "()V"⟩ : MethodName) (head1 (Jvm.Cond.code (⟨"java/util/HashMap", "<init>", "()V"⟩ : MethodName) jdk_69_method_7_code 1 none :: ws) ({ frames := 2, cells := 0, slots := 0, locals := 24 } : Room)) (fun a U => a = #[(.ref b0)] ∧ Z.Warmed39 U.vm ∧ U.heap = h0) (fun _ _ _ _ _ => True) (fun _ U o U' => ∃ v L, o = .returned v ∧ own_QK b0 h0 n0 v U'.heap L ∧ FrameEnd U o U' L ({ frames := 2, cells := 0, slots := 0, locals := 24 } : Room).cells ({ frames := 2, cells := 0, slots := 0, locals := 24 } : Room).slots) := by
  refine MetFree.of_bodySF (plainFor_of_name own_pn2) hisR ?_
  intro p e s m args below meth c s₁ Bd hml0 hP hK
  obtain ⟨rfl, hZ, hh⟩ := hP
  have hx := Bd.exec
  have hby := Bd.bytes
  have hml : c.maxLocals = 1 := hml0
  have hown : s.vm.findClass "java/util/HashMap" = some m.cls := findClass_of_methodNamed Bd.named
  have hnm := (name_of_methodNamed Bd.named Bd.method).1
  have X0 : Stand p l e ({ frames := 2, cells := 0, slots := 0, locals := 24 } : Room) s m #[(.ref b0)] below meth c s₁ [] 0 0 := Stand.of_body Bd
  have e0 : s₁.heap = h0 := by rw [← hh, Bd.state]; rfl
  have N0 := Fr.nil n0
  refine own_go (b := s₁.setTop (mkF m 0 #[.val (.ref b0)] [])) (fun t k => castTop (ef_own_rmHM m b0) k) ?_
  obtain ⟨_, _, ⟨T1, L1, k1, n1⟩, -, X1, ⟨Lc1, hQ1, l1, y1, z1⟩, st1⟩ := X0.specialBack hx (y := (⟨"java/util/AbstractMap", "<init>", "()V"⟩ : MethodName)) rfl hown (mvT hZ (hw _ (List.mem_of_getElem? (i := 15) rfl))) (mvT hZ (hw _ (List.mem_of_getElem? (i := 16) rfl))) (mvT hZ (hw _ (List.mem_of_getElem? (i := 20) rfl))) (by decide) (backOf (W := 0) (own_rmAM l Z a0 hw [] b0  h0 n0 Z0 ) hZ (hw _ (List.mem_of_getElem? (i := 20) rfl)) (hw _ (List.mem_of_getElem? (i := 19) rfl)) (by decide) (by decide)) (g := (mkF m 1 #[.val (.ref b0)] [(.ref b0)])) rfl (by rw [hml]; rfl) (Steps.refl _) (a := b0) (argsL := []) (rest := []) (lenOf own_pd0 rfl) rfl (by show 2 * 0 + _ ≤ _; exact Nat.le_of_eq rfl) (hb hby d_own_rmHM_1) (fun _ _ => ⟨rfl, e0, (by decide : 0 + 0 ≤ _), (by decide : 0 + 0 ≤ _)⟩)
  dsimp only [Pt.U, Pt.locs, Pt.cells, Pt.slots] at X1 l1 y1 z1 st1 hQ1
  subst l1 y1 z1
  obtain ⟨rfl, N1q, e1⟩ := hQ1
  have N1 := Fr.app N0 N1q
  obtain ⟨T2, h2, X2, e2, W2, st2⟩ := putF X1 hx hZ hown (host := "") (Or.inl (hw _ (List.mem_of_getElem? (i := 23) rfl))) Via.refl e1 F_0 E_0 (Or.inr ⟨(hw _ (List.mem_of_getElem? (i := 24) rfl)), rfl, hnm⟩) (hw _ (List.mem_of_getElem? (i := 10) rfl)) (ty := .float) (by decide) rfl rfl (g := (mkF m 7 #[.val (.ref b0)] [(.float (1061158912 : UInt32)), (.ref b0)])) rfl rfl (hb hby d_own_rmHM_7)
  have E_b0_2 := E_0.wr W2
  have Z2 := Nat.le_trans Z0 (Keep.of_wr W2).1
  have K2 := (Keep.refl h0 [b0]).wr W2 (Or.inl (List.mem_of_getElem? (i := 0) rfl))
  have N2 := Fr.snoc X2 N1 g_0
  have F_b0_loadFactor_2 := F_0.same W2
  obtain ⟨fs, hr, hrun, hended, hW, hsame⟩ := X2.leave (v := none) (fun _ => rfl)
  refine ⟨_, _, ?_, hrun, hended, _, _, rfl, ?_, ⟨_, rfl⟩, hW, hsame.mono (by decide) (by decide)⟩
  · show Steps p.tables e below (s₁.setTop (mkF m 0 #[.val (.ref b0)] [])) _
    refine XS.aloadN X0.here hx rfl (hb hby d_own_rmHM_0) rfl rfl ?_
    show Steps p.tables e below (s₁.setTop (mkF m 1 #[.val (.ref b0)] [(.ref b0)])) _
    refine st1.trans ?_
    show Steps p.tables e below (T1.setTop (mkF m 4 #[.val (.ref b0)] [])) _
    refine XS.aloadN X1.here hx rfl (hb hby d_own_rmHM_4) rfl rfl ?_
    show Steps p.tables e below (T1.setTop (mkF m 5 #[.val (.ref b0)] [(.ref b0)])) _
    refine X1.ldcFloatC hx hown (mvT hZ (hw _ (List.mem_of_getElem? (i := 22) rfl))) (g := (mkF m 5 #[.val (.ref b0)] [(.ref b0)])) rfl (hb hby d_own_rmHM_5) _ ?_
    show Steps p.tables e below (T1.setTop (mkF m 7 #[.val (.ref b0)] [(.float (1061158912 : UInt32)), (.ref b0)])) _
    refine st2 _ ?_
    show Steps p.tables e below (T2.setTop (mkF m 10 #[.val (.ref b0)] [])) _
    exact X2.returnOut hx Bd.returns (hb hby d_own_rmHM_10) hr
  · show own_QK b0 h0 n0 _ T2.heap _
    rw [e2]
    exact ⟨rfl, N2, K2⟩
theorem d_own_rmAL_0 : decode jdk_39_method_1_code 0 = .ok (.aload_n 0, 1) := by decide +kernel
theorem d_own_rmAL_1 : decode jdk_39_method_1_code 1 = .ok (.invokespecial 1, 3) := by decide +kernel
theorem d_own_rmAL_4 : decode jdk_39_method_1_code 4 = .ok (.aload_n 0, 1) := by decide +kernel
theorem d_own_rmAL_5 : decode jdk_39_method_1_code 5 = .ok (.iconst 0, 1) := by decide +kernel
theorem d_own_rmAL_6 : decode jdk_39_method_1_code 6 = .ok (.putfield 7, 3) := by decide +kernel
theorem d_own_rmAL_9 : decode jdk_39_method_1_code 9 = .ok (.return_, 1) := by decide +kernel
theorem ef_own_rmAL (m : MethodId) (x0 : Addr) : entryFrame m #[(.ref x0)] 1 = mkF m 0 #[.val (.ref x0)] [] := by first | (simp [entryFrame, mkF, argsToLocals, Value.category]; done) | rfl
set_option maxRecDepth 65536 in
set_option maxHeartbeats 40000000 in
theorem own_rmAL (l : Launch) (Z : State) (a0 : Array Value) (hw : ∀ d ∈ tables_1, d.before a0 Z = true) (ws : List Jvm.Cond) (b0 : Addr)  (h0 : Heap) (n0 : Nat) (Z0 : n0 ≤ h0.size) (E_0 : Exa Z h0 b0 "java/util/ArrayList") (F_m : Fld Z h0 b0 "java/util/AbstractList" "modCount" "I" (.int (0 : Int32))) (F_e : Fld Z h0 b0 "java/util/ArrayList" "elementData" "[Ljava/lang/Object;" .null) (g_0 : n0 ≤ b0) :
    MetFree l (⟨"java/util/AbstractList", "<init>", "()V"⟩ : MethodName) (head1 (Jvm.Cond.code (⟨"java/util/AbstractList", "<init>", "()V"⟩ : MethodName) jdk_39_method_1_code 1 none :: ws) ({ frames := 2, cells := 0, slots := 0, locals := 24 } : Room)) (fun a U => a = #[(.ref b0)] ∧ Z.Warmed39 U.vm ∧ U.heap = h0) (fun _ _ _ _ _ => True) (fun _ U o U' => ∃ v L, o = .returned v ∧ own_QA Z b0 h0 n0 v U'.heap L ∧ FrameEnd U o U' L ({ frames := 2, cells := 0, slots := 0, locals := 24 } : Room).cells ({ frames := 2, cells := 0, slots := 0, locals := 24 } : Room).slots) := by
  refine MetFree.of_bodySF (plainFor_of_name own_pn3) hisR ?_
  intro p e s m args below meth c s₁ Bd hml0 hP hK
  obtain ⟨rfl, hZ, hh⟩ := hP
  have hx := Bd.exec
  have hby := Bd.bytes
  have hml : c.maxLocals = 1 := hml0
  have hown : s.vm.findClass "java/util/AbstractList" = some m.cls := findClass_of_methodNamed Bd.named
  have hnm := (name_of_methodNamed Bd.named Bd.method).1
  have X0 : Stand p l e ({ frames := 2, cells := 0, slots := 0, locals := 24 } : Room) s m #[(.ref b0)] below meth c s₁ [] 0 0 := Stand.of_body Bd
  have e0 : s₁.heap = h0 := by rw [← hh, Bd.state]; rfl
  have N0 := Fr.nil n0
  refine own_go (b := s₁.setTop (mkF m 0 #[.val (.ref b0)] [])) (fun t k => castTop (ef_own_rmAL m b0) k) ?_
  obtain ⟨_, _, ⟨T1, L1, k1, n1⟩, -, X1, ⟨Lc1, hQ1, l1, y1, z1⟩, st1⟩ := X0.specialBack hx (y := (⟨"java/util/AbstractCollection", "<init>", "()V"⟩ : MethodName)) rfl hown (mvT hZ (hw _ (List.mem_of_getElem? (i := 39) rfl))) (mvT hZ (hw _ (List.mem_of_getElem? (i := 40) rfl))) (mvT hZ (hw _ (List.mem_of_getElem? (i := 44) rfl))) (by decide) (backOf (W := 0) (own_rmAC l Z a0 hw [] b0  h0 n0 Z0 ) hZ (hw _ (List.mem_of_getElem? (i := 44) rfl)) (hw _ (List.mem_of_getElem? (i := 43) rfl)) (by decide) (by decide)) (g := (mkF m 1 #[.val (.ref b0)] [(.ref b0)])) rfl (by rw [hml]; rfl) (Steps.refl _) (a := b0) (argsL := []) (rest := []) (lenOf own_pd0 rfl) rfl (by show 2 * 0 + _ ≤ _; exact Nat.le_of_eq rfl) (hb hby d_own_rmAL_1) (fun _ _ => ⟨rfl, e0, (by decide : 0 + 0 ≤ _), (by decide : 0 + 0 ≤ _)⟩)
  dsimp only [Pt.U, Pt.locs, Pt.cells, Pt.slots] at X1 l1 y1 z1 st1 hQ1
  subst l1 y1 z1
  obtain ⟨rfl, N1q, e1⟩ := hQ1
  have N1 := Fr.app N0 N1q
  obtain ⟨T2, h2, X2, e2, W2, st2⟩ := putF X1 hx hZ hown (host := "") (Or.inl (hw _ (List.mem_of_getElem? (i := 46) rfl))) Via.refl e1 F_m E_0 (Or.inl (hw _ (List.mem_of_getElem? (i := 47) rfl))) (hw _ (List.mem_of_getElem? (i := 28) rfl)) (ty := .int) (by decide) rfl rfl (g := (mkF m 6 #[.val (.ref b0)] [(.int (0 : Int32)), (.ref b0)])) rfl rfl (hb hby d_own_rmAL_6)
  have E_b0_2 := E_0.wr W2
  have F_b0_elementData_2 := F_e.other W2 (Or.inr (slot_ne (Or.inl (hw _ (List.mem_of_getElem? (i := 50) rfl))) (Or.inl (hw _ (List.mem_of_getElem? (i := 47) rfl))) (by decide) (t := (.array (.object "java/lang/Object"))) (t' := .int) (by decide) (by decide)))
  have Z2 := Nat.le_trans Z0 (Keep.of_wr W2).1
  have K2 := (Keep.refl h0 [b0]).wr W2 (Or.inl (List.mem_of_getElem? (i := 0) rfl))
  have N2 := Fr.snoc X2 N1 g_0
  have F_b0_modCount_2 := F_m.same W2
  obtain ⟨fs, hr, hrun, hended, hW, hsame⟩ := X2.leave (v := none) (fun _ => rfl)
  refine ⟨_, _, ?_, hrun, hended, _, _, rfl, ?_, ⟨_, rfl⟩, hW, hsame.mono (by decide) (by decide)⟩
  · show Steps p.tables e below (s₁.setTop (mkF m 0 #[.val (.ref b0)] [])) _
    refine XS.aloadN X0.here hx rfl (hb hby d_own_rmAL_0) rfl rfl ?_
    show Steps p.tables e below (s₁.setTop (mkF m 1 #[.val (.ref b0)] [(.ref b0)])) _
    refine st1.trans ?_
    show Steps p.tables e below (T1.setTop (mkF m 4 #[.val (.ref b0)] [])) _
    refine XS.aloadN X1.here hx rfl (hb hby d_own_rmAL_4) rfl rfl ?_
    show Steps p.tables e below (T1.setTop (mkF m 5 #[.val (.ref b0)] [(.ref b0)])) _
    refine XS.iconst X1.here hx rfl (hb hby d_own_rmAL_5) ?_
    show Steps p.tables e below (T1.setTop (mkF m 6 #[.val (.ref b0)] [(.int (0 : Int32)), (.ref b0)])) _
    refine st2 _ ?_
    show Steps p.tables e below (T2.setTop (mkF m 9 #[.val (.ref b0)] [])) _
    exact X2.returnOut hx Bd.returns (hb hby d_own_rmAL_9) hr
  · show own_QA Z b0 h0 n0 _ T2.heap _
    rw [e2]
    exact ⟨rfl, N2, K2, F_b0_elementData_2⟩
theorem d_own_rmAR_0 : decode jdk_38_method_2_code 0 = .ok (.aload_n 0, 1) := by decide +kernel
theorem d_own_rmAR_1 : decode jdk_38_method_2_code 1 = .ok (.invokespecial 1, 3) := by decide +kernel
theorem d_own_rmAR_4 : decode jdk_38_method_2_code 4 = .ok (.aload_n 0, 1) := by decide +kernel
theorem d_own_rmAR_5 : decode jdk_38_method_2_code 5 = .ok (.getstatic 39, 3) := by decide +kernel
theorem d_own_rmAR_8 : decode jdk_38_method_2_code 8 = .ok (.putfield 9, 3) := by decide +kernel
theorem d_own_rmAR_11 : decode jdk_38_method_2_code 11 = .ok (.return_, 1) := by decide +kernel
theorem ef_own_rmAR (m : MethodId) (x0 : Addr) : entryFrame m #[(.ref x0)] 1 = mkF m 0 #[.val (.ref x0)] [] := by first | (simp [entryFrame, mkF, argsToLocals, Value.category]; done) | rfl
set_option maxRecDepth 65536 in
set_option maxHeartbeats 40000000 in
theorem own_rmAR (l : Launch) (Z : State) (a0 : Array Value) (hw : ∀ d ∈ tables_1, d.before a0 Z = true) (ws : List Jvm.Cond) (b0 : Addr) (dE : Addr) (h0 : Heap) (n0 : Nat) (Z0 : n0 ≤ h0.size) (E_0 : Exa Z h0 b0 "java/util/ArrayList") (F_m : Fld Z h0 b0 "java/util/AbstractList" "modCount" "I" (.int (0 : Int32))) (F_e : Fld Z h0 b0 "java/util/ArrayList" "elementData" "[Ljava/lang/Object;" .null) (g_0 : n0 ≤ b0) (S_D : Sta Z h0 "java/util/ArrayList" "DEFAULTCAPACITY_EMPTY_ELEMENTDATA" "[Ljava/lang/Object;" (.ref dE)) :
    MetFree l (⟨"java/util/ArrayList", "<init>", "()V"⟩ : MethodName) (head1 (Jvm.Cond.code (⟨"java/util/ArrayList", "<init>", "()V"⟩ : MethodName) jdk_38_method_2_code 1 none :: ws) ({ frames := 3, cells := 0, slots := 0, locals := 36 } : Room)) (fun a U => a = #[(.ref b0)] ∧ Z.Warmed39 U.vm ∧ U.heap = h0) (fun _ _ _ _ _ => True) (fun _ U o U' => ∃ v L, o = .returned v ∧ own_QK b0 h0 n0 v U'.heap L ∧ FrameEnd U o U' L ({ frames := 3, cells := 0, slots := 0, locals := 36 } : Room).cells ({ frames := 3, cells := 0, slots := 0, locals := 36 } : Room).slots) := by
  refine MetFree.of_bodySF (plainFor_of_name own_pn4) hisR ?_
  intro p e s m args below meth c s₁ Bd hml0 hP hK
  obtain ⟨rfl, hZ, hh⟩ := hP
  have hx := Bd.exec
  have hby := Bd.bytes
  have hml : c.maxLocals = 1 := hml0
  have hown : s.vm.findClass "java/util/ArrayList" = some m.cls := findClass_of_methodNamed Bd.named
  have hnm := (name_of_methodNamed Bd.named Bd.method).1
  have X0 : Stand p l e ({ frames := 3, cells := 0, slots := 0, locals := 36 } : Room) s m #[(.ref b0)] below meth c s₁ [] 0 0 := Stand.of_body Bd
  have e0 : s₁.heap = h0 := by rw [← hh, Bd.state]; rfl
  have N0 := Fr.nil n0
  refine own_go (b := s₁.setTop (mkF m 0 #[.val (.ref b0)] [])) (fun t k => castTop (ef_own_rmAR m b0) k) ?_
  obtain ⟨_, _, ⟨T1, L1, k1, n1⟩, -, X1, ⟨Lc1, hQ1, l1, y1, z1⟩, st1⟩ := X0.specialBack hx (y := (⟨"java/util/AbstractList", "<init>", "()V"⟩ : MethodName)) rfl hown (mvT hZ (hw _ (List.mem_of_getElem? (i := 33) rfl))) (mvT hZ (hw _ (List.mem_of_getElem? (i := 34) rfl))) (mvT hZ (hw _ (List.mem_of_getElem? (i := 38) rfl))) (by decide) (backOf (W := 0) (own_rmAL l Z a0 hw [] b0  h0 n0 Z0 E_0 F_m F_e g_0) hZ (hw _ (List.mem_of_getElem? (i := 38) rfl)) (hw _ (List.mem_of_getElem? (i := 37) rfl)) (by decide) (by decide)) (g := (mkF m 1 #[.val (.ref b0)] [(.ref b0)])) rfl (by rw [hml]; rfl) (Steps.refl _) (a := b0) (argsL := []) (rest := []) (lenOf own_pd0 rfl) rfl (by show 2 * 0 + _ ≤ _; exact Nat.le_of_eq rfl) (hb hby d_own_rmAR_1) (fun _ _ => ⟨rfl, e0, (by decide : 0 + 0 ≤ _), (by decide : 0 + 0 ≤ _)⟩)
  dsimp only [Pt.U, Pt.locs, Pt.cells, Pt.slots] at X1 l1 y1 z1 st1 hQ1
  subst l1 y1 z1
  obtain ⟨rfl, N1q, K1q, B1_0⟩ := hQ1
  have E_b0_1 := E_0.keep K1q
  have S_DEFAULTCAPACITY_EMPTY_ELEMENTDATA_1 := own_staKeep S_D E_0 K1q
  have N1 := Fr.app N0 N1q
  have Z1 := Nat.le_trans Z0 K1q.1
  have K1 := (Keep.refl h0 [b0]).trans K1q (fun x hx => by cases List.mem_singleton.mp hx; exact Or.inl (List.mem_of_getElem? (i := 0) rfl))
  obtain ⟨T2, X2, e2, st2⟩ := getS2 X1 hx hZ hown (host := "") (Or.inl (hw _ (List.mem_of_getElem? (i := 48) rfl))) Via.refl rfl S_DEFAULTCAPACITY_EMPTY_ELEMENTDATA_1 (g := (mkF m 5 #[.val (.ref b0)] [(.ref b0)])) rfl (hb hby d_own_rmAR_5)
  obtain ⟨T3, h3, X3, e3, W3, st3⟩ := putF X2 hx hZ hown (host := "") (Or.inl (hw _ (List.mem_of_getElem? (i := 49) rfl))) Via.refl e2 B1_0 E_b0_1 (Or.inl (hw _ (List.mem_of_getElem? (i := 50) rfl))) (hw _ (List.mem_of_getElem? (i := 28) rfl)) (ty := (.array (.object "java/lang/Object"))) (by decide) rfl rfl (g := (mkF m 8 #[.val (.ref b0)] [(.ref dE), (.ref b0)])) rfl rfl (hb hby d_own_rmAR_8)
  have E_b0_3 := E_b0_1.wr W3
  have S_DEFAULTCAPACITY_EMPTY_ELEMENTDATA_3 := S_DEFAULTCAPACITY_EMPTY_ELEMENTDATA_1.wr W3
  have Z3 := Nat.le_trans Z1 (Keep.of_wr W3).1
  have K3 := K1.wr W3 (Or.inl (List.mem_of_getElem? (i := 0) rfl))
  have N3 := Fr.snoc X3 N1 g_0
  have F_b0_elementData_3 := B1_0.same W3
  obtain ⟨fs, hr, hrun, hended, hW, hsame⟩ := X3.leave (v := none) (fun _ => rfl)
  refine ⟨_, _, ?_, hrun, hended, _, _, rfl, ?_, ⟨_, rfl⟩, hW, hsame.mono (by decide) (by decide)⟩
  · show Steps p.tables e below (s₁.setTop (mkF m 0 #[.val (.ref b0)] [])) _
    refine XS.aloadN X0.here hx rfl (hb hby d_own_rmAR_0) rfl rfl ?_
    show Steps p.tables e below (s₁.setTop (mkF m 1 #[.val (.ref b0)] [(.ref b0)])) _
    refine st1.trans ?_
    show Steps p.tables e below (T1.setTop (mkF m 4 #[.val (.ref b0)] [])) _
    refine XS.aloadN X1.here hx rfl (hb hby d_own_rmAR_4) rfl rfl ?_
    show Steps p.tables e below (T1.setTop (mkF m 5 #[.val (.ref b0)] [(.ref b0)])) _
    refine st2 _ ?_
    show Steps p.tables e below (T2.setTop (mkF m 8 #[.val (.ref b0)] [(.ref dE), (.ref b0)])) _
    refine st3 _ ?_
    show Steps p.tables e below (T3.setTop (mkF m 11 #[.val (.ref b0)] [])) _
    exact X3.returnOut hx Bd.returns (hb hby d_own_rmAR_11) hr
  · show own_QK b0 h0 n0 _ T3.heap _
    rw [e3]
    exact ⟨rfl, N3, K3⟩
theorem d_own_rmOL_0 : decode prog_32_method_1_code 0 = .ok (.aload_n 0, 1) := by decide +kernel
theorem d_own_rmOL_1 : decode prog_32_method_1_code 1 = .ok (.invokespecial 1, 3) := by decide +kernel
theorem d_own_rmOL_4 : decode prog_32_method_1_code 4 = .ok (.aload_n 0, 1) := by decide +kernel
theorem d_own_rmOL_5 : decode prog_32_method_1_code 5 = .ok (.new 7, 3) := by decide +kernel
theorem d_own_rmOL_8 : decode prog_32_method_1_code 8 = .ok (.dup, 1) := by decide +kernel
theorem d_own_rmOL_9 : decode prog_32_method_1_code 9 = .ok (.invokespecial 9, 3) := by decide +kernel
theorem d_own_rmOL_12 : decode prog_32_method_1_code 12 = .ok (.putfield 10, 3) := by decide +kernel
theorem d_own_rmOL_15 : decode prog_32_method_1_code 15 = .ok (.aload_n 0, 1) := by decide +kernel
theorem d_own_rmOL_16 : decode prog_32_method_1_code 16 = .ok (.new 16, 3) := by decide +kernel
theorem d_own_rmOL_19 : decode prog_32_method_1_code 19 = .ok (.dup, 1) := by decide +kernel
theorem d_own_rmOL_20 : decode prog_32_method_1_code 20 = .ok (.invokespecial 18, 3) := by decide +kernel
theorem d_own_rmOL_23 : decode prog_32_method_1_code 23 = .ok (.putfield 19, 3) := by decide +kernel
theorem d_own_rmOL_26 : decode prog_32_method_1_code 26 = .ok (.aload_n 0, 1) := by decide +kernel
theorem d_own_rmOL_27 : decode prog_32_method_1_code 27 = .ok (.sipush 1024, 3) := by decide +kernel
theorem d_own_rmOL_30 : decode prog_32_method_1_code 30 = .ok (.anewarray 23, 3) := by decide +kernel
theorem d_own_rmOL_33 : decode prog_32_method_1_code 33 = .ok (.putfield 25, 3) := by decide +kernel
theorem d_own_rmOL_36 : decode prog_32_method_1_code 36 = .ok (.aload_n 0, 1) := by decide +kernel
theorem d_own_rmOL_37 : decode prog_32_method_1_code 37 = .ok (.sipush 1024, 3) := by decide +kernel
theorem d_own_rmOL_40 : decode prog_32_method_1_code 40 = .ok (.newarray .int, 2) := by decide +kernel
theorem d_own_rmOL_42 : decode prog_32_method_1_code 42 = .ok (.putfield 29, 3) := by decide +kernel
theorem d_own_rmOL_45 : decode prog_32_method_1_code 45 = .ok (.aload_n 0, 1) := by decide +kernel
theorem d_own_rmOL_46 : decode prog_32_method_1_code 46 = .ok (.sipush 1024, 3) := by decide +kernel
theorem d_own_rmOL_49 : decode prog_32_method_1_code 49 = .ok (.newarray .boolean, 2) := by decide +kernel
theorem d_own_rmOL_51 : decode prog_32_method_1_code 51 = .ok (.putfield 33, 3) := by decide +kernel
theorem d_own_rmOL_54 : decode prog_32_method_1_code 54 = .ok (.return_, 1) := by decide +kernel
theorem ef_own_rmOL (m : MethodId) (x0 : Addr) : entryFrame m #[(.ref x0)] 1 = mkF m 0 #[.val (.ref x0)] [] := by first | (simp [entryFrame, mkF, argsToLocals, Value.category]; done) | rfl
set_option maxRecDepth 65536 in
set_option maxHeartbeats 40000000 in
theorem own_rmOL (l : Launch) (Z : State) (a0 : Array Value) (hw : ∀ d ∈ tables_1, d.before a0 Z = true) (ws : List Jvm.Cond) (b0 : Addr) (dE : Addr) (h0 : Heap) (n0 : Nat) (Z0 : n0 ≤ h0.size) (E_0 : Exa Z h0 b0 "com/example/matchgate/matchgate/core/OrderLedger") (F_partyNumbers : Fld Z h0 b0 "com/example/matchgate/matchgate/core/OrderLedger" "partyNumbers" "Ljava/util/Map;" .null) (F_partyNames : Fld Z h0 b0 "com/example/matchgate/matchgate/core/OrderLedger" "partyNames" "Ljava/util/List;" .null) (F_working : Fld Z h0 b0 "com/example/matchgate/matchgate/core/OrderLedger" "working" "[Lcom/example/matchgate/matchgate/core/Order;" .null) (F_party : Fld Z h0 b0 "com/example/matchgate/matchgate/core/OrderLedger" "party" "[I" .null) (F_canceled : Fld Z h0 b0 "com/example/matchgate/matchgate/core/OrderLedger" "canceled" "[Z" .null) (F_count : Fld Z h0 b0 "com/example/matchgate/matchgate/core/OrderLedger" "count" "I" (.int (0 : Int32))) (g_0 : n0 ≤ b0) (S_D : Sta Z h0 "java/util/ArrayList" "DEFAULTCAPACITY_EMPTY_ELEMENTDATA" "[Ljava/lang/Object;" (.ref dE)) :
    MetFree l (⟨"com/example/matchgate/matchgate/core/OrderLedger", "<init>", "()V"⟩ : MethodName) (head1 (Jvm.Cond.code (⟨"com/example/matchgate/matchgate/core/OrderLedger", "<init>", "()V"⟩ : MethodName) prog_32_method_1_code 1 none :: ws) ({ frames := 4, cells := 5, slots := 3083, locals := 50 } : Room)) (fun a U => a = #[(.ref b0)] ∧ Z.Warmed39 U.vm ∧ U.heap = h0) (fun _ _ _ _ _ => True) (fun _ U o U' => ∃ v L, o = .returned v ∧ own_QO Z b0 h0 n0 v U'.heap L ∧ FrameEnd U o U' L ({ frames := 4, cells := 5, slots := 3083, locals := 50 } : Room).cells ({ frames := 4, cells := 5, slots := 3083, locals := 50 } : Room).slots) := by
  refine MetFree.of_bodySF (plainFor_of_name own_pn5) hisR ?_
  intro p e s m args below meth c s₁ Bd hml0 hP hK
  obtain ⟨rfl, hZ, hh⟩ := hP
  have hx := Bd.exec
  have hby := Bd.bytes
  have hml : c.maxLocals = 1 := hml0
  have hown : s.vm.findClass "com/example/matchgate/matchgate/core/OrderLedger" = some m.cls := findClass_of_methodNamed Bd.named
  have hnm := (name_of_methodNamed Bd.named Bd.method).1
  have X0 : Stand p l e ({ frames := 4, cells := 5, slots := 3083, locals := 50 } : Room) s m #[(.ref b0)] below meth c s₁ [] 0 0 := Stand.of_body Bd
  have e0 : s₁.heap = h0 := by rw [← hh, Bd.state]; rfl
  have N0 := Fr.nil n0
  refine own_go (b := s₁.setTop (mkF m 0 #[.val (.ref b0)] [])) (fun t k => castTop (ef_own_rmOL m b0) k) ?_
  obtain ⟨T1, X1, e1, st1⟩ := initO X0 hx hZ hown (hw _ (List.mem_of_getElem? (i := 6) rfl)) (hw _ (List.mem_of_getElem? (i := 7) rfl)) (hw _ (List.mem_of_getElem? (i := 8) rfl)) e0 (g := (mkF m 1 #[.val (.ref b0)] [(.ref b0)])) rfl (by rw [hml]; rfl) rfl (hb hby d_own_rmOL_1) (by decide) (W := 0) (by show 2 * 0 + _ ≤ _; exact Nat.le_of_eq rfl) (by decide)
  obtain ⟨T2, h2, X2, e2, E2, A2, D2, -, st2⟩ := newO X1 hx hZ hown (hw _ (List.mem_of_getElem? (i := 9) rfl)) (hw _ (List.mem_of_getElem? (i := 10) rfl)) (hw _ (List.mem_of_getElem? (i := 11) rfl)) e1 (g := (mkF m 5 #[.val (.ref b0)] [(.ref b0)])) rfl (hb hby d_own_rmOL_5) (by decide) (by decide)
  obtain ⟨b2, g2⟩ : ∃ z, z = h0.size := ⟨_, rfl⟩
  rw [← g2] at A2 D2 st2
  have ne_b0_b2 : b0 ≠ b2 := Nat.ne_of_lt (Nat.lt_of_lt_of_le E_0.lt (Nat.le_of_eq g2.symm))
  have new_b2 : n0 ≤ b2 := Nat.le_trans Z0 (Nat.le_of_eq g2.symm)
  have sz_b2 : h0.size ≤ b2 := Nat.le_trans (Keep.refl h0 [b0]).1 (Nat.le_of_eq g2.symm)
  have E_b0_2 := E_0.ext E2
  have F_b0_partyNumbers_2 := F_partyNumbers.ext E2
  have F_b0_partyNames_2 := F_partyNames.ext E2
  have F_b0_working_2 := F_working.ext E2
  have F_b0_party_2 := F_party.ext E2
  have F_b0_canceled_2 := F_canceled.ext E2
  have F_b0_count_2 := F_count.ext E2
  have S_DEFAULTCAPACITY_EMPTY_ELEMENTDATA_2 := S_D.ext E2
  have Z2 := Nat.le_trans Z0 E2.1
  have K2 := (Keep.refl h0 [b0]).ext E2
  have F_b2_loadFactor_2 : Fld Z h2 b2 "java/util/HashMap" "loadFactor" "F" (.float 0) := D2 (Or.inr (hw _ (List.mem_of_getElem? (i := 24) rfl))) (ty := .float) (by decide)
  obtain ⟨_, _, ⟨T3, L3, k3, n3⟩, -, X3, ⟨Lc3, hQ3, l3, y3, z3⟩, st3⟩ := X2.specialBack hx (y := (⟨"java/util/HashMap", "<init>", "()V"⟩ : MethodName)) rfl hown (mvT hZ (hw _ (List.mem_of_getElem? (i := 12) rfl))) (mvT hZ (hw _ (List.mem_of_getElem? (i := 13) rfl))) (mvT hZ (hw _ (List.mem_of_getElem? (i := 14) rfl))) (by decide) (backOf (W := 2) (own_rmHM l Z a0 hw [] b2  h2 n0 Z2 A2 F_b2_loadFactor_2 new_b2) hZ (hw _ (List.mem_of_getElem? (i := 14) rfl)) (hw _ (List.mem_of_getElem? (i := 11) rfl)) (by decide) (by decide)) (g := (mkF m 9 #[.val (.ref b0)] [(.ref b2), (.ref b2), (.ref b0)])) rfl (by rw [hml]; rfl) (Steps.refl _) (a := b2) (argsL := []) (rest := [(.ref b2), (.ref b0)]) (lenOf own_pd0 rfl) rfl (by show 2 * 0 + _ ≤ _; exact Nat.le_of_eq rfl) (hb hby d_own_rmOL_9) (fun _ _ => ⟨rfl, e2, (by decide : 1 + 0 ≤ _), (by decide : 8 + 0 ≤ _)⟩)
  dsimp only [Pt.U, Pt.locs, Pt.cells, Pt.slots] at X3 l3 y3 z3 st3 hQ3
  subst l3 y3 z3
  obtain ⟨rfl, N3q, K3q⟩ := hQ3
  have E_b0_3 := E_b0_2.keep K3q
  have F_b0_partyNumbers_3 := F_b0_partyNumbers_2.keep K3q (fun q => ne_b0_b2 (List.mem_singleton.mp q))
  have F_b0_partyNames_3 := F_b0_partyNames_2.keep K3q (fun q => ne_b0_b2 (List.mem_singleton.mp q))
  have F_b0_working_3 := F_b0_working_2.keep K3q (fun q => ne_b0_b2 (List.mem_singleton.mp q))
  have F_b0_party_3 := F_b0_party_2.keep K3q (fun q => ne_b0_b2 (List.mem_singleton.mp q))
  have F_b0_canceled_3 := F_b0_canceled_2.keep K3q (fun q => ne_b0_b2 (List.mem_singleton.mp q))
  have F_b0_count_3 := F_b0_count_2.keep K3q (fun q => ne_b0_b2 (List.mem_singleton.mp q))
  have S_DEFAULTCAPACITY_EMPTY_ELEMENTDATA_3 := own_staKeep S_DEFAULTCAPACITY_EMPTY_ELEMENTDATA_2 A2 K3q
  have E_b2_3 := A2.keep K3q
  have N3 := Fr.app N0 N3q
  have Z3 := Nat.le_trans Z2 K3q.1
  have K3 := K2.trans K3q (fun x hx => by cases List.mem_singleton.mp hx; exact Or.inr sz_b2)
  obtain ⟨T4, h4, X4, e4, W4, st4⟩ := putF X3 hx hZ hown (host := "") (Or.inl (hw _ (List.mem_of_getElem? (i := 25) rfl))) Via.refl rfl F_b0_partyNumbers_3 E_b0_3 (Or.inr ⟨(hw _ (List.mem_of_getElem? (i := 26) rfl)), rfl, hnm⟩) (hw _ (List.mem_of_getElem? (i := 1) rfl)) (ty := (.object "java/util/Map")) (by decide) rfl rfl (g := (mkF m 12 #[.val (.ref b0)] [(.ref b2), (.ref b0)])) rfl rfl (hb hby d_own_rmOL_12)
  have E_b0_4 := E_b0_3.wr W4
  have F_b0_partyNames_4 := F_b0_partyNames_3.other W4 (Or.inr (slot_ne (Or.inr (hw _ (List.mem_of_getElem? (i := 52) rfl))) (Or.inr (hw _ (List.mem_of_getElem? (i := 26) rfl))) (by decide) (t := (.object "java/util/List")) (t' := (.object "java/util/Map")) (by decide) (by decide)))
  have F_b0_working_4 := F_b0_working_3.other W4 (Or.inr (slot_ne (Or.inl (hw _ (List.mem_of_getElem? (i := 56) rfl))) (Or.inr (hw _ (List.mem_of_getElem? (i := 26) rfl))) (by decide) (t := (.array (.object "com/example/matchgate/matchgate/core/Order"))) (t' := (.object "java/util/Map")) (by decide) (by decide)))
  have F_b0_party_4 := F_b0_party_3.other W4 (Or.inr (slot_ne (Or.inl (hw _ (List.mem_of_getElem? (i := 59) rfl))) (Or.inr (hw _ (List.mem_of_getElem? (i := 26) rfl))) (by decide) (t := (.array .int)) (t' := (.object "java/util/Map")) (by decide) (by decide)))
  have F_b0_canceled_4 := F_b0_canceled_3.other W4 (Or.inr (slot_ne (Or.inl (hw _ (List.mem_of_getElem? (i := 62) rfl))) (Or.inr (hw _ (List.mem_of_getElem? (i := 26) rfl))) (by decide) (t := (.array .boolean)) (t' := (.object "java/util/Map")) (by decide) (by decide)))
  have F_b0_count_4 := F_b0_count_3.other W4 (Or.inr (slot_ne (Or.inl (hw _ (List.mem_of_getElem? (i := 69) rfl))) (Or.inr (hw _ (List.mem_of_getElem? (i := 26) rfl))) (by decide) (t := .int) (t' := (.object "java/util/Map")) (by decide) (by decide)))
  have S_DEFAULTCAPACITY_EMPTY_ELEMENTDATA_4 := S_DEFAULTCAPACITY_EMPTY_ELEMENTDATA_3.wr W4
  have E_b2_4 := E_b2_3.wr W4
  have Z4 := Nat.le_trans Z3 (Keep.of_wr W4).1
  have K4 := K3.wr W4 (Or.inl (List.mem_of_getElem? (i := 0) rfl))
  have N4 := Fr.snoc X4 N3 g_0
  have F_b0_partyNumbers_4 := F_b0_partyNumbers_3.same W4
  obtain ⟨T5, h5, X5, e5, E5, A5, D5, -, st5⟩ := newO X4 hx hZ hown (hw _ (List.mem_of_getElem? (i := 27) rfl)) (hw _ (List.mem_of_getElem? (i := 28) rfl)) (hw _ (List.mem_of_getElem? (i := 29) rfl)) e4 (g := (mkF m 16 #[.val (.ref b0)] [(.ref b0)])) rfl (hb hby d_own_rmOL_16) (by decide) (by decide)
  obtain ⟨b5, g5⟩ : ∃ z, z = h4.size := ⟨_, rfl⟩
  rw [← g5] at A5 D5 st5
  have ne_b0_b5 : b0 ≠ b5 := Nat.ne_of_lt (Nat.lt_of_lt_of_le E_b0_4.lt (Nat.le_of_eq g5.symm))
  have ne_b2_b5 : b2 ≠ b5 := Nat.ne_of_lt (Nat.lt_of_lt_of_le E_b2_4.lt (Nat.le_of_eq g5.symm))
  have new_b5 : n0 ≤ b5 := Nat.le_trans Z4 (Nat.le_of_eq g5.symm)
  have sz_b5 : h0.size ≤ b5 := Nat.le_trans K4.1 (Nat.le_of_eq g5.symm)
  have E_b0_5 := E_b0_4.ext E5
  have F_b0_partyNames_5 := F_b0_partyNames_4.ext E5
  have F_b0_working_5 := F_b0_working_4.ext E5
  have F_b0_party_5 := F_b0_party_4.ext E5
  have F_b0_canceled_5 := F_b0_canceled_4.ext E5
  have F_b0_count_5 := F_b0_count_4.ext E5
  have S_DEFAULTCAPACITY_EMPTY_ELEMENTDATA_5 := S_DEFAULTCAPACITY_EMPTY_ELEMENTDATA_4.ext E5
  have E_b2_5 := E_b2_4.ext E5
  have F_b0_partyNumbers_5 := F_b0_partyNumbers_4.ext E5
  have Z5 := Nat.le_trans Z4 E5.1
  have K5 := K4.ext E5
  have F_b5_modCount_5 : Fld Z h5 b5 "java/util/AbstractList" "modCount" "I" (.int (0 : Int32)) := D5 (Or.inl (hw _ (List.mem_of_getElem? (i := 47) rfl))) (ty := .int) (by decide)
  have F_b5_elementData_5 : Fld Z h5 b5 "java/util/ArrayList" "elementData" "[Ljava/lang/Object;" .null := D5 (Or.inl (hw _ (List.mem_of_getElem? (i := 50) rfl))) (ty := (.array (.object "java/lang/Object"))) (by decide)
  obtain ⟨_, _, ⟨T6, L6, k6, n6⟩, -, X6, ⟨Lc6, hQ6, l6, y6, z6⟩, st6⟩ := X5.specialBack hx (y := (⟨"java/util/ArrayList", "<init>", "()V"⟩ : MethodName)) rfl hown (mvT hZ (hw _ (List.mem_of_getElem? (i := 30) rfl))) (mvT hZ (hw _ (List.mem_of_getElem? (i := 31) rfl))) (mvT hZ (hw _ (List.mem_of_getElem? (i := 32) rfl))) (by decide) (backOf (W := 2) (own_rmAR l Z a0 hw [] b5 dE h5 n0 Z5 A5 F_b5_modCount_5 F_b5_elementData_5 new_b5 S_DEFAULTCAPACITY_EMPTY_ELEMENTDATA_5) hZ (hw _ (List.mem_of_getElem? (i := 32) rfl)) (hw _ (List.mem_of_getElem? (i := 29) rfl)) (by decide) (by decide)) (g := (mkF m 20 #[.val (.ref b0)] [(.ref b5), (.ref b5), (.ref b0)])) rfl (by rw [hml]; rfl) (Steps.refl _) (a := b5) (argsL := []) (rest := [(.ref b5), (.ref b0)]) (lenOf own_pd0 rfl) rfl (by show 2 * 0 + _ ≤ _; exact Nat.le_of_eq rfl) (hb hby d_own_rmOL_20) (fun _ _ => ⟨rfl, e5, (by decide : 2 + 0 ≤ _), (by decide : 11 + 0 ≤ _)⟩)
  dsimp only [Pt.U, Pt.locs, Pt.cells, Pt.slots] at X6 l6 y6 z6 st6 hQ6
  subst l6 y6 z6
  obtain ⟨rfl, N6q, K6q⟩ := hQ6
  have E_b0_6 := E_b0_5.keep K6q
  have F_b0_partyNames_6 := F_b0_partyNames_5.keep K6q (fun q => ne_b0_b5 (List.mem_singleton.mp q))
  have F_b0_working_6 := F_b0_working_5.keep K6q (fun q => ne_b0_b5 (List.mem_singleton.mp q))
  have F_b0_party_6 := F_b0_party_5.keep K6q (fun q => ne_b0_b5 (List.mem_singleton.mp q))
  have F_b0_canceled_6 := F_b0_canceled_5.keep K6q (fun q => ne_b0_b5 (List.mem_singleton.mp q))
  have F_b0_count_6 := F_b0_count_5.keep K6q (fun q => ne_b0_b5 (List.mem_singleton.mp q))
  have S_DEFAULTCAPACITY_EMPTY_ELEMENTDATA_6 := own_staKeep S_DEFAULTCAPACITY_EMPTY_ELEMENTDATA_5 A5 K6q
  have E_b2_6 := E_b2_5.keep K6q
  have F_b0_partyNumbers_6 := F_b0_partyNumbers_5.keep K6q (fun q => ne_b0_b5 (List.mem_singleton.mp q))
  have E_b5_6 := A5.keep K6q
  have N6 := Fr.app N4 N6q
  have Z6 := Nat.le_trans Z5 K6q.1
  have K6 := K5.trans K6q (fun x hx => by cases List.mem_singleton.mp hx; exact Or.inr sz_b5)
  obtain ⟨T7, h7, X7, e7, W7, st7⟩ := putF X6 hx hZ hown (host := "") (Or.inl (hw _ (List.mem_of_getElem? (i := 51) rfl))) Via.refl rfl F_b0_partyNames_6 E_b0_6 (Or.inr ⟨(hw _ (List.mem_of_getElem? (i := 52) rfl)), rfl, hnm⟩) (hw _ (List.mem_of_getElem? (i := 1) rfl)) (ty := (.object "java/util/List")) (by decide) rfl rfl (g := (mkF m 23 #[.val (.ref b0)] [(.ref b5), (.ref b0)])) rfl rfl (hb hby d_own_rmOL_23)
  have E_b0_7 := E_b0_6.wr W7
  have F_b0_working_7 := F_b0_working_6.other W7 (Or.inr (slot_ne (Or.inl (hw _ (List.mem_of_getElem? (i := 56) rfl))) (Or.inr (hw _ (List.mem_of_getElem? (i := 52) rfl))) (by decide) (t := (.array (.object "com/example/matchgate/matchgate/core/Order"))) (t' := (.object "java/util/List")) (by decide) (by decide)))
  have F_b0_party_7 := F_b0_party_6.other W7 (Or.inr (slot_ne (Or.inl (hw _ (List.mem_of_getElem? (i := 59) rfl))) (Or.inr (hw _ (List.mem_of_getElem? (i := 52) rfl))) (by decide) (t := (.array .int)) (t' := (.object "java/util/List")) (by decide) (by decide)))
  have F_b0_canceled_7 := F_b0_canceled_6.other W7 (Or.inr (slot_ne (Or.inl (hw _ (List.mem_of_getElem? (i := 62) rfl))) (Or.inr (hw _ (List.mem_of_getElem? (i := 52) rfl))) (by decide) (t := (.array .boolean)) (t' := (.object "java/util/List")) (by decide) (by decide)))
  have F_b0_count_7 := F_b0_count_6.other W7 (Or.inr (slot_ne (Or.inl (hw _ (List.mem_of_getElem? (i := 69) rfl))) (Or.inr (hw _ (List.mem_of_getElem? (i := 52) rfl))) (by decide) (t := .int) (t' := (.object "java/util/List")) (by decide) (by decide)))
  have S_DEFAULTCAPACITY_EMPTY_ELEMENTDATA_7 := S_DEFAULTCAPACITY_EMPTY_ELEMENTDATA_6.wr W7
  have E_b2_7 := E_b2_6.wr W7
  have F_b0_partyNumbers_7 := F_b0_partyNumbers_6.other W7 (Or.inr (slot_ne (Or.inr (hw _ (List.mem_of_getElem? (i := 26) rfl))) (Or.inr (hw _ (List.mem_of_getElem? (i := 52) rfl))) (by decide) (t := (.object "java/util/Map")) (t' := (.object "java/util/List")) (by decide) (by decide)))
  have E_b5_7 := E_b5_6.wr W7
  have Z7 := Nat.le_trans Z6 (Keep.of_wr W7).1
  have K7 := K6.wr W7 (Or.inl (List.mem_of_getElem? (i := 0) rfl))
  have N7 := Fr.snoc X7 N6 g_0
  have F_b0_partyNames_7 := F_b0_partyNames_6.same W7
  obtain ⟨T8, h8, k8, X8, e8, E8, A8, O8, st8⟩ := newR X7 hx hZ hown (hw _ (List.mem_of_getElem? (i := 53) rfl)) (hw _ (List.mem_of_getElem? (i := 54) rfl)) e7 (g := (mkF m 30 #[.val (.ref b0)] [(.int (1024 : Int32)), (.ref b0)])) rfl (hb hby d_own_rmOL_30) rfl (by decide) (cap := 1024) (by decide) (by decide) (by decide) (by decide)
  obtain ⟨b8, g8⟩ : ∃ z, z = h7.size := ⟨_, rfl⟩
  rw [← g8] at A8 st8
  have ne_b0_b8 : b0 ≠ b8 := Nat.ne_of_lt (Nat.lt_of_lt_of_le E_b0_7.lt (Nat.le_of_eq g8.symm))
  have ne_b2_b8 : b2 ≠ b8 := Nat.ne_of_lt (Nat.lt_of_lt_of_le E_b2_7.lt (Nat.le_of_eq g8.symm))
  have ne_b5_b8 : b5 ≠ b8 := Nat.ne_of_lt (Nat.lt_of_lt_of_le E_b5_7.lt (Nat.le_of_eq g8.symm))
  have new_b8 : n0 ≤ b8 := Nat.le_trans Z7 (Nat.le_of_eq g8.symm)
  have sz_b8 : h0.size ≤ b8 := Nat.le_trans K7.1 (Nat.le_of_eq g8.symm)
  have E_b0_8 := E_b0_7.ext E8
  have F_b0_working_8 := F_b0_working_7.ext E8
  have F_b0_party_8 := F_b0_party_7.ext E8
  have F_b0_canceled_8 := F_b0_canceled_7.ext E8
  have F_b0_count_8 := F_b0_count_7.ext E8
  have S_DEFAULTCAPACITY_EMPTY_ELEMENTDATA_8 := S_DEFAULTCAPACITY_EMPTY_ELEMENTDATA_7.ext E8
  have E_b2_8 := E_b2_7.ext E8
  have F_b0_partyNumbers_8 := F_b0_partyNumbers_7.ext E8
  have E_b5_8 := E_b5_7.ext E8
  have F_b0_partyNames_8 := F_b0_partyNames_7.ext E8
  have Z8 := Nat.le_trans Z7 E8.1
  have K8 := K7.ext E8
  obtain ⟨T9, h9, X9, e9, W9, st9⟩ := putF X8 hx hZ hown (host := "") (Or.inl (hw _ (List.mem_of_getElem? (i := 55) rfl))) Via.refl e8 F_b0_working_8 E_b0_8 (Or.inl (hw _ (List.mem_of_getElem? (i := 56) rfl))) (hw _ (List.mem_of_getElem? (i := 1) rfl)) (ty := (.array (.object "com/example/matchgate/matchgate/core/Order"))) (by decide) rfl rfl (g := (mkF m 33 #[.val (.ref b0)] [(.ref b8), (.ref b0)])) rfl rfl (hb hby d_own_rmOL_33)
  have E_b0_9 := E_b0_8.wr W9
  have F_b0_party_9 := F_b0_party_8.other W9 (Or.inr (slot_ne (Or.inl (hw _ (List.mem_of_getElem? (i := 59) rfl))) (Or.inl (hw _ (List.mem_of_getElem? (i := 56) rfl))) (by decide) (t := (.array .int)) (t' := (.array (.object "com/example/matchgate/matchgate/core/Order"))) (by decide) (by decide)))
  have F_b0_canceled_9 := F_b0_canceled_8.other W9 (Or.inr (slot_ne (Or.inl (hw _ (List.mem_of_getElem? (i := 62) rfl))) (Or.inl (hw _ (List.mem_of_getElem? (i := 56) rfl))) (by decide) (t := (.array .boolean)) (t' := (.array (.object "com/example/matchgate/matchgate/core/Order"))) (by decide) (by decide)))
  have F_b0_count_9 := F_b0_count_8.other W9 (Or.inr (slot_ne (Or.inl (hw _ (List.mem_of_getElem? (i := 69) rfl))) (Or.inl (hw _ (List.mem_of_getElem? (i := 56) rfl))) (by decide) (t := .int) (t' := (.array (.object "com/example/matchgate/matchgate/core/Order"))) (by decide) (by decide)))
  have S_DEFAULTCAPACITY_EMPTY_ELEMENTDATA_9 := S_DEFAULTCAPACITY_EMPTY_ELEMENTDATA_8.wr W9
  have E_b2_9 := E_b2_8.wr W9
  have F_b0_partyNumbers_9 := F_b0_partyNumbers_8.other W9 (Or.inr (slot_ne (Or.inr (hw _ (List.mem_of_getElem? (i := 26) rfl))) (Or.inl (hw _ (List.mem_of_getElem? (i := 56) rfl))) (by decide) (t := (.object "java/util/Map")) (t' := (.array (.object "com/example/matchgate/matchgate/core/Order"))) (by decide) (by decide)))
  have E_b5_9 := E_b5_8.wr W9
  have F_b0_partyNames_9 := F_b0_partyNames_8.other W9 (Or.inr (slot_ne (Or.inr (hw _ (List.mem_of_getElem? (i := 52) rfl))) (Or.inl (hw _ (List.mem_of_getElem? (i := 56) rfl))) (by decide) (t := (.object "java/util/List")) (t' := (.array (.object "com/example/matchgate/matchgate/core/Order"))) (by decide) (by decide)))
  have Z9 := Nat.le_trans Z8 (Keep.of_wr W9).1
  have K9 := K8.wr W9 (Or.inl (List.mem_of_getElem? (i := 0) rfl))
  have N9 := Fr.snoc X9 N7 g_0
  have F_b0_working_9 := F_b0_working_8.same W9
  obtain ⟨T10, h10, k10, X10, e10, E10, A10, st10⟩ := newP X9 hx hZ (hw _ (List.mem_of_getElem? (i := 57) rfl)) e9 (g := (mkF m 40 #[.val (.ref b0)] [(.int (1024 : Int32)), (.ref b0)])) rfl (hb hby d_own_rmOL_40) rfl (by decide) (cap := 1024) (by decide) (by decide) (by decide) (by decide)
  obtain ⟨b10, g10⟩ : ∃ z, z = h9.size := ⟨_, rfl⟩
  rw [← g10] at A10 st10
  have ne_b0_b10 : b0 ≠ b10 := Nat.ne_of_lt (Nat.lt_of_lt_of_le E_b0_9.lt (Nat.le_of_eq g10.symm))
  have ne_b2_b10 : b2 ≠ b10 := Nat.ne_of_lt (Nat.lt_of_lt_of_le E_b2_9.lt (Nat.le_of_eq g10.symm))
  have ne_b5_b10 : b5 ≠ b10 := Nat.ne_of_lt (Nat.lt_of_lt_of_le E_b5_9.lt (Nat.le_of_eq g10.symm))
  have new_b10 : n0 ≤ b10 := Nat.le_trans Z9 (Nat.le_of_eq g10.symm)
  have sz_b10 : h0.size ≤ b10 := Nat.le_trans K9.1 (Nat.le_of_eq g10.symm)
  have E_b0_10 := E_b0_9.ext E10
  have F_b0_party_10 := F_b0_party_9.ext E10
  have F_b0_canceled_10 := F_b0_canceled_9.ext E10
  have F_b0_count_10 := F_b0_count_9.ext E10
  have S_DEFAULTCAPACITY_EMPTY_ELEMENTDATA_10 := S_DEFAULTCAPACITY_EMPTY_ELEMENTDATA_9.ext E10
  have E_b2_10 := E_b2_9.ext E10
  have F_b0_partyNumbers_10 := F_b0_partyNumbers_9.ext E10
  have E_b5_10 := E_b5_9.ext E10
  have F_b0_partyNames_10 := F_b0_partyNames_9.ext E10
  have F_b0_working_10 := F_b0_working_9.ext E10
  have Z10 := Nat.le_trans Z9 E10.1
  have K10 := K9.ext E10
  obtain ⟨T11, h11, X11, e11, W11, st11⟩ := putF X10 hx hZ hown (host := "") (Or.inl (hw _ (List.mem_of_getElem? (i := 58) rfl))) Via.refl e10 F_b0_party_10 E_b0_10 (Or.inl (hw _ (List.mem_of_getElem? (i := 59) rfl))) (hw _ (List.mem_of_getElem? (i := 1) rfl)) (ty := (.array .int)) (by decide) rfl rfl (g := (mkF m 42 #[.val (.ref b0)] [(.ref b10), (.ref b0)])) rfl rfl (hb hby d_own_rmOL_42)
  have E_b0_11 := E_b0_10.wr W11
  have F_b0_canceled_11 := F_b0_canceled_10.other W11 (Or.inr (slot_ne (Or.inl (hw _ (List.mem_of_getElem? (i := 62) rfl))) (Or.inl (hw _ (List.mem_of_getElem? (i := 59) rfl))) (by decide) (t := (.array .boolean)) (t' := (.array .int)) (by decide) (by decide)))
  have F_b0_count_11 := F_b0_count_10.other W11 (Or.inr (slot_ne (Or.inl (hw _ (List.mem_of_getElem? (i := 69) rfl))) (Or.inl (hw _ (List.mem_of_getElem? (i := 59) rfl))) (by decide) (t := .int) (t' := (.array .int)) (by decide) (by decide)))
  have S_DEFAULTCAPACITY_EMPTY_ELEMENTDATA_11 := S_DEFAULTCAPACITY_EMPTY_ELEMENTDATA_10.wr W11
  have E_b2_11 := E_b2_10.wr W11
  have F_b0_partyNumbers_11 := F_b0_partyNumbers_10.other W11 (Or.inr (slot_ne (Or.inr (hw _ (List.mem_of_getElem? (i := 26) rfl))) (Or.inl (hw _ (List.mem_of_getElem? (i := 59) rfl))) (by decide) (t := (.object "java/util/Map")) (t' := (.array .int)) (by decide) (by decide)))
  have E_b5_11 := E_b5_10.wr W11
  have F_b0_partyNames_11 := F_b0_partyNames_10.other W11 (Or.inr (slot_ne (Or.inr (hw _ (List.mem_of_getElem? (i := 52) rfl))) (Or.inl (hw _ (List.mem_of_getElem? (i := 59) rfl))) (by decide) (t := (.object "java/util/List")) (t' := (.array .int)) (by decide) (by decide)))
  have F_b0_working_11 := F_b0_working_10.other W11 (Or.inr (slot_ne (Or.inl (hw _ (List.mem_of_getElem? (i := 56) rfl))) (Or.inl (hw _ (List.mem_of_getElem? (i := 59) rfl))) (by decide) (t := (.array (.object "com/example/matchgate/matchgate/core/Order"))) (t' := (.array .int)) (by decide) (by decide)))
  have Z11 := Nat.le_trans Z10 (Keep.of_wr W11).1
  have K11 := K10.wr W11 (Or.inl (List.mem_of_getElem? (i := 0) rfl))
  have N11 := Fr.snoc X11 N9 g_0
  have F_b0_party_11 := F_b0_party_10.same W11
  obtain ⟨T12, h12, k12, X12, e12, E12, A12, st12⟩ := newP X11 hx hZ (hw _ (List.mem_of_getElem? (i := 60) rfl)) e11 (g := (mkF m 49 #[.val (.ref b0)] [(.int (1024 : Int32)), (.ref b0)])) rfl (hb hby d_own_rmOL_49) rfl (by decide) (cap := 1024) (by decide) (by decide) (by decide) (by decide)
  obtain ⟨b12, g12⟩ : ∃ z, z = h11.size := ⟨_, rfl⟩
  rw [← g12] at A12 st12
  have ne_b0_b12 : b0 ≠ b12 := Nat.ne_of_lt (Nat.lt_of_lt_of_le E_b0_11.lt (Nat.le_of_eq g12.symm))
  have ne_b2_b12 : b2 ≠ b12 := Nat.ne_of_lt (Nat.lt_of_lt_of_le E_b2_11.lt (Nat.le_of_eq g12.symm))
  have ne_b5_b12 : b5 ≠ b12 := Nat.ne_of_lt (Nat.lt_of_lt_of_le E_b5_11.lt (Nat.le_of_eq g12.symm))
  have new_b12 : n0 ≤ b12 := Nat.le_trans Z11 (Nat.le_of_eq g12.symm)
  have sz_b12 : h0.size ≤ b12 := Nat.le_trans K11.1 (Nat.le_of_eq g12.symm)
  have E_b0_12 := E_b0_11.ext E12
  have F_b0_canceled_12 := F_b0_canceled_11.ext E12
  have F_b0_count_12 := F_b0_count_11.ext E12
  have S_DEFAULTCAPACITY_EMPTY_ELEMENTDATA_12 := S_DEFAULTCAPACITY_EMPTY_ELEMENTDATA_11.ext E12
  have E_b2_12 := E_b2_11.ext E12
  have F_b0_partyNumbers_12 := F_b0_partyNumbers_11.ext E12
  have E_b5_12 := E_b5_11.ext E12
  have F_b0_partyNames_12 := F_b0_partyNames_11.ext E12
  have F_b0_working_12 := F_b0_working_11.ext E12
  have F_b0_party_12 := F_b0_party_11.ext E12
  have Z12 := Nat.le_trans Z11 E12.1
  have K12 := K11.ext E12
  obtain ⟨T13, h13, X13, e13, W13, st13⟩ := putF X12 hx hZ hown (host := "") (Or.inl (hw _ (List.mem_of_getElem? (i := 61) rfl))) Via.refl e12 F_b0_canceled_12 E_b0_12 (Or.inl (hw _ (List.mem_of_getElem? (i := 62) rfl))) (hw _ (List.mem_of_getElem? (i := 1) rfl)) (ty := (.array .boolean)) (by decide) rfl rfl (g := (mkF m 51 #[.val (.ref b0)] [(.ref b12), (.ref b0)])) rfl rfl (hb hby d_own_rmOL_51)
  have E_b0_13 := E_b0_12.wr W13
  have F_b0_count_13 := F_b0_count_12.other W13 (Or.inr (slot_ne (Or.inl (hw _ (List.mem_of_getElem? (i := 69) rfl))) (Or.inl (hw _ (List.mem_of_getElem? (i := 62) rfl))) (by decide) (t := .int) (t' := (.array .boolean)) (by decide) (by decide)))
  have S_DEFAULTCAPACITY_EMPTY_ELEMENTDATA_13 := S_DEFAULTCAPACITY_EMPTY_ELEMENTDATA_12.wr W13
  have E_b2_13 := E_b2_12.wr W13
  have F_b0_partyNumbers_13 := F_b0_partyNumbers_12.other W13 (Or.inr (slot_ne (Or.inr (hw _ (List.mem_of_getElem? (i := 26) rfl))) (Or.inl (hw _ (List.mem_of_getElem? (i := 62) rfl))) (by decide) (t := (.object "java/util/Map")) (t' := (.array .boolean)) (by decide) (by decide)))
  have E_b5_13 := E_b5_12.wr W13
  have F_b0_partyNames_13 := F_b0_partyNames_12.other W13 (Or.inr (slot_ne (Or.inr (hw _ (List.mem_of_getElem? (i := 52) rfl))) (Or.inl (hw _ (List.mem_of_getElem? (i := 62) rfl))) (by decide) (t := (.object "java/util/List")) (t' := (.array .boolean)) (by decide) (by decide)))
  have F_b0_working_13 := F_b0_working_12.other W13 (Or.inr (slot_ne (Or.inl (hw _ (List.mem_of_getElem? (i := 56) rfl))) (Or.inl (hw _ (List.mem_of_getElem? (i := 62) rfl))) (by decide) (t := (.array (.object "com/example/matchgate/matchgate/core/Order"))) (t' := (.array .boolean)) (by decide) (by decide)))
  have F_b0_party_13 := F_b0_party_12.other W13 (Or.inr (slot_ne (Or.inl (hw _ (List.mem_of_getElem? (i := 59) rfl))) (Or.inl (hw _ (List.mem_of_getElem? (i := 62) rfl))) (by decide) (t := (.array .int)) (t' := (.array .boolean)) (by decide) (by decide)))
  have Z13 := Nat.le_trans Z12 (Keep.of_wr W13).1
  have K13 := K12.wr W13 (Or.inl (List.mem_of_getElem? (i := 0) rfl))
  have N13 := Fr.snoc X13 N11 g_0
  have F_b0_canceled_13 := F_b0_canceled_12.same W13
  obtain ⟨fs, hr, hrun, hended, hW, hsame⟩ := X13.leave (v := none) (fun _ => rfl)
  refine ⟨_, _, ?_, hrun, hended, _, _, rfl, ?_, ⟨_, rfl⟩, hW, hsame.mono (by decide) (by decide)⟩
  · show Steps p.tables e below (s₁.setTop (mkF m 0 #[.val (.ref b0)] [])) _
    refine XS.aloadN X0.here hx rfl (hb hby d_own_rmOL_0) rfl rfl ?_
    show Steps p.tables e below (s₁.setTop (mkF m 1 #[.val (.ref b0)] [(.ref b0)])) _
    refine st1 _ ?_
    show Steps p.tables e below (T1.setTop (mkF m 4 #[.val (.ref b0)] [])) _
    refine XS.aloadN X1.here hx rfl (hb hby d_own_rmOL_4) rfl rfl ?_
    show Steps p.tables e below (T1.setTop (mkF m 5 #[.val (.ref b0)] [(.ref b0)])) _
    refine st2 _ ?_
    show Steps p.tables e below (T2.setTop (mkF m 8 #[.val (.ref b0)] [(.ref b2), (.ref b0)])) _
    refine XS.dup X2.here hx rfl (hb hby d_own_rmOL_8) rfl rfl ?_
    show Steps p.tables e below (T2.setTop (mkF m 9 #[.val (.ref b0)] [(.ref b2), (.ref b2), (.ref b0)])) _
    refine st3.trans ?_
    show Steps p.tables e below (T3.setTop (mkF m 12 #[.val (.ref b0)] [(.ref b2), (.ref b0)])) _
    refine st4 _ ?_
    show Steps p.tables e below (T4.setTop (mkF m 15 #[.val (.ref b0)] [])) _
    refine XS.aloadN X4.here hx rfl (hb hby d_own_rmOL_15) rfl rfl ?_
    show Steps p.tables e below (T4.setTop (mkF m 16 #[.val (.ref b0)] [(.ref b0)])) _
    refine st5 _ ?_
    show Steps p.tables e below (T5.setTop (mkF m 19 #[.val (.ref b0)] [(.ref b5), (.ref b0)])) _
    refine XS.dup X5.here hx rfl (hb hby d_own_rmOL_19) rfl rfl ?_
    show Steps p.tables e below (T5.setTop (mkF m 20 #[.val (.ref b0)] [(.ref b5), (.ref b5), (.ref b0)])) _
    refine st6.trans ?_
    show Steps p.tables e below (T6.setTop (mkF m 23 #[.val (.ref b0)] [(.ref b5), (.ref b0)])) _
    refine st7 _ ?_
    show Steps p.tables e below (T7.setTop (mkF m 26 #[.val (.ref b0)] [])) _
    refine XS.aloadN X7.here hx rfl (hb hby d_own_rmOL_26) rfl rfl ?_
    show Steps p.tables e below (T7.setTop (mkF m 27 #[.val (.ref b0)] [(.ref b0)])) _
    refine XS.sipush X7.here hx rfl (hb hby d_own_rmOL_27) ?_
    show Steps p.tables e below (T7.setTop (mkF m 30 #[.val (.ref b0)] [(.int (1024 : Int32)), (.ref b0)])) _
    refine st8 _ ?_
    show Steps p.tables e below (T8.setTop (mkF m 33 #[.val (.ref b0)] [(.ref b8), (.ref b0)])) _
    refine st9 _ ?_
    show Steps p.tables e below (T9.setTop (mkF m 36 #[.val (.ref b0)] [])) _
    refine XS.aloadN X9.here hx rfl (hb hby d_own_rmOL_36) rfl rfl ?_
    show Steps p.tables e below (T9.setTop (mkF m 37 #[.val (.ref b0)] [(.ref b0)])) _
    refine XS.sipush X9.here hx rfl (hb hby d_own_rmOL_37) ?_
    show Steps p.tables e below (T9.setTop (mkF m 40 #[.val (.ref b0)] [(.int (1024 : Int32)), (.ref b0)])) _
    refine st10 _ ?_
    show Steps p.tables e below (T10.setTop (mkF m 42 #[.val (.ref b0)] [(.ref b10), (.ref b0)])) _
    refine st11 _ ?_
    show Steps p.tables e below (T11.setTop (mkF m 45 #[.val (.ref b0)] [])) _
    refine XS.aloadN X11.here hx rfl (hb hby d_own_rmOL_45) rfl rfl ?_
    show Steps p.tables e below (T11.setTop (mkF m 46 #[.val (.ref b0)] [(.ref b0)])) _
    refine XS.sipush X11.here hx rfl (hb hby d_own_rmOL_46) ?_
    show Steps p.tables e below (T11.setTop (mkF m 49 #[.val (.ref b0)] [(.int (1024 : Int32)), (.ref b0)])) _
    refine st12 _ ?_
    show Steps p.tables e below (T12.setTop (mkF m 51 #[.val (.ref b0)] [(.ref b12), (.ref b0)])) _
    refine st13 _ ?_
    show Steps p.tables e below (T13.setTop (mkF m 54 #[.val (.ref b0)] [])) _
    exact X13.returnOut hx Bd.returns (hb hby d_own_rmOL_54) hr
  · show own_QO Z b0 h0 n0 _ T13.heap _
    rw [e13]
    exact ⟨rfl, N13, K13, F_b0_count_13⟩
theorem d_own_rmC_0 : decode prog_32_method_3_code 0 = .ok (.lload_n 1, 1) := by decide +kernel
theorem d_own_rmC_1 : decode prog_32_method_3_code 1 = .ok (.lconst 1, 1) := by decide +kernel
theorem d_own_rmC_2 : decode prog_32_method_3_code 2 = .ok (.lcmp, 1) := by decide +kernel
theorem d_own_rmC_3 : decode prog_32_method_3_code 3 = .ok (.ifCond .lt 17, 3) := by decide +kernel
theorem d_own_rmC_6 : decode prog_32_method_3_code 6 = .ok (.lload_n 1, 1) := by decide +kernel
theorem d_own_rmC_7 : decode prog_32_method_3_code 7 = .ok (.aload_n 0, 1) := by decide +kernel
theorem d_own_rmC_8 : decode prog_32_method_3_code 8 = .ok (.getfield 41, 3) := by decide +kernel
theorem d_own_rmC_11 : decode prog_32_method_3_code 11 = .ok (.i2l, 1) := by decide +kernel
theorem d_own_rmC_12 : decode prog_32_method_3_code 12 = .ok (.lcmp, 1) := by decide +kernel
theorem d_own_rmC_13 : decode prog_32_method_3_code 13 = .ok (.ifCond .gt 7, 3) := by decide +kernel
theorem d_own_rmC_20 : decode prog_32_method_3_code 20 = .ok (.iconst 0, 1) := by decide +kernel
theorem d_own_rmC_21 : decode prog_32_method_3_code 21 = .ok (.ireturn, 1) := by decide +kernel
theorem ef_own_rmC (m : MethodId) (x0 : Addr) (x1 : Int64) : entryFrame m #[(.ref x0), (.long x1)] 3 = mkF m 0 #[.val (.ref x0), .val (.long x1), .second] [] := by first | (simp [entryFrame, mkF, argsToLocals, Value.category]; done) | rfl
set_option maxRecDepth 65536 in
set_option maxHeartbeats 40000000 in
theorem own_rmC (l : Launch) (Z : State) (a0 : Array Value) (hw : ∀ d ∈ tables_1, d.before a0 Z = true) (ws : List Jvm.Cond) (b0 : Addr) (q1 : Int64)  (h0 : Heap) (n0 : Nat) (Z0 : n0 ≤ h0.size) (F_c : Fld Z h0 b0 "com/example/matchgate/matchgate/core/OrderLedger" "count" "I" (.int (0 : Int32))) :
    MetFree l (⟨"com/example/matchgate/matchgate/core/OrderLedger", "accepted", "(J)Z"⟩ : MethodName) (head1 (Jvm.Cond.code (⟨"com/example/matchgate/matchgate/core/OrderLedger", "accepted", "(J)Z"⟩ : MethodName) prog_32_method_3_code 3 (some .boolean) :: ws) ({ frames := 0, cells := 0, slots := 0, locals := 0 } : Room)) (fun a U => a = #[(.ref b0), (.long q1)] ∧ Z.Warmed39 U.vm ∧ U.heap = h0) (fun _ _ _ _ _ => True) (fun _ U o U' => ∃ v L, o = .returned v ∧ own_QC h0 n0 v U'.heap L ∧ FrameEnd U o U' L ({ frames := 0, cells := 0, slots := 0, locals := 0 } : Room).cells ({ frames := 0, cells := 0, slots := 0, locals := 0 } : Room).slots) := by
  refine MetFree.of_bodySF (plainFor_of_name own_pn5) hisR ?_
  intro p e s m args below meth c s₁ Bd hml0 hP hK
  obtain ⟨rfl, hZ, hh⟩ := hP
  have hx := Bd.exec
  have hby := Bd.bytes
  have hml : c.maxLocals = 3 := hml0
  have hown : s.vm.findClass "com/example/matchgate/matchgate/core/OrderLedger" = some m.cls := findClass_of_methodNamed Bd.named
  have hnm := (name_of_methodNamed Bd.named Bd.method).1
  have X0 : Stand p l e ({ frames := 0, cells := 0, slots := 0, locals := 0 } : Room) s m #[(.ref b0), (.long q1)] below meth c s₁ [] 0 0 := Stand.of_body Bd
  have e0 : s₁.heap = h0 := by rw [← hh, Bd.state]; rfl
  have N0 := Fr.nil n0
  refine own_go (b := s₁.setTop (mkF m 0 #[.val (.ref b0), .val (.long q1), .second] [])) (fun t k => castTop (ef_own_rmC m b0 q1) k) ?_
  refine own_go (b := s₁.setTop (mkF m 3 #[.val (.ref b0), .val (.long q1), .second] [(.int (lcmpW q1 (1 : Int64)))])) (fun t k => ?_) ?_
  · show Steps p.tables e below (s₁.setTop (mkF m 0 #[.val (.ref b0), .val (.long q1), .second] [])) _
    refine XS.lloadN X0.here hx rfl (hb hby d_own_rmC_0) rfl ?_
    show Steps p.tables e below (s₁.setTop (mkF m 1 #[.val (.ref b0), .val (.long q1), .second] [(.long q1)])) _
    refine XS.lconst X0.here hx rfl (hb hby d_own_rmC_1) ?_
    show Steps p.tables e below (s₁.setTop (mkF m 2 #[.val (.ref b0), .val (.long q1), .second] [(.long (1 : Int64)), (.long q1)])) _
    refine XS.lcmp X0.here hx rfl (hb hby d_own_rmC_2) rfl ?_
    show Steps p.tables e below (s₁.setTop (mkF m 3 #[.val (.ref b0), .val (.long q1), .second] [(.int (lcmpW q1 (1 : Int64)))])) t
    exact k
  by_cases hc3_1 : q1 < (1 : Int64)
  · obtain ⟨fs, hr, hrun, hended, hW, hsame⟩ := X0.leave (v := some (.int (0 : Int32))) (fun h => by rw [Bd.returns] at h; cases h)
    refine ⟨_, _, ?_, hrun, hended, _, _, rfl, ?_, ⟨_, rfl⟩, hW, hsame.mono (by decide) (by decide)⟩
    · show Steps p.tables e below (s₁.setTop (mkF m 3 #[.val (.ref b0), .val (.long q1), .second] [(.int (lcmpW q1 (1 : Int64)))])) _
      refine XS.ifYes X0.here hx rfl (pc0 := 3) (pc' := 20) rfl (hb hby d_own_rmC_3) rfl ((if0 _ _).trans (tlt ((lw_lt _ _).mpr hc3_1)).1) (by decide) (by decide) ?_
      show Steps p.tables e below (s₁.setTop (mkF m 20 #[.val (.ref b0), .val (.long q1), .second] [])) _
      refine XS.iconst X0.here hx rfl (hb hby d_own_rmC_20) ?_
      show Steps p.tables e below (s₁.setTop (mkF m 21 #[.val (.ref b0), .val (.long q1), .second] [(.int (0 : Int32))])) _
      exact retN X0 hx (t := .boolean) Bd.returns (by simp) (hb hby d_own_rmC_21) hr
    · show own_QC h0 n0 _ s₁.heap _
      rw [e0]
      exact ⟨rfl, N0, rfl⟩
  · obtain ⟨T2, X2, e2, st2⟩ := getF X0 hx hZ hown (host := "") (Or.inl (hw _ (List.mem_of_getElem? (i := 68) rfl))) Via.refl e0 F_c (g := (mkF m 8 #[.val (.ref b0), .val (.long q1), .second] [(.ref b0), (.long q1)])) rfl rfl (hb hby d_own_rmC_8)
    obtain ⟨fs, hr, hrun, hended, hW, hsame⟩ := X2.leave (v := some (.int (0 : Int32))) (fun h => by rw [Bd.returns] at h; cases h)
    refine ⟨_, _, ?_, hrun, hended, _, _, rfl, ?_, ⟨_, rfl⟩, hW, hsame.mono (by decide) (by decide)⟩
    · show Steps p.tables e below (s₁.setTop (mkF m 3 #[.val (.ref b0), .val (.long q1), .second] [(.int (lcmpW q1 (1 : Int64)))])) _
      refine XS.ifNo X0.here hx rfl (hb hby d_own_rmC_3) rfl ((if0 _ _).trans (flt (mt (lw_lt _ _).mp hc3_1)).1) ?_
      show Steps p.tables e below (s₁.setTop (mkF m 6 #[.val (.ref b0), .val (.long q1), .second] [])) _
      refine XS.lloadN X0.here hx rfl (hb hby d_own_rmC_6) rfl ?_
      show Steps p.tables e below (s₁.setTop (mkF m 7 #[.val (.ref b0), .val (.long q1), .second] [(.long q1)])) _
      refine XS.aloadN X0.here hx rfl (hb hby d_own_rmC_7) rfl rfl ?_
      show Steps p.tables e below (s₁.setTop (mkF m 8 #[.val (.ref b0), .val (.long q1), .second] [(.ref b0), (.long q1)])) _
      refine st2 _ ?_
      show Steps p.tables e below (T2.setTop (mkF m 11 #[.val (.ref b0), .val (.long q1), .second] [(.int (0 : Int32)), (.long q1)])) _
      refine XS.i2l X2.here hx rfl (hb hby d_own_rmC_11) rfl ?_
      show Steps p.tables e below (T2.setTop (mkF m 12 #[.val (.ref b0), .val (.long q1), .second] [(.long ((0 : Int32).toInt64)), (.long q1)])) _
      refine XS.lcmp X2.here hx rfl (hb hby d_own_rmC_12) rfl ?_
      show Steps p.tables e below (T2.setTop (mkF m 13 #[.val (.ref b0), .val (.long q1), .second] [(.int (lcmpW q1 ((0 : Int32).toInt64)))])) _
      refine XS.ifYes X2.here hx rfl (pc0 := 13) (pc' := 20) rfl (hb hby d_own_rmC_13) rfl ((if0 _ _).trans (tlt ((lw_gt _ _).mpr (own_gt hc3_1 : ((0 : Int32).toInt64) < q1))).2.2.1) (by decide) (by decide) ?_
      show Steps p.tables e below (T2.setTop (mkF m 20 #[.val (.ref b0), .val (.long q1), .second] [])) _
      refine XS.iconst X2.here hx rfl (hb hby d_own_rmC_20) ?_
      show Steps p.tables e below (T2.setTop (mkF m 21 #[.val (.ref b0), .val (.long q1), .second] [(.int (0 : Int32))])) _
      exact retN X2 hx (t := .boolean) Bd.returns (by simp) (hb hby d_own_rmC_21) hr
    · show own_QC h0 n0 _ T2.heap _
      rw [e2]
      exact ⟨rfl, N0, rfl⟩
def own_Q0 (n0 : Nat) (v : Option Value) (h : Heap) (L : List Loc) : Prop := v = some (.int (1 : Int32)) ∧ Fr n0 L
theorem ef_own_rm0 (m : MethodId) (x0 : Int64) (x1 : Int64) : entryFrame m #[(.long x0), (.long x1)] maxLocals = mkF m 0 #[.val (.long x0), .second, .val (.long x1), .second, .unset, .unset, .unset, .unset] [] := by first | (simp [entryFrame, mkF, argsToLocals, Value.category, maxLocals]; done) | rfl
set_option maxRecDepth 65536 in
set_option maxHeartbeats 40000000 in
theorem own_rm0 (l : Launch) (Z : State) (a0 : Array Value) (hw : ∀ d ∈ tables_1, d.before a0 Z = true) (ws : List Jvm.Cond) (q0 : Int64) (q1 : Int64) (dE : Addr) (h0 : Heap) (n0 : Nat) (Z0 : n0 ≤ h0.size) (S_D : Sta Z h0 "java/util/ArrayList" "DEFAULTCAPACITY_EMPTY_ELEMENTDATA" "[Ljava/lang/Object;" (.ref dE)) :
    MetFree l x (head1 (Jvm.Cond.code x code maxLocals ret :: ws) room_1) (fun a U => a = #[(.long q0), (.long q1)] ∧ Z.Warmed39 U.vm ∧ U.heap = h0) (fun _ _ _ _ _ => True) (fun _ U o U' => ∃ v L, o = .returned v ∧ own_Q0 n0 v U'.heap L ∧ FrameEnd U o U' L room_1.cells room_1.slots) := by
  refine MetFree.of_bodySF (plainFor_of_name own_pn6) hisR ?_
  intro p e s m args below meth c s₁ Bd hml0 hP hK
  obtain ⟨rfl, hZ, hh⟩ := hP
  have hx := Bd.exec
  have hby := Bd.bytes
  have hml : c.maxLocals = 8 := hml0
  have hown : s.vm.findClass "com/example/matchgate/matchgate/core/OrderLedgerAcceptedPinLaw" = some m.cls := findClass_of_methodNamed Bd.named
  have hnm := (name_of_methodNamed Bd.named Bd.method).1
  have X0 : Stand p l e room_1 s m #[(.long q0), (.long q1)] below meth c s₁ [] 0 0 := Stand.of_body Bd
  have e0 : s₁.heap = h0 := by rw [← hh, Bd.state]; rfl
  have N0 := Fr.nil n0
  refine own_go (b := s₁.setTop (mkF m 0 #[.val (.long q0), .second, .val (.long q1), .second, .unset, .unset, .unset, .unset] [])) (fun t k => castTop (ef_own_rm0 m q0 q1) k) ?_
  obtain ⟨T1, h1, X1, e1, E1, A1, D1, -, st1⟩ := newO X0 hx hZ hown (hw _ (List.mem_of_getElem? (i := 0) rfl)) (hw _ (List.mem_of_getElem? (i := 1) rfl)) (hw _ (List.mem_of_getElem? (i := 2) rfl)) e0 (g := (mkF m 0 #[.val (.long q0), .second, .val (.long q1), .second, .unset, .unset, .unset, .unset] [])) rfl (hb hby at_0) (by decide) (by decide)
  obtain ⟨b1, g1⟩ : ∃ z, z = h0.size := ⟨_, rfl⟩
  rw [← g1] at A1 D1 st1
  have new_b1 : n0 ≤ b1 := Nat.le_trans Z0 (Nat.le_of_eq g1.symm)
  have sz_b1 : h0.size ≤ b1 := Nat.le_trans (Keep.refl h0 []).1 (Nat.le_of_eq g1.symm)
  have S_DEFAULTCAPACITY_EMPTY_ELEMENTDATA_1 := S_D.ext E1
  have Z1 := Nat.le_trans Z0 E1.1
  have K1 := (Keep.refl h0 []).ext E1
  have F_b1_partyNumbers_1 : Fld Z h1 b1 "com/example/matchgate/matchgate/core/OrderLedger" "partyNumbers" "Ljava/util/Map;" .null := D1 (Or.inr (hw _ (List.mem_of_getElem? (i := 26) rfl))) (ty := (.object "java/util/Map")) (by decide)
  have F_b1_partyNames_1 : Fld Z h1 b1 "com/example/matchgate/matchgate/core/OrderLedger" "partyNames" "Ljava/util/List;" .null := D1 (Or.inr (hw _ (List.mem_of_getElem? (i := 52) rfl))) (ty := (.object "java/util/List")) (by decide)
  have F_b1_working_1 : Fld Z h1 b1 "com/example/matchgate/matchgate/core/OrderLedger" "working" "[Lcom/example/matchgate/matchgate/core/Order;" .null := D1 (Or.inl (hw _ (List.mem_of_getElem? (i := 56) rfl))) (ty := (.array (.object "com/example/matchgate/matchgate/core/Order"))) (by decide)
  have F_b1_party_1 : Fld Z h1 b1 "com/example/matchgate/matchgate/core/OrderLedger" "party" "[I" .null := D1 (Or.inl (hw _ (List.mem_of_getElem? (i := 59) rfl))) (ty := (.array .int)) (by decide)
  have F_b1_canceled_1 : Fld Z h1 b1 "com/example/matchgate/matchgate/core/OrderLedger" "canceled" "[Z" .null := D1 (Or.inl (hw _ (List.mem_of_getElem? (i := 62) rfl))) (ty := (.array .boolean)) (by decide)
  have F_b1_count_1 : Fld Z h1 b1 "com/example/matchgate/matchgate/core/OrderLedger" "count" "I" (.int (0 : Int32)) := D1 (Or.inl (hw _ (List.mem_of_getElem? (i := 69) rfl))) (ty := .int) (by decide)
  obtain ⟨_, _, ⟨T2, L2, k2, n2⟩, -, X2, ⟨Lc2, hQ2, l2, y2, z2⟩, st2⟩ := X1.specialBack hx (y := (⟨"com/example/matchgate/matchgate/core/OrderLedger", "<init>", "()V"⟩ : MethodName)) rfl hown (mvT hZ (hw _ (List.mem_of_getElem? (i := 3) rfl))) (mvT hZ (hw _ (List.mem_of_getElem? (i := 4) rfl))) (mvT hZ (hw _ (List.mem_of_getElem? (i := 5) rfl))) (by decide) (backOf (W := 1) (own_rmOL l Z a0 hw [] b1 dE h1 n0 Z1 A1 F_b1_partyNumbers_1 F_b1_partyNames_1 F_b1_working_1 F_b1_party_1 F_b1_canceled_1 F_b1_count_1 new_b1 S_DEFAULTCAPACITY_EMPTY_ELEMENTDATA_1) hZ (hw _ (List.mem_of_getElem? (i := 5) rfl)) (hw _ (List.mem_of_getElem? (i := 2) rfl)) (by decide) (by decide)) (g := (mkF m 4 #[.val (.long q0), .second, .val (.long q1), .second, .unset, .unset, .unset, .unset] [(.ref b1), (.ref b1)])) rfl (by rw [hml]; rfl) (Steps.refl _) (a := b1) (argsL := []) (rest := [(.ref b1)]) (lenOf own_pd0 rfl) rfl (by show 2 * 0 + _ ≤ _; exact Nat.le_of_eq rfl) (hb hby at_4) (fun _ _ => ⟨rfl, e1, (by decide : 1 + 5 ≤ _), (by decide : 6 + 3083 ≤ _)⟩)
  dsimp only [Pt.U, Pt.locs, Pt.cells, Pt.slots] at X2 l2 y2 z2 st2 hQ2
  subst l2 y2 z2
  obtain ⟨rfl, N2q, K2q, B2_0⟩ := hQ2
  have S_DEFAULTCAPACITY_EMPTY_ELEMENTDATA_2 := own_staKeep S_DEFAULTCAPACITY_EMPTY_ELEMENTDATA_1 A1 K2q
  have E_b1_2 := A1.keep K2q
  have N2 := Fr.app N0 N2q
  have Z2 := Nat.le_trans Z1 K2q.1
  have K2 := K1.trans K2q (fun x hx => by cases List.mem_singleton.mp hx; exact Or.inr sz_b1)
  obtain ⟨cq3, kq3, q3a, q3b, q3c⟩ := isOf hZ rfl E_b1_2
  obtain ⟨_, _, ⟨T3, L3, k3, n3⟩, -, X3, ⟨Lc3, hQ3, l3, y3, z3⟩, st3⟩ := X2.virtualBack hx (y := (⟨"com/example/matchgate/matchgate/core/OrderLedger", "accepted", "(J)Z"⟩ : MethodName)) (z := (⟨"com/example/matchgate/matchgate/core/OrderLedger", "accepted", "(J)Z"⟩ : MethodName)) hown (mvT hZ (hw _ (List.mem_of_getElem? (i := 63) rfl))) (mvT hZ (hw _ (List.mem_of_getElem? (i := 64) rfl))) (notFace_of_selects (args := #[]) (mvT hZ (hw _ (List.mem_of_getElem? (i := 66) rfl)))) (mvT hZ (hw _ (List.mem_of_getElem? (i := 66) rfl))) (mvT hZ (hw _ (List.mem_of_getElem? (i := 65) rfl))) (by decide) (backOf (W := 0) (own_rmC l Z a0 hw [] b1 q0  T2.heap n0 Z2 B2_0) hZ (hw _ (List.mem_of_getElem? (i := 67) rfl)) (hw _ (List.mem_of_getElem? (i := 2) rfl)) (by decide) (by decide)) q3a q3c (g := (mkF m 12 #[.val (.long q0), .second, .val (.long q1), .second, .val (.ref b1), .unset, .unset, .unset] [(.long q0), (.ref b1)])) rfl (by rw [hml]; rfl) (Steps.refl _) (argsL := [(.long q0)]) (rest := []) (lenOf own_pd1 rfl) rfl (by show 2 * 0 + _ ≤ _; exact Nat.le_of_eq rfl) (hb hby at_12) (fun _ _ => ⟨rfl, rfl, (by decide : 6 + 0 ≤ _), (by decide : 3089 + 0 ≤ _)⟩)
  dsimp only [Pt.U, Pt.locs, Pt.cells, Pt.slots] at X3 l3 y3 z3 st3 hQ3
  subst l3 y3 z3
  obtain ⟨rfl, N3q, e3⟩ := hQ3
  have N3 := Fr.app N2 N3q
  obtain ⟨cq4, kq4, q4a, q4b, q4c⟩ := isOf hZ e3 E_b1_2
  obtain ⟨_, _, ⟨T4, L4, k4, n4⟩, -, X4, ⟨Lc4, hQ4, l4, y4, z4⟩, st4⟩ := X3.virtualBack hx (y := (⟨"com/example/matchgate/matchgate/core/OrderLedger", "accepted", "(J)Z"⟩ : MethodName)) (z := (⟨"com/example/matchgate/matchgate/core/OrderLedger", "accepted", "(J)Z"⟩ : MethodName)) hown (mvT hZ (hw _ (List.mem_of_getElem? (i := 63) rfl))) (mvT hZ (hw _ (List.mem_of_getElem? (i := 64) rfl))) (notFace_of_selects (args := #[]) (mvT hZ (hw _ (List.mem_of_getElem? (i := 66) rfl)))) (mvT hZ (hw _ (List.mem_of_getElem? (i := 66) rfl))) (mvT hZ (hw _ (List.mem_of_getElem? (i := 65) rfl))) (by decide) (backOf (W := 0) (own_rmC l Z a0 hw [] b1 q1  T2.heap n0 Z2 B2_0) hZ (hw _ (List.mem_of_getElem? (i := 67) rfl)) (hw _ (List.mem_of_getElem? (i := 2) rfl)) (by decide) (by decide)) q4a q4c (g := (mkF m 20 #[.val (.long q0), .second, .val (.long q1), .second, .val (.ref b1), .val (.int (0 : Int32)), .unset, .unset] [(.long q1), (.ref b1)])) rfl (by rw [hml]; rfl) (Steps.refl _) (argsL := [(.long q1)]) (rest := []) (lenOf own_pd1 rfl) rfl (by show 2 * 0 + _ ≤ _; exact Nat.le_of_eq rfl) (hb hby at_20) (fun _ _ => ⟨rfl, e3, (by decide : 6 + 0 ≤ _), (by decide : 3089 + 0 ≤ _)⟩)
  dsimp only [Pt.U, Pt.locs, Pt.cells, Pt.slots] at X4 l4 y4 z4 st4 hQ4
  subst l4 y4 z4
  obtain ⟨rfl, N4q, e4⟩ := hQ4
  have N4 := Fr.app N3 N4q
  obtain ⟨cq5, kq5, q5a, q5b, q5c⟩ := isOf hZ e4 E_b1_2
  obtain ⟨_, _, ⟨T5, L5, k5, n5⟩, -, X5, ⟨Lc5, hQ5, l5, y5, z5⟩, st5⟩ := X4.virtualBack hx (y := (⟨"com/example/matchgate/matchgate/core/OrderLedger", "accepted", "(J)Z"⟩ : MethodName)) (z := (⟨"com/example/matchgate/matchgate/core/OrderLedger", "accepted", "(J)Z"⟩ : MethodName)) hown (mvT hZ (hw _ (List.mem_of_getElem? (i := 63) rfl))) (mvT hZ (hw _ (List.mem_of_getElem? (i := 64) rfl))) (notFace_of_selects (args := #[]) (mvT hZ (hw _ (List.mem_of_getElem? (i := 66) rfl)))) (mvT hZ (hw _ (List.mem_of_getElem? (i := 66) rfl))) (mvT hZ (hw _ (List.mem_of_getElem? (i := 65) rfl))) (by decide) (backOf (W := 0) (own_rmC l Z a0 hw [] b1 q0  T2.heap n0 Z2 B2_0) hZ (hw _ (List.mem_of_getElem? (i := 67) rfl)) (hw _ (List.mem_of_getElem? (i := 2) rfl)) (by decide) (by decide)) q5a q5c (g := (mkF m 28 #[.val (.long q0), .second, .val (.long q1), .second, .val (.ref b1), .val (.int (0 : Int32)), .val (.int (0 : Int32)), .unset] [(.long q0), (.ref b1)])) rfl (by rw [hml]; rfl) (Steps.refl _) (argsL := [(.long q0)]) (rest := []) (lenOf own_pd1 rfl) rfl (by show 2 * 0 + _ ≤ _; exact Nat.le_of_eq rfl) (hb hby at_28) (fun _ _ => ⟨rfl, e4, (by decide : 6 + 0 ≤ _), (by decide : 3089 + 0 ≤ _)⟩)
  dsimp only [Pt.U, Pt.locs, Pt.cells, Pt.slots] at X5 l5 y5 z5 st5 hQ5
  subst l5 y5 z5
  obtain ⟨rfl, N5q, e5⟩ := hQ5
  have N5 := Fr.app N4 N5q
  obtain ⟨fs, hr, hrun, hended, hW, hsame⟩ := X5.leave (v := some (.int (1 : Int32))) (fun h => by rw [Bd.returns] at h; cases h)
  refine ⟨_, _, ?_, hrun, hended, _, _, rfl, ?_, ⟨_, rfl⟩, hW, hsame.mono (by decide) (by decide)⟩
  · show Steps p.tables e below (s₁.setTop (mkF m 0 #[.val (.long q0), .second, .val (.long q1), .second, .unset, .unset, .unset, .unset] [])) _
    refine st1 _ ?_
    show Steps p.tables e below (T1.setTop (mkF m 3 #[.val (.long q0), .second, .val (.long q1), .second, .unset, .unset, .unset, .unset] [(.ref b1)])) _
    refine XS.dup X1.here hx rfl (hb hby at_3) rfl rfl ?_
    show Steps p.tables e below (T1.setTop (mkF m 4 #[.val (.long q0), .second, .val (.long q1), .second, .unset, .unset, .unset, .unset] [(.ref b1), (.ref b1)])) _
    refine st2.trans ?_
    show Steps p.tables e below (T2.setTop (mkF m 7 #[.val (.long q0), .second, .val (.long q1), .second, .unset, .unset, .unset, .unset] [(.ref b1)])) _
    refine XS.astore X2.here hx rfl (hb hby at_7) rfl rfl (l' := #[.val (.long q0), .second, .val (.long q1), .second, .val (.ref b1), .unset, .unset, .unset]) rfl ?_
    show Steps p.tables e below (T2.setTop (mkF m 9 #[.val (.long q0), .second, .val (.long q1), .second, .val (.ref b1), .unset, .unset, .unset] [])) _
    refine XS.aload X2.here hx rfl (hb hby at_9) rfl rfl ?_
    show Steps p.tables e below (T2.setTop (mkF m 11 #[.val (.long q0), .second, .val (.long q1), .second, .val (.ref b1), .unset, .unset, .unset] [(.ref b1)])) _
    refine XS.lloadN X2.here hx rfl (hb hby at_11) rfl ?_
    show Steps p.tables e below (T2.setTop (mkF m 12 #[.val (.long q0), .second, .val (.long q1), .second, .val (.ref b1), .unset, .unset, .unset] [(.long q0), (.ref b1)])) _
    refine st3.trans ?_
    show Steps p.tables e below (T3.setTop (mkF m 15 #[.val (.long q0), .second, .val (.long q1), .second, .val (.ref b1), .unset, .unset, .unset] [(.int (0 : Int32))])) _
    refine XS.istore X3.here hx rfl (hb hby at_15) rfl (l' := #[.val (.long q0), .second, .val (.long q1), .second, .val (.ref b1), .val (.int (0 : Int32)), .unset, .unset]) rfl ?_
    show Steps p.tables e below (T3.setTop (mkF m 17 #[.val (.long q0), .second, .val (.long q1), .second, .val (.ref b1), .val (.int (0 : Int32)), .unset, .unset] [])) _
    refine XS.aload X3.here hx rfl (hb hby at_17) rfl rfl ?_
    show Steps p.tables e below (T3.setTop (mkF m 19 #[.val (.long q0), .second, .val (.long q1), .second, .val (.ref b1), .val (.int (0 : Int32)), .unset, .unset] [(.ref b1)])) _
    refine XS.lloadN X3.here hx rfl (hb hby at_19) rfl ?_
    show Steps p.tables e below (T3.setTop (mkF m 20 #[.val (.long q0), .second, .val (.long q1), .second, .val (.ref b1), .val (.int (0 : Int32)), .unset, .unset] [(.long q1), (.ref b1)])) _
    refine st4.trans ?_
    show Steps p.tables e below (T4.setTop (mkF m 23 #[.val (.long q0), .second, .val (.long q1), .second, .val (.ref b1), .val (.int (0 : Int32)), .unset, .unset] [(.int (0 : Int32))])) _
    refine XS.istore X4.here hx rfl (hb hby at_23) rfl (l' := #[.val (.long q0), .second, .val (.long q1), .second, .val (.ref b1), .val (.int (0 : Int32)), .val (.int (0 : Int32)), .unset]) rfl ?_
    show Steps p.tables e below (T4.setTop (mkF m 25 #[.val (.long q0), .second, .val (.long q1), .second, .val (.ref b1), .val (.int (0 : Int32)), .val (.int (0 : Int32)), .unset] [])) _
    refine XS.aload X4.here hx rfl (hb hby at_25) rfl rfl ?_
    show Steps p.tables e below (T4.setTop (mkF m 27 #[.val (.long q0), .second, .val (.long q1), .second, .val (.ref b1), .val (.int (0 : Int32)), .val (.int (0 : Int32)), .unset] [(.ref b1)])) _
    refine XS.lloadN X4.here hx rfl (hb hby at_27) rfl ?_
    show Steps p.tables e below (T4.setTop (mkF m 28 #[.val (.long q0), .second, .val (.long q1), .second, .val (.ref b1), .val (.int (0 : Int32)), .val (.int (0 : Int32)), .unset] [(.long q0), (.ref b1)])) _
    refine st5.trans ?_
    show Steps p.tables e below (T5.setTop (mkF m 31 #[.val (.long q0), .second, .val (.long q1), .second, .val (.ref b1), .val (.int (0 : Int32)), .val (.int (0 : Int32)), .unset] [(.int (0 : Int32))])) _
    refine XS.istore X5.here hx rfl (hb hby at_31) rfl (l' := #[.val (.long q0), .second, .val (.long q1), .second, .val (.ref b1), .val (.int (0 : Int32)), .val (.int (0 : Int32)), .val (.int (0 : Int32))]) rfl ?_
    show Steps p.tables e below (T5.setTop (mkF m 33 #[.val (.long q0), .second, .val (.long q1), .second, .val (.ref b1), .val (.int (0 : Int32)), .val (.int (0 : Int32)), .val (.int (0 : Int32))] [])) _
    refine XS.iload X5.here hx rfl (hb hby at_33) rfl ?_
    show Steps p.tables e below (T5.setTop (mkF m 35 #[.val (.long q0), .second, .val (.long q1), .second, .val (.ref b1), .val (.int (0 : Int32)), .val (.int (0 : Int32)), .val (.int (0 : Int32))] [(.int (0 : Int32))])) _
    refine XS.ifNo X5.here hx rfl (hb hby at_35) rfl ((if0 _ _).trans (teq ((by decide) : (0 : Int32) = (0 : Int32))).2) ?_
    show Steps p.tables e below (T5.setTop (mkF m 38 #[.val (.long q0), .second, .val (.long q1), .second, .val (.ref b1), .val (.int (0 : Int32)), .val (.int (0 : Int32)), .val (.int (0 : Int32))] [])) _
    refine XS.iload X5.here hx rfl (hb hby at_38) rfl ?_
    show Steps p.tables e below (T5.setTop (mkF m 40 #[.val (.long q0), .second, .val (.long q1), .second, .val (.ref b1), .val (.int (0 : Int32)), .val (.int (0 : Int32)), .val (.int (0 : Int32))] [(.int (0 : Int32))])) _
    refine XS.ifNo X5.here hx rfl (hb hby at_40) rfl ((if0 _ _).trans (teq ((by decide) : (0 : Int32) = (0 : Int32))).2) ?_
    show Steps p.tables e below (T5.setTop (mkF m 43 #[.val (.long q0), .second, .val (.long q1), .second, .val (.ref b1), .val (.int (0 : Int32)), .val (.int (0 : Int32)), .val (.int (0 : Int32))] [])) _
    refine XS.iload X5.here hx rfl (hb hby at_43) rfl ?_
    show Steps p.tables e below (T5.setTop (mkF m 45 #[.val (.long q0), .second, .val (.long q1), .second, .val (.ref b1), .val (.int (0 : Int32)), .val (.int (0 : Int32)), .val (.int (0 : Int32))] [(.int (0 : Int32))])) _
    refine XS.ifNo X5.here hx rfl (hb hby at_45) rfl ((if0 _ _).trans (teq ((by decide) : (0 : Int32) = (0 : Int32))).2) ?_
    show Steps p.tables e below (T5.setTop (mkF m 48 #[.val (.long q0), .second, .val (.long q1), .second, .val (.ref b1), .val (.int (0 : Int32)), .val (.int (0 : Int32)), .val (.int (0 : Int32))] [])) _
    refine XS.iconst X5.here hx rfl (hb hby at_48) ?_
    show Steps p.tables e below (T5.setTop (mkF m 49 #[.val (.long q0), .second, .val (.long q1), .second, .val (.ref b1), .val (.int (0 : Int32)), .val (.int (0 : Int32)), .val (.int (0 : Int32))] [(.int (1 : Int32))])) _
    refine XS.goto X5.here hx rfl (pc0 := 49) (pc' := 53) rfl (hb hby at_49) (by decide) (by decide) ?_
    show Steps p.tables e below (T5.setTop (mkF m 53 #[.val (.long q0), .second, .val (.long q1), .second, .val (.ref b1), .val (.int (0 : Int32)), .val (.int (0 : Int32)), .val (.int (0 : Int32))] [(.int (1 : Int32))])) _
    exact retN X5 hx (t := .boolean) Bd.returns (by simp) (hb hby at_53) hr
  · show own_Q0 n0 _ T5.heap _
    rw [e5]
    exact ⟨rfl, N5⟩
set_option maxRecDepth 65536 in
set_option maxHeartbeats 40000000 in
theorem comes_1 {Post : Tables → Env → Array Value → State → Outcome → State → Prop} (hpost : ∀ tb e args s v u, (limb_1_1.after args s (.returned v) u = true ∧ limb_1_2.after args s (.returned v) u = true ∧ True) → FrameEnd s (.returned v) u (Jvm.fieldLocs frame_1_writes args s ++ Jvm.arrayLocs frame_1_arrays args s ++ Jvm.staticLocs frame_1_statics s) 24 6272 → Post tb e args s (.returned v) u) :
    ArmFor flags0 classFile x code maxLocals ret World_1 tables_1 room_1 Calls_1 rest_1 Pre_1 Post := by
  intro l hfl _ _ p e ha hc hk s m args below hf hA hF happ hP
  obtain ⟨hcalls, hrest, hpre⟩ := hP
  obtain ⟨-, -, -, hnamed, -, -, -, hat⟩ := (Spec.applies_iff hf).mp happ
  obtain ⟨hg, hn⟩ := and_e (Cond.before_iff.mp (show (Jvm.Cond.and given_1 narrow_1).before args s = true from hpre))
  obtain ⟨gc0, gr0⟩ := and_e hg
  obtain ⟨gc1, gr1⟩ := and_e gr0
  obtain ⟨w0, w1, rfl⟩ : ∃ w0 w1 : Value, args = #[w0, w1] := by
    have hs : args.size = 2 := by simpa [Cond.value, given_1] using gc0
    obtain ⟨L⟩ := args
    match L, hs with
    | [w0, w1], _ => exact ⟨w0, w1, rfl⟩
  have hw := fun d (hd : d ∈ tables_1) => atoms_spec (ws := Jvm.Cond.code x code maxLocals ret :: tables_1) hat d (List.mem_cons_of_mem _ hd)
  obtain ⟨i0, ei0⟩ := isL_v gc1
  obtain rfl : w0 = (.long i0) := Option.some.inj ei0
  obtain ⟨i1, ei1⟩ := isL_v gr1
  obtain rfl : w1 = (.long i1) := Option.some.inj ei1
  obtain ⟨hsets, hown0⟩ := atoms_of _ (rest_1_c_eq ▸ (show rest_1_c.before _ s = true from hrest))
  have n7 := Cond.before_iff.mp (hsets _ (List.mem_of_getElem? (i := 7) rfl))
  obtain ⟨dE, evD⟩ := exa_v n7
  have S_D := Sta.start evD (Or.inr ⟨(hw _ (List.mem_of_getElem? (i := 29) rfl)), hsets _ (List.mem_of_getElem? (i := 2) rfl)⟩)
  obtain ⟨n, o, h1, h2, h3, _, L, rfl, ⟨rfl, N⟩, hq⟩ := own_rm0 l s _ hw tables_1 i0 i1 dE s.heap s.heap.size (Nat.le_refl _) S_D p e ha hc hk s m _ below hf ((Spec.applies_iff_loose hf).mp happ).1 ⟨rfl, State.Warmed39.refl s, rfl⟩ trivial
  refine ⟨n, _, h1, h2, h3, hpost _ _ _ _ _ _ ⟨Cond.after_iff.mpr rfl, Cond.after_iff.mpr (eq_i res_at (Term.int_eval (1)) rfl), trivial⟩ ⟨hq.1, hq.2.1, (hq.2.2.sift fun y hy => Or.inr (N y hy)).mono (by decide) (by decide)⟩⟩
theorem main_1_1 : Claimed_1_1 := comes_1 fun _ _ _ _ _ _ h hF => ⟨h.1, hF⟩
theorem main_1_2 : Claimed_1_2 := comes_1 fun _ _ _ _ _ _ h hF => ⟨h.2.1, hF⟩
end Jvm.Pilot.@@N@@
namespace Jvm.Pilot.@@N@@
open Jvm Jvm.ClassFile Sem Op Lib Jvm.Free Jvm.Stand Jvm.Pilot.@@N@@.Jvm.D
/-! MADE BY PROGRAM (witnessworld.py) out of the Statement's table words and the real class files: 25 classes; the members and pool entries that the words name. The judged class is class 1, her method 1. -/
namespace start1
open Jvm.ClassFile
def u (s : String) : CpInfo := .utf8 (stringToUtf16 s)
/-- a pool by its gaps: so many unusable entries, then the entry; so many at the end -/
def gap : Nat → List CpInfo → List CpInfo
  | 0, r => r
  | n + 1, r => .unusable :: gap n r
def poolList (es : List (Nat × CpInfo)) (last : Nat) : List CpInfo := es.foldr (fun e r => gap e.1 (e.2 :: r)) (gap last [])
def pool (es : List (Nat × CpInfo)) (last : Nat) : Array CpInfo := ⟨poolList es last⟩
def fileOf (pool : Array CpInfo) (this : Nat) (attrs : Array Attribute := #[]) (ms : Array MethodInfo := #[]) (fl : Nat := 33) (sup : Nat := 0) (ifs : Array Nat := #[]) (fds : Array FieldInfo := #[]) : ClassFile where
  minorVersion := 0
  majorVersion := 65
  constantPool := pool
  accessFlags := fl
  thisClass := this
  superClass := sup
  interfaces := ifs
  fields := fds
  methods := ms
  attributes := attrs
def plain (name : String) (sup : Option ClassId) : Class where
  name := name
  kind := .ordinary
  loader := none
  accessFlags := 33
  super := sup
  interfaces := #[]
  cf := none
  fields := #[]
  methods := #[]
  instanceTypes := #[]
  staticTypes := #[]
  resolved := #[]
  callSites := []
  init := .initialized
  statics := none
  mirror := none

def pool0 : Array CpInfo := pool [(5, u "<init>"), (0, u "()V"), (1, .class_ 10), (1, u "java/lang/Object")] 113

def k0c0 : Code := { maxStack := 0, maxLocals := 1, code := object_method_1_code, exceptionTable := #[], attributes := #[] }
def k0m0 : Method := { name := "<init>", desc := "()V", sig := { parameters := [], returnType := none }, accessFlags := 1, code := some k0c0 }
/-- java/lang/Object -/
def k0 : Class := { plain "java/lang/Object" none with
  accessFlags := 33
  interfaces := #[]
  cf := some (fileOf pool0 8 #[] #[{ accessFlags := 1, nameIndex := 5, descriptorIndex := 6, attributes := #[] }] 33 0 #[] #[])
  fields := #[]
  methods := #[k0m0]
  instanceTypes := #[]
  staticTypes := #[]
  resolved := Array.replicate 124 none
  statics := none }

def pool1 : Array CpInfo := pool [(2, .class_ 4), (0, .nameAndType 5 6), (0, u "java/lang/Object"), (0, u "<init>"), (0, u "()V"), (0, .class_ 8), (0, u "com/example/matchgate/matchgate/core/OrderLedger"), (0, .methodref 7 3), (0, .methodref 7 11), (0, .nameAndType 12 13), (0, u "accepted"), (0, u "(J)Z"), (0, .class_ 15), (0, u "com/example/matchgate/matchgate/core/OrderLedgerAcceptedPinLaw"), (2, u "law"), (0, u "(JJ)Z")] 3

def k1m0 : Method := { name := "<init>", desc := "()V", sig := { parameters := [], returnType := none }, accessFlags := 2, code := none }
def k1c1 : Code := { maxStack := 3, maxLocals := 8, code := code, exceptionTable := #[], attributes := #[] }
def k1m1 : Method := { name := "law", desc := "(JJ)Z", sig := { parameters := [.long, .long], returnType := some .boolean }, accessFlags := 9, code := some k1c1 }
/-- com/example/matchgate/matchgate/core/OrderLedgerAcceptedPinLaw -/
def k1 : Class := { plain "com/example/matchgate/matchgate/core/OrderLedgerAcceptedPinLaw" (some 0) with
  accessFlags := 49
  interfaces := #[]
  cf := some (fileOf pool1 14 #[] #[{ accessFlags := 2, nameIndex := 5, descriptorIndex := 6, attributes := #[] }, { accessFlags := 9, nameIndex := 18, descriptorIndex := 19, attributes := #[] }] 49 2 #[] #[])
  fields := #[]
  methods := #[k1m0, k1m1]
  instanceTypes := #[]
  staticTypes := #[]
  resolved := Array.replicate 23 none
  statics := none }

def pool2 : Array CpInfo := pool [(1, .methodref 2 3), (0, .class_ 4), (0, .nameAndType 5 6), (0, u "java/lang/Object"), (0, u "<init>"), (0, u "()V"), (0, .class_ 8), (0, u "java/util/HashMap"), (0, .methodref 7 3), (0, .fieldref 11 12), (0, .class_ 13), (0, .nameAndType 14 15), (0, u "com/example/matchgate/matchgate/core/OrderLedger"), (0, u "partyNumbers"), (0, u "Ljava/util/Map;"), (0, .class_ 17), (0, u "java/util/ArrayList"), (0, .methodref 16 3), (0, .fieldref 11 20), (0, .nameAndType 21 22), (0, u "partyNames"), (0, u "Ljava/util/List;"), (0, .class_ 24), (0, u "com/example/matchgate/matchgate/core/Order"), (0, .fieldref 11 26), (0, .nameAndType 27 28), (0, u "working"), (0, u "[Lcom/example/matchgate/matchgate/core/Order;"), (0, .fieldref 11 30), (0, .nameAndType 31 32), (0, u "party"), (0, u "[I"), (0, .fieldref 11 34), (0, .nameAndType 35 36), (0, u "canceled"), (0, u "[Z"), (4, .fieldref 11 42), (0, .nameAndType 43 44), (0, u "count"), (0, u "I"), (92, u "accepted"), (0, u "(J)Z"), (4, u "INITIAL_CAPACITY")] 37

def k2c0 : Code := { maxStack := 3, maxLocals := 1, code := prog_32_method_1_code, exceptionTable := #[], attributes := #[] }
def k2m0 : Method := { name := "<init>", desc := "()V", sig := { parameters := [], returnType := none }, accessFlags := 0, code := some k2c0 }
def k2c1 : Code := { maxStack := 4, maxLocals := 3, code := prog_32_method_3_code, exceptionTable := #[], attributes := #[] }
def k2m1 : Method := { name := "accepted", desc := "(J)Z", sig := { parameters := [.long], returnType := some .boolean }, accessFlags := 0, code := some k2c1 }
/-- com/example/matchgate/matchgate/core/OrderLedger -/
def k2 : Class := { plain "com/example/matchgate/matchgate/core/OrderLedger" (some 0) with
  accessFlags := 48
  interfaces := #[]
  cf := some (fileOf pool2 11 #[] #[{ accessFlags := 0, nameIndex := 5, descriptorIndex := 6, attributes := #[] }, { accessFlags := 0, nameIndex := 137, descriptorIndex := 138, attributes := #[] }] 48 2 #[] #[{ accessFlags := 26, nameIndex := 143, descriptorIndex := 44, attributes := #[] }, { accessFlags := 18, nameIndex := 14, descriptorIndex := 15, attributes := #[] }, { accessFlags := 18, nameIndex := 21, descriptorIndex := 22, attributes := #[] }, { accessFlags := 2, nameIndex := 27, descriptorIndex := 28, attributes := #[] }, { accessFlags := 2, nameIndex := 31, descriptorIndex := 32, attributes := #[] }, { accessFlags := 2, nameIndex := 35, descriptorIndex := 36, attributes := #[] }, { accessFlags := 2, nameIndex := 43, descriptorIndex := 44, attributes := #[] }])
  fields := #[{ name := "INITIAL_CAPACITY", type := .int, accessFlags := 26, slot := 0, constantValue := 0 }, { name := "partyNumbers", type := (.object "java/util/Map"), accessFlags := 18, slot := 0, constantValue := 0 }, { name := "partyNames", type := (.object "java/util/List"), accessFlags := 18, slot := 1, constantValue := 0 }, { name := "working", type := (.array (.object "com/example/matchgate/matchgate/core/Order")), accessFlags := 2, slot := 2, constantValue := 0 }, { name := "party", type := (.array .int), accessFlags := 2, slot := 3, constantValue := 0 }, { name := "canceled", type := (.array .boolean), accessFlags := 2, slot := 4, constantValue := 0 }, { name := "count", type := .int, accessFlags := 2, slot := 5, constantValue := 0 }]
  methods := #[k2m0, k2m1]
  instanceTypes := #[(.object "java/util/Map"), (.object "java/util/List"), (.array (.object "com/example/matchgate/matchgate/core/Order")), (.array .int), (.array .boolean), .int]
  staticTypes := #[.int]
  resolved := Array.replicate 181 none
  statics := none }

def pool3 : Array CpInfo := pool [(2, .class_ 4), (1, u "java/util/Map"), (31, .class_ 37), (0, u "java/util/Map$Entry"), (55, .class_ 94), (0, u "java/lang/Object")] 168

/-- java/util/Map -/
def k3 : Class := { plain "java/util/Map" (some 0) with
  accessFlags := 1537
  interfaces := #[]
  cf := some (fileOf pool3 2 #[.nestMembers #[36]] #[] 1537 93 #[] #[])
  fields := #[]
  methods := #[]
  instanceTypes := #[]
  staticTypes := #[]
  resolved := Array.replicate 263 none
  statics := none }

def pool4 : Array CpInfo := pool [(1, .methodref 2 3), (0, .class_ 4), (0, .nameAndType 5 6), (0, u "java/lang/Object"), (0, u "<init>"), (0, u "()V"), (1, .class_ 10), (1, u "java/util/AbstractMap"), (42, .class_ 54), (0, u "java/util/Map"), (9, u "keySet"), (0, u "Ljava/util/Set;"), (0, .class_ 67), (0, u "java/util/AbstractMap$1"), (5, u "values"), (0, u "Ljava/util/Collection;"), (0, .class_ 76), (0, u "java/util/AbstractMap$2"), (104, .class_ 182), (0, u "java/util/AbstractMap$ViewCollection"), (0, .class_ 184), (0, u "java/util/AbstractMap$SimpleImmutableEntry"), (0, .class_ 186), (0, u "java/util/AbstractMap$SimpleEntry"), (0, .class_ 188), (0, u "java/util/AbstractMap$2$1"), (0, .class_ 190), (0, u "java/util/AbstractMap$1$1")] 5

def k4c0 : Code := { maxStack := 1, maxLocals := 1, code := jdk_71_method_1_code, exceptionTable := #[], attributes := #[] }
def k4m0 : Method := { name := "<init>", desc := "()V", sig := { parameters := [], returnType := none }, accessFlags := 4, code := some k4c0 }
/-- java/util/AbstractMap -/
def k4 : Class := { plain "java/util/AbstractMap" (some 0) with
  accessFlags := 1057
  interfaces := #[3]
  cf := some (fileOf pool4 8 #[.nestMembers #[181, 183, 185, 75, 187, 66, 189]] #[{ accessFlags := 4, nameIndex := 5, descriptorIndex := 6, attributes := #[] }] 1057 2 #[53] #[{ accessFlags := 128, nameIndex := 64, descriptorIndex := 65, attributes := #[] }, { accessFlags := 128, nameIndex := 73, descriptorIndex := 74, attributes := #[] }])
  fields := #[{ name := "keySet", type := (.object "java/util/Set"), accessFlags := 128, slot := 0, constantValue := 0 }, { name := "values", type := (.object "java/util/Collection"), accessFlags := 128, slot := 1, constantValue := 0 }]
  methods := #[k4m0]
  instanceTypes := #[(.object "java/util/Set"), (.object "java/util/Collection")]
  staticTypes := #[]
  resolved := Array.replicate 196 none
  statics := none }

def pool5 : Array CpInfo := pool [(1, .class_ 2), (0, u "java/lang/Cloneable"), (0, .class_ 4), (0, u "java/lang/Object")] 2

/-- java/lang/Cloneable -/
def k5 : Class := { plain "java/lang/Cloneable" (some 0) with
  accessFlags := 1537
  interfaces := #[]
  cf := some (fileOf pool5 1 #[] #[] 1537 3 #[] #[])
  fields := #[]
  methods := #[]
  instanceTypes := #[]
  staticTypes := #[]
  resolved := Array.replicate 7 none
  statics := none }

def pool6 : Array CpInfo := pool [(1, .class_ 2), (0, u "java/io/Serializable"), (0, .class_ 4), (0, u "java/lang/Object")] 2

/-- java/io/Serializable -/
def k6 : Class := { plain "java/io/Serializable" (some 0) with
  accessFlags := 1537
  interfaces := #[]
  cf := some (fileOf pool6 1 #[] #[] 1537 3 #[] #[])
  fields := #[]
  methods := #[]
  instanceTypes := #[]
  staticTypes := #[]
  resolved := Array.replicate 7 none
  statics := none }

def pool7 : Array CpInfo := pool [(40, .class_ 41), (0, u "java/util/HashMap"), (1, .methodref 44 45), (0, .class_ 46), (0, .nameAndType 47 48), (0, u "java/util/AbstractMap"), (0, u "<init>"), (0, u "()V"), (32, .fieldref 40 82), (0, .nameAndType 83 84), (0, u "loadFactor"), (0, u "F"), (5, u "threshold"), (0, u "I"), (0, .float 1061158912), (8, .class_ 103), (1, u "java/util/Map"), (0, u "size"), (2, u "table"), (0, u "[Ljava/util/HashMap$Node;"), (14, u "entrySet"), (39, .class_ 165), (1, u "java/util/HashMap$Node"), (14, .class_ 181), (0, u "java/util/HashMap$TreeNode"), (22, u "modCount"), (37, u "Ljava/util/Set;"), (0, .class_ 244), (0, u "java/util/HashMap$KeySet"), (18, .class_ 264), (0, u "java/util/HashMap$Values"), (3, .class_ 269), (0, u "java/util/HashMap$EntrySet"), (76, .class_ 348), (1, u "java/util/HashMap$UnsafeHolder"), (43, .class_ 393), (0, u "java/lang/Cloneable"), (0, .class_ 395), (0, u "java/io/Serializable"), (0, u "serialVersionUID"), (0, u "J"), (3, u "DEFAULT_INITIAL_CAPACITY"), (1, u "MAXIMUM_CAPACITY"), (0, u "DEFAULT_LOAD_FACTOR"), (0, u "TREEIFY_THRESHOLD"), (1, u "UNTREEIFY_THRESHOLD"), (1, u "MIN_TREEIFY_CAPACITY"), (186, .class_ 597), (0, u "java/util/HashMap$EntrySpliterator"), (0, .class_ 599), (0, u "java/util/HashMap$ValueSpliterator"), (0, .class_ 601), (0, u "java/util/HashMap$KeySpliterator"), (0, .class_ 603), (0, u "java/util/HashMap$HashMapSpliterator"), (0, .class_ 605), (0, u "java/util/HashMap$EntryIterator"), (0, .class_ 607), (0, u "java/util/HashMap$ValueIterator"), (0, .class_ 609), (0, u "java/util/HashMap$KeyIterator"), (0, .class_ 611), (0, u "java/util/HashMap$HashIterator")] 17

def k7c0 : Code := { maxStack := 2, maxLocals := 1, code := jdk_69_method_7_code, exceptionTable := #[], attributes := #[] }
def k7m0 : Method := { name := "<init>", desc := "()V", sig := { parameters := [], returnType := none }, accessFlags := 1, code := some k7c0 }
/-- java/util/HashMap -/
def k7 : Class := { plain "java/util/HashMap" (some 4) with
  accessFlags := 33
  interfaces := #[3, 5, 6]
  cf := some (fileOf pool7 40 #[.nestMembers #[180, 596, 598, 600, 602, 604, 606, 608, 610, 346, 268, 263, 243, 163]] #[{ accessFlags := 1, nameIndex := 47, descriptorIndex := 48, attributes := #[] }] 33 44 #[101, 392, 394] #[{ accessFlags := 26, nameIndex := 396, descriptorIndex := 397, attributes := #[] }, { accessFlags := 24, nameIndex := 401, descriptorIndex := 91, attributes := #[] }, { accessFlags := 24, nameIndex := 403, descriptorIndex := 91, attributes := #[] }, { accessFlags := 24, nameIndex := 404, descriptorIndex := 84, attributes := #[] }, { accessFlags := 24, nameIndex := 405, descriptorIndex := 91, attributes := #[] }, { accessFlags := 24, nameIndex := 407, descriptorIndex := 91, attributes := #[] }, { accessFlags := 24, nameIndex := 409, descriptorIndex := 91, attributes := #[] }, { accessFlags := 128, nameIndex := 107, descriptorIndex := 108, attributes := #[] }, { accessFlags := 128, nameIndex := 123, descriptorIndex := 242, attributes := #[] }, { accessFlags := 128, nameIndex := 104, descriptorIndex := 91, attributes := #[] }, { accessFlags := 128, nameIndex := 204, descriptorIndex := 91, attributes := #[] }, { accessFlags := 0, nameIndex := 90, descriptorIndex := 91, attributes := #[] }, { accessFlags := 16, nameIndex := 83, descriptorIndex := 84, attributes := #[] }])
  fields := #[{ name := "serialVersionUID", type := .long, accessFlags := 26, slot := 0, constantValue := 0 }, { name := "DEFAULT_INITIAL_CAPACITY", type := .int, accessFlags := 24, slot := 1, constantValue := 0 }, { name := "MAXIMUM_CAPACITY", type := .int, accessFlags := 24, slot := 2, constantValue := 0 }, { name := "DEFAULT_LOAD_FACTOR", type := .float, accessFlags := 24, slot := 3, constantValue := 0 }, { name := "TREEIFY_THRESHOLD", type := .int, accessFlags := 24, slot := 4, constantValue := 0 }, { name := "UNTREEIFY_THRESHOLD", type := .int, accessFlags := 24, slot := 5, constantValue := 0 }, { name := "MIN_TREEIFY_CAPACITY", type := .int, accessFlags := 24, slot := 6, constantValue := 0 }, { name := "table", type := (.array (.object "java/util/HashMap$Node")), accessFlags := 128, slot := 2, constantValue := 0 }, { name := "entrySet", type := (.object "java/util/Set"), accessFlags := 128, slot := 3, constantValue := 0 }, { name := "size", type := .int, accessFlags := 128, slot := 4, constantValue := 0 }, { name := "modCount", type := .int, accessFlags := 128, slot := 5, constantValue := 0 }, { name := "threshold", type := .int, accessFlags := 0, slot := 6, constantValue := 0 }, { name := "loadFactor", type := .float, accessFlags := 16, slot := 7, constantValue := 0 }]
  methods := #[k7m0]
  instanceTypes := #[(.object "java/util/Set"), (.object "java/util/Collection"), (.array (.object "java/util/HashMap$Node")), (.object "java/util/Set"), .int, .int, .int, .float]
  staticTypes := #[.long, .int, .int, .float, .int, .int, .int]
  resolved := Array.replicate 629 none
  statics := none }

def pool8 : Array CpInfo := pool [(8, .class_ 10), (1, u "java/lang/Iterable"), (24, .class_ 36), (0, u "java/lang/Object")] 25

/-- java/lang/Iterable -/
def k8 : Class := { plain "java/lang/Iterable" (some 0) with
  accessFlags := 1537
  interfaces := #[]
  cf := some (fileOf pool8 8 #[] #[] 1537 35 #[] #[])
  fields := #[]
  methods := #[]
  instanceTypes := #[]
  staticTypes := #[]
  resolved := Array.replicate 62 none
  statics := none }

def pool9 : Array CpInfo := pool [(10, .class_ 12), (1, u "java/util/Collection"), (47, .class_ 61), (0, u "java/lang/Object"), (0, .class_ 63), (0, u "java/lang/Iterable")] 51

/-- java/util/Collection -/
def k9 : Class := { plain "java/util/Collection" (some 0) with
  accessFlags := 1537
  interfaces := #[8]
  cf := some (fileOf pool9 10 #[] #[] 1537 60 #[62] #[])
  fields := #[]
  methods := #[]
  instanceTypes := #[]
  staticTypes := #[]
  resolved := Array.replicate 115 none
  statics := none }

def pool10 : Array CpInfo := pool [(1, .methodref 2 3), (0, .class_ 4), (0, .nameAndType 5 6), (0, u "java/lang/Object"), (0, u "<init>"), (0, u "()V"), (1, .class_ 10), (1, u "java/util/AbstractCollection"), (66, .class_ 78), (0, u "java/util/Collection")] 81

def k10c0 : Code := { maxStack := 1, maxLocals := 1, code := jdk_22_method_1_code, exceptionTable := #[], attributes := #[] }
def k10m0 : Method := { name := "<init>", desc := "()V", sig := { parameters := [], returnType := none }, accessFlags := 4, code := some k10c0 }
/-- java/util/AbstractCollection -/
def k10 : Class := { plain "java/util/AbstractCollection" (some 0) with
  accessFlags := 1057
  interfaces := #[9]
  cf := some (fileOf pool10 8 #[] #[{ accessFlags := 4, nameIndex := 5, descriptorIndex := 6, attributes := #[] }] 1057 2 #[77] #[])
  fields := #[]
  methods := #[k10m0]
  instanceTypes := #[]
  staticTypes := #[]
  resolved := Array.replicate 160 none
  statics := none }

def pool11 : Array CpInfo := pool [(8, .class_ 10), (1, u "java/util/SequencedCollection"), (15, .class_ 27), (0, u "java/lang/Object"), (0, .class_ 29), (0, u "java/util/Collection")] 27

/-- java/util/SequencedCollection -/
def k11 : Class := { plain "java/util/SequencedCollection" (some 0) with
  accessFlags := 1537
  interfaces := #[9]
  cf := some (fileOf pool11 8 #[] #[] 1537 26 #[28] #[])
  fields := #[]
  methods := #[]
  instanceTypes := #[]
  staticTypes := #[]
  resolved := Array.replicate 57 none
  statics := none }

def pool12 : Array CpInfo := pool [(8, .class_ 10), (1, u "java/util/List"), (92, .class_ 104), (0, u "java/lang/Object"), (15, .class_ 121), (0, u "java/util/SequencedCollection")] 129

/-- java/util/List -/
def k12 : Class := { plain "java/util/List" (some 0) with
  accessFlags := 1537
  interfaces := #[11]
  cf := some (fileOf pool12 8 #[] #[] 1537 103 #[120] #[])
  fields := #[]
  methods := #[]
  instanceTypes := #[]
  staticTypes := #[]
  resolved := Array.replicate 251 none
  statics := none }

def pool13 : Array CpInfo := pool [(1, .methodref 2 3), (0, .class_ 4), (0, .nameAndType 5 6), (0, u "java/util/AbstractCollection"), (0, u "<init>"), (0, u "()V"), (0, .fieldref 8 9), (0, .class_ 10), (0, .nameAndType 11 12), (0, u "java/util/AbstractList"), (0, u "modCount"), (0, u "I"), (64, .class_ 78), (0, u "java/util/AbstractList$Itr"), (3, .class_ 83), (0, u "java/util/AbstractList$ListItr"), (9, .class_ 94), (0, u "java/util/AbstractList$RandomAccessSubList"), (3, .class_ 99), (0, u "java/util/AbstractList$SubList"), (33, .class_ 134), (0, u "java/util/List"), (73, .class_ 209), (0, u "java/util/AbstractList$SubList$1"), (0, .class_ 211), (0, u "java/util/AbstractList$RandomAccessSpliterator")] 6

def k13c0 : Code := { maxStack := 2, maxLocals := 1, code := jdk_39_method_1_code, exceptionTable := #[], attributes := #[] }
def k13m0 : Method := { name := "<init>", desc := "()V", sig := { parameters := [], returnType := none }, accessFlags := 4, code := some k13c0 }
/-- java/util/AbstractList -/
def k13 : Class := { plain "java/util/AbstractList" (some 10) with
  accessFlags := 1057
  interfaces := #[12]
  cf := some (fileOf pool13 8 #[.nestMembers #[93, 98, 208, 210, 82, 77]] #[{ accessFlags := 4, nameIndex := 5, descriptorIndex := 6, attributes := #[] }] 1057 2 #[133] #[{ accessFlags := 132, nameIndex := 11, descriptorIndex := 12, attributes := #[] }])
  fields := #[{ name := "modCount", type := .int, accessFlags := 132, slot := 0, constantValue := 0 }]
  methods := #[k13m0]
  instanceTypes := #[.int]
  staticTypes := #[]
  resolved := Array.replicate 218 none
  statics := none }

def pool14 : Array CpInfo := pool [(1, .class_ 2), (0, u "java/util/RandomAccess"), (0, .class_ 4), (0, u "java/lang/Object")] 2

/-- java/util/RandomAccess -/
def k14 : Class := { plain "java/util/RandomAccess" (some 0) with
  accessFlags := 1537
  interfaces := #[]
  cf := some (fileOf pool14 1 #[] #[] 1537 3 #[] #[])
  fields := #[]
  methods := #[]
  instanceTypes := #[]
  staticTypes := #[]
  resolved := Array.replicate 7 none
  statics := none }

def pool15 : Array CpInfo := pool [(1, .methodref 2 3), (0, .class_ 4), (0, .nameAndType 5 6), (0, u "java/util/AbstractList"), (0, u "<init>"), (0, u "()V"), (2, .fieldref 10 11), (0, .class_ 12), (0, .nameAndType 13 14), (0, u "java/util/ArrayList"), (0, u "elementData"), (0, u "[Ljava/lang/Object;"), (2, u "EMPTY_ELEMENTDATA"), (21, .fieldref 10 40), (0, .nameAndType 41 14), (0, u "DEFAULTCAPACITY_EMPTY_ELEMENTDATA"), (8, u "size"), (0, u "I"), (96, .class_ 149), (0, u "java/util/List"), (112, .class_ 263), (0, u "java/util/ArrayList$ListItr"), (3, .class_ 268), (0, u "java/util/ArrayList$Itr"), (7, .class_ 277), (0, u "java/util/ArrayList$SubList"), (12, .class_ 291), (0, u "java/util/ArrayList$ArrayListSpliterator"), (37, .class_ 330), (0, u "java/util/RandomAccess"), (0, .class_ 332), (0, u "java/lang/Cloneable"), (0, .class_ 334), (0, u "java/io/Serializable"), (0, u "serialVersionUID"), (0, u "J"), (3, u "DEFAULT_CAPACITY"), (159, .class_ 501), (0, u "java/util/ArrayList$SubList$2"), (0, .class_ 503), (0, u "java/util/ArrayList$SubList$1")] 5

def k15c0 : Code := { maxStack := 2, maxLocals := 1, code := jdk_38_method_2_code, exceptionTable := #[], attributes := #[] }
def k15m0 : Method := { name := "<init>", desc := "()V", sig := { parameters := [], returnType := none }, accessFlags := 1, code := some k15c0 }
/-- java/util/ArrayList -/
def k15 : Class := { plain "java/util/ArrayList" (some 13) with
  accessFlags := 33
  interfaces := #[12, 14, 5, 6]
  cf := some (fileOf pool15 10 #[.nestMembers #[290, 276, 500, 502, 262, 267]] #[{ accessFlags := 1, nameIndex := 5, descriptorIndex := 6, attributes := #[] }] 33 2 #[148, 329, 331, 333] #[{ accessFlags := 26, nameIndex := 335, descriptorIndex := 336, attributes := #[] }, { accessFlags := 26, nameIndex := 340, descriptorIndex := 51, attributes := #[] }, { accessFlags := 26, nameIndex := 17, descriptorIndex := 14, attributes := #[] }, { accessFlags := 26, nameIndex := 41, descriptorIndex := 14, attributes := #[] }, { accessFlags := 128, nameIndex := 13, descriptorIndex := 14, attributes := #[] }, { accessFlags := 2, nameIndex := 50, descriptorIndex := 51, attributes := #[] }])
  fields := #[{ name := "serialVersionUID", type := .long, accessFlags := 26, slot := 0, constantValue := 0 }, { name := "DEFAULT_CAPACITY", type := .int, accessFlags := 26, slot := 1, constantValue := 0 }, { name := "EMPTY_ELEMENTDATA", type := (.array (.object "java/lang/Object")), accessFlags := 26, slot := 2, constantValue := 0 }, { name := "DEFAULTCAPACITY_EMPTY_ELEMENTDATA", type := (.array (.object "java/lang/Object")), accessFlags := 26, slot := 3, constantValue := 0 }, { name := "elementData", type := (.array (.object "java/lang/Object")), accessFlags := 128, slot := 1, constantValue := 0 }, { name := "size", type := .int, accessFlags := 2, slot := 2, constantValue := 0 }]
  methods := #[k15m0]
  instanceTypes := #[.int, (.array (.object "java/lang/Object")), .int]
  staticTypes := #[.long, .int, (.array (.object "java/lang/Object")), (.array (.object "java/lang/Object"))]
  resolved := Array.replicate 509 none
  statics := some 0 }

def pool16 : Array CpInfo := pool [(2, .class_ 4), (1, u "java/lang/Object"), (7, u "Ljava/math/BigDecimal;"), (1, .class_ 16), (1, u "com/example/matchgate/matchgate/core/Order"), (0, u "cumQty"), (2, u "notional"), (2, u "avgPrice"), (2, u "id"), (0, u "J"), (2, u "book"), (0, u "Lcom/example/matchgate/matchgate/core/OrderBook;"), (2, u "terms"), (0, u "Lcom/example/matchgate/matchgate/core/NewOrder;"), (8, u "leavesQty"), (8, u "bookQueue"), (0, u "Lcom/example/matchgate/matchgate/core/OrderQueue;"), (2, u "workingQueue"), (2, u "bookPrevious"), (2, u "workingPrevious"), (2, u "bookNext"), (2, u "workingNext"), (34, u "canceled"), (0, u "Z"), (8, u "onlyPrice")] 72

/-- com/example/matchgate/matchgate/core/Order -/
def k16 : Class := { plain "com/example/matchgate/matchgate/core/Order" (some 0) with
  accessFlags := 48
  interfaces := #[]
  cf := some (fileOf pool16 14 #[] #[] 48 2 #[] #[{ accessFlags := 18, nameIndex := 26, descriptorIndex := 27, attributes := #[] }, { accessFlags := 18, nameIndex := 30, descriptorIndex := 31, attributes := #[] }, { accessFlags := 2, nameIndex := 34, descriptorIndex := 35, attributes := #[] }, { accessFlags := 2, nameIndex := 104, descriptorIndex := 105, attributes := #[] }, { accessFlags := 2, nameIndex := 17, descriptorIndex := 12, attributes := #[] }, { accessFlags := 2, nameIndex := 44, descriptorIndex := 12, attributes := #[] }, { accessFlags := 2, nameIndex := 20, descriptorIndex := 12, attributes := #[] }, { accessFlags := 2, nameIndex := 114, descriptorIndex := 12, attributes := #[] }, { accessFlags := 2, nameIndex := 23, descriptorIndex := 12, attributes := #[] }, { accessFlags := 2, nameIndex := 53, descriptorIndex := 54, attributes := #[] }, { accessFlags := 2, nameIndex := 60, descriptorIndex := 27, attributes := #[] }, { accessFlags := 2, nameIndex := 66, descriptorIndex := 27, attributes := #[] }, { accessFlags := 2, nameIndex := 57, descriptorIndex := 54, attributes := #[] }, { accessFlags := 2, nameIndex := 63, descriptorIndex := 27, attributes := #[] }, { accessFlags := 2, nameIndex := 69, descriptorIndex := 27, attributes := #[] }])
  fields := #[{ name := "id", type := .long, accessFlags := 18, slot := 0, constantValue := 0 }, { name := "book", type := (.object "com/example/matchgate/matchgate/core/OrderBook"), accessFlags := 18, slot := 1, constantValue := 0 }, { name := "terms", type := (.object "com/example/matchgate/matchgate/core/NewOrder"), accessFlags := 2, slot := 2, constantValue := 0 }, { name := "canceled", type := .boolean, accessFlags := 2, slot := 3, constantValue := 0 }, { name := "cumQty", type := (.object "java/math/BigDecimal"), accessFlags := 2, slot := 4, constantValue := 0 }, { name := "leavesQty", type := (.object "java/math/BigDecimal"), accessFlags := 2, slot := 5, constantValue := 0 }, { name := "notional", type := (.object "java/math/BigDecimal"), accessFlags := 2, slot := 6, constantValue := 0 }, { name := "onlyPrice", type := (.object "java/math/BigDecimal"), accessFlags := 2, slot := 7, constantValue := 0 }, { name := "avgPrice", type := (.object "java/math/BigDecimal"), accessFlags := 2, slot := 8, constantValue := 0 }, { name := "bookQueue", type := (.object "com/example/matchgate/matchgate/core/OrderQueue"), accessFlags := 2, slot := 9, constantValue := 0 }, { name := "bookPrevious", type := .long, accessFlags := 2, slot := 10, constantValue := 0 }, { name := "bookNext", type := .long, accessFlags := 2, slot := 11, constantValue := 0 }, { name := "workingQueue", type := (.object "com/example/matchgate/matchgate/core/OrderQueue"), accessFlags := 2, slot := 12, constantValue := 0 }, { name := "workingPrevious", type := .long, accessFlags := 2, slot := 13, constantValue := 0 }, { name := "workingNext", type := .long, accessFlags := 2, slot := 14, constantValue := 0 }]
  methods := #[]
  instanceTypes := #[.long, (.object "com/example/matchgate/matchgate/core/OrderBook"), (.object "com/example/matchgate/matchgate/core/NewOrder"), .boolean, (.object "java/math/BigDecimal"), (.object "java/math/BigDecimal"), (.object "java/math/BigDecimal"), (.object "java/math/BigDecimal"), (.object "java/math/BigDecimal"), (.object "com/example/matchgate/matchgate/core/OrderQueue"), .long, .long, (.object "com/example/matchgate/matchgate/core/OrderQueue"), .long, .long]
  staticTypes := #[]
  resolved := Array.replicate 187 none
  statics := none }

/-- the primitive boolean -/
def k17 : Class := { plain "boolean" none with kind := .primitive 'Z', accessFlags := 0x411 }
/-- [Z -/
def k18 : Class := { plain "[Z" (some 0) with kind := .array 17 .boolean, interfaces := #[5, 6], accessFlags := 1041 }

/-- the primitive byte -/
def k19 : Class := { plain "byte" none with kind := .primitive 'B', accessFlags := 0x411 }
/-- [B -/
def k20 : Class := { plain "[B" (some 0) with kind := .array 19 .byte, interfaces := #[5, 6], accessFlags := 1041 }

/-- the primitive int -/
def k21 : Class := { plain "int" none with kind := .primitive 'I', accessFlags := 0x411 }
/-- [I -/
def k22 : Class := { plain "[I" (some 0) with kind := .array 21 .int, interfaces := #[5, 6], accessFlags := 1041 }

/-- [Lcom/example/matchgate/matchgate/core/Order; -/
def k23 : Class := { plain "[Lcom/example/matchgate/matchgate/core/Order;" (some 0) with kind := .array 16 (.object "com/example/matchgate/matchgate/core/Order"), interfaces := #[5, 6], accessFlags := 1041 }

/-- [Ljava/lang/Object; -/
def k24 : Class := { plain "[Ljava/lang/Object;" (some 0) with kind := .array 0 (.object "java/lang/Object"), interfaces := #[5, 6], accessFlags := 1041 }

def heap : Heap := #[{ cls := 15, slots := #[.long 0, .int 0, .ref 1, .ref 2], vm := .statics 15 },
  { cls := 24, slots := #[], vm := .none },
  { cls := 24, slots := #[], vm := .none }]
def classes : Array Class := #[k0, k1, k2, k3, k4, k5, k6, k7, k8, k9, k10, k11, k12, k13, k14, k15, k16, k17, k18, k19, k20, k21, k22, k23, k24]
def interned : List (Array UInt16 × Addr) := []
def slotsUsed : Nat := 4
def theMethod : MethodId := ⟨1, 1⟩
def args0 : Array Value := #[.long 5, .long 7]
def aboutOver (below : List Frame) : State where
  vm := { classes := classes, interned := interned.toArray }
  heap := heap
  slotsUsed := slotsUsed
  threads := #[{ frames := .invoking theMethod args0 :: below }]
def below0 : List Frame := [.native { method := ⟨0, 0⟩, args := #[] }]
def about1 : State := aboutOver below0
def p0 : Program := .bare "" "" ""
def e0 : Env := launch0.env 0 0 0
theorem w_frames : about1.frames = Frame.invoking theMethod args0 :: below0 := rfl
set_option maxRecDepth 65536 in
theorem w_args : argsFit about1.vm theMethod args0 = true := by decide +kernel
set_option maxRecDepth 65536 in
theorem w_heap : heapFits about1 = true := by decide +kernel
set_option maxRecDepth 65536 in
theorem w_runnable : about1.curStatus? = some .runnable := by decide +kernel
set_option maxRecDepth 65536 in
theorem w_alone : about1.alone = true := by decide +kernel
set_option maxRecDepth 65536 in
theorem w_named : about1.methodNamed? x = some theMethod := by decide +kernel
set_option maxRecDepth 65536 in
theorem w_hears : about1.hears theMethod below0 = true := by decide +kernel
set_option maxRecDepth 65536 in
theorem w_ripe : about1.ripe theMethod args0 below0 = true := by decide +kernel
theorem w_running : about1.status = .running := rfl
set_option maxRecDepth 65536 in
theorem w_room : about1.hasRoom e0.platform room_1 = true :=
  launch0.hasRoom_least _ room_1 (by decide +kernel) (by decide +kernel) (by decide +kernel) (by decide +kernel) (by decide +kernel) (by decide +kernel)
theorem allAtoms_all (ts : List Jvm.Cond) (a : Array Jvm.Value) (st : Jvm.State) : (allAtoms ts).before a st = ts.all (fun c => c.before a st) := by
  induction ts with
  | nil => rfl
  | cons c t ih =>
    show (Jvm.Cond.and c (allAtoms t)).before a st = _
    rw [Jvm.Cond.before_and, ih, List.all_cons]
def words1 : List Jvm.Cond := Jvm.Cond.code x code maxLocals ret :: tables_1
/-- a 'code' word, met by the world's own term for the bytes: nothing is compared byte by byte -/
theorem code_word {y : MethodName} {bytes : ByteArray} {mx : Nat} {rt : Option FieldType} {a : Array Value} {s : State} {m : MethodId} {meth : Method} {c : Code} (h1 : s.methodNamed? y = some m) (h2 : s.vm.method? m = some meth) (h3 : meth.code = some c) (h4 : c.code = bytes)
    (h5 : (c.maxLocals == mx && c.exceptionTable.isEmpty && decide (c.maxStack ≤ mostOperands) && decide (meth.sig.returnType = rt) && !meth.locks && decide (parseMethodDescriptor y.desc = some meth.sig)) = true) : (Jvm.Cond.code y bytes mx rt).before a s = true := by
  simp only [Bool.and_eq_true, beq_iff_eq, Bool.not_eq_true', decide_eq_true_eq] at h5
  obtain ⟨⟨⟨⟨⟨g1, g2⟩, g3⟩, g4⟩, g5⟩, g6⟩ := h5
  simp [Cond.before, Cond.holds, Cond.value, h1, h2, h3, h4, g1, g2, g3, g4, g5, g6]
def isCode : Jvm.Cond → Bool
  | .code _ _ _ _ => true
  | _ => false
theorem all_split {L : List Jvm.Cond} {P : Jvm.Cond → Bool} (h1 : L.all (fun c => isCode c || P c) = true) (h2 : ∀ c ∈ L.filter isCode, P c = true) : L.all P = true := by
  refine List.all_eq_true.mpr fun c hc => ?_
  have h := List.all_eq_true.mp h1 c hc
  rcases Bool.eq_false_or_eq_true (isCode c) with hi | hi
  · exact h2 c (List.mem_filter.mpr ⟨hc, hi⟩)
  · simpa [hi] using h
set_option maxRecDepth 65536 in
theorem w_c0 : (Jvm.Cond.code x code maxLocals ret).before args0 about1 = true := code_word (m := ⟨1, 1⟩) (meth := k1m1) (c := k1c1) (by decide +kernel) rfl rfl rfl (by decide +kernel)
set_option maxRecDepth 65536 in
theorem w_c1 : (Jvm.Cond.code ({ cls := "com/example/matchgate/matchgate/core/OrderLedger", name := "<init>", desc := "()V" } : Jvm.MethodName) prog_32_method_1_code (1 : Nat) (Option.none : Option Jvm.ClassFile.FieldType)).before args0 about1 = true := code_word (m := ⟨2, 0⟩) (meth := k2m0) (c := k2c0) (by decide +kernel) rfl rfl rfl (by decide +kernel)
set_option maxRecDepth 65536 in
theorem w_c2 : (Jvm.Cond.code ({ cls := "java/lang/Object", name := "<init>", desc := "()V" } : Jvm.MethodName) object_method_1_code (1 : Nat) (Option.none : Option Jvm.ClassFile.FieldType)).before args0 about1 = true := code_word (m := ⟨0, 0⟩) (meth := k0m0) (c := k0c0) (by decide +kernel) rfl rfl rfl (by decide +kernel)
set_option maxRecDepth 65536 in
theorem w_c3 : (Jvm.Cond.code ({ cls := "java/util/HashMap", name := "<init>", desc := "()V" } : Jvm.MethodName) jdk_69_method_7_code (1 : Nat) (Option.none : Option Jvm.ClassFile.FieldType)).before args0 about1 = true := code_word (m := ⟨7, 0⟩) (meth := k7m0) (c := k7c0) (by decide +kernel) rfl rfl rfl (by decide +kernel)
set_option maxRecDepth 65536 in
theorem w_c4 : (Jvm.Cond.code ({ cls := "java/util/AbstractMap", name := "<init>", desc := "()V" } : Jvm.MethodName) jdk_71_method_1_code (1 : Nat) (Option.none : Option Jvm.ClassFile.FieldType)).before args0 about1 = true := code_word (m := ⟨4, 0⟩) (meth := k4m0) (c := k4c0) (by decide +kernel) rfl rfl rfl (by decide +kernel)
set_option maxRecDepth 65536 in
theorem w_c5 : (Jvm.Cond.code ({ cls := "java/util/ArrayList", name := "<init>", desc := "()V" } : Jvm.MethodName) jdk_38_method_2_code (1 : Nat) (Option.none : Option Jvm.ClassFile.FieldType)).before args0 about1 = true := code_word (m := ⟨15, 0⟩) (meth := k15m0) (c := k15c0) (by decide +kernel) rfl rfl rfl (by decide +kernel)
set_option maxRecDepth 65536 in
theorem w_c6 : (Jvm.Cond.code ({ cls := "java/util/AbstractList", name := "<init>", desc := "()V" } : Jvm.MethodName) jdk_39_method_1_code (1 : Nat) (Option.none : Option Jvm.ClassFile.FieldType)).before args0 about1 = true := code_word (m := ⟨13, 0⟩) (meth := k13m0) (c := k13c0) (by decide +kernel) rfl rfl rfl (by decide +kernel)
set_option maxRecDepth 65536 in
theorem w_c7 : (Jvm.Cond.code ({ cls := "java/util/AbstractCollection", name := "<init>", desc := "()V" } : Jvm.MethodName) jdk_22_method_1_code (1 : Nat) (Option.none : Option Jvm.ClassFile.FieldType)).before args0 about1 = true := code_word (m := ⟨10, 0⟩) (meth := k10m0) (c := k10c0) (by decide +kernel) rfl rfl rfl (by decide +kernel)
set_option maxRecDepth 65536 in
theorem w_c8 : (Jvm.Cond.code ({ cls := "com/example/matchgate/matchgate/core/OrderLedger", name := "accepted", desc := "(J)Z" } : Jvm.MethodName) prog_32_method_3_code (3 : Nat) (Option.some Jvm.ClassFile.FieldType.boolean)).before args0 about1 = true := code_word (m := ⟨2, 1⟩) (meth := k2m1) (c := k2c1) (by decide +kernel) rfl rfl rfl (by decide +kernel)
def codes1 : List Jvm.Cond := [Jvm.Cond.code x code maxLocals ret, Jvm.Cond.code ({ cls := "com/example/matchgate/matchgate/core/OrderLedger", name := "<init>", desc := "()V" } : Jvm.MethodName) prog_32_method_1_code (1 : Nat) (Option.none : Option Jvm.ClassFile.FieldType), Jvm.Cond.code ({ cls := "java/lang/Object", name := "<init>", desc := "()V" } : Jvm.MethodName) object_method_1_code (1 : Nat) (Option.none : Option Jvm.ClassFile.FieldType), Jvm.Cond.code ({ cls := "java/util/HashMap", name := "<init>", desc := "()V" } : Jvm.MethodName) jdk_69_method_7_code (1 : Nat) (Option.none : Option Jvm.ClassFile.FieldType), Jvm.Cond.code ({ cls := "java/util/AbstractMap", name := "<init>", desc := "()V" } : Jvm.MethodName) jdk_71_method_1_code (1 : Nat) (Option.none : Option Jvm.ClassFile.FieldType), Jvm.Cond.code ({ cls := "java/util/ArrayList", name := "<init>", desc := "()V" } : Jvm.MethodName) jdk_38_method_2_code (1 : Nat) (Option.none : Option Jvm.ClassFile.FieldType), Jvm.Cond.code ({ cls := "java/util/AbstractList", name := "<init>", desc := "()V" } : Jvm.MethodName) jdk_39_method_1_code (1 : Nat) (Option.none : Option Jvm.ClassFile.FieldType), Jvm.Cond.code ({ cls := "java/util/AbstractCollection", name := "<init>", desc := "()V" } : Jvm.MethodName) jdk_22_method_1_code (1 : Nat) (Option.none : Option Jvm.ClassFile.FieldType), Jvm.Cond.code ({ cls := "com/example/matchgate/matchgate/core/OrderLedger", name := "accepted", desc := "(J)Z" } : Jvm.MethodName) prog_32_method_3_code (3 : Nat) (Option.some Jvm.ClassFile.FieldType.boolean)]
set_option maxRecDepth 65536 in
theorem codes_eq : words1.filter isCode = codes1 := rfl
theorem w_codes : ∀ c ∈ words1.filter isCode, c.before args0 about1 = true := by
  rw [codes_eq]
  intro c hc
  simp only [codes1, List.mem_cons, List.not_mem_nil, or_false] at hc
  rcases hc with rfl | rfl | rfl | rfl | rfl | rfl | rfl | rfl | rfl
  · exact w_c0
  · exact w_c1
  · exact w_c2
  · exact w_c3
  · exact w_c4
  · exact w_c5
  · exact w_c6
  · exact w_c7
  · exact w_c8
set_option maxRecDepth 65536 in
theorem w_t1 : (words1.take 24).all (fun c => isCode c || c.before args0 about1) = true := by decide +kernel
set_option maxRecDepth 65536 in
theorem w_t2 : ((words1.drop 24).take 24).all (fun c => isCode c || c.before args0 about1) = true := by decide +kernel
set_option maxRecDepth 65536 in
theorem w_t3 : ((words1.drop 24).drop 24).all (fun c => isCode c || c.before args0 about1) = true := by decide +kernel
theorem w_tables : (allAtoms (Jvm.Cond.code x code maxLocals ret :: tables_1)).before args0 about1 = true := by
  rw [allAtoms_all]
  show words1.all (fun c => c.before args0 about1) = true
  refine all_split ?_ w_codes
  rw [← List.take_append_drop 24 words1, List.all_append, w_t1, ← List.take_append_drop 24 (words1.drop 24), List.all_append, w_t2, w_t3]
  rfl
set_option maxRecDepth 65536 in
theorem w_rest : rest_1_c.before args0 about1 = true := by decide +kernel
set_option maxRecDepth 65536 in
theorem w_case : (Jvm.Cond.and given_1 narrow_1).before args0 about1 = true := by decide +kernel
theorem w_applies : (headSpec (Jvm.Cond.code x code maxLocals ret :: tables_1) room_1).applies x e0.platform about1 = true :=
  (Spec.applies_iff w_frames).mpr ⟨w_running, w_runnable, w_alone, w_named, w_hears, w_ripe, w_room, w_tables⟩
theorem atStart : AtStart classFile x code maxLocals ret World_1 tables_1 room_1 Calls_1 rest_1 Pre_1 launch0 p0 e0 about1 theMethod args0 below0 :=
  ⟨lists_1, trivial, launch0.admits_env _ _ _, launch0.least_env, fairChoices_fair.cas, fairChoices_fair.clock, w_frames, w_args, w_heap, w_applies, trivial, w_rest, w_case⟩
end start1
theorem witness_1 : WitnessClaimed_1 := ⟨start1.p0, start1.e0, start1.about1, start1.theMethod, start1.args0, start1.below0, start1.atStart⟩
end Jvm.Pilot.@@N@@
