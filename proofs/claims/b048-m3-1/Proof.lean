import JvmDerived
import JvmDerived.Pilot.@@N@@Statement
import JvmDerived.Pilot.@@N@@Code
set_option linter.unusedVariables false
set_option linter.unusedSimpArgs false
@@BLOCK:NumsL.lean.txt@@
namespace Jvm.RoadKit
open Sem ClassFile Op Lib Jvm.Stand Jvm.Free Jvm.LawKit
section New
variable {p : Program} {l : Launch} {e : Env} {R : Room} {s : State} {m : MethodId} {args : Array Value} {below : List Frame} {meth : Method} {c : Code} {T : State} {locs : List Loc} {cells slots : Nat}
theorem retI (X : Stand p l e R s m args below meth c T locs cells slots) (hx : p.tables.exec = Jvm.exec) {pc : Nat} {Ls : Array Slot} {z : Int32} {rest : List Value} (hret : meth.sig.returnType = some .int) (hd : decode c.code pc = .ok (.ireturn, 1)) {fs : List Frame}
    (hl : ∀ (f : JFrame) (acts : List Action), f.method = m → f.locked = none → f.entered = [] → (doReturn e (T.setTop f) acts (some (.int z))).1 = T.setFrames fs) : Steps p.tables e below (T.setTop (mkF m pc Ls (.int z :: rest))) (T.setFrames fs) := by
  have hm' : T.vm.method? m = some meth := X.method'
  have hn : narrow .int (.int z) = .int z := rfl
  show Steps p.tables e below (T.setTop { method := m, pc := pc, locals := Ls, stack := _ :: rest, locked := none }) _
  jvm_step X.here [X.here.top, hx, hd, hm', hret, hn]
  first | (intro acts; rw [hl _ acts rfl rfl rfl]) | rw [hl _ _ rfl rfl rfl]
  exact Steps.refl _
end New
end Jvm.RoadKit
namespace Jvm.Pilot.@@N@@
open Jvm Jvm.ClassFile Sem Op Lib Jvm.Free Jvm.Stand Jvm.LawKit Jvm.RoadKit Bundle Jvm.Pilot.@@N@@.Jvm.D
/-- a step ahead of a run that ends -/
theorem own_go {p : Program} {e : Env} {below : List Frame} {P : State → Outcome → Prop} {a b : State} (h : ∀ t, Steps p.tables e below b t → Steps p.tables e below a t) (k : ∃ s₂ o, Steps p.tables e below b s₂ ∧ P s₂ o) : ∃ s₂ o, Steps p.tables e below a s₂ ∧ P s₂ o := by
  obtain ⟨t, o, h1, h2⟩ := k; exact ⟨t, o, h t h1, h2⟩
theorem own_bit (x : Int32) : (x &&& (1 : Int32)) = (0 : Int32) ∨ (x &&& (1 : Int32)) = (1 : Int32) := by
  have e1 : (x &&& (1 : Int32)).toInt = x.toInt % 2 ^ 1 := Jvm.Kit.i32_mask x 1 (k := 1) (by decide) (by decide)
  have l0 : (0 : Int32).toInt = 0 := rfl
  have l1 : (1 : Int32).toInt = 1 := rfl
  simp only [← Int32.toInt_inj, e1, l0, l1]
  omega
theorem own_len {args : Array Value} {s : State} {t : Term} {x : Addr} {cl : Cell} {ty : FieldType} {k : Int32} (et : t.eval args s none [] s = some (.ref x)) (A : Arr s s.heap x cl ty) (h : (Jvm.Cond.eq (Jvm.Term.length t) (Jvm.Term.int k)).value args s none s [] = some true) : cl.slots.size < 2 ^ 31 ∧ cl.slots.size.toInt32 = k := by
  have e := eqv_i (Term.int_eval k) h
  have hA := A.fin (Vm.Alike.refl s.vm)
  by_cases q : cl.slots.size < 2 ^ 31
  · rw [len_f et hA q] at e
    exact ⟨q, Value.int.inj (Option.some.inj e)⟩
  · simp [Term.eval, et, hA, q] at e
theorem own_elem {args : Array Value} {s : State} {t u : Term} {x : Addr} {cl : Cell} {ty : FieldType} {j : Int32} {v : Value} (et : t.eval args s none [] s = some (.ref x)) (A : Arr s s.heap x cl ty) (hj : ¬ j < 0) (h : (Jvm.Term.elem t (Jvm.Term.int j)).eval args s none [] s = some v) : cl.slots[j.toNatClampNeg]? = some v := by
  rw [elem_f et (Term.int_eval j) (A.fin (Vm.Alike.refl s.vm)) hj] at h
  exact h
theorem own_refs {args : Array Value} {s : State} {a b : Term} {x : Addr} (hb : b.eval args s none [] s = some (.ref x)) (h : (Jvm.Cond.eq a b).value args s none s [] = some true) : a.eval args s none [] s = some (.ref x) := by
  obtain ⟨u, w, h1, h2, k1, k2⟩ := cmp_v (Or.inl h)
  cases hb.symm.trans h2
  have hu : u.isRef = true := by cases u <;> simp_all [Kin, Value.isRef]
  have q := eq_R h1 h2 hu rfl
  rw [h1, gotT q h]
theorem own_staKeep {Z : State} {h h' : Heap} {C n d K : String} {w : Value} {a : Addr} (F : Sta Z h C n d w) (E : Exa Z h a K) (Kp : Keep h h' [a]) : Sta Z h' C n d w := by
  obtain ⟨cf, i, k, f, st, cell, h1, h2, h3, h4, h5, h6, h7⟩ := F
  refine ⟨cf, i, k, f, st, cell, h1, h2, h3, h4, Kp.2.1 st cell h5 ?_, h6, h7⟩
  intro q
  cases List.mem_singleton.mp q
  obtain ⟨c2, k2, e1, -, -, e4, -⟩ := E
  cases h5.symm.trans e1
  rw [h6] at e4
  cases e4
theorem own_staKeep0 {Z : State} {h h' : Heap} {C n d : String} {w : Value} (F : Sta Z h C n d w) (Kp : Keep h h' []) : Sta Z h' C n d w := by
  obtain ⟨cf, i, k, f, st, cell, h1, h2, h3, h4, h5, h6, h7⟩ := F
  exact ⟨cf, i, k, f, st, cell, h1, h2, h3, h4, Kp.2.1 st cell h5 List.not_mem_nil, h6, h7⟩
theorem own_nin {a b c : Addr} (h1 : a ≠ b) (h2 : a ≠ c) : a ∉ [b, c] := by
  intro q
  simp only [List.mem_cons, List.not_mem_nil, or_false] at q
  exact q.elim h1 h2
theorem own_in2 {a b c : Addr} (q : a ∈ [b, c]) : a = b ∨ a = c := by
  simpa only [List.mem_cons, List.not_mem_nil, or_false] using q
theorem own_selPriv {s : State} {args : Array Value} {y z : MethodName} (hcls : z.cls = y.cls) (hi : (Cond.instanceMethod y).before args s = true) (hpriv : s.PrivateAt y) (hz : (Cond.selects z.cls z z).before args s = true) (hy : y.cls ≠ "java/lang/invoke/MethodHandle" ∧ y.cls ≠ "java/lang/invoke/VarHandle") : (Cond.selects y.cls y y).before args s = true := by
  obtain ⟨c2, r2, m2, z1, -, z3, -, kP, hkP, hkPi⟩ := Cond.selects_spec hz
  have hcz := findClass_of_methodNamed z3
  rw [hcls] at hcz
  exact selects_self_of_private hcz hkP hkPi hpriv hi hy
theorem own_pd0 : parseMethodDescriptor "()V" = some ⟨[], none⟩ := by decide +kernel
theorem own_pd1 : parseMethodDescriptor "(II)I" = some ⟨[.int, .int], some .int⟩ := by decide +kernel
theorem own_pd2 : parseMethodDescriptor "(I)[Ljava/lang/Object;" = some ⟨[.int], some (.array (.object "java/lang/Object"))⟩ := by decide +kernel
theorem own_pd3 : parseMethodDescriptor "()[Ljava/lang/Object;" = some ⟨[], some (.array (.object "java/lang/Object"))⟩ := by decide +kernel
theorem own_pd4 : parseMethodDescriptor "(Ljava/lang/Object;[Ljava/lang/Object;I)V" = some ⟨[(.object "java/lang/Object"), (.array (.object "java/lang/Object")), .int], none⟩ := by decide +kernel
theorem own_pd5 : parseMethodDescriptor "()[Lcom/example/corollary/corollary/EstimateMethod;" = some ⟨[], some (.array (.object "com/example/corollary/corollary/EstimateMethod"))⟩ := by decide +kernel
theorem own_pd6 : parseMethodDescriptor "(Ljava/lang/Object;)Z" = some ⟨[(.object "java/lang/Object")], some .boolean⟩ := by decide +kernel
theorem own_pd7 : parseMethodDescriptor "(IILjava/util/function/BiFunction;)I" = some ⟨[.int, .int, (.object "java/util/function/BiFunction")], some .int⟩ := by decide +kernel
theorem own_pd8 : parseMethodDescriptor "(I)Ljava/lang/Object;" = some ⟨[.int], some (.object "java/lang/Object")⟩ := by decide +kernel
theorem own_pd9 : parseMethodDescriptor "([B[B)Z" = some ⟨[(.array .byte), (.array .byte)], some .boolean⟩ := by decide +kernel
theorem own_pd10 : parseMethodDescriptor "()Ljava/util/List;" = some ⟨[], some (.object "java/util/List")⟩ := by decide +kernel
theorem own_pd11 : parseMethodDescriptor "()I" = some ⟨[], some .int⟩ := by decide +kernel
theorem own_pd12 : parseMethodDescriptor "()Ljava/lang/String;" = some ⟨[], some (.object "java/lang/String")⟩ := by decide +kernel
theorem own_pd13 : parseMethodDescriptor "(Ljava/lang/String;)Lcom/example/corollary/corollary/EstimateMethod;" = some ⟨[(.object "java/lang/String")], some (.object "com/example/corollary/corollary/EstimateMethod")⟩ := by decide +kernel
theorem own_pn0 : plainName "java/util/AbstractCollection" = true := by first | (simp [plainName, overriddenIn]; done) | decide +kernel
theorem own_pn1 : plainName "java/util/AbstractList" = true := by first | (simp [plainName, overriddenIn]; done) | decide +kernel
theorem own_pn2 : plainName "java/util/ArrayList" = true := by first | (simp [plainName, overriddenIn]; done) | decide +kernel
theorem own_pn3 : plainName "com/example/corollary/corollary/EstimateMethod" = true := by first | (simp [plainName, overriddenIn]; done) | decide +kernel
theorem own_pn4 : plainName "jdk/internal/util/Preconditions" = true := by first | (simp [plainName, overriddenIn]; done) | decide +kernel
theorem own_pn5 : plainName "java/util/Objects" = true := by first | (simp [plainName, overriddenIn]; done) | decide +kernel
theorem own_pn6 : plainName "java/lang/String" = true := by first | (simp [plainName, overriddenIn]; done) | decide +kernel
theorem own_pn7 : plainName "java/lang/StringLatin1" = true := by first | (simp [plainName, overriddenIn]; done) | decide +kernel
theorem own_pn8 : plainName "com/example/corollary/corollary/EstimateMethodNamesPinLaw" = true := by first | (simp [plainName, overriddenIn]; done) | decide +kernel
theorem own_atoms {Z : State} {a0 : Array Value} (hw : ∀ d ∈ tables_1, d.before a0 Z = true) : ∀ a ∈ Bundle.stringAtoms, a.before a0 Z = true := by
  intro d hd
  simp only [Bundle.stringAtoms, Bundle.sN, List.mem_cons, List.not_mem_nil, or_false] at hd
  rcases hd with rfl | rfl | rfl | rfl | rfl | rfl | rfl
  · exact (hw _ (List.mem_of_getElem? (i := 91) rfl))
  · exact (hw _ (List.mem_of_getElem? (i := 92) rfl))
  · exact (hw _ (List.mem_of_getElem? (i := 93) rfl))
  · exact (hw _ (List.mem_of_getElem? (i := 94) rfl))
  · exact (hw _ (List.mem_of_getElem? (i := 95) rfl))
  · exact (hw _ (List.mem_of_getElem? (i := 96) rfl))
  · exact (hw _ (List.mem_of_getElem? (i := 97) rfl))
def own_QN  (h0 : Heap) (n0 : Nat) (v : Option Value) (h : Heap) (L : List Loc) : Prop := v = none ∧ Fr n0 L ∧ h = h0
def own_QI (r : Int32) (h0 : Heap) (n0 : Nat) (v : Option Value) (h : Heap) (L : List Loc) : Prop := v = some (.int r) ∧ Fr n0 L ∧ h = h0
def own_QR (r : Addr) (h0 : Heap) (n0 : Nat) (v : Option Value) (h : Heap) (L : List Loc) : Prop := v = some (.ref r) ∧ Fr n0 L ∧ h = h0
theorem d_own_rmAC_0 : decode jdk_22_method_1_code 0 = .ok (.aload_n 0, 1) := by decide +kernel
theorem d_own_rmAC_1 : decode jdk_22_method_1_code 1 = .ok (.invokespecial 1, 3) := by decide +kernel
theorem d_own_rmAC_4 : decode jdk_22_method_1_code 4 = .ok (.return_, 1) := by decide +kernel
theorem ef_own_rmAC (m : MethodId) (x0 : Addr) : entryFrame m #[(.ref x0)] 1 = mkF m 0 #[.val (.ref x0)] [] := by first | (simp [entryFrame, mkF, argsToLocals, Value.category]; done) | rfl
set_option maxRecDepth 65536 in
set_option maxHeartbeats 40000000 in
theorem own_rmAC (l : Launch) (Z : State) (a0 : Array Value) (hw : ∀ d ∈ tables_1, d.before a0 Z = true) (ws : List Jvm.Cond) (b0 : Addr)  (h0 : Heap) (n0 : Nat) (Z0 : n0 ≤ h0.size)  :
    MetFree l (⟨"java/util/AbstractCollection", "<init>", "()V"⟩ : MethodName) (head1 (Jvm.Cond.code (⟨"java/util/AbstractCollection", "<init>", "()V"⟩ : MethodName) jdk_22_method_1_code 1 none :: ws) ({ frames := 1, cells := 0, slots := 0, locals := 12 } : Room)) (fun a U => a = #[(.ref b0)] ∧ Z.Warmed39 U.vm ∧ U.heap = h0) (fun _ _ _ _ _ => True) (fun _ U o U' => ∃ v L, o = .returned v ∧ own_QN h0 n0 v U'.heap L ∧ FrameEnd U o U' L ({ frames := 1, cells := 0, slots := 0, locals := 12 } : Room).cells ({ frames := 1, cells := 0, slots := 0, locals := 12 } : Room).slots) := by
  refine MetFree.of_bodySF (plainFor_of_name own_pn0) hisR ?_
  intro p e s m args below meth c s₁ Bd hml0 hP hK
  obtain ⟨rfl, hZ, hh⟩ := hP
  have hx := Bd.exec
  have hby := Bd.bytes
  have hml : c.maxLocals = 1 := hml0
  have hown : s.vm.findClass "java/util/AbstractCollection" = some m.cls := findClass_of_methodNamed Bd.named
  have hnm := (name_of_methodNamed Bd.named Bd.method).1
  have X0 : Stand p l e ({ frames := 1, cells := 0, slots := 0, locals := 12 } : Room) s m #[(.ref b0)] below meth c s₁ [] 0 0 := Stand.of_body Bd
  have e0 : s₁.heap = h0 := by rw [← hh, Bd.state]; rfl
  have N0 := Fr.nil n0
  refine own_go (b := s₁.setTop (mkF m 0 #[.val (.ref b0)] [])) (fun t k => castTop (ef_own_rmAC m b0) k) ?_
  obtain ⟨T1, X1, e1, st1⟩ := initO X0 hx hZ hown (hw _ (List.mem_of_getElem? (i := 22) rfl)) (hw _ (List.mem_of_getElem? (i := 23) rfl)) (hw _ (List.mem_of_getElem? (i := 24) rfl)) e0 (g := (mkF m 1 #[.val (.ref b0)] [(.ref b0)])) rfl (by rw [hml]; rfl) rfl (hb hby d_own_rmAC_1) (by decide) (W := 0) (by show 2 * 0 + _ ≤ _; exact Nat.le_of_eq rfl) (by decide)
  obtain ⟨fs, hr, hrun, hended, hW, hsame⟩ := X1.leave (v := none) (fun _ => rfl)
  refine ⟨_, _, ?_, hrun, hended, _, _, rfl, ?_, ⟨_, rfl⟩, hW, hsame.mono (by decide) (by decide)⟩
  · show Steps p.tables e below (s₁.setTop (mkF m 0 #[.val (.ref b0)] [])) _
    refine XS.aloadN X0.here hx rfl (hb hby d_own_rmAC_0) rfl rfl ?_
    show Steps p.tables e below (s₁.setTop (mkF m 1 #[.val (.ref b0)] [(.ref b0)])) _
    refine st1 _ ?_
    show Steps p.tables e below (T1.setTop (mkF m 4 #[.val (.ref b0)] [])) _
    exact X1.returnOut hx Bd.returns (hb hby d_own_rmAC_4) hr
  · show own_QN h0 n0 _ T1.heap _
    rw [e1]
    exact ⟨rfl, N0, rfl⟩
def own_QL (Z : State) (a : Addr) (mc : Int32) (ed : Value) (sz : Int32) (h0 : Heap) (n0 : Nat) (v : Option Value) (h : Heap) (L : List Loc) : Prop := v = none ∧ Fr n0 L ∧ Keep h0 h [a] ∧ Fld Z h a "java/util/AbstractList" "modCount" "I" (.int mc) ∧ Fld Z h a "java/util/ArrayList" "elementData" "[Ljava/lang/Object;" ed ∧ Fld Z h a "java/util/ArrayList" "size" "I" (.int sz)
theorem d_own_rmAL_0 : decode jdk_39_method_1_code 0 = .ok (.aload_n 0, 1) := by decide +kernel
theorem d_own_rmAL_1 : decode jdk_39_method_1_code 1 = .ok (.invokespecial 1, 3) := by decide +kernel
theorem d_own_rmAL_4 : decode jdk_39_method_1_code 4 = .ok (.aload_n 0, 1) := by decide +kernel
theorem d_own_rmAL_5 : decode jdk_39_method_1_code 5 = .ok (.iconst 0, 1) := by decide +kernel
theorem d_own_rmAL_6 : decode jdk_39_method_1_code 6 = .ok (.putfield 7, 3) := by decide +kernel
theorem d_own_rmAL_9 : decode jdk_39_method_1_code 9 = .ok (.return_, 1) := by decide +kernel
theorem ef_own_rmAL (m : MethodId) (x0 : Addr) : entryFrame m #[(.ref x0)] 1 = mkF m 0 #[.val (.ref x0)] [] := by first | (simp [entryFrame, mkF, argsToLocals, Value.category]; done) | rfl
set_option maxRecDepth 65536 in
set_option maxHeartbeats 40000000 in
theorem own_rmAL (l : Launch) (Z : State) (a0 : Array Value) (hw : ∀ d ∈ tables_1, d.before a0 Z = true) (ws : List Jvm.Cond) (b0 : Addr)  (h0 : Heap) (n0 : Nat) (Z0 : n0 ≤ h0.size) (E_0 : Exa Z h0 b0 "java/util/ArrayList") (F_m : Fld Z h0 b0 "java/util/AbstractList" "modCount" "I" (.int (0 : Int32))) (F_e : Fld Z h0 b0 "java/util/ArrayList" "elementData" "[Ljava/lang/Object;" .null) (F_s : Fld Z h0 b0 "java/util/ArrayList" "size" "I" (.int (0 : Int32))) (g_0 : n0 ≤ b0) :
    MetFree l (⟨"java/util/AbstractList", "<init>", "()V"⟩ : MethodName) (head1 (Jvm.Cond.code (⟨"java/util/AbstractList", "<init>", "()V"⟩ : MethodName) jdk_39_method_1_code 1 none :: ws) ({ frames := 2, cells := 0, slots := 0, locals := 24 } : Room)) (fun a U => a = #[(.ref b0)] ∧ Z.Warmed39 U.vm ∧ U.heap = h0) (fun _ _ _ _ _ => True) (fun _ U o U' => ∃ v L, o = .returned v ∧ own_QL Z b0 (0 : Int32) .null (0 : Int32) h0 n0 v U'.heap L ∧ FrameEnd U o U' L ({ frames := 2, cells := 0, slots := 0, locals := 24 } : Room).cells ({ frames := 2, cells := 0, slots := 0, locals := 24 } : Room).slots) := by
  refine MetFree.of_bodySF (plainFor_of_name own_pn1) hisR ?_
  intro p e s m args below meth c s₁ Bd hml0 hP hK
  obtain ⟨rfl, hZ, hh⟩ := hP
  have hx := Bd.exec
  have hby := Bd.bytes
  have hml : c.maxLocals = 1 := hml0
  have hown : s.vm.findClass "java/util/AbstractList" = some m.cls := findClass_of_methodNamed Bd.named
  have hnm := (name_of_methodNamed Bd.named Bd.method).1
  have X0 : Stand p l e ({ frames := 2, cells := 0, slots := 0, locals := 24 } : Room) s m #[(.ref b0)] below meth c s₁ [] 0 0 := Stand.of_body Bd
  have e0 : s₁.heap = h0 := by rw [← hh, Bd.state]; rfl
  have N0 := Fr.nil n0
  refine own_go (b := s₁.setTop (mkF m 0 #[.val (.ref b0)] [])) (fun t k => castTop (ef_own_rmAL m b0) k) ?_
  obtain ⟨_, _, ⟨T1, L1, k1, n1⟩, -, X1, ⟨Lc1, hQ1, l1, y1, z1⟩, st1⟩ := X0.specialBack hx (y := (⟨"java/util/AbstractCollection", "<init>", "()V"⟩ : MethodName)) rfl hown (mvT hZ (hw _ (List.mem_of_getElem? (i := 16) rfl))) (mvT hZ (hw _ (List.mem_of_getElem? (i := 17) rfl))) (mvT hZ (hw _ (List.mem_of_getElem? (i := 21) rfl))) (by decide) (backOf (W := 0) (own_rmAC l Z a0 hw [] b0  h0 n0 Z0 ) hZ (hw _ (List.mem_of_getElem? (i := 21) rfl)) (hw _ (List.mem_of_getElem? (i := 20) rfl)) (by decide) (by decide)) (g := (mkF m 1 #[.val (.ref b0)] [(.ref b0)])) rfl (by rw [hml]; rfl) (Steps.refl _) (a := b0) (argsL := []) (rest := []) (lenOf own_pd0 rfl) rfl (by show 2 * 0 + _ ≤ _; exact Nat.le_of_eq rfl) (hb hby d_own_rmAL_1) (fun _ _ => ⟨rfl, e0, (by decide : 0 + 0 ≤ _), (by decide : 0 + 0 ≤ _)⟩)
  dsimp only [Pt.U, Pt.locs, Pt.cells, Pt.slots] at X1 l1 y1 z1 st1 hQ1
  subst l1 y1 z1
  obtain ⟨rfl, N1q, e1⟩ := hQ1
  have N1 := Fr.app N0 N1q
  obtain ⟨T2, h2, X2, e2, W2, st2⟩ := putF X1 hx hZ hown (host := "") (Or.inl (hw _ (List.mem_of_getElem? (i := 25) rfl))) Via.refl e1 F_m E_0 (Or.inl (hw _ (List.mem_of_getElem? (i := 26) rfl))) (hw _ (List.mem_of_getElem? (i := 5) rfl)) (ty := .int) (by decide) rfl rfl (g := (mkF m 6 #[.val (.ref b0)] [(.int (0 : Int32)), (.ref b0)])) rfl rfl (hb hby d_own_rmAL_6)
  have E_b0_2 := E_0.wr W2
  have F_b0_elementData_2 := F_e.other W2 (Or.inr (slot_ne (Or.inl (hw _ (List.mem_of_getElem? (i := 29) rfl))) (Or.inl (hw _ (List.mem_of_getElem? (i := 26) rfl))) (by decide) (t := (.array (.object "java/lang/Object"))) (t' := .int) (by decide) (by decide)))
  have F_b0_size_2 := F_s.other W2 (Or.inr (slot_ne (Or.inl (hw _ (List.mem_of_getElem? (i := 55) rfl))) (Or.inl (hw _ (List.mem_of_getElem? (i := 26) rfl))) (by decide) (t := .int) (t' := .int) (by decide) (by decide)))
  have Z2 := Nat.le_trans Z0 (Keep.of_wr W2).1
  have K2 := (Keep.refl h0 [b0]).wr W2 (Or.inl (List.mem_of_getElem? (i := 0) rfl))
  have N2 := Fr.snoc X2 N1 g_0
  have F_b0_modCount_2 := F_m.same W2
  obtain ⟨fs, hr, hrun, hended, hW, hsame⟩ := X2.leave (v := none) (fun _ => rfl)
  refine ⟨_, _, ?_, hrun, hended, _, _, rfl, ?_, ⟨_, rfl⟩, hW, hsame.mono (by decide) (by decide)⟩
  · show Steps p.tables e below (s₁.setTop (mkF m 0 #[.val (.ref b0)] [])) _
    refine XS.aloadN X0.here hx rfl (hb hby d_own_rmAL_0) rfl rfl ?_
    show Steps p.tables e below (s₁.setTop (mkF m 1 #[.val (.ref b0)] [(.ref b0)])) _
    refine st1.trans ?_
    show Steps p.tables e below (T1.setTop (mkF m 4 #[.val (.ref b0)] [])) _
    refine XS.aloadN X1.here hx rfl (hb hby d_own_rmAL_4) rfl rfl ?_
    show Steps p.tables e below (T1.setTop (mkF m 5 #[.val (.ref b0)] [(.ref b0)])) _
    refine XS.iconst X1.here hx rfl (hb hby d_own_rmAL_5) ?_
    show Steps p.tables e below (T1.setTop (mkF m 6 #[.val (.ref b0)] [(.int (0 : Int32)), (.ref b0)])) _
    refine st2 _ ?_
    show Steps p.tables e below (T2.setTop (mkF m 9 #[.val (.ref b0)] [])) _
    exact X2.returnOut hx Bd.returns (hb hby d_own_rmAL_9) hr
  · show own_QL Z b0 (0 : Int32) .null (0 : Int32) h0 n0 _ T2.heap _
    rw [e2]
    exact ⟨rfl, N2, K2, F_b0_modCount_2, F_b0_elementData_2, F_b0_size_2⟩
theorem d_own_rmAR_0 : decode jdk_38_method_2_code 0 = .ok (.aload_n 0, 1) := by decide +kernel
theorem d_own_rmAR_1 : decode jdk_38_method_2_code 1 = .ok (.invokespecial 1, 3) := by decide +kernel
theorem d_own_rmAR_4 : decode jdk_38_method_2_code 4 = .ok (.aload_n 0, 1) := by decide +kernel
theorem d_own_rmAR_5 : decode jdk_38_method_2_code 5 = .ok (.getstatic 39, 3) := by decide +kernel
theorem d_own_rmAR_8 : decode jdk_38_method_2_code 8 = .ok (.putfield 9, 3) := by decide +kernel
theorem d_own_rmAR_11 : decode jdk_38_method_2_code 11 = .ok (.return_, 1) := by decide +kernel
theorem ef_own_rmAR (m : MethodId) (x0 : Addr) : entryFrame m #[(.ref x0)] 1 = mkF m 0 #[.val (.ref x0)] [] := by first | (simp [entryFrame, mkF, argsToLocals, Value.category]; done) | rfl
set_option maxRecDepth 65536 in
set_option maxHeartbeats 40000000 in
theorem own_rmAR (l : Launch) (Z : State) (a0 : Array Value) (hw : ∀ d ∈ tables_1, d.before a0 Z = true) (ws : List Jvm.Cond) (b0 : Addr) (dE : Addr) (h0 : Heap) (n0 : Nat) (Z0 : n0 ≤ h0.size) (E_0 : Exa Z h0 b0 "java/util/ArrayList") (F_m : Fld Z h0 b0 "java/util/AbstractList" "modCount" "I" (.int (0 : Int32))) (F_e : Fld Z h0 b0 "java/util/ArrayList" "elementData" "[Ljava/lang/Object;" .null) (F_s : Fld Z h0 b0 "java/util/ArrayList" "size" "I" (.int (0 : Int32))) (g_0 : n0 ≤ b0) (S_D : Sta Z h0 "java/util/ArrayList" "DEFAULTCAPACITY_EMPTY_ELEMENTDATA" "[Ljava/lang/Object;" (.ref dE)) :
    MetFree l (⟨"java/util/ArrayList", "<init>", "()V"⟩ : MethodName) (head1 (Jvm.Cond.code (⟨"java/util/ArrayList", "<init>", "()V"⟩ : MethodName) jdk_38_method_2_code 1 none :: ws) ({ frames := 3, cells := 0, slots := 0, locals := 36 } : Room)) (fun a U => a = #[(.ref b0)] ∧ Z.Warmed39 U.vm ∧ U.heap = h0) (fun _ _ _ _ _ => True) (fun _ U o U' => ∃ v L, o = .returned v ∧ own_QL Z b0 (0 : Int32) (.ref dE) (0 : Int32) h0 n0 v U'.heap L ∧ FrameEnd U o U' L ({ frames := 3, cells := 0, slots := 0, locals := 36 } : Room).cells ({ frames := 3, cells := 0, slots := 0, locals := 36 } : Room).slots) := by
  refine MetFree.of_bodySF (plainFor_of_name own_pn2) hisR ?_
  intro p e s m args below meth c s₁ Bd hml0 hP hK
  obtain ⟨rfl, hZ, hh⟩ := hP
  have hx := Bd.exec
  have hby := Bd.bytes
  have hml : c.maxLocals = 1 := hml0
  have hown : s.vm.findClass "java/util/ArrayList" = some m.cls := findClass_of_methodNamed Bd.named
  have hnm := (name_of_methodNamed Bd.named Bd.method).1
  have X0 : Stand p l e ({ frames := 3, cells := 0, slots := 0, locals := 36 } : Room) s m #[(.ref b0)] below meth c s₁ [] 0 0 := Stand.of_body Bd
  have e0 : s₁.heap = h0 := by rw [← hh, Bd.state]; rfl
  have N0 := Fr.nil n0
  refine own_go (b := s₁.setTop (mkF m 0 #[.val (.ref b0)] [])) (fun t k => castTop (ef_own_rmAR m b0) k) ?_
  obtain ⟨_, _, ⟨T1, L1, k1, n1⟩, -, X1, ⟨Lc1, hQ1, l1, y1, z1⟩, st1⟩ := X0.specialBack hx (y := (⟨"java/util/AbstractList", "<init>", "()V"⟩ : MethodName)) rfl hown (mvT hZ (hw _ (List.mem_of_getElem? (i := 10) rfl))) (mvT hZ (hw _ (List.mem_of_getElem? (i := 11) rfl))) (mvT hZ (hw _ (List.mem_of_getElem? (i := 15) rfl))) (by decide) (backOf (W := 0) (own_rmAL l Z a0 hw [] b0  h0 n0 Z0 E_0 F_m F_e F_s g_0) hZ (hw _ (List.mem_of_getElem? (i := 15) rfl)) (hw _ (List.mem_of_getElem? (i := 14) rfl)) (by decide) (by decide)) (g := (mkF m 1 #[.val (.ref b0)] [(.ref b0)])) rfl (by rw [hml]; rfl) (Steps.refl _) (a := b0) (argsL := []) (rest := []) (lenOf own_pd0 rfl) rfl (by show 2 * 0 + _ ≤ _; exact Nat.le_of_eq rfl) (hb hby d_own_rmAR_1) (fun _ _ => ⟨rfl, e0, (by decide : 0 + 0 ≤ _), (by decide : 0 + 0 ≤ _)⟩)
  dsimp only [Pt.U, Pt.locs, Pt.cells, Pt.slots] at X1 l1 y1 z1 st1 hQ1
  subst l1 y1 z1
  obtain ⟨rfl, N1q, K1q, B1_0, B1_1, B1_2⟩ := hQ1
  have E_b0_1 := E_0.keep K1q
  have S_ArrayList_DEFAULTCAPACITY_EMPTY_ELEMENTDATA_1 := own_staKeep S_D E_0 K1q
  have N1 := Fr.app N0 N1q
  have Z1 := Nat.le_trans Z0 K1q.1
  have K1 := (Keep.refl h0 [b0]).trans K1q (fun x hx => by cases List.mem_singleton.mp hx; exact Or.inl (List.mem_of_getElem? (i := 0) rfl))
  obtain ⟨T2, X2, e2, st2⟩ := getS2 X1 hx hZ hown (host := "") (Or.inl (hw _ (List.mem_of_getElem? (i := 27) rfl))) Via.refl rfl S_ArrayList_DEFAULTCAPACITY_EMPTY_ELEMENTDATA_1 (g := (mkF m 5 #[.val (.ref b0)] [(.ref b0)])) rfl (hb hby d_own_rmAR_5)
  obtain ⟨T3, h3, X3, e3, W3, st3⟩ := putF X2 hx hZ hown (host := "") (Or.inl (hw _ (List.mem_of_getElem? (i := 28) rfl))) Via.refl e2 B1_1 E_b0_1 (Or.inl (hw _ (List.mem_of_getElem? (i := 29) rfl))) (hw _ (List.mem_of_getElem? (i := 5) rfl)) (ty := (.array (.object "java/lang/Object"))) (by decide) rfl rfl (g := (mkF m 8 #[.val (.ref b0)] [(.ref dE), (.ref b0)])) rfl rfl (hb hby d_own_rmAR_8)
  have E_b0_3 := E_b0_1.wr W3
  have S_ArrayList_DEFAULTCAPACITY_EMPTY_ELEMENTDATA_3 := S_ArrayList_DEFAULTCAPACITY_EMPTY_ELEMENTDATA_1.wr W3
  have F_b0_modCount_3 := B1_0.other W3 (Or.inr (slot_ne (Or.inl (hw _ (List.mem_of_getElem? (i := 26) rfl))) (Or.inl (hw _ (List.mem_of_getElem? (i := 29) rfl))) (by decide) (t := .int) (t' := (.array (.object "java/lang/Object"))) (by decide) (by decide)))
  have F_b0_size_3 := B1_2.other W3 (Or.inr (slot_ne (Or.inl (hw _ (List.mem_of_getElem? (i := 55) rfl))) (Or.inl (hw _ (List.mem_of_getElem? (i := 29) rfl))) (by decide) (t := .int) (t' := (.array (.object "java/lang/Object"))) (by decide) (by decide)))
  have Z3 := Nat.le_trans Z1 (Keep.of_wr W3).1
  have K3 := K1.wr W3 (Or.inl (List.mem_of_getElem? (i := 0) rfl))
  have N3 := Fr.snoc X3 N1 g_0
  have F_b0_elementData_3 := B1_1.same W3
  obtain ⟨fs, hr, hrun, hended, hW, hsame⟩ := X3.leave (v := none) (fun _ => rfl)
  refine ⟨_, _, ?_, hrun, hended, _, _, rfl, ?_, ⟨_, rfl⟩, hW, hsame.mono (by decide) (by decide)⟩
  · show Steps p.tables e below (s₁.setTop (mkF m 0 #[.val (.ref b0)] [])) _
    refine XS.aloadN X0.here hx rfl (hb hby d_own_rmAR_0) rfl rfl ?_
    show Steps p.tables e below (s₁.setTop (mkF m 1 #[.val (.ref b0)] [(.ref b0)])) _
    refine st1.trans ?_
    show Steps p.tables e below (T1.setTop (mkF m 4 #[.val (.ref b0)] [])) _
    refine XS.aloadN X1.here hx rfl (hb hby d_own_rmAR_4) rfl rfl ?_
    show Steps p.tables e below (T1.setTop (mkF m 5 #[.val (.ref b0)] [(.ref b0)])) _
    refine st2 _ ?_
    show Steps p.tables e below (T2.setTop (mkF m 8 #[.val (.ref b0)] [(.ref dE), (.ref b0)])) _
    refine st3 _ ?_
    show Steps p.tables e below (T3.setTop (mkF m 11 #[.val (.ref b0)] [])) _
    exact X3.returnOut hx Bd.returns (hb hby d_own_rmAR_11) hr
  · show own_QL Z b0 (0 : Int32) (.ref dE) (0 : Int32) h0 n0 _ T3.heap _
    rw [e3]
    exact ⟨rfl, N3, K3, F_b0_modCount_3, F_b0_elementData_3, F_b0_size_3⟩
def own_QA (Z : State) (kA : ClassId) (m0 m1 : Addr) (h0 : Heap) (n0 : Nat) (v : Option Value) (h : Heap) (L : List Loc) : Prop := ∃ r : Addr, v = some (.ref r) ∧ Fr n0 L ∧ Keep h0 h [] ∧ Arv Z h r kA (.object "com/example/corollary/corollary/EstimateMethod") (2 : Int32) [(.ref m0), (.ref m1)] .null ∧ h0.size ≤ r
theorem d_own_rmA_0 : decode prog_11_method_1_code 0 = .ok (.getstatic 10, 3) := by decide +kernel
theorem d_own_rmA_3 : decode prog_11_method_1_code 3 = .ok (.invokevirtual 14, 3) := by decide +kernel
theorem d_own_rmA_6 : decode prog_11_method_1_code 6 = .ok (.checkcast 15, 3) := by decide +kernel
theorem d_own_rmA_9 : decode prog_11_method_1_code 9 = .ok (.areturn, 1) := by decide +kernel
theorem ef_own_rmA (m : MethodId)  : entryFrame m #[] 0 = mkF m 0 #[] [] := by first | (simp [entryFrame, mkF, argsToLocals, Value.category]; done) | rfl
set_option maxRecDepth 65536 in
set_option maxHeartbeats 40000000 in
theorem own_rmA (l : Launch) (Z : State) (a0 : Array Value) (hw : ∀ d ∈ tables_1, d.before a0 Z = true) (ws : List Jvm.Cond)  (bA m0 m1 : Addr) (kA : ClassId) (h0 : Heap) (n0 : Nat) (Z0 : n0 ≤ h0.size) (S_A : Sta Z h0 "com/example/corollary/corollary/EstimateMethod" "$VALUES" "[Lcom/example/corollary/corollary/EstimateMethod;" (.ref bA)) (V_A : Arv Z h0 bA kA (.object "com/example/corollary/corollary/EstimateMethod") (2 : Int32) [(.ref m0), (.ref m1)] .null) (E_A : Exa Z h0 bA "[Lcom/example/corollary/corollary/EstimateMethod;") :
    MetFree l (⟨"com/example/corollary/corollary/EstimateMethod", "values", "()[Lcom/example/corollary/corollary/EstimateMethod;"⟩ : MethodName) (head1 (Jvm.Cond.code (⟨"com/example/corollary/corollary/EstimateMethod", "values", "()[Lcom/example/corollary/corollary/EstimateMethod;"⟩ : MethodName) prog_11_method_1_code 0 (some (.array (.object "com/example/corollary/corollary/EstimateMethod"))) :: ws) ({ frames := 1, cells := 1, slots := 2, locals := 14 } : Room)) (fun a U => a = #[] ∧ Z.Warmed39 U.vm ∧ U.heap = h0) (fun _ _ _ _ _ => True) (fun _ U o U' => ∃ v L, o = .returned v ∧ own_QA Z kA m0 m1 h0 n0 v U'.heap L ∧ FrameEnd U o U' L ({ frames := 1, cells := 1, slots := 2, locals := 14 } : Room).cells ({ frames := 1, cells := 1, slots := 2, locals := 14 } : Room).slots) := by
  refine MetFree.of_bodySF (plainFor_of_name own_pn3) hisR ?_
  intro p e s m args below meth c s₁ Bd hml0 hP hK
  obtain ⟨rfl, hZ, hh⟩ := hP
  have hx := Bd.exec
  have hby := Bd.bytes
  have hml : c.maxLocals = 0 := hml0
  have hown : s.vm.findClass "com/example/corollary/corollary/EstimateMethod" = some m.cls := findClass_of_methodNamed Bd.named
  have hnm := (name_of_methodNamed Bd.named Bd.method).1
  have X0 : Stand p l e ({ frames := 1, cells := 1, slots := 2, locals := 14 } : Room) s m #[] below meth c s₁ [] 0 0 := Stand.of_body Bd
  have e0 : s₁.heap = h0 := by rw [← hh, Bd.state]; rfl
  have N0 := Fr.nil n0
  refine own_go (b := s₁.setTop (mkF m 0 #[] [])) (fun t k => castTop (ef_own_rmA m ) k) ?_
  obtain ⟨T1, X1, e1, st1⟩ := getS2 X0 hx hZ hown (host := "") (Or.inl (hw _ (List.mem_of_getElem? (i := 33) rfl))) Via.refl e0 S_A (g := (mkF m 0 #[] [])) rfl (hb hby d_own_rmA_0)
  obtain ⟨T2, h2, X2, e2, E2, Vc2, Ec2, st2⟩ := cloneH X1 hx hZ hown (hw _ (List.mem_of_getElem? (i := 35) rfl)) (hw _ (List.mem_of_getElem? (i := 36) rfl)) (hw _ (List.mem_of_getElem? (i := 40) rfl)) (hw _ (List.mem_of_getElem? (i := 38) rfl)) (hw _ (List.mem_of_getElem? (i := 39) rfl)) (hw _ (List.mem_of_getElem? (i := 41) rfl)) e1 V_A.arh E_A (g := (mkF m 3 #[] [(.ref bA)])) rfl (by rw [hml]; rfl) rfl (hb hby d_own_rmA_3) (by decide) (W := 0) (by show 2 * 0 + _ ≤ _; exact Nat.le_of_eq rfl) (by decide) (cap := 2) (by decide) (by decide) (by decide)
  obtain ⟨b2, g2⟩ : ∃ z, z = h0.size := ⟨_, rfl⟩
  rw [← g2] at Vc2 Ec2 st2
  have ne_bA_b2 : bA ≠ b2 := Nat.ne_of_lt (Nat.lt_of_lt_of_le V_A.lt (Nat.le_of_eq g2.symm))
  have new_b2 : n0 ≤ b2 := Nat.le_trans Z0 (Nat.le_of_eq g2.symm)
  have sz_b2 : h0.size ≤ b2 := Nat.le_trans (Keep.refl h0 []).1 (Nat.le_of_eq g2.symm)
  have S_EstimateMethod__VALUES_2 := S_A.ext E2
  have V_bA_2 := V_A.ext E2
  have E_bA_2 := E_A.ext E2
  have Z2 := Nat.le_trans Z0 E2.1
  have K2 := (Keep.refl h0 []).ext E2
  have V_b2 : Arv Z h2 b2 kA (.object "com/example/corollary/corollary/EstimateMethod") (2 : Int32) [(.ref m0), (.ref m1)] .null := Vc2
  obtain ⟨T3, X3, e3, st3⟩ := castY X2 hx hZ hown (hw _ (List.mem_of_getElem? (i := 43) rfl)) e2 (Ins.self Ec2) (g := (mkF m 6 #[] [(.ref b2)])) rfl rfl (hb hby d_own_rmA_6)
  obtain ⟨fs, hr, hrun, hended, hW, hsame⟩ := X3.leave (v := some (.ref b2)) (fun h => by rw [Bd.returns] at h; cases h)
  refine ⟨_, _, ?_, hrun, hended, _, _, rfl, ?_, ⟨_, rfl⟩, hW, hsame.mono (by decide) (by decide)⟩
  · show Steps p.tables e below (s₁.setTop (mkF m 0 #[] [])) _
    refine st1 _ ?_
    show Steps p.tables e below (T1.setTop (mkF m 3 #[] [(.ref bA)])) _
    refine st2 _ ?_
    show Steps p.tables e below (T2.setTop (mkF m 6 #[] [(.ref b2)])) _
    refine st3 _ ?_
    show Steps p.tables e below (T3.setTop (mkF m 9 #[] [(.ref b2)])) _
    jvm_step X3.here [X3.here.top, hx, (hb hby d_own_rmA_9), X3.method', Bd.returns, Value.isRef, FieldType.isReference]
    first | (intro acts; rw [hr _ acts rfl rfl rfl]) | rw [hr _ _ rfl rfl rfl]
    exact Steps.refl _
  · show own_QA Z kA m0 m1 h0 n0 _ T3.heap _
    rw [e3]
    exact ⟨_, rfl, N0, K2, V_b2, sz_b2⟩
theorem d_own_rmMax_0 : decode jdk_29_method_65_code 0 = .ok (.iload_n 0, 1) := by decide +kernel
theorem d_own_rmMax_1 : decode jdk_29_method_65_code 1 = .ok (.iload_n 1, 1) := by decide +kernel
theorem d_own_rmMax_2 : decode jdk_29_method_65_code 2 = .ok (.if_icmp .lt 7, 3) := by decide +kernel
theorem d_own_rmMax_5 : decode jdk_29_method_65_code 5 = .ok (.iload_n 0, 1) := by decide +kernel
theorem d_own_rmMax_6 : decode jdk_29_method_65_code 6 = .ok (.goto 4, 3) := by decide +kernel
theorem d_own_rmMax_9 : decode jdk_29_method_65_code 9 = .ok (.iload_n 1, 1) := by decide +kernel
theorem d_own_rmMax_10 : decode jdk_29_method_65_code 10 = .ok (.ireturn, 1) := by decide +kernel
theorem ef_own_rmMax (m : MethodId) (x0 : Int32) (x1 : Int32) : entryFrame m #[(.int x0), (.int x1)] 2 = mkF m 0 #[.val (.int x0), .val (.int x1)] [] := by first | (simp [entryFrame, mkF, argsToLocals, Value.category]; done) | rfl
set_option maxRecDepth 65536 in
set_option maxHeartbeats 40000000 in
theorem own_rmMax (l : Launch) (Z : State) (a0 : Array Value) (hw : ∀ d ∈ tables_1, d.before a0 Z = true) (ws : List Jvm.Cond) (p0 : Int32) (p1 : Int32) (r : Int32) (h0 : Heap) (n0 : Nat) (Z0 : n0 ≤ h0.size) (hr0 : (if p0 < p1 then p1 else p0) = r) :
    MetFree l (⟨"java/lang/Math", "max", "(II)I"⟩ : MethodName) (head1 (Jvm.Cond.code (⟨"java/lang/Math", "max", "(II)I"⟩ : MethodName) jdk_29_method_65_code 2 (some .int) :: ws) ({ frames := 0, cells := 0, slots := 0, locals := 0 } : Room)) (fun a U => a = #[(.int p0), (.int p1)] ∧ Z.Warmed39 U.vm ∧ U.heap = h0) (fun _ _ _ _ _ => True) (fun _ U o U' => ∃ v L, o = .returned v ∧ own_QI r h0 n0 v U'.heap L ∧ FrameEnd U o U' L ({ frames := 0, cells := 0, slots := 0, locals := 0 } : Room).cells ({ frames := 0, cells := 0, slots := 0, locals := 0 } : Room).slots) := by
  refine MetFree.of_bodySF (Jvm.Free.JP.mathPlain rfl (by decide +kernel)) hisR ?_
  intro p e s m args below meth c s₁ Bd hml0 hP hK
  obtain ⟨rfl, hZ, hh⟩ := hP
  have hx := Bd.exec
  have hby := Bd.bytes
  have hml : c.maxLocals = 2 := hml0
  have hown : s.vm.findClass "java/lang/Math" = some m.cls := findClass_of_methodNamed Bd.named
  have hnm := (name_of_methodNamed Bd.named Bd.method).1
  have X0 : Stand p l e ({ frames := 0, cells := 0, slots := 0, locals := 0 } : Room) s m #[(.int p0), (.int p1)] below meth c s₁ [] 0 0 := Stand.of_body Bd
  have e0 : s₁.heap = h0 := by rw [← hh, Bd.state]; rfl
  have N0 := Fr.nil n0
  refine own_go (b := s₁.setTop (mkF m 0 #[.val (.int p0), .val (.int p1)] [])) (fun t k => castTop (ef_own_rmMax m p0 p1) k) ?_
  refine own_go (b := s₁.setTop (mkF m 2 #[.val (.int p0), .val (.int p1)] [(.int p1), (.int p0)])) (fun t k => ?_) ?_
  · show Steps p.tables e below (s₁.setTop (mkF m 0 #[.val (.int p0), .val (.int p1)] [])) _
    refine XS.iloadN X0.here hx rfl (hb hby d_own_rmMax_0) rfl ?_
    show Steps p.tables e below (s₁.setTop (mkF m 1 #[.val (.int p0), .val (.int p1)] [(.int p0)])) _
    refine XS.iloadN X0.here hx rfl (hb hby d_own_rmMax_1) rfl ?_
    show Steps p.tables e below (s₁.setTop (mkF m 2 #[.val (.int p0), .val (.int p1)] [(.int p1), (.int p0)])) t
    exact k
  by_cases hc2_1 : p0 < p1
  · obtain ⟨fs, hr, hrun, hended, hW, hsame⟩ := X0.leave (v := some (.int p1)) (fun h => by rw [Bd.returns] at h; cases h)
    refine ⟨_, _, ?_, hrun, hended, _, _, rfl, ?_, ⟨_, rfl⟩, hW, hsame.mono (by decide) (by decide)⟩
    · show Steps p.tables e below (s₁.setTop (mkF m 2 #[.val (.int p0), .val (.int p1)] [(.int p1), (.int p0)])) _
      refine XS.icmpYes X0.here hx rfl (pc0 := 2) (pc' := 9) rfl (hb hby d_own_rmMax_2) rfl (tlt hc2_1).1 (by decide) (by decide) ?_
      show Steps p.tables e below (s₁.setTop (mkF m 9 #[.val (.int p0), .val (.int p1)] [])) _
      refine XS.iloadN X0.here hx rfl (hb hby d_own_rmMax_9) rfl ?_
      show Steps p.tables e below (s₁.setTop (mkF m 10 #[.val (.int p0), .val (.int p1)] [(.int p1)])) _
      exact retI X0 hx Bd.returns (hb hby d_own_rmMax_10) hr
    · show own_QI r h0 n0 _ s₁.heap _
      rw [e0]
      exact ⟨by rw [← hr0, if_pos hc2_1], N0, rfl⟩
  · obtain ⟨fs, hr, hrun, hended, hW, hsame⟩ := X0.leave (v := some (.int p0)) (fun h => by rw [Bd.returns] at h; cases h)
    refine ⟨_, _, ?_, hrun, hended, _, _, rfl, ?_, ⟨_, rfl⟩, hW, hsame.mono (by decide) (by decide)⟩
    · show Steps p.tables e below (s₁.setTop (mkF m 2 #[.val (.int p0), .val (.int p1)] [(.int p1), (.int p0)])) _
      refine XS.icmpNo X0.here hx rfl (hb hby d_own_rmMax_2) rfl (flt hc2_1).1 ?_
      show Steps p.tables e below (s₁.setTop (mkF m 5 #[.val (.int p0), .val (.int p1)] [])) _
      refine XS.iloadN X0.here hx rfl (hb hby d_own_rmMax_5) rfl ?_
      show Steps p.tables e below (s₁.setTop (mkF m 6 #[.val (.int p0), .val (.int p1)] [(.int p0)])) _
      refine XS.goto X0.here hx rfl (pc0 := 6) (pc' := 10) rfl (hb hby d_own_rmMax_6) (by decide) (by decide) ?_
      show Steps p.tables e below (s₁.setTop (mkF m 10 #[.val (.int p0), .val (.int p1)] [(.int p0)])) _
      exact retI X0 hx Bd.returns (hb hby d_own_rmMax_10) hr
    · show own_QI r h0 n0 _ s₁.heap _
      rw [e0]
      exact ⟨by rw [← hr0, if_neg hc2_1], N0, rfl⟩
def own_QG (Z : State) (a : Addr) (mc sz : Int32)  (h0 : Heap) (n0 : Nat) (v : Option Value) (h : Heap) (L : List Loc) : Prop := ∃ (ea : Addr) (ke : ClassId), v = some (.ref ea) ∧ Fr n0 L ∧ Keep h0 h [a] ∧ Fld Z h a "java/util/ArrayList" "elementData" "[Ljava/lang/Object;" (.ref ea) ∧ Fld Z h a "java/util/ArrayList" "size" "I" (.int sz) ∧ Fld Z h a "java/util/AbstractList" "modCount" "I" (.int mc) ∧ Arv Z h ea ke (.object "java/lang/Object") (10 : Int32) [.null, .null, .null, .null, .null, .null, .null, .null, .null, .null] .null ∧ Ovr Z ke "java/lang/Object" ∧ ea ≠ a ∧ h0.size ≤ ea
def own_QH (Z : State) (a : Addr) (mc sz : Int32) (b1 : Addr) (h0 : Heap) (n0 : Nat) (v : Option Value) (h : Heap) (L : List Loc) : Prop := ∃ (ea : Addr) (ke : ClassId), v = none ∧ Fr n0 L ∧ Keep h0 h [a] ∧ Fld Z h a "java/util/ArrayList" "elementData" "[Ljava/lang/Object;" (.ref ea) ∧ Fld Z h a "java/util/ArrayList" "size" "I" (.int sz) ∧ Fld Z h a "java/util/AbstractList" "modCount" "I" (.int mc) ∧ Arv Z h ea ke (.object "java/lang/Object") (10 : Int32) [(.ref b1), .null, .null, .null, .null, .null, .null, .null, .null, .null] .null ∧ Ovr Z ke "java/lang/Object" ∧ ea ≠ a ∧ h0.size ≤ ea
def own_QH1 (Z : State) (a : Addr) (mc sz : Int32) (b1 : Addr) (h0 : Heap) (n0 : Nat) (v : Option Value) (h : Heap) (L : List Loc) : Prop := ∃ (ea : Addr) (ke : ClassId), v = some (.int (1 : Int32)) ∧ Fr n0 L ∧ Keep h0 h [a] ∧ Fld Z h a "java/util/ArrayList" "elementData" "[Ljava/lang/Object;" (.ref ea) ∧ Fld Z h a "java/util/ArrayList" "size" "I" (.int sz) ∧ Fld Z h a "java/util/AbstractList" "modCount" "I" (.int mc) ∧ Arv Z h ea ke (.object "java/lang/Object") (10 : Int32) [(.ref b1), .null, .null, .null, .null, .null, .null, .null, .null, .null] .null ∧ Ovr Z ke "java/lang/Object" ∧ ea ≠ a ∧ h0.size ≤ ea
theorem d_own_rmGI_0 : decode jdk_38_method_6_code 0 = .ok (.aload_n 0, 1) := by decide +kernel
theorem d_own_rmGI_1 : decode jdk_38_method_6_code 1 = .ok (.getfield 9, 3) := by decide +kernel
theorem d_own_rmGI_4 : decode jdk_38_method_6_code 4 = .ok (.arraylength, 1) := by decide +kernel
theorem d_own_rmGI_5 : decode jdk_38_method_6_code 5 = .ok (.istore_n 2, 1) := by decide +kernel
theorem d_own_rmGI_6 : decode jdk_38_method_6_code 6 = .ok (.iload_n 2, 1) := by decide +kernel
theorem d_own_rmGI_7 : decode jdk_38_method_6_code 7 = .ok (.ifCond .gt 13, 3) := by decide +kernel
theorem d_own_rmGI_10 : decode jdk_38_method_6_code 10 = .ok (.aload_n 0, 1) := by decide +kernel
theorem d_own_rmGI_11 : decode jdk_38_method_6_code 11 = .ok (.getfield 9, 3) := by decide +kernel
theorem d_own_rmGI_14 : decode jdk_38_method_6_code 14 = .ok (.getstatic 39, 3) := by decide +kernel
theorem d_own_rmGI_17 : decode jdk_38_method_6_code 17 = .ok (.if_acmp .eq 28, 3) := by decide +kernel
theorem d_own_rmGI_45 : decode jdk_38_method_6_code 45 = .ok (.aload_n 0, 1) := by decide +kernel
theorem d_own_rmGI_46 : decode jdk_38_method_6_code 46 = .ok (.bipush 10, 2) := by decide +kernel
theorem d_own_rmGI_48 : decode jdk_38_method_6_code 48 = .ok (.iload_n 1, 1) := by decide +kernel
theorem d_own_rmGI_49 : decode jdk_38_method_6_code 49 = .ok (.invokestatic 79, 3) := by decide +kernel
theorem d_own_rmGI_52 : decode jdk_38_method_6_code 52 = .ok (.anewarray 7, 3) := by decide +kernel
theorem d_own_rmGI_55 : decode jdk_38_method_6_code 55 = .ok (.dup_x1, 1) := by decide +kernel
theorem d_own_rmGI_56 : decode jdk_38_method_6_code 56 = .ok (.putfield 9, 3) := by decide +kernel
theorem d_own_rmGI_59 : decode jdk_38_method_6_code 59 = .ok (.areturn, 1) := by decide +kernel
theorem ef_own_rmGI (m : MethodId) (x0 : Addr) : entryFrame m #[(.ref x0), (.int (1 : Int32))] 4 = mkF m 0 #[.val (.ref x0), .val (.int (1 : Int32)), .unset, .unset] [] := by first | (simp [entryFrame, mkF, argsToLocals, Value.category]; done) | rfl
set_option maxRecDepth 65536 in
set_option maxHeartbeats 40000000 in
theorem own_rmGI (l : Launch) (Z : State) (a0 : Array Value) (hw : ∀ d ∈ tables_1, d.before a0 Z = true) (ws : List Jvm.Cond) (b0 : Addr) (dE : Addr) (kD : ClassId) (mc : Int32) (h0 : Heap) (n0 : Nat) (Z0 : n0 ≤ h0.size) (E_0 : Exa Z h0 b0 "java/util/ArrayList") (F_m : Fld Z h0 b0 "java/util/AbstractList" "modCount" "I" (.int mc)) (F_e : Fld Z h0 b0 "java/util/ArrayList" "elementData" "[Ljava/lang/Object;" (.ref dE)) (F_s : Fld Z h0 b0 "java/util/ArrayList" "size" "I" (.int (0 : Int32))) (g_0 : n0 ≤ b0) (S_D : Sta Z h0 "java/util/ArrayList" "DEFAULTCAPACITY_EMPTY_ELEMENTDATA" "[Ljava/lang/Object;" (.ref dE)) (V_D : Arv Z h0 dE kD (.object "java/lang/Object") (0 : Int32) [] .null) (hdb : dE ≠ b0) :
    MetFree l (⟨"java/util/ArrayList", "grow", "(I)[Ljava/lang/Object;"⟩ : MethodName) (head1 (Jvm.Cond.code (⟨"java/util/ArrayList", "grow", "(I)[Ljava/lang/Object;"⟩ : MethodName) jdk_38_method_6_code 4 (some (.array (.object "java/lang/Object"))) :: ws) ({ frames := 1, cells := 1, slots := 10, locals := 14 } : Room)) (fun a U => a = #[(.ref b0), (.int (1 : Int32))] ∧ Z.Warmed39 U.vm ∧ U.heap = h0) (fun _ _ _ _ _ => True) (fun _ U o U' => ∃ v L, o = .returned v ∧ own_QG Z b0 mc (0 : Int32) h0 n0 v U'.heap L ∧ FrameEnd U o U' L ({ frames := 1, cells := 1, slots := 10, locals := 14 } : Room).cells ({ frames := 1, cells := 1, slots := 10, locals := 14 } : Room).slots) := by
  refine MetFree.of_bodySF (plainFor_of_name own_pn2) hisR ?_
  intro p e s m args below meth c s₁ Bd hml0 hP hK
  obtain ⟨rfl, hZ, hh⟩ := hP
  have hx := Bd.exec
  have hby := Bd.bytes
  have hml : c.maxLocals = 4 := hml0
  have hown : s.vm.findClass "java/util/ArrayList" = some m.cls := findClass_of_methodNamed Bd.named
  have hnm := (name_of_methodNamed Bd.named Bd.method).1
  have X0 : Stand p l e ({ frames := 1, cells := 1, slots := 10, locals := 14 } : Room) s m #[(.ref b0), (.int (1 : Int32))] below meth c s₁ [] 0 0 := Stand.of_body Bd
  have e0 : s₁.heap = h0 := by rw [← hh, Bd.state]; rfl
  have N0 := Fr.nil n0
  refine own_go (b := s₁.setTop (mkF m 0 #[.val (.ref b0), .val (.int (1 : Int32)), .unset, .unset] [])) (fun t k => castTop (ef_own_rmGI m b0) k) ?_
  obtain ⟨T1, X1, e1, st1⟩ := getF X0 hx hZ hown (host := "") (Or.inl (hw _ (List.mem_of_getElem? (i := 28) rfl))) Via.refl e0 F_e (g := (mkF m 1 #[.val (.ref b0), .val (.int (1 : Int32)), .unset, .unset] [(.ref b0)])) rfl rfl (hb hby d_own_rmGI_1)
  obtain ⟨cl2, Ar2, -, Sz2, M2, -, -⟩ := id V_D
  obtain ⟨T3, X3, e3, st3⟩ := getF X1 hx hZ hown (host := "") (Or.inl (hw _ (List.mem_of_getElem? (i := 28) rfl))) Via.refl e1 F_e (g := (mkF m 11 #[.val (.ref b0), .val (.int (1 : Int32)), .val (.int (0 : Int32)), .unset] [(.ref b0)])) rfl rfl (hb hby d_own_rmGI_11)
  obtain ⟨T4, X4, e4, st4⟩ := getS2 X3 hx hZ hown (host := "") (Or.inl (hw _ (List.mem_of_getElem? (i := 27) rfl))) Via.refl e3 S_D (g := (mkF m 14 #[.val (.ref b0), .val (.int (1 : Int32)), .val (.int (0 : Int32)), .unset] [(.ref dE)])) rfl (hb hby d_own_rmGI_14)
  obtain ⟨_, _, ⟨T5, L5, k5, n5⟩, -, X5, ⟨Lc5, hQ5, l5, y5, z5⟩, st5⟩ := Jvm.LawKit.callS X4 hx (y := (⟨"java/lang/Math", "max", "(II)I"⟩ : MethodName)) hown (mvT hZ (hw _ (List.mem_of_getElem? (i := 71) rfl))) (mvT hZ (hw _ (List.mem_of_getElem? (i := 72) rfl))) (mvT hZ (hw _ (List.mem_of_getElem? (i := 73) rfl))) (mvT hZ (hw _ (List.mem_of_getElem? (i := 74) rfl))) (by decide) (backOf (W := 1) (own_rmMax l Z a0 hw [] (10 : Int32) (1 : Int32) (10 : Int32) h0 n0 Z0 (by decide)) hZ (hw _ (List.mem_of_getElem? (i := 74) rfl)) (hw _ (List.mem_of_getElem? (i := 73) rfl)) (by decide) (by decide)) (g := (mkF m 49 #[.val (.ref b0), .val (.int (1 : Int32)), .val (.int (0 : Int32)), .unset] [(.int (1 : Int32)), (.int (10 : Int32)), (.ref b0)])) rfl (by rw [hml]; rfl) (argsL := [(.int (10 : Int32)), (.int (1 : Int32))]) (rest := [(.ref b0)]) (lenOf own_pd1 rfl) rfl (by show 2 * 0 + _ ≤ _; exact Nat.le_of_eq rfl) (hb hby d_own_rmGI_49) (fun _ _ => ⟨rfl, e4, (by decide : 0 + 0 ≤ _), (by decide : 0 + 0 ≤ _)⟩)
  dsimp only [Pt.U, Pt.locs, Pt.cells, Pt.slots] at X5 l5 y5 z5 st5 hQ5
  subst l5 y5 z5
  obtain ⟨rfl, N5q, e5⟩ := hQ5
  have N5 := Fr.app N0 N5q
  obtain ⟨T6, h6, k6, X6, e6, E6, A6, O6, st6⟩ := newR X5 hx hZ hown (hw _ (List.mem_of_getElem? (i := 75) rfl)) (hw _ (List.mem_of_getElem? (i := 76) rfl)) e5 (g := (mkF m 52 #[.val (.ref b0), .val (.int (1 : Int32)), .val (.int (0 : Int32)), .unset] [(.int (10 : Int32)), (.ref b0)])) rfl (hb hby d_own_rmGI_52) rfl (by decide) (cap := 10) (by decide) (by decide) (by decide) (by decide)
  obtain ⟨b6, g6⟩ : ∃ z, z = h0.size := ⟨_, rfl⟩
  rw [← g6] at A6 st6
  have ne_b0_b6 : b0 ≠ b6 := Nat.ne_of_lt (Nat.lt_of_lt_of_le E_0.lt (Nat.le_of_eq g6.symm))
  have ne_dE_b6 : dE ≠ b6 := Nat.ne_of_lt (Nat.lt_of_lt_of_le V_D.lt (Nat.le_of_eq g6.symm))
  have new_b6 : n0 ≤ b6 := Nat.le_trans Z0 (Nat.le_of_eq g6.symm)
  have sz_b6 : h0.size ≤ b6 := Nat.le_trans (Keep.refl h0 [b0]).1 (Nat.le_of_eq g6.symm)
  have E_b0_6 := E_0.ext E6
  have F_b0_modCount_6 := F_m.ext E6
  have F_b0_elementData_6 := F_e.ext E6
  have F_b0_size_6 := F_s.ext E6
  have S_ArrayList_DEFAULTCAPACITY_EMPTY_ELEMENTDATA_6 := S_D.ext E6
  have V_dE_6 := V_D.ext E6
  have Z6 := Nat.le_trans Z0 E6.1
  have K6 := (Keep.refl h0 [b0]).ext E6
  have V_b6 : Arv Z h6 b6 k6 (.object "java/lang/Object") (10 : Int32) [.null, .null, .null, .null, .null, .null, .null, .null, .null, .null] .null := (Arv.new A6 (by decide)).pad (pad_rep [] .null 10)
  obtain ⟨T7, h7, X7, e7, W7, st7⟩ := putF X6 hx hZ hown (host := "") (Or.inl (hw _ (List.mem_of_getElem? (i := 28) rfl))) Via.refl e6 F_b0_elementData_6 E_b0_6 (Or.inl (hw _ (List.mem_of_getElem? (i := 29) rfl))) (hw _ (List.mem_of_getElem? (i := 5) rfl)) (ty := (.array (.object "java/lang/Object"))) (by decide) rfl rfl (g := (mkF m 56 #[.val (.ref b0), .val (.int (1 : Int32)), .val (.int (0 : Int32)), .unset] [(.ref b6), (.ref b0), (.ref b6)])) rfl rfl (hb hby d_own_rmGI_56)
  have E_b0_7 := E_b0_6.wr W7
  have F_b0_modCount_7 := F_b0_modCount_6.other W7 (Or.inr (slot_ne (Or.inl (hw _ (List.mem_of_getElem? (i := 26) rfl))) (Or.inl (hw _ (List.mem_of_getElem? (i := 29) rfl))) (by decide) (t := .int) (t' := (.array (.object "java/lang/Object"))) (by decide) (by decide)))
  have F_b0_size_7 := F_b0_size_6.other W7 (Or.inr (slot_ne (Or.inl (hw _ (List.mem_of_getElem? (i := 55) rfl))) (Or.inl (hw _ (List.mem_of_getElem? (i := 29) rfl))) (by decide) (t := .int) (t' := (.array (.object "java/lang/Object"))) (by decide) (by decide)))
  have S_ArrayList_DEFAULTCAPACITY_EMPTY_ELEMENTDATA_7 := S_ArrayList_DEFAULTCAPACITY_EMPTY_ELEMENTDATA_6.wr W7
  have V_dE_7 := V_dE_6.other W7 hdb
  have V_b6_7 := V_b6.other W7 (Ne.symm ne_b0_b6)
  have Z7 := Nat.le_trans Z6 (Keep.of_wr W7).1
  have K7 := K6.wr W7 (Or.inl (List.mem_of_getElem? (i := 0) rfl))
  have N7 := Fr.snoc X7 N5 g_0
  have F_b0_elementData_7 := F_b0_elementData_6.same W7
  obtain ⟨fs, hr, hrun, hended, hW, hsame⟩ := X7.leave (v := some (.ref b6)) (fun h => by rw [Bd.returns] at h; cases h)
  refine ⟨_, _, ?_, hrun, hended, _, _, rfl, ?_, ⟨_, rfl⟩, hW, hsame.mono (by decide) (by decide)⟩
  · show Steps p.tables e below (s₁.setTop (mkF m 0 #[.val (.ref b0), .val (.int (1 : Int32)), .unset, .unset] [])) _
    refine XS.aloadN X0.here hx rfl (hb hby d_own_rmGI_0) rfl rfl ?_
    show Steps p.tables e below (s₁.setTop (mkF m 1 #[.val (.ref b0), .val (.int (1 : Int32)), .unset, .unset] [(.ref b0)])) _
    refine st1 _ ?_
    show Steps p.tables e below (T1.setTop (mkF m 4 #[.val (.ref b0), .val (.int (1 : Int32)), .unset, .unset] [(.ref dE)])) _
    refine X1.arraylength hx (by rw [e1]; exact Ar2.1) (State.isArrayOf_alike hZ.alike Ar2.2.1) (g := (mkF m 4 #[.val (.ref b0), .val (.int (1 : Int32)), .unset, .unset] [(.ref dE)])) rfl rfl (hb hby d_own_rmGI_4) _ ?_
    rw [len_of Sz2 M2]
    show Steps p.tables e below (T1.setTop (mkF m 5 #[.val (.ref b0), .val (.int (1 : Int32)), .unset, .unset] [(.int (0 : Int32))])) _
    refine XS.istoreN X1.here hx rfl (hb hby d_own_rmGI_5) rfl (l' := #[.val (.ref b0), .val (.int (1 : Int32)), .val (.int (0 : Int32)), .unset]) rfl ?_
    show Steps p.tables e below (T1.setTop (mkF m 6 #[.val (.ref b0), .val (.int (1 : Int32)), .val (.int (0 : Int32)), .unset] [])) _
    refine XS.iloadN X1.here hx rfl (hb hby d_own_rmGI_6) rfl ?_
    show Steps p.tables e below (T1.setTop (mkF m 7 #[.val (.ref b0), .val (.int (1 : Int32)), .val (.int (0 : Int32)), .unset] [(.int (0 : Int32))])) _
    refine XS.ifNo X1.here hx rfl (hb hby d_own_rmGI_7) rfl ((if0 _ _).trans (flt ((by decide) : ¬ ((0 : Int32) < (0 : Int32)))).2.2.1) ?_
    show Steps p.tables e below (T1.setTop (mkF m 10 #[.val (.ref b0), .val (.int (1 : Int32)), .val (.int (0 : Int32)), .unset] [])) _
    refine XS.aloadN X1.here hx rfl (hb hby d_own_rmGI_10) rfl rfl ?_
    show Steps p.tables e below (T1.setTop (mkF m 11 #[.val (.ref b0), .val (.int (1 : Int32)), .val (.int (0 : Int32)), .unset] [(.ref b0)])) _
    refine st3 _ ?_
    show Steps p.tables e below (T3.setTop (mkF m 14 #[.val (.ref b0), .val (.int (1 : Int32)), .val (.int (0 : Int32)), .unset] [(.ref dE)])) _
    refine st4 _ ?_
    show Steps p.tables e below (T4.setTop (mkF m 17 #[.val (.ref b0), .val (.int (1 : Int32)), .val (.int (0 : Int32)), .unset] [(.ref dE), (.ref dE)])) _
    refine Jvm.RoadKit.acmp (g := (mkF m 17 #[.val (.ref b0), .val (.int (1 : Int32)), .val (.int (0 : Int32)), .unset] [(.ref dE), (.ref dE)])) X4 hx rfl rfl rfl (pc0 := 17) (pc' := 45) (same := true) rfl (hb hby d_own_rmGI_17) rfl (decide_eq_true rfl) (by decide) (by decide) ?_
    show Steps p.tables e below (T4.setTop (mkF m 45 #[.val (.ref b0), .val (.int (1 : Int32)), .val (.int (0 : Int32)), .unset] [])) _
    refine XS.aloadN X4.here hx rfl (hb hby d_own_rmGI_45) rfl rfl ?_
    show Steps p.tables e below (T4.setTop (mkF m 46 #[.val (.ref b0), .val (.int (1 : Int32)), .val (.int (0 : Int32)), .unset] [(.ref b0)])) _
    refine XS.bipush X4.here hx rfl (hb hby d_own_rmGI_46) ?_
    show Steps p.tables e below (T4.setTop (mkF m 48 #[.val (.ref b0), .val (.int (1 : Int32)), .val (.int (0 : Int32)), .unset] [(.int (10 : Int32)), (.ref b0)])) _
    refine XS.iloadN X4.here hx rfl (hb hby d_own_rmGI_48) rfl ?_
    show Steps p.tables e below (T4.setTop (mkF m 49 #[.val (.ref b0), .val (.int (1 : Int32)), .val (.int (0 : Int32)), .unset] [(.int (1 : Int32)), (.int (10 : Int32)), (.ref b0)])) _
    refine st5 _ ?_
    show Steps p.tables e below (T5.setTop (mkF m 52 #[.val (.ref b0), .val (.int (1 : Int32)), .val (.int (0 : Int32)), .unset] [(.int (10 : Int32)), (.ref b0)])) _
    refine st6 _ ?_
    show Steps p.tables e below (T6.setTop (mkF m 55 #[.val (.ref b0), .val (.int (1 : Int32)), .val (.int (0 : Int32)), .unset] [(.ref b6), (.ref b0)])) _
    refine XS.dupX1 X6.here hx rfl (hb hby d_own_rmGI_55) rfl rfl rfl ?_
    show Steps p.tables e below (T6.setTop (mkF m 56 #[.val (.ref b0), .val (.int (1 : Int32)), .val (.int (0 : Int32)), .unset] [(.ref b6), (.ref b0), (.ref b6)])) _
    refine st7 _ ?_
    show Steps p.tables e below (T7.setTop (mkF m 59 #[.val (.ref b0), .val (.int (1 : Int32)), .val (.int (0 : Int32)), .unset] [(.ref b6)])) _
    jvm_step X7.here [X7.here.top, hx, (hb hby d_own_rmGI_59), X7.method', Bd.returns, Value.isRef, FieldType.isReference]
    first | (intro acts; rw [hr _ acts rfl rfl rfl]) | rw [hr _ _ rfl rfl rfl]
    exact Steps.refl _
  · show own_QG Z b0 mc (0 : Int32) h0 n0 _ T7.heap _
    rw [e7]
    exact ⟨b6, _, rfl, N7, K7, F_b0_elementData_7, F_b0_size_7, F_b0_modCount_7, V_b6_7, O6, (Ne.symm ne_b0_b6), sz_b6⟩
theorem d_own_rmG_0 : decode jdk_38_method_7_code 0 = .ok (.aload_n 0, 1) := by decide +kernel
theorem d_own_rmG_1 : decode jdk_38_method_7_code 1 = .ok (.aload_n 0, 1) := by decide +kernel
theorem d_own_rmG_2 : decode jdk_38_method_7_code 2 = .ok (.getfield 48, 3) := by decide +kernel
theorem d_own_rmG_5 : decode jdk_38_method_7_code 5 = .ok (.iconst 1, 1) := by decide +kernel
theorem d_own_rmG_6 : decode jdk_38_method_7_code 6 = .ok (.iadd, 1) := by decide +kernel
theorem d_own_rmG_7 : decode jdk_38_method_7_code 7 = .ok (.invokevirtual 69, 3) := by decide +kernel
theorem d_own_rmG_10 : decode jdk_38_method_7_code 10 = .ok (.areturn, 1) := by decide +kernel
theorem ef_own_rmG (m : MethodId) (x0 : Addr) : entryFrame m #[(.ref x0)] 1 = mkF m 0 #[.val (.ref x0)] [] := by first | (simp [entryFrame, mkF, argsToLocals, Value.category]; done) | rfl
set_option maxRecDepth 65536 in
set_option maxHeartbeats 40000000 in
theorem own_rmG (l : Launch) (Z : State) (a0 : Array Value) (hw : ∀ d ∈ tables_1, d.before a0 Z = true) (ws : List Jvm.Cond) (b0 : Addr) (dE : Addr) (kD : ClassId) (mc : Int32) (h0 : Heap) (n0 : Nat) (Z0 : n0 ≤ h0.size) (E_0 : Exa Z h0 b0 "java/util/ArrayList") (F_m : Fld Z h0 b0 "java/util/AbstractList" "modCount" "I" (.int mc)) (F_e : Fld Z h0 b0 "java/util/ArrayList" "elementData" "[Ljava/lang/Object;" (.ref dE)) (F_s : Fld Z h0 b0 "java/util/ArrayList" "size" "I" (.int (0 : Int32))) (g_0 : n0 ≤ b0) (S_D : Sta Z h0 "java/util/ArrayList" "DEFAULTCAPACITY_EMPTY_ELEMENTDATA" "[Ljava/lang/Object;" (.ref dE)) (V_D : Arv Z h0 dE kD (.object "java/lang/Object") (0 : Int32) [] .null) (hdb : dE ≠ b0) :
    MetFree l (⟨"java/util/ArrayList", "grow", "()[Ljava/lang/Object;"⟩ : MethodName) (head1 (Jvm.Cond.code (⟨"java/util/ArrayList", "grow", "()[Ljava/lang/Object;"⟩ : MethodName) jdk_38_method_7_code 1 (some (.array (.object "java/lang/Object"))) :: ws) ({ frames := 2, cells := 1, slots := 10, locals := 29 } : Room)) (fun a U => a = #[(.ref b0)] ∧ Z.Warmed39 U.vm ∧ U.heap = h0) (fun _ _ _ _ _ => True) (fun _ U o U' => ∃ v L, o = .returned v ∧ own_QG Z b0 mc (0 : Int32) h0 n0 v U'.heap L ∧ FrameEnd U o U' L ({ frames := 2, cells := 1, slots := 10, locals := 29 } : Room).cells ({ frames := 2, cells := 1, slots := 10, locals := 29 } : Room).slots) := by
  refine MetFree.of_bodySF (plainFor_of_name own_pn2) hisR ?_
  intro p e s m args below meth c s₁ Bd hml0 hP hK
  obtain ⟨rfl, hZ, hh⟩ := hP
  have hx := Bd.exec
  have hby := Bd.bytes
  have hml : c.maxLocals = 1 := hml0
  have hown : s.vm.findClass "java/util/ArrayList" = some m.cls := findClass_of_methodNamed Bd.named
  have hnm := (name_of_methodNamed Bd.named Bd.method).1
  have X0 : Stand p l e ({ frames := 2, cells := 1, slots := 10, locals := 29 } : Room) s m #[(.ref b0)] below meth c s₁ [] 0 0 := Stand.of_body Bd
  have e0 : s₁.heap = h0 := by rw [← hh, Bd.state]; rfl
  have N0 := Fr.nil n0
  refine own_go (b := s₁.setTop (mkF m 0 #[.val (.ref b0)] [])) (fun t k => castTop (ef_own_rmG m b0) k) ?_
  obtain ⟨T1, X1, e1, st1⟩ := getF X0 hx hZ hown (host := "") (Or.inl (hw _ (List.mem_of_getElem? (i := 54) rfl))) Via.refl e0 F_s (g := (mkF m 2 #[.val (.ref b0)] [(.ref b0), (.ref b0)])) rfl rfl (hb hby d_own_rmG_2)
  obtain ⟨cq2, qc2, qc2'⟩ := E_0.cell
  obtain ⟨_, _, ⟨T2, L2, k2, n2⟩, -, X2, ⟨Lc2, hQ2, l2, y2, z2⟩, st2⟩ := X1.privateBack hx (y := (⟨"java/util/ArrayList", "grow", "(I)[Ljava/lang/Object;"⟩ : MethodName)) hown (mvT hZ (hw _ (List.mem_of_getElem? (i := 66) rfl))) (mvT hZ (hw _ (List.mem_of_getElem? (i := 67) rfl))) (mvT hZ (hw _ (List.mem_of_getElem? (i := 69) rfl))) (Cond.privateMethod_at (mvP hZ (hw _ (List.mem_of_getElem? (i := 68) rfl)) (args := #[]))) (mvT hZ (hw _ (List.mem_of_getElem? (i := 70) rfl))) (by decide) (backOf (W := 0) (own_rmGI l Z a0 hw [] b0 dE kD mc h0 n0 Z0 E_0 F_m F_e F_s g_0 S_D V_D hdb) hZ (hw _ (List.mem_of_getElem? (i := 70) rfl)) (hw _ (List.mem_of_getElem? (i := 6) rfl)) (by decide) (by decide)) (g := (mkF m 7 #[.val (.ref b0)] [(.int (1 : Int32)), (.ref b0)])) rfl (by rw [hml]; rfl) (Steps.refl _) (a := b0) (by rw [e1]; exact qc2) qc2' (argsL := [(.int (1 : Int32))]) (rest := []) (lenOf own_pd2 rfl) rfl (by show 2 * 0 + _ ≤ _; exact Nat.le_of_eq rfl) (hb hby d_own_rmG_7) (fun _ _ => ⟨rfl, e1, (by decide : 0 + 1 ≤ _), (by decide : 0 + 10 ≤ _)⟩)
  dsimp only [Pt.U, Pt.locs, Pt.cells, Pt.slots] at X2 l2 y2 z2 st2 hQ2
  subst l2 y2 z2
  obtain ⟨ea2, ke2, hv2, N2q, rest2⟩ := hQ2
  cases hv2
  have N2 := Fr.app N0 N2q
  obtain ⟨fs, hr, hrun, hended, hW, hsame⟩ := X2.leave (v := some (.ref ea2)) (fun h => by rw [Bd.returns] at h; cases h)
  refine ⟨_, _, ?_, hrun, hended, _, _, rfl, ?_, ⟨_, rfl⟩, hW, hsame.mono (by decide) (by decide)⟩
  · show Steps p.tables e below (s₁.setTop (mkF m 0 #[.val (.ref b0)] [])) _
    refine XS.aloadN X0.here hx rfl (hb hby d_own_rmG_0) rfl rfl ?_
    show Steps p.tables e below (s₁.setTop (mkF m 1 #[.val (.ref b0)] [(.ref b0)])) _
    refine XS.aloadN X0.here hx rfl (hb hby d_own_rmG_1) rfl rfl ?_
    show Steps p.tables e below (s₁.setTop (mkF m 2 #[.val (.ref b0)] [(.ref b0), (.ref b0)])) _
    refine st1 _ ?_
    show Steps p.tables e below (T1.setTop (mkF m 5 #[.val (.ref b0)] [(.int (0 : Int32)), (.ref b0)])) _
    refine XS.iconst X1.here hx rfl (hb hby d_own_rmG_5) ?_
    show Steps p.tables e below (T1.setTop (mkF m 6 #[.val (.ref b0)] [(.int (1 : Int32)), (.int (0 : Int32)), (.ref b0)])) _
    refine XS.iadd X1.here hx rfl (hb hby d_own_rmG_6) rfl ?_
    show Steps p.tables e below (T1.setTop (mkF m 7 #[.val (.ref b0)] [(.int (1 : Int32)), (.ref b0)])) _
    refine st2.trans ?_
    show Steps p.tables e below (T2.setTop (mkF m 10 #[.val (.ref b0)] [(.ref ea2)])) _
    jvm_step X2.here [X2.here.top, hx, (hb hby d_own_rmG_10), X2.method', Bd.returns, Value.isRef, FieldType.isReference]
    first | (intro acts; rw [hr _ acts rfl rfl rfl]) | rw [hr _ _ rfl rfl rfl]
    exact Steps.refl _
  · show own_QG Z b0 mc (0 : Int32) h0 n0 _ T2.heap _
    exact ⟨_, ke2, rfl, N2, rest2⟩

theorem d_own_rmA30_0 : decode jdk_38_method_24_code 0 = .ok (.iload_n 3, 1) := by decide +kernel
theorem d_own_rmA30_1 : decode jdk_38_method_24_code 1 = .ok (.aload_n 2, 1) := by decide +kernel
theorem d_own_rmA30_2 : decode jdk_38_method_24_code 2 = .ok (.arraylength, 1) := by decide +kernel
theorem d_own_rmA30_3 : decode jdk_38_method_24_code 3 = .ok (.if_icmp .ne 8, 3) := by decide +kernel
theorem d_own_rmA30_6 : decode jdk_38_method_24_code 6 = .ok (.aload_n 0, 1) := by decide +kernel
theorem d_own_rmA30_7 : decode jdk_38_method_24_code 7 = .ok (.invokevirtual 129, 3) := by decide +kernel
theorem d_own_rmA30_10 : decode jdk_38_method_24_code 10 = .ok (.astore_n 2, 1) := by decide +kernel
theorem d_own_rmA30_11 : decode jdk_38_method_24_code 11 = .ok (.aload_n 2, 1) := by decide +kernel
theorem d_own_rmA30_12 : decode jdk_38_method_24_code 12 = .ok (.iload_n 3, 1) := by decide +kernel
theorem d_own_rmA30_13 : decode jdk_38_method_24_code 13 = .ok (.aload_n 1, 1) := by decide +kernel
theorem d_own_rmA30_14 : decode jdk_38_method_24_code 14 = .ok (.aastore, 1) := by decide +kernel
theorem d_own_rmA30_15 : decode jdk_38_method_24_code 15 = .ok (.aload_n 0, 1) := by decide +kernel
theorem d_own_rmA30_16 : decode jdk_38_method_24_code 16 = .ok (.iload_n 3, 1) := by decide +kernel
theorem d_own_rmA30_17 : decode jdk_38_method_24_code 17 = .ok (.iconst 1, 1) := by decide +kernel
theorem d_own_rmA30_18 : decode jdk_38_method_24_code 18 = .ok (.iadd, 1) := by decide +kernel
theorem d_own_rmA30_19 : decode jdk_38_method_24_code 19 = .ok (.putfield 48, 3) := by decide +kernel
theorem d_own_rmA30_22 : decode jdk_38_method_24_code 22 = .ok (.return_, 1) := by decide +kernel
theorem ef_own_rmA30 (m : MethodId) (x0 : Addr) (x1 : Addr) (x2 : Addr) : entryFrame m #[(.ref x0), (.ref x1), (.ref x2), (.int (0 : Int32))] 4 = mkF m 0 #[.val (.ref x0), .val (.ref x1), .val (.ref x2), .val (.int (0 : Int32))] [] := by first | (simp [entryFrame, mkF, argsToLocals, Value.category]; done) | rfl
set_option maxRecDepth 65536 in
set_option maxHeartbeats 40000000 in
theorem own_rmA30 (l : Launch) (Z : State) (a0 : Array Value) (hw : ∀ d ∈ tables_1, d.before a0 Z = true) (ws : List Jvm.Cond) (b0 : Addr) (b1 : Addr) (dE : Addr) (kD : ClassId) (mc : Int32) (h0 : Heap) (n0 : Nat) (Z0 : n0 ≤ h0.size) (E_0 : Exa Z h0 b0 "java/util/ArrayList") (F_m : Fld Z h0 b0 "java/util/AbstractList" "modCount" "I" (.int mc)) (F_e : Fld Z h0 b0 "java/util/ArrayList" "elementData" "[Ljava/lang/Object;" (.ref dE)) (F_s : Fld Z h0 b0 "java/util/ArrayList" "size" "I" (.int (0 : Int32))) (g_0 : n0 ≤ b0) (S_D : Sta Z h0 "java/util/ArrayList" "DEFAULTCAPACITY_EMPTY_ELEMENTDATA" "[Ljava/lang/Object;" (.ref dE)) (V_D : Arv Z h0 dE kD (.object "java/lang/Object") (0 : Int32) [] .null) (hdb : dE ≠ b0) (E_1 : Exa Z h0 b1 "java/lang/String") :
    MetFree l (⟨"java/util/ArrayList", "add", "(Ljava/lang/Object;[Ljava/lang/Object;I)V"⟩ : MethodName) (head1 (Jvm.Cond.code (⟨"java/util/ArrayList", "add", "(Ljava/lang/Object;[Ljava/lang/Object;I)V"⟩ : MethodName) jdk_38_method_24_code 4 none :: ws) ({ frames := 3, cells := 1, slots := 10, locals := 41 } : Room)) (fun a U => a = #[(.ref b0), (.ref b1), (.ref dE), (.int (0 : Int32))] ∧ Z.Warmed39 U.vm ∧ U.heap = h0) (fun _ _ _ _ _ => True) (fun _ U o U' => ∃ v L, o = .returned v ∧ own_QH Z b0 mc (1 : Int32) b1 h0 n0 v U'.heap L ∧ FrameEnd U o U' L ({ frames := 3, cells := 1, slots := 10, locals := 41 } : Room).cells ({ frames := 3, cells := 1, slots := 10, locals := 41 } : Room).slots) := by
  refine MetFree.of_bodySF (plainFor_of_name own_pn2) hisR ?_
  intro p e s m args below meth c s₁ Bd hml0 hP hK
  obtain ⟨rfl, hZ, hh⟩ := hP
  have hx := Bd.exec
  have hby := Bd.bytes
  have hml : c.maxLocals = 4 := hml0
  have hown : s.vm.findClass "java/util/ArrayList" = some m.cls := findClass_of_methodNamed Bd.named
  have hnm := (name_of_methodNamed Bd.named Bd.method).1
  have X0 : Stand p l e ({ frames := 3, cells := 1, slots := 10, locals := 41 } : Room) s m #[(.ref b0), (.ref b1), (.ref dE), (.int (0 : Int32))] below meth c s₁ [] 0 0 := Stand.of_body Bd
  have e0 : s₁.heap = h0 := by rw [← hh, Bd.state]; rfl
  have N0 := Fr.nil n0
  refine own_go (b := s₁.setTop (mkF m 0 #[.val (.ref b0), .val (.ref b1), .val (.ref dE), .val (.int (0 : Int32))] [])) (fun t k => castTop (ef_own_rmA30 m b0 b1 dE) k) ?_
  obtain ⟨cl1, Ar1, -, Sz1, M1, -, -⟩ := id V_D
  obtain ⟨cq2, qc2, qc2'⟩ := E_0.cell
  obtain ⟨_, _, ⟨T2, L2, k2, n2⟩, -, X2, ⟨Lc2, hQ2, l2, y2, z2⟩, st2⟩ := X0.privateBack hx (y := (⟨"java/util/ArrayList", "grow", "()[Ljava/lang/Object;"⟩ : MethodName)) hown (mvT hZ (hw _ (List.mem_of_getElem? (i := 61) rfl))) (mvT hZ (hw _ (List.mem_of_getElem? (i := 62) rfl))) (mvT hZ (hw _ (List.mem_of_getElem? (i := 64) rfl))) (Cond.privateMethod_at (mvP hZ (hw _ (List.mem_of_getElem? (i := 63) rfl)) (args := #[]))) (mvT hZ (hw _ (List.mem_of_getElem? (i := 65) rfl))) (by decide) (backOf (W := 0) (own_rmG l Z a0 hw [] b0 dE kD mc h0 n0 Z0 E_0 F_m F_e F_s g_0 S_D V_D hdb) hZ (hw _ (List.mem_of_getElem? (i := 65) rfl)) (hw _ (List.mem_of_getElem? (i := 6) rfl)) (by decide) (by decide)) (g := (mkF m 7 #[.val (.ref b0), .val (.ref b1), .val (.ref dE), .val (.int (0 : Int32))] [(.ref b0)])) rfl (by rw [hml]; rfl) (Steps.refl _) (a := b0) (by rw [e0]; exact qc2) qc2' (argsL := []) (rest := []) (lenOf own_pd3 rfl) rfl (by show 2 * 0 + _ ≤ _; exact Nat.le_of_eq rfl) (hb hby d_own_rmA30_7) (fun _ _ => ⟨rfl, e0, (by decide : 0 + 1 ≤ _), (by decide : 0 + 10 ≤ _)⟩)
  dsimp only [Pt.U, Pt.locs, Pt.cells, Pt.slots] at X2 l2 y2 z2 st2 hQ2
  subst l2 y2 z2
  obtain ⟨ea2, ke2, hv2, N2q, K2q, Fe2, Fs2, Fm2, Ve2, Oe2, nx2, sx2⟩ := hQ2
  cases hv2
  have E_b0_2 := E_0.keep K2q
  have E_b1_2 := E_1.keep K2q
  have N2 := Fr.app N0 N2q
  have Z2 := Nat.le_trans Z0 K2q.1
  have sz_ea2 : h0.size ≤ ea2 := Nat.le_trans (Keep.refl h0 [b0]).1 sx2
  have new_ea2 : n0 ≤ ea2 := Nat.le_trans Z0 sz_ea2
  have K2 := (Keep.refl h0 [b0]).trans K2q (fun x hx => by cases List.mem_singleton.mp hx; exact Or.inl (List.mem_of_getElem? (i := 0) rfl))
  obtain ⟨cl3, Ar3, q3, Sz3, M3, Hs3, Gs3⟩ := id Ve2
  have hin3 : ¬ ((0 : Int32) < 0 ∨ cl3.slots.size ≤ ((0 : Int32)).toNatClampNeg) := inb_of Sz3 ⟨by decide, by decide⟩
  have So3 := Sto.ofV Ar3 q3 Oe2 (Ins.of_exa E_b1_2 (hw _ (List.mem_of_getElem? (i := 77) rfl)))
  obtain ⟨T4, h4, X4, e4, W4, st4⟩ := stR X2 hx hZ rfl Ar3 (j := (0 : Int32)) hin3 rfl So3 (g := (mkF m 14 #[.val (.ref b0), .val (.ref b1), .val (.ref ea2), .val (.int (0 : Int32))] [(.ref b1), (.int (0 : Int32)), (.ref ea2)])) rfl rfl (hb hby d_own_rmA30_14)
  have E_b0_4 := E_b0_2.wr W4
  have E_b1_4 := E_b1_2.wr W4
  have F_b0_elementData_4 := Fe2.other W4 (Or.inl (Ne.symm nx2))
  have F_b0_size_4 := Fs2.other W4 (Or.inl (Ne.symm nx2))
  have F_b0_modCount_4 := Fm2.other W4 (Or.inl (Ne.symm nx2))
  have Z4 := Nat.le_trans Z2 (Keep.of_wr W4).1
  have K4 := K2.wr W4 (Or.inr sz_ea2)
  have N4 := Fr.snoc X4 N2 new_ea2
  have V_ea2_4 : Arv Z h4 ea2 ke2 (.object "java/lang/Object") (10 : Int32) [(.ref b1), .null, .null, .null, .null, .null, .null, .null, .null, .null] .null := Arv.set Ar3 q3 Sz3 M3 Hs3 Gs3 rfl W4 0 rfl (Nat.le_of_ble_eq_true rfl)
  obtain ⟨T5, h5, X5, e5, W5, st5⟩ := putF X4 hx hZ hown (host := "") (Or.inl (hw _ (List.mem_of_getElem? (i := 54) rfl))) Via.refl e4 F_b0_size_4 E_b0_4 (Or.inl (hw _ (List.mem_of_getElem? (i := 55) rfl))) (hw _ (List.mem_of_getElem? (i := 5) rfl)) (ty := .int) (by decide) rfl rfl (g := (mkF m 19 #[.val (.ref b0), .val (.ref b1), .val (.ref ea2), .val (.int (0 : Int32))] [(.int (1 : Int32)), (.ref b0)])) rfl rfl (hb hby d_own_rmA30_19)
  have E_b0_5 := E_b0_4.wr W5
  have E_b1_5 := E_b1_4.wr W5
  have F_b0_elementData_5 := F_b0_elementData_4.other W5 (Or.inr (slot_ne (Or.inl (hw _ (List.mem_of_getElem? (i := 29) rfl))) (Or.inl (hw _ (List.mem_of_getElem? (i := 55) rfl))) (by decide) (t := (.array (.object "java/lang/Object"))) (t' := .int) (by decide) (by decide)))
  have F_b0_modCount_5 := F_b0_modCount_4.other W5 (Or.inr (slot_ne (Or.inl (hw _ (List.mem_of_getElem? (i := 26) rfl))) (Or.inl (hw _ (List.mem_of_getElem? (i := 55) rfl))) (by decide) (t := .int) (t' := .int) (by decide) (by decide)))
  have V_ea2_5 := V_ea2_4.other W5 nx2
  have Z5 := Nat.le_trans Z4 (Keep.of_wr W5).1
  have K5 := K4.wr W5 (Or.inl (List.mem_of_getElem? (i := 0) rfl))
  have N5 := Fr.snoc X5 N4 g_0
  have F_b0_size_5 := F_b0_size_4.same W5
  obtain ⟨fs, hr, hrun, hended, hW, hsame⟩ := X5.leave (v := none) (fun _ => rfl)
  refine ⟨_, _, ?_, hrun, hended, _, _, rfl, ?_, ⟨_, rfl⟩, hW, hsame.mono (by decide) (by decide)⟩
  · show Steps p.tables e below (s₁.setTop (mkF m 0 #[.val (.ref b0), .val (.ref b1), .val (.ref dE), .val (.int (0 : Int32))] [])) _
    refine XS.iloadN X0.here hx rfl (hb hby d_own_rmA30_0) rfl ?_
    show Steps p.tables e below (s₁.setTop (mkF m 1 #[.val (.ref b0), .val (.ref b1), .val (.ref dE), .val (.int (0 : Int32))] [(.int (0 : Int32))])) _
    refine XS.aloadN X0.here hx rfl (hb hby d_own_rmA30_1) rfl rfl ?_
    show Steps p.tables e below (s₁.setTop (mkF m 2 #[.val (.ref b0), .val (.ref b1), .val (.ref dE), .val (.int (0 : Int32))] [(.ref dE), (.int (0 : Int32))])) _
    refine X0.arraylength hx (by rw [e0]; exact Ar1.1) (State.isArrayOf_alike hZ.alike Ar1.2.1) (g := (mkF m 2 #[.val (.ref b0), .val (.ref b1), .val (.ref dE), .val (.int (0 : Int32))] [(.ref dE), (.int (0 : Int32))])) rfl rfl (hb hby d_own_rmA30_2) _ ?_
    rw [len_of Sz1 M1]
    show Steps p.tables e below (s₁.setTop (mkF m 3 #[.val (.ref b0), .val (.ref b1), .val (.ref dE), .val (.int (0 : Int32))] [(.int (0 : Int32)), (.int (0 : Int32))])) _
    refine XS.icmpNo X0.here hx rfl (hb hby d_own_rmA30_3) rfl (teq ((by decide) : (0 : Int32) = (0 : Int32))).2 ?_
    show Steps p.tables e below (s₁.setTop (mkF m 6 #[.val (.ref b0), .val (.ref b1), .val (.ref dE), .val (.int (0 : Int32))] [])) _
    refine XS.aloadN X0.here hx rfl (hb hby d_own_rmA30_6) rfl rfl ?_
    show Steps p.tables e below (s₁.setTop (mkF m 7 #[.val (.ref b0), .val (.ref b1), .val (.ref dE), .val (.int (0 : Int32))] [(.ref b0)])) _
    refine st2.trans ?_
    show Steps p.tables e below (T2.setTop (mkF m 10 #[.val (.ref b0), .val (.ref b1), .val (.ref dE), .val (.int (0 : Int32))] [(.ref ea2)])) _
    refine XS.astoreN X2.here hx rfl (hb hby d_own_rmA30_10) rfl rfl (l' := #[.val (.ref b0), .val (.ref b1), .val (.ref ea2), .val (.int (0 : Int32))]) rfl ?_
    show Steps p.tables e below (T2.setTop (mkF m 11 #[.val (.ref b0), .val (.ref b1), .val (.ref ea2), .val (.int (0 : Int32))] [])) _
    refine XS.aloadN X2.here hx rfl (hb hby d_own_rmA30_11) rfl rfl ?_
    show Steps p.tables e below (T2.setTop (mkF m 12 #[.val (.ref b0), .val (.ref b1), .val (.ref ea2), .val (.int (0 : Int32))] [(.ref ea2)])) _
    refine XS.iloadN X2.here hx rfl (hb hby d_own_rmA30_12) rfl ?_
    show Steps p.tables e below (T2.setTop (mkF m 13 #[.val (.ref b0), .val (.ref b1), .val (.ref ea2), .val (.int (0 : Int32))] [(.int (0 : Int32)), (.ref ea2)])) _
    refine XS.aloadN X2.here hx rfl (hb hby d_own_rmA30_13) rfl rfl ?_
    show Steps p.tables e below (T2.setTop (mkF m 14 #[.val (.ref b0), .val (.ref b1), .val (.ref ea2), .val (.int (0 : Int32))] [(.ref b1), (.int (0 : Int32)), (.ref ea2)])) _
    refine st4 _ ?_
    show Steps p.tables e below (T4.setTop (mkF m 15 #[.val (.ref b0), .val (.ref b1), .val (.ref ea2), .val (.int (0 : Int32))] [])) _
    refine XS.aloadN X4.here hx rfl (hb hby d_own_rmA30_15) rfl rfl ?_
    show Steps p.tables e below (T4.setTop (mkF m 16 #[.val (.ref b0), .val (.ref b1), .val (.ref ea2), .val (.int (0 : Int32))] [(.ref b0)])) _
    refine XS.iloadN X4.here hx rfl (hb hby d_own_rmA30_16) rfl ?_
    show Steps p.tables e below (T4.setTop (mkF m 17 #[.val (.ref b0), .val (.ref b1), .val (.ref ea2), .val (.int (0 : Int32))] [(.int (0 : Int32)), (.ref b0)])) _
    refine XS.iconst X4.here hx rfl (hb hby d_own_rmA30_17) ?_
    show Steps p.tables e below (T4.setTop (mkF m 18 #[.val (.ref b0), .val (.ref b1), .val (.ref ea2), .val (.int (0 : Int32))] [(.int (1 : Int32)), (.int (0 : Int32)), (.ref b0)])) _
    refine XS.iadd X4.here hx rfl (hb hby d_own_rmA30_18) rfl ?_
    show Steps p.tables e below (T4.setTop (mkF m 19 #[.val (.ref b0), .val (.ref b1), .val (.ref ea2), .val (.int (0 : Int32))] [(.int (1 : Int32)), (.ref b0)])) _
    refine st5 _ ?_
    show Steps p.tables e below (T5.setTop (mkF m 22 #[.val (.ref b0), .val (.ref b1), .val (.ref ea2), .val (.int (0 : Int32))] [])) _
    exact X5.returnOut hx Bd.returns (hb hby d_own_rmA30_22) hr
  · show own_QH Z b0 mc (1 : Int32) b1 h0 n0 _ T5.heap _
    rw [e5]
    exact ⟨ea2, _, rfl, N5, K5, F_b0_elementData_5, F_b0_size_5, F_b0_modCount_5, V_ea2_5, Oe2, nx2, sz_ea2⟩
theorem d_own_rmAdd0_0 : decode jdk_38_method_25_code 0 = .ok (.aload_n 0, 1) := by decide +kernel
theorem d_own_rmAdd0_1 : decode jdk_38_method_25_code 1 = .ok (.dup, 1) := by decide +kernel
theorem d_own_rmAdd0_2 : decode jdk_38_method_25_code 2 = .ok (.getfield 63, 3) := by decide +kernel
theorem d_own_rmAdd0_5 : decode jdk_38_method_25_code 5 = .ok (.iconst 1, 1) := by decide +kernel
theorem d_own_rmAdd0_6 : decode jdk_38_method_25_code 6 = .ok (.iadd, 1) := by decide +kernel
theorem d_own_rmAdd0_7 : decode jdk_38_method_25_code 7 = .ok (.putfield 63, 3) := by decide +kernel
theorem d_own_rmAdd0_10 : decode jdk_38_method_25_code 10 = .ok (.aload_n 0, 1) := by decide +kernel
theorem d_own_rmAdd0_11 : decode jdk_38_method_25_code 11 = .ok (.aload_n 1, 1) := by decide +kernel
theorem d_own_rmAdd0_12 : decode jdk_38_method_25_code 12 = .ok (.aload_n 0, 1) := by decide +kernel
theorem d_own_rmAdd0_13 : decode jdk_38_method_25_code 13 = .ok (.getfield 9, 3) := by decide +kernel
theorem d_own_rmAdd0_16 : decode jdk_38_method_25_code 16 = .ok (.aload_n 0, 1) := by decide +kernel
theorem d_own_rmAdd0_17 : decode jdk_38_method_25_code 17 = .ok (.getfield 48, 3) := by decide +kernel
theorem d_own_rmAdd0_20 : decode jdk_38_method_25_code 20 = .ok (.invokevirtual 131, 3) := by decide +kernel
theorem d_own_rmAdd0_23 : decode jdk_38_method_25_code 23 = .ok (.iconst 1, 1) := by decide +kernel
theorem d_own_rmAdd0_24 : decode jdk_38_method_25_code 24 = .ok (.ireturn, 1) := by decide +kernel
theorem ef_own_rmAdd0 (m : MethodId) (x0 : Addr) (x1 : Addr) : entryFrame m #[(.ref x0), (.ref x1)] 2 = mkF m 0 #[.val (.ref x0), .val (.ref x1)] [] := by first | (simp [entryFrame, mkF, argsToLocals, Value.category]; done) | rfl
set_option maxRecDepth 65536 in
set_option maxHeartbeats 40000000 in
theorem own_rmAdd0 (l : Launch) (Z : State) (a0 : Array Value) (hw : ∀ d ∈ tables_1, d.before a0 Z = true) (ws : List Jvm.Cond) (b0 : Addr) (b1 : Addr) (dE : Addr) (kD : ClassId) (mc : Int32) (h0 : Heap) (n0 : Nat) (Z0 : n0 ≤ h0.size) (E_0 : Exa Z h0 b0 "java/util/ArrayList") (F_m : Fld Z h0 b0 "java/util/AbstractList" "modCount" "I" (.int mc)) (F_e : Fld Z h0 b0 "java/util/ArrayList" "elementData" "[Ljava/lang/Object;" (.ref dE)) (F_s : Fld Z h0 b0 "java/util/ArrayList" "size" "I" (.int (0 : Int32))) (g_0 : n0 ≤ b0) (S_D : Sta Z h0 "java/util/ArrayList" "DEFAULTCAPACITY_EMPTY_ELEMENTDATA" "[Ljava/lang/Object;" (.ref dE)) (V_D : Arv Z h0 dE kD (.object "java/lang/Object") (0 : Int32) [] .null) (hdb : dE ≠ b0) (E_1 : Exa Z h0 b1 "java/lang/String") :
    MetFree l (⟨"java/util/ArrayList", "add", "(Ljava/lang/Object;)Z"⟩ : MethodName) (head1 (Jvm.Cond.code (⟨"java/util/ArrayList", "add", "(Ljava/lang/Object;)Z"⟩ : MethodName) jdk_38_method_25_code 2 (some .boolean) :: ws) ({ frames := 4, cells := 1, slots := 10, locals := 56 } : Room)) (fun a U => a = #[(.ref b0), (.ref b1)] ∧ Z.Warmed39 U.vm ∧ U.heap = h0) (fun _ _ _ _ _ => True) (fun _ U o U' => ∃ v L, o = .returned v ∧ own_QH1 Z b0 (mc + (1 : Int32)) (1 : Int32) b1 h0 n0 v U'.heap L ∧ FrameEnd U o U' L ({ frames := 4, cells := 1, slots := 10, locals := 56 } : Room).cells ({ frames := 4, cells := 1, slots := 10, locals := 56 } : Room).slots) := by
  refine MetFree.of_bodySF (plainFor_of_name own_pn2) hisR ?_
  intro p e s m args below meth c s₁ Bd hml0 hP hK
  obtain ⟨rfl, hZ, hh⟩ := hP
  have hx := Bd.exec
  have hby := Bd.bytes
  have hml : c.maxLocals = 2 := hml0
  have hown : s.vm.findClass "java/util/ArrayList" = some m.cls := findClass_of_methodNamed Bd.named
  have hnm := (name_of_methodNamed Bd.named Bd.method).1
  have X0 : Stand p l e ({ frames := 4, cells := 1, slots := 10, locals := 56 } : Room) s m #[(.ref b0), (.ref b1)] below meth c s₁ [] 0 0 := Stand.of_body Bd
  have e0 : s₁.heap = h0 := by rw [← hh, Bd.state]; rfl
  have N0 := Fr.nil n0
  refine own_go (b := s₁.setTop (mkF m 0 #[.val (.ref b0), .val (.ref b1)] [])) (fun t k => castTop (ef_own_rmAdd0 m b0 b1) k) ?_
  obtain ⟨T1, X1, e1, st1⟩ := getF X0 hx hZ hown (host := "") (Or.inl (hw _ (List.mem_of_getElem? (i := 52) rfl))) (Via.of (hw _ (List.mem_of_getElem? (i := 53) rfl))) e0 F_m (g := (mkF m 2 #[.val (.ref b0), .val (.ref b1)] [(.ref b0), (.ref b0)])) rfl rfl (hb hby d_own_rmAdd0_2)
  obtain ⟨T2, h2, X2, e2, W2, st2⟩ := putF X1 hx hZ hown (host := "") (Or.inl (hw _ (List.mem_of_getElem? (i := 52) rfl))) (Via.of (hw _ (List.mem_of_getElem? (i := 53) rfl))) e1 F_m E_0 (Or.inl (hw _ (List.mem_of_getElem? (i := 26) rfl))) (hw _ (List.mem_of_getElem? (i := 5) rfl)) (ty := .int) (by decide) rfl rfl (g := (mkF m 7 #[.val (.ref b0), .val (.ref b1)] [(.int (mc + (1 : Int32))), (.ref b0)])) rfl rfl (hb hby d_own_rmAdd0_7)
  have E_b0_2 := E_0.wr W2
  have F_b0_elementData_2 := F_e.other W2 (Or.inr (slot_ne (Or.inl (hw _ (List.mem_of_getElem? (i := 29) rfl))) (Or.inl (hw _ (List.mem_of_getElem? (i := 26) rfl))) (by decide) (t := (.array (.object "java/lang/Object"))) (t' := .int) (by decide) (by decide)))
  have F_b0_size_2 := F_s.other W2 (Or.inr (slot_ne (Or.inl (hw _ (List.mem_of_getElem? (i := 55) rfl))) (Or.inl (hw _ (List.mem_of_getElem? (i := 26) rfl))) (by decide) (t := .int) (t' := .int) (by decide) (by decide)))
  have S_ArrayList_DEFAULTCAPACITY_EMPTY_ELEMENTDATA_2 := S_D.wr W2
  have V_dE_2 := V_D.other W2 hdb
  have E_b1_2 := E_1.wr W2
  have Z2 := Nat.le_trans Z0 (Keep.of_wr W2).1
  have K2 := (Keep.refl h0 [b0]).wr W2 (Or.inl (List.mem_of_getElem? (i := 0) rfl))
  have N2 := Fr.snoc X2 N0 g_0
  have F_b0_modCount_2 := F_m.same W2
  obtain ⟨T3, X3, e3, st3⟩ := getF X2 hx hZ hown (host := "") (Or.inl (hw _ (List.mem_of_getElem? (i := 28) rfl))) Via.refl e2 F_b0_elementData_2 (g := (mkF m 13 #[.val (.ref b0), .val (.ref b1)] [(.ref b0), (.ref b1), (.ref b0)])) rfl rfl (hb hby d_own_rmAdd0_13)
  obtain ⟨T4, X4, e4, st4⟩ := getF X3 hx hZ hown (host := "") (Or.inl (hw _ (List.mem_of_getElem? (i := 54) rfl))) Via.refl e3 F_b0_size_2 (g := (mkF m 17 #[.val (.ref b0), .val (.ref b1)] [(.ref b0), (.ref dE), (.ref b1), (.ref b0)])) rfl rfl (hb hby d_own_rmAdd0_17)
  obtain ⟨cq5, qc5, qc5'⟩ := E_b0_2.cell
  obtain ⟨_, _, ⟨T5, L5, k5, n5⟩, -, X5, ⟨Lc5, hQ5, l5, y5, z5⟩, st5⟩ := X4.privateBack hx (y := (⟨"java/util/ArrayList", "add", "(Ljava/lang/Object;[Ljava/lang/Object;I)V"⟩ : MethodName)) hown (mvT hZ (hw _ (List.mem_of_getElem? (i := 56) rfl))) (mvT hZ (hw _ (List.mem_of_getElem? (i := 57) rfl))) (mvT hZ (hw _ (List.mem_of_getElem? (i := 59) rfl))) (Cond.privateMethod_at (mvP hZ (hw _ (List.mem_of_getElem? (i := 58) rfl)) (args := #[]))) (mvT hZ (hw _ (List.mem_of_getElem? (i := 60) rfl))) (by decide) (backOf (W := 0) (own_rmA30 l Z a0 hw [] b0 b1 dE kD (mc + (1 : Int32)) h2 n0 Z2 E_b0_2 F_b0_modCount_2 F_b0_elementData_2 F_b0_size_2 g_0 S_ArrayList_DEFAULTCAPACITY_EMPTY_ELEMENTDATA_2 V_dE_2 hdb E_b1_2) hZ (hw _ (List.mem_of_getElem? (i := 60) rfl)) (hw _ (List.mem_of_getElem? (i := 6) rfl)) (by decide) (by decide)) (g := (mkF m 20 #[.val (.ref b0), .val (.ref b1)] [(.int (0 : Int32)), (.ref dE), (.ref b1), (.ref b0)])) rfl (by rw [hml]; rfl) (Steps.refl _) (a := b0) (by rw [e4]; exact qc5) qc5' (argsL := [(.ref b1), (.ref dE), (.int (0 : Int32))]) (rest := []) (lenOf own_pd4 rfl) rfl (by show 2 * 0 + _ ≤ _; exact Nat.le_of_eq rfl) (hb hby d_own_rmAdd0_20) (fun _ _ => ⟨rfl, e4, (by decide : 0 + 1 ≤ _), (by decide : 0 + 10 ≤ _)⟩)
  dsimp only [Pt.U, Pt.locs, Pt.cells, Pt.slots] at X5 l5 y5 z5 st5 hQ5
  subst l5 y5 z5
  obtain ⟨ea5, ke5, hv5, N5q, K5q, Fe5, Fs5, Fm5, Ve5, Oe5, nx5, sx5⟩ := hQ5
  cases hv5
  have E_b0_5 := E_b0_2.keep K5q
  have E_b1_5 := E_b1_2.keep K5q
  have N5 := Fr.app N2 N5q
  have Z5 := Nat.le_trans Z2 K5q.1
  have sz_ea5 : h0.size ≤ ea5 := Nat.le_trans K2.1 sx5
  have new_ea5 : n0 ≤ ea5 := Nat.le_trans Z0 sz_ea5
  have K5 := K2.trans K5q (fun x hx => by cases List.mem_singleton.mp hx; exact Or.inl (List.mem_of_getElem? (i := 0) rfl))
  obtain ⟨fs, hr, hrun, hended, hW, hsame⟩ := X5.leave (v := some (.int (1 : Int32))) (fun h => by rw [Bd.returns] at h; cases h)
  refine ⟨_, _, ?_, hrun, hended, _, _, rfl, ?_, ⟨_, rfl⟩, hW, hsame.mono (by decide) (by decide)⟩
  · show Steps p.tables e below (s₁.setTop (mkF m 0 #[.val (.ref b0), .val (.ref b1)] [])) _
    refine XS.aloadN X0.here hx rfl (hb hby d_own_rmAdd0_0) rfl rfl ?_
    show Steps p.tables e below (s₁.setTop (mkF m 1 #[.val (.ref b0), .val (.ref b1)] [(.ref b0)])) _
    refine XS.dup X0.here hx rfl (hb hby d_own_rmAdd0_1) rfl rfl ?_
    show Steps p.tables e below (s₁.setTop (mkF m 2 #[.val (.ref b0), .val (.ref b1)] [(.ref b0), (.ref b0)])) _
    refine st1 _ ?_
    show Steps p.tables e below (T1.setTop (mkF m 5 #[.val (.ref b0), .val (.ref b1)] [(.int mc), (.ref b0)])) _
    refine XS.iconst X1.here hx rfl (hb hby d_own_rmAdd0_5) ?_
    show Steps p.tables e below (T1.setTop (mkF m 6 #[.val (.ref b0), .val (.ref b1)] [(.int (1 : Int32)), (.int mc), (.ref b0)])) _
    refine XS.iadd X1.here hx rfl (hb hby d_own_rmAdd0_6) rfl ?_
    show Steps p.tables e below (T1.setTop (mkF m 7 #[.val (.ref b0), .val (.ref b1)] [(.int (mc + (1 : Int32))), (.ref b0)])) _
    refine st2 _ ?_
    show Steps p.tables e below (T2.setTop (mkF m 10 #[.val (.ref b0), .val (.ref b1)] [])) _
    refine XS.aloadN X2.here hx rfl (hb hby d_own_rmAdd0_10) rfl rfl ?_
    show Steps p.tables e below (T2.setTop (mkF m 11 #[.val (.ref b0), .val (.ref b1)] [(.ref b0)])) _
    refine XS.aloadN X2.here hx rfl (hb hby d_own_rmAdd0_11) rfl rfl ?_
    show Steps p.tables e below (T2.setTop (mkF m 12 #[.val (.ref b0), .val (.ref b1)] [(.ref b1), (.ref b0)])) _
    refine XS.aloadN X2.here hx rfl (hb hby d_own_rmAdd0_12) rfl rfl ?_
    show Steps p.tables e below (T2.setTop (mkF m 13 #[.val (.ref b0), .val (.ref b1)] [(.ref b0), (.ref b1), (.ref b0)])) _
    refine st3 _ ?_
    show Steps p.tables e below (T3.setTop (mkF m 16 #[.val (.ref b0), .val (.ref b1)] [(.ref dE), (.ref b1), (.ref b0)])) _
    refine XS.aloadN X3.here hx rfl (hb hby d_own_rmAdd0_16) rfl rfl ?_
    show Steps p.tables e below (T3.setTop (mkF m 17 #[.val (.ref b0), .val (.ref b1)] [(.ref b0), (.ref dE), (.ref b1), (.ref b0)])) _
    refine st4 _ ?_
    show Steps p.tables e below (T4.setTop (mkF m 20 #[.val (.ref b0), .val (.ref b1)] [(.int (0 : Int32)), (.ref dE), (.ref b1), (.ref b0)])) _
    refine st5.trans ?_
    show Steps p.tables e below (T5.setTop (mkF m 23 #[.val (.ref b0), .val (.ref b1)] [])) _
    refine XS.iconst X5.here hx rfl (hb hby d_own_rmAdd0_23) ?_
    show Steps p.tables e below (T5.setTop (mkF m 24 #[.val (.ref b0), .val (.ref b1)] [(.int (1 : Int32))])) _
    exact retN X5 hx (t := .boolean) Bd.returns (by simp) (hb hby d_own_rmAdd0_24) hr
  · show own_QH1 Z b0 (mc + (1 : Int32)) (1 : Int32) b1 h0 n0 _ T5.heap _
    exact ⟨ea5, _, rfl, N5, K5, Fe5, Fs5, Fm5, Ve5, Oe5, nx5, sz_ea5⟩
def own_QJ (Z : State) (a ea : Addr) (ke : ClassId) (b1 b2 : Addr) (h0 : Heap) (n0 : Nat) (v : Option Value) (h : Heap) (L : List Loc) : Prop := v = none ∧ Fr n0 L ∧ Keep h0 h [a, ea] ∧ Fld Z h a "java/util/ArrayList" "elementData" "[Ljava/lang/Object;" (.ref ea) ∧ Fld Z h a "java/util/ArrayList" "size" "I" (.int (2 : Int32)) ∧ Arv Z h ea ke (.object "java/lang/Object") (10 : Int32) [(.ref b1), (.ref b2), .null, .null, .null, .null, .null, .null, .null, .null] .null
def own_QJ1 (Z : State) (a ea : Addr) (ke : ClassId) (b1 b2 : Addr) (h0 : Heap) (n0 : Nat) (v : Option Value) (h : Heap) (L : List Loc) : Prop := v = some (.int (1 : Int32)) ∧ Fr n0 L ∧ Keep h0 h [a, ea] ∧ Fld Z h a "java/util/ArrayList" "elementData" "[Ljava/lang/Object;" (.ref ea) ∧ Fld Z h a "java/util/ArrayList" "size" "I" (.int (2 : Int32)) ∧ Arv Z h ea ke (.object "java/lang/Object") (10 : Int32) [(.ref b1), (.ref b2), .null, .null, .null, .null, .null, .null, .null, .null] .null
theorem d_own_rmA31_0 : decode jdk_38_method_24_code 0 = .ok (.iload_n 3, 1) := by decide +kernel
theorem d_own_rmA31_1 : decode jdk_38_method_24_code 1 = .ok (.aload_n 2, 1) := by decide +kernel
theorem d_own_rmA31_2 : decode jdk_38_method_24_code 2 = .ok (.arraylength, 1) := by decide +kernel
theorem d_own_rmA31_3 : decode jdk_38_method_24_code 3 = .ok (.if_icmp .ne 8, 3) := by decide +kernel
theorem d_own_rmA31_11 : decode jdk_38_method_24_code 11 = .ok (.aload_n 2, 1) := by decide +kernel
theorem d_own_rmA31_12 : decode jdk_38_method_24_code 12 = .ok (.iload_n 3, 1) := by decide +kernel
theorem d_own_rmA31_13 : decode jdk_38_method_24_code 13 = .ok (.aload_n 1, 1) := by decide +kernel
theorem d_own_rmA31_14 : decode jdk_38_method_24_code 14 = .ok (.aastore, 1) := by decide +kernel
theorem d_own_rmA31_15 : decode jdk_38_method_24_code 15 = .ok (.aload_n 0, 1) := by decide +kernel
theorem d_own_rmA31_16 : decode jdk_38_method_24_code 16 = .ok (.iload_n 3, 1) := by decide +kernel
theorem d_own_rmA31_17 : decode jdk_38_method_24_code 17 = .ok (.iconst 1, 1) := by decide +kernel
theorem d_own_rmA31_18 : decode jdk_38_method_24_code 18 = .ok (.iadd, 1) := by decide +kernel
theorem d_own_rmA31_19 : decode jdk_38_method_24_code 19 = .ok (.putfield 48, 3) := by decide +kernel
theorem d_own_rmA31_22 : decode jdk_38_method_24_code 22 = .ok (.return_, 1) := by decide +kernel
theorem ef_own_rmA31 (m : MethodId) (x0 : Addr) (x1 : Addr) (x2 : Addr) : entryFrame m #[(.ref x0), (.ref x1), (.ref x2), (.int (1 : Int32))] 4 = mkF m 0 #[.val (.ref x0), .val (.ref x1), .val (.ref x2), .val (.int (1 : Int32))] [] := by first | (simp [entryFrame, mkF, argsToLocals, Value.category]; done) | rfl
set_option maxRecDepth 65536 in
set_option maxHeartbeats 40000000 in
theorem own_rmA31 (l : Launch) (Z : State) (a0 : Array Value) (hw : ∀ d ∈ tables_1, d.before a0 Z = true) (ws : List Jvm.Cond) (b0 : Addr) (b2 : Addr) (ea : Addr) (b1 : Addr) (ke : ClassId) (mc : Int32) (h0 : Heap) (n0 : Nat) (Z0 : n0 ≤ h0.size) (E_0 : Exa Z h0 b0 "java/util/ArrayList") (F_m : Fld Z h0 b0 "java/util/AbstractList" "modCount" "I" (.int mc)) (F_e : Fld Z h0 b0 "java/util/ArrayList" "elementData" "[Ljava/lang/Object;" (.ref ea)) (F_s : Fld Z h0 b0 "java/util/ArrayList" "size" "I" (.int (1 : Int32))) (g_0 : n0 ≤ b0) (V_e : Arv Z h0 ea ke (.object "java/lang/Object") (10 : Int32) [(.ref b1), .null, .null, .null, .null, .null, .null, .null, .null, .null] .null) (O_e : Ovr Z ke "java/lang/Object") (hea : ea ≠ b0) (g_e : n0 ≤ ea) (E_2 : Exa Z h0 b2 "java/lang/String") :
    MetFree l (⟨"java/util/ArrayList", "add", "(Ljava/lang/Object;[Ljava/lang/Object;I)V"⟩ : MethodName) (head1 (Jvm.Cond.code (⟨"java/util/ArrayList", "add", "(Ljava/lang/Object;[Ljava/lang/Object;I)V"⟩ : MethodName) jdk_38_method_24_code 4 none :: ws) ({ frames := 0, cells := 0, slots := 0, locals := 0 } : Room)) (fun a U => a = #[(.ref b0), (.ref b2), (.ref ea), (.int (1 : Int32))] ∧ Z.Warmed39 U.vm ∧ U.heap = h0) (fun _ _ _ _ _ => True) (fun _ U o U' => ∃ v L, o = .returned v ∧ own_QJ Z b0 ea ke b1 b2 h0 n0 v U'.heap L ∧ FrameEnd U o U' L ({ frames := 0, cells := 0, slots := 0, locals := 0 } : Room).cells ({ frames := 0, cells := 0, slots := 0, locals := 0 } : Room).slots) := by
  refine MetFree.of_bodySF (plainFor_of_name own_pn2) hisR ?_
  intro p e s m args below meth c s₁ Bd hml0 hP hK
  obtain ⟨rfl, hZ, hh⟩ := hP
  have hx := Bd.exec
  have hby := Bd.bytes
  have hml : c.maxLocals = 4 := hml0
  have hown : s.vm.findClass "java/util/ArrayList" = some m.cls := findClass_of_methodNamed Bd.named
  have hnm := (name_of_methodNamed Bd.named Bd.method).1
  have X0 : Stand p l e ({ frames := 0, cells := 0, slots := 0, locals := 0 } : Room) s m #[(.ref b0), (.ref b2), (.ref ea), (.int (1 : Int32))] below meth c s₁ [] 0 0 := Stand.of_body Bd
  have e0 : s₁.heap = h0 := by rw [← hh, Bd.state]; rfl
  have N0 := Fr.nil n0
  refine own_go (b := s₁.setTop (mkF m 0 #[.val (.ref b0), .val (.ref b2), .val (.ref ea), .val (.int (1 : Int32))] [])) (fun t k => castTop (ef_own_rmA31 m b0 b2 ea) k) ?_
  obtain ⟨cl1, Ar1, -, Sz1, M1, -, -⟩ := id V_e
  obtain ⟨cl2, Ar2, q2, Sz2, M2, Hs2, Gs2⟩ := id V_e
  have hin2 : ¬ ((1 : Int32) < 0 ∨ cl2.slots.size ≤ ((1 : Int32)).toNatClampNeg) := inb_of Sz2 ⟨by decide, by decide⟩
  have So2 := Sto.ofV Ar2 q2 O_e (Ins.of_exa E_2 (hw _ (List.mem_of_getElem? (i := 77) rfl)))
  obtain ⟨T3, h3, X3, e3, W3, st3⟩ := stR X0 hx hZ e0 Ar2 (j := (1 : Int32)) hin2 rfl So2 (g := (mkF m 14 #[.val (.ref b0), .val (.ref b2), .val (.ref ea), .val (.int (1 : Int32))] [(.ref b2), (.int (1 : Int32)), (.ref ea)])) rfl rfl (hb hby d_own_rmA31_14)
  have E_b0_3 := E_0.wr W3
  have F_b0_modCount_3 := F_m.other W3 (Or.inl (Ne.symm hea))
  have F_b0_elementData_3 := F_e.other W3 (Or.inl (Ne.symm hea))
  have F_b0_size_3 := F_s.other W3 (Or.inl (Ne.symm hea))
  have E_b2_3 := E_2.wr W3
  have Z3 := Nat.le_trans Z0 (Keep.of_wr W3).1
  have K3 := (Keep.refl h0 [b0, ea]).wr W3 (Or.inl (List.mem_of_getElem? (i := 1) rfl))
  have N3 := Fr.snoc X3 N0 g_e
  have V_ea_3 : Arv Z h3 ea ke (.object "java/lang/Object") (10 : Int32) [(.ref b1), (.ref b2), .null, .null, .null, .null, .null, .null, .null, .null] .null := Arv.set Ar2 q2 Sz2 M2 Hs2 Gs2 rfl W3 1 rfl (Nat.le_of_ble_eq_true rfl)
  obtain ⟨T4, h4, X4, e4, W4, st4⟩ := putF X3 hx hZ hown (host := "") (Or.inl (hw _ (List.mem_of_getElem? (i := 54) rfl))) Via.refl e3 F_b0_size_3 E_b0_3 (Or.inl (hw _ (List.mem_of_getElem? (i := 55) rfl))) (hw _ (List.mem_of_getElem? (i := 5) rfl)) (ty := .int) (by decide) rfl rfl (g := (mkF m 19 #[.val (.ref b0), .val (.ref b2), .val (.ref ea), .val (.int (1 : Int32))] [(.int (2 : Int32)), (.ref b0)])) rfl rfl (hb hby d_own_rmA31_19)
  have E_b0_4 := E_b0_3.wr W4
  have F_b0_modCount_4 := F_b0_modCount_3.other W4 (Or.inr (slot_ne (Or.inl (hw _ (List.mem_of_getElem? (i := 26) rfl))) (Or.inl (hw _ (List.mem_of_getElem? (i := 55) rfl))) (by decide) (t := .int) (t' := .int) (by decide) (by decide)))
  have F_b0_elementData_4 := F_b0_elementData_3.other W4 (Or.inr (slot_ne (Or.inl (hw _ (List.mem_of_getElem? (i := 29) rfl))) (Or.inl (hw _ (List.mem_of_getElem? (i := 55) rfl))) (by decide) (t := (.array (.object "java/lang/Object"))) (t' := .int) (by decide) (by decide)))
  have E_b2_4 := E_b2_3.wr W4
  have V_ea_4 := V_ea_3.other W4 hea
  have Z4 := Nat.le_trans Z3 (Keep.of_wr W4).1
  have K4 := K3.wr W4 (Or.inl (List.mem_of_getElem? (i := 0) rfl))
  have N4 := Fr.snoc X4 N3 g_0
  have F_b0_size_4 := F_b0_size_3.same W4
  obtain ⟨fs, hr, hrun, hended, hW, hsame⟩ := X4.leave (v := none) (fun _ => rfl)
  refine ⟨_, _, ?_, hrun, hended, _, _, rfl, ?_, ⟨_, rfl⟩, hW, hsame.mono (by decide) (by decide)⟩
  · show Steps p.tables e below (s₁.setTop (mkF m 0 #[.val (.ref b0), .val (.ref b2), .val (.ref ea), .val (.int (1 : Int32))] [])) _
    refine XS.iloadN X0.here hx rfl (hb hby d_own_rmA31_0) rfl ?_
    show Steps p.tables e below (s₁.setTop (mkF m 1 #[.val (.ref b0), .val (.ref b2), .val (.ref ea), .val (.int (1 : Int32))] [(.int (1 : Int32))])) _
    refine XS.aloadN X0.here hx rfl (hb hby d_own_rmA31_1) rfl rfl ?_
    show Steps p.tables e below (s₁.setTop (mkF m 2 #[.val (.ref b0), .val (.ref b2), .val (.ref ea), .val (.int (1 : Int32))] [(.ref ea), (.int (1 : Int32))])) _
    refine X0.arraylength hx (by rw [e0]; exact Ar1.1) (State.isArrayOf_alike hZ.alike Ar1.2.1) (g := (mkF m 2 #[.val (.ref b0), .val (.ref b2), .val (.ref ea), .val (.int (1 : Int32))] [(.ref ea), (.int (1 : Int32))])) rfl rfl (hb hby d_own_rmA31_2) _ ?_
    rw [len_of Sz1 M1]
    show Steps p.tables e below (s₁.setTop (mkF m 3 #[.val (.ref b0), .val (.ref b2), .val (.ref ea), .val (.int (1 : Int32))] [(.int (10 : Int32)), (.int (1 : Int32))])) _
    refine XS.icmpYes X0.here hx rfl (pc0 := 3) (pc' := 11) rfl (hb hby d_own_rmA31_3) rfl (feq ((by decide) : ¬ ((1 : Int32) = (10 : Int32)))).2 (by decide) (by decide) ?_
    show Steps p.tables e below (s₁.setTop (mkF m 11 #[.val (.ref b0), .val (.ref b2), .val (.ref ea), .val (.int (1 : Int32))] [])) _
    refine XS.aloadN X0.here hx rfl (hb hby d_own_rmA31_11) rfl rfl ?_
    show Steps p.tables e below (s₁.setTop (mkF m 12 #[.val (.ref b0), .val (.ref b2), .val (.ref ea), .val (.int (1 : Int32))] [(.ref ea)])) _
    refine XS.iloadN X0.here hx rfl (hb hby d_own_rmA31_12) rfl ?_
    show Steps p.tables e below (s₁.setTop (mkF m 13 #[.val (.ref b0), .val (.ref b2), .val (.ref ea), .val (.int (1 : Int32))] [(.int (1 : Int32)), (.ref ea)])) _
    refine XS.aloadN X0.here hx rfl (hb hby d_own_rmA31_13) rfl rfl ?_
    show Steps p.tables e below (s₁.setTop (mkF m 14 #[.val (.ref b0), .val (.ref b2), .val (.ref ea), .val (.int (1 : Int32))] [(.ref b2), (.int (1 : Int32)), (.ref ea)])) _
    refine st3 _ ?_
    show Steps p.tables e below (T3.setTop (mkF m 15 #[.val (.ref b0), .val (.ref b2), .val (.ref ea), .val (.int (1 : Int32))] [])) _
    refine XS.aloadN X3.here hx rfl (hb hby d_own_rmA31_15) rfl rfl ?_
    show Steps p.tables e below (T3.setTop (mkF m 16 #[.val (.ref b0), .val (.ref b2), .val (.ref ea), .val (.int (1 : Int32))] [(.ref b0)])) _
    refine XS.iloadN X3.here hx rfl (hb hby d_own_rmA31_16) rfl ?_
    show Steps p.tables e below (T3.setTop (mkF m 17 #[.val (.ref b0), .val (.ref b2), .val (.ref ea), .val (.int (1 : Int32))] [(.int (1 : Int32)), (.ref b0)])) _
    refine XS.iconst X3.here hx rfl (hb hby d_own_rmA31_17) ?_
    show Steps p.tables e below (T3.setTop (mkF m 18 #[.val (.ref b0), .val (.ref b2), .val (.ref ea), .val (.int (1 : Int32))] [(.int (1 : Int32)), (.int (1 : Int32)), (.ref b0)])) _
    refine XS.iadd X3.here hx rfl (hb hby d_own_rmA31_18) rfl ?_
    show Steps p.tables e below (T3.setTop (mkF m 19 #[.val (.ref b0), .val (.ref b2), .val (.ref ea), .val (.int (1 : Int32))] [(.int (2 : Int32)), (.ref b0)])) _
    refine st4 _ ?_
    show Steps p.tables e below (T4.setTop (mkF m 22 #[.val (.ref b0), .val (.ref b2), .val (.ref ea), .val (.int (1 : Int32))] [])) _
    exact X4.returnOut hx Bd.returns (hb hby d_own_rmA31_22) hr
  · show own_QJ Z b0 ea ke b1 b2 h0 n0 _ T4.heap _
    rw [e4]
    exact ⟨rfl, N4, K4, F_b0_elementData_4, F_b0_size_4, V_ea_4⟩
theorem d_own_rmAdd1_0 : decode jdk_38_method_25_code 0 = .ok (.aload_n 0, 1) := by decide +kernel
theorem d_own_rmAdd1_1 : decode jdk_38_method_25_code 1 = .ok (.dup, 1) := by decide +kernel
theorem d_own_rmAdd1_2 : decode jdk_38_method_25_code 2 = .ok (.getfield 63, 3) := by decide +kernel
theorem d_own_rmAdd1_5 : decode jdk_38_method_25_code 5 = .ok (.iconst 1, 1) := by decide +kernel
theorem d_own_rmAdd1_6 : decode jdk_38_method_25_code 6 = .ok (.iadd, 1) := by decide +kernel
theorem d_own_rmAdd1_7 : decode jdk_38_method_25_code 7 = .ok (.putfield 63, 3) := by decide +kernel
theorem d_own_rmAdd1_10 : decode jdk_38_method_25_code 10 = .ok (.aload_n 0, 1) := by decide +kernel
theorem d_own_rmAdd1_11 : decode jdk_38_method_25_code 11 = .ok (.aload_n 1, 1) := by decide +kernel
theorem d_own_rmAdd1_12 : decode jdk_38_method_25_code 12 = .ok (.aload_n 0, 1) := by decide +kernel
theorem d_own_rmAdd1_13 : decode jdk_38_method_25_code 13 = .ok (.getfield 9, 3) := by decide +kernel
theorem d_own_rmAdd1_16 : decode jdk_38_method_25_code 16 = .ok (.aload_n 0, 1) := by decide +kernel
theorem d_own_rmAdd1_17 : decode jdk_38_method_25_code 17 = .ok (.getfield 48, 3) := by decide +kernel
theorem d_own_rmAdd1_20 : decode jdk_38_method_25_code 20 = .ok (.invokevirtual 131, 3) := by decide +kernel
theorem d_own_rmAdd1_23 : decode jdk_38_method_25_code 23 = .ok (.iconst 1, 1) := by decide +kernel
theorem d_own_rmAdd1_24 : decode jdk_38_method_25_code 24 = .ok (.ireturn, 1) := by decide +kernel
theorem ef_own_rmAdd1 (m : MethodId) (x0 : Addr) (x1 : Addr) : entryFrame m #[(.ref x0), (.ref x1)] 2 = mkF m 0 #[.val (.ref x0), .val (.ref x1)] [] := by first | (simp [entryFrame, mkF, argsToLocals, Value.category]; done) | rfl
set_option maxRecDepth 65536 in
set_option maxHeartbeats 40000000 in
theorem own_rmAdd1 (l : Launch) (Z : State) (a0 : Array Value) (hw : ∀ d ∈ tables_1, d.before a0 Z = true) (ws : List Jvm.Cond) (b0 : Addr) (b2 : Addr) (ea b1 : Addr) (ke : ClassId) (mc : Int32) (h0 : Heap) (n0 : Nat) (Z0 : n0 ≤ h0.size) (E_0 : Exa Z h0 b0 "java/util/ArrayList") (F_m : Fld Z h0 b0 "java/util/AbstractList" "modCount" "I" (.int mc)) (F_e : Fld Z h0 b0 "java/util/ArrayList" "elementData" "[Ljava/lang/Object;" (.ref ea)) (F_s : Fld Z h0 b0 "java/util/ArrayList" "size" "I" (.int (1 : Int32))) (g_0 : n0 ≤ b0) (V_e : Arv Z h0 ea ke (.object "java/lang/Object") (10 : Int32) [(.ref b1), .null, .null, .null, .null, .null, .null, .null, .null, .null] .null) (O_e : Ovr Z ke "java/lang/Object") (hea : ea ≠ b0) (g_e : n0 ≤ ea) (E_2 : Exa Z h0 b2 "java/lang/String") :
    MetFree l (⟨"java/util/ArrayList", "add", "(Ljava/lang/Object;)Z"⟩ : MethodName) (head1 (Jvm.Cond.code (⟨"java/util/ArrayList", "add", "(Ljava/lang/Object;)Z"⟩ : MethodName) jdk_38_method_25_code 2 (some .boolean) :: ws) ({ frames := 1, cells := 0, slots := 0, locals := 15 } : Room)) (fun a U => a = #[(.ref b0), (.ref b2)] ∧ Z.Warmed39 U.vm ∧ U.heap = h0) (fun _ _ _ _ _ => True) (fun _ U o U' => ∃ v L, o = .returned v ∧ own_QJ1 Z b0 ea ke b1 b2 h0 n0 v U'.heap L ∧ FrameEnd U o U' L ({ frames := 1, cells := 0, slots := 0, locals := 15 } : Room).cells ({ frames := 1, cells := 0, slots := 0, locals := 15 } : Room).slots) := by
  refine MetFree.of_bodySF (plainFor_of_name own_pn2) hisR ?_
  intro p e s m args below meth c s₁ Bd hml0 hP hK
  obtain ⟨rfl, hZ, hh⟩ := hP
  have hx := Bd.exec
  have hby := Bd.bytes
  have hml : c.maxLocals = 2 := hml0
  have hown : s.vm.findClass "java/util/ArrayList" = some m.cls := findClass_of_methodNamed Bd.named
  have hnm := (name_of_methodNamed Bd.named Bd.method).1
  have X0 : Stand p l e ({ frames := 1, cells := 0, slots := 0, locals := 15 } : Room) s m #[(.ref b0), (.ref b2)] below meth c s₁ [] 0 0 := Stand.of_body Bd
  have e0 : s₁.heap = h0 := by rw [← hh, Bd.state]; rfl
  have N0 := Fr.nil n0
  refine own_go (b := s₁.setTop (mkF m 0 #[.val (.ref b0), .val (.ref b2)] [])) (fun t k => castTop (ef_own_rmAdd1 m b0 b2) k) ?_
  obtain ⟨T1, X1, e1, st1⟩ := getF X0 hx hZ hown (host := "") (Or.inl (hw _ (List.mem_of_getElem? (i := 52) rfl))) (Via.of (hw _ (List.mem_of_getElem? (i := 53) rfl))) e0 F_m (g := (mkF m 2 #[.val (.ref b0), .val (.ref b2)] [(.ref b0), (.ref b0)])) rfl rfl (hb hby d_own_rmAdd1_2)
  obtain ⟨T2, h2, X2, e2, W2, st2⟩ := putF X1 hx hZ hown (host := "") (Or.inl (hw _ (List.mem_of_getElem? (i := 52) rfl))) (Via.of (hw _ (List.mem_of_getElem? (i := 53) rfl))) e1 F_m E_0 (Or.inl (hw _ (List.mem_of_getElem? (i := 26) rfl))) (hw _ (List.mem_of_getElem? (i := 5) rfl)) (ty := .int) (by decide) rfl rfl (g := (mkF m 7 #[.val (.ref b0), .val (.ref b2)] [(.int (mc + (1 : Int32))), (.ref b0)])) rfl rfl (hb hby d_own_rmAdd1_7)
  have E_b0_2 := E_0.wr W2
  have F_b0_elementData_2 := F_e.other W2 (Or.inr (slot_ne (Or.inl (hw _ (List.mem_of_getElem? (i := 29) rfl))) (Or.inl (hw _ (List.mem_of_getElem? (i := 26) rfl))) (by decide) (t := (.array (.object "java/lang/Object"))) (t' := .int) (by decide) (by decide)))
  have F_b0_size_2 := F_s.other W2 (Or.inr (slot_ne (Or.inl (hw _ (List.mem_of_getElem? (i := 55) rfl))) (Or.inl (hw _ (List.mem_of_getElem? (i := 26) rfl))) (by decide) (t := .int) (t' := .int) (by decide) (by decide)))
  have V_ea_2 := V_e.other W2 hea
  have E_b2_2 := E_2.wr W2
  have Z2 := Nat.le_trans Z0 (Keep.of_wr W2).1
  have K2 := (Keep.refl h0 [b0, ea]).wr W2 (Or.inl (List.mem_of_getElem? (i := 0) rfl))
  have N2 := Fr.snoc X2 N0 g_0
  have F_b0_modCount_2 := F_m.same W2
  obtain ⟨T3, X3, e3, st3⟩ := getF X2 hx hZ hown (host := "") (Or.inl (hw _ (List.mem_of_getElem? (i := 28) rfl))) Via.refl e2 F_b0_elementData_2 (g := (mkF m 13 #[.val (.ref b0), .val (.ref b2)] [(.ref b0), (.ref b2), (.ref b0)])) rfl rfl (hb hby d_own_rmAdd1_13)
  obtain ⟨T4, X4, e4, st4⟩ := getF X3 hx hZ hown (host := "") (Or.inl (hw _ (List.mem_of_getElem? (i := 54) rfl))) Via.refl e3 F_b0_size_2 (g := (mkF m 17 #[.val (.ref b0), .val (.ref b2)] [(.ref b0), (.ref ea), (.ref b2), (.ref b0)])) rfl rfl (hb hby d_own_rmAdd1_17)
  obtain ⟨cq5, qc5, qc5'⟩ := E_b0_2.cell
  obtain ⟨_, _, ⟨T5, L5, k5, n5⟩, -, X5, ⟨Lc5, hQ5, l5, y5, z5⟩, st5⟩ := X4.privateBack hx (y := (⟨"java/util/ArrayList", "add", "(Ljava/lang/Object;[Ljava/lang/Object;I)V"⟩ : MethodName)) hown (mvT hZ (hw _ (List.mem_of_getElem? (i := 56) rfl))) (mvT hZ (hw _ (List.mem_of_getElem? (i := 57) rfl))) (mvT hZ (hw _ (List.mem_of_getElem? (i := 59) rfl))) (Cond.privateMethod_at (mvP hZ (hw _ (List.mem_of_getElem? (i := 58) rfl)) (args := #[]))) (mvT hZ (hw _ (List.mem_of_getElem? (i := 60) rfl))) (by decide) (backOf (W := 0) (own_rmA31 l Z a0 hw [] b0 b2 ea b1 ke (mc + (1 : Int32)) h2 n0 Z2 E_b0_2 F_b0_modCount_2 F_b0_elementData_2 F_b0_size_2 g_0 V_ea_2 O_e hea g_e E_b2_2) hZ (hw _ (List.mem_of_getElem? (i := 60) rfl)) (hw _ (List.mem_of_getElem? (i := 6) rfl)) (by decide) (by decide)) (g := (mkF m 20 #[.val (.ref b0), .val (.ref b2)] [(.int (1 : Int32)), (.ref ea), (.ref b2), (.ref b0)])) rfl (by rw [hml]; rfl) (Steps.refl _) (a := b0) (by rw [e4]; exact qc5) qc5' (argsL := [(.ref b2), (.ref ea), (.int (1 : Int32))]) (rest := []) (lenOf own_pd4 rfl) rfl (by show 2 * 0 + _ ≤ _; exact Nat.le_of_eq rfl) (hb hby d_own_rmAdd1_20) (fun _ _ => ⟨rfl, e4, (by decide : 0 + 0 ≤ _), (by decide : 0 + 0 ≤ _)⟩)
  dsimp only [Pt.U, Pt.locs, Pt.cells, Pt.slots] at X5 l5 y5 z5 st5 hQ5
  subst l5 y5 z5
  obtain ⟨rfl, N5q, K5q, B5_0, B5_1, B5_2⟩ := hQ5
  have E_b0_5 := E_b0_2.keep K5q
  have E_b2_5 := E_b2_2.keep K5q
  have N5 := Fr.app N2 N5q
  have Z5 := Nat.le_trans Z2 K5q.1
  have K5 := K2.trans K5q (fun x hx => by rcases own_in2 hx with rfl | rfl <;> first | exact Or.inl (List.mem_of_getElem? (i := 0) rfl) | exact Or.inl (List.mem_of_getElem? (i := 1) rfl))
  obtain ⟨fs, hr, hrun, hended, hW, hsame⟩ := X5.leave (v := some (.int (1 : Int32))) (fun h => by rw [Bd.returns] at h; cases h)
  refine ⟨_, _, ?_, hrun, hended, _, _, rfl, ?_, ⟨_, rfl⟩, hW, hsame.mono (by decide) (by decide)⟩
  · show Steps p.tables e below (s₁.setTop (mkF m 0 #[.val (.ref b0), .val (.ref b2)] [])) _
    refine XS.aloadN X0.here hx rfl (hb hby d_own_rmAdd1_0) rfl rfl ?_
    show Steps p.tables e below (s₁.setTop (mkF m 1 #[.val (.ref b0), .val (.ref b2)] [(.ref b0)])) _
    refine XS.dup X0.here hx rfl (hb hby d_own_rmAdd1_1) rfl rfl ?_
    show Steps p.tables e below (s₁.setTop (mkF m 2 #[.val (.ref b0), .val (.ref b2)] [(.ref b0), (.ref b0)])) _
    refine st1 _ ?_
    show Steps p.tables e below (T1.setTop (mkF m 5 #[.val (.ref b0), .val (.ref b2)] [(.int mc), (.ref b0)])) _
    refine XS.iconst X1.here hx rfl (hb hby d_own_rmAdd1_5) ?_
    show Steps p.tables e below (T1.setTop (mkF m 6 #[.val (.ref b0), .val (.ref b2)] [(.int (1 : Int32)), (.int mc), (.ref b0)])) _
    refine XS.iadd X1.here hx rfl (hb hby d_own_rmAdd1_6) rfl ?_
    show Steps p.tables e below (T1.setTop (mkF m 7 #[.val (.ref b0), .val (.ref b2)] [(.int (mc + (1 : Int32))), (.ref b0)])) _
    refine st2 _ ?_
    show Steps p.tables e below (T2.setTop (mkF m 10 #[.val (.ref b0), .val (.ref b2)] [])) _
    refine XS.aloadN X2.here hx rfl (hb hby d_own_rmAdd1_10) rfl rfl ?_
    show Steps p.tables e below (T2.setTop (mkF m 11 #[.val (.ref b0), .val (.ref b2)] [(.ref b0)])) _
    refine XS.aloadN X2.here hx rfl (hb hby d_own_rmAdd1_11) rfl rfl ?_
    show Steps p.tables e below (T2.setTop (mkF m 12 #[.val (.ref b0), .val (.ref b2)] [(.ref b2), (.ref b0)])) _
    refine XS.aloadN X2.here hx rfl (hb hby d_own_rmAdd1_12) rfl rfl ?_
    show Steps p.tables e below (T2.setTop (mkF m 13 #[.val (.ref b0), .val (.ref b2)] [(.ref b0), (.ref b2), (.ref b0)])) _
    refine st3 _ ?_
    show Steps p.tables e below (T3.setTop (mkF m 16 #[.val (.ref b0), .val (.ref b2)] [(.ref ea), (.ref b2), (.ref b0)])) _
    refine XS.aloadN X3.here hx rfl (hb hby d_own_rmAdd1_16) rfl rfl ?_
    show Steps p.tables e below (T3.setTop (mkF m 17 #[.val (.ref b0), .val (.ref b2)] [(.ref b0), (.ref ea), (.ref b2), (.ref b0)])) _
    refine st4 _ ?_
    show Steps p.tables e below (T4.setTop (mkF m 20 #[.val (.ref b0), .val (.ref b2)] [(.int (1 : Int32)), (.ref ea), (.ref b2), (.ref b0)])) _
    refine st5.trans ?_
    show Steps p.tables e below (T5.setTop (mkF m 23 #[.val (.ref b0), .val (.ref b2)] [])) _
    refine XS.iconst X5.here hx rfl (hb hby d_own_rmAdd1_23) ?_
    show Steps p.tables e below (T5.setTop (mkF m 24 #[.val (.ref b0), .val (.ref b2)] [(.int (1 : Int32))])) _
    exact retN X5 hx (t := .boolean) Bd.returns (by simp) (hb hby d_own_rmAdd1_24) hr
  · show own_QJ1 Z b0 ea ke b1 b2 h0 n0 _ T5.heap _
    exact ⟨rfl, N5, K5, B5_0, B5_1, B5_2⟩
def own_QM (Z : State) (s0 s1 : Addr) (h0 : Heap) (n0 : Nat) (v : Option Value) (h : Heap) (L : List Loc) : Prop := ∃ (r ea : Addr) (ke : ClassId), v = some (.ref r) ∧ Fr n0 L ∧ Keep h0 h [] ∧ Exa Z h r "java/util/ArrayList" ∧ Fld Z h r "java/util/ArrayList" "size" "I" (.int (2 : Int32)) ∧ Fld Z h r "java/util/ArrayList" "elementData" "[Ljava/lang/Object;" (.ref ea) ∧ Arv Z h ea ke (.object "java/lang/Object") (10 : Int32) [(.ref s0), (.ref s1), .null, .null, .null, .null, .null, .null, .null, .null] .null
theorem d_own_rmN_0 : decode prog_11_method_7_code 0 = .ok (.new 43, 3) := by decide +kernel
theorem d_own_rmN_3 : decode prog_11_method_7_code 3 = .ok (.dup, 1) := by decide +kernel
theorem d_own_rmN_4 : decode prog_11_method_7_code 4 = .ok (.invokespecial 45, 3) := by decide +kernel
theorem d_own_rmN_7 : decode prog_11_method_7_code 7 = .ok (.astore_n 0, 1) := by decide +kernel
theorem d_own_rmN_8 : decode prog_11_method_7_code 8 = .ok (.invokestatic 33, 3) := by decide +kernel
theorem d_own_rmN_11 : decode prog_11_method_7_code 11 = .ok (.astore_n 1, 1) := by decide +kernel
theorem d_own_rmN_12 : decode prog_11_method_7_code 12 = .ok (.aload_n 1, 1) := by decide +kernel
theorem d_own_rmN_13 : decode prog_11_method_7_code 13 = .ok (.arraylength, 1) := by decide +kernel
theorem d_own_rmN_14 : decode prog_11_method_7_code 14 = .ok (.istore_n 2, 1) := by decide +kernel
theorem d_own_rmN_15 : decode prog_11_method_7_code 15 = .ok (.iconst 0, 1) := by decide +kernel
theorem d_own_rmN_16 : decode prog_11_method_7_code 16 = .ok (.istore_n 3, 1) := by decide +kernel
theorem d_own_rmN_17 : decode prog_11_method_7_code 17 = .ok (.iload_n 3, 1) := by decide +kernel
theorem d_own_rmN_18 : decode prog_11_method_7_code 18 = .ok (.iload_n 2, 1) := by decide +kernel
theorem d_own_rmN_19 : decode prog_11_method_7_code 19 = .ok (.if_icmp .ge 24, 3) := by decide +kernel
theorem d_own_rmN_22 : decode prog_11_method_7_code 22 = .ok (.aload_n 1, 1) := by decide +kernel
theorem d_own_rmN_23 : decode prog_11_method_7_code 23 = .ok (.iload_n 3, 1) := by decide +kernel
theorem d_own_rmN_24 : decode prog_11_method_7_code 24 = .ok (.aaload, 1) := by decide +kernel
theorem d_own_rmN_25 : decode prog_11_method_7_code 25 = .ok (.astore 4, 2) := by decide +kernel
theorem d_own_rmN_27 : decode prog_11_method_7_code 27 = .ok (.aload_n 0, 1) := by decide +kernel
theorem d_own_rmN_28 : decode prog_11_method_7_code 28 = .ok (.aload 4, 2) := by decide +kernel
theorem d_own_rmN_30 : decode prog_11_method_7_code 30 = .ok (.getfield 29, 3) := by decide +kernel
theorem d_own_rmN_33 : decode prog_11_method_7_code 33 = .ok (.invokevirtual 48, 3) := by decide +kernel
theorem d_own_rmN_36 : decode prog_11_method_7_code 36 = .ok (.pop, 1) := by decide +kernel
theorem d_own_rmN_37 : decode prog_11_method_7_code 37 = .ok (.iinc 3 1, 3) := by decide +kernel
theorem d_own_rmN_40 : decode prog_11_method_7_code 40 = .ok (.goto (-23), 3) := by decide +kernel
theorem d_own_rmN_43 : decode prog_11_method_7_code 43 = .ok (.aload_n 0, 1) := by decide +kernel
theorem d_own_rmN_44 : decode prog_11_method_7_code 44 = .ok (.areturn, 1) := by decide +kernel
theorem ef_own_rmN (m : MethodId)  : entryFrame m #[] 5 = mkF m 0 #[.unset, .unset, .unset, .unset, .unset] [] := by first | (simp [entryFrame, mkF, argsToLocals, Value.category]; done) | rfl
set_option maxRecDepth 65536 in
set_option maxHeartbeats 40000000 in
theorem own_rmN (l : Launch) (Z : State) (a0 : Array Value) (hw : ∀ d ∈ tables_1, d.before a0 Z = true) (ws : List Jvm.Cond)  (bA m0 m1 s0 s1 dE : Addr) (kA kD : ClassId) (h0 : Heap) (n0 : Nat) (Z0 : n0 ≤ h0.size) (S_A : Sta Z h0 "com/example/corollary/corollary/EstimateMethod" "$VALUES" "[Lcom/example/corollary/corollary/EstimateMethod;" (.ref bA)) (V_A : Arv Z h0 bA kA (.object "com/example/corollary/corollary/EstimateMethod") (2 : Int32) [(.ref m0), (.ref m1)] .null) (E_A : Exa Z h0 bA "[Lcom/example/corollary/corollary/EstimateMethod;") (S_D : Sta Z h0 "java/util/ArrayList" "DEFAULTCAPACITY_EMPTY_ELEMENTDATA" "[Ljava/lang/Object;" (.ref dE)) (V_D : Arv Z h0 dE kD (.object "java/lang/Object") (0 : Int32) [] .null) (E_m0 : Exa Z h0 m0 "com/example/corollary/corollary/EstimateMethod$1") (F_o0 : Fld Z h0 m0 "com/example/corollary/corollary/EstimateMethod" "optionName" "Ljava/lang/String;" (.ref s0)) (E_s0 : Exa Z h0 s0 "java/lang/String") (E_m1 : Exa Z h0 m1 "com/example/corollary/corollary/EstimateMethod$2") (F_o1 : Fld Z h0 m1 "com/example/corollary/corollary/EstimateMethod" "optionName" "Ljava/lang/String;" (.ref s1)) (E_s1 : Exa Z h0 s1 "java/lang/String") :
    MetFree l (⟨"com/example/corollary/corollary/EstimateMethod", "names", "()Ljava/util/List;"⟩ : MethodName) (head1 (Jvm.Cond.code (⟨"com/example/corollary/corollary/EstimateMethod", "names", "()Ljava/util/List;"⟩ : MethodName) prog_11_method_7_code 5 (some (.object "java/util/List")) :: ws) ({ frames := 5, cells := 3, slots := 15, locals := 69 } : Room)) (fun a U => a = #[] ∧ Z.Warmed39 U.vm ∧ U.heap = h0) (fun _ _ _ _ _ => True) (fun _ U o U' => ∃ v L, o = .returned v ∧ own_QM Z s0 s1 h0 n0 v U'.heap L ∧ FrameEnd U o U' L ({ frames := 5, cells := 3, slots := 15, locals := 69 } : Room).cells ({ frames := 5, cells := 3, slots := 15, locals := 69 } : Room).slots) := by
  refine MetFree.of_bodySF (plainFor_of_name own_pn3) hisR ?_
  intro p e s m args below meth c s₁ Bd hml0 hP hK
  obtain ⟨rfl, hZ, hh⟩ := hP
  have hx := Bd.exec
  have hby := Bd.bytes
  have hml : c.maxLocals = 5 := hml0
  have hown : s.vm.findClass "com/example/corollary/corollary/EstimateMethod" = some m.cls := findClass_of_methodNamed Bd.named
  have hnm := (name_of_methodNamed Bd.named Bd.method).1
  have X0 : Stand p l e ({ frames := 5, cells := 3, slots := 15, locals := 69 } : Room) s m #[] below meth c s₁ [] 0 0 := Stand.of_body Bd
  have e0 : s₁.heap = h0 := by rw [← hh, Bd.state]; rfl
  have N0 := Fr.nil n0
  refine own_go (b := s₁.setTop (mkF m 0 #[.unset, .unset, .unset, .unset, .unset] [])) (fun t k => castTop (ef_own_rmN m ) k) ?_
  obtain ⟨T1, h1, X1, e1, E1, A1, D1, -, st1⟩ := newO X0 hx hZ hown (hw _ (List.mem_of_getElem? (i := 4) rfl)) (hw _ (List.mem_of_getElem? (i := 5) rfl)) (hw _ (List.mem_of_getElem? (i := 6) rfl)) e0 (g := (mkF m 0 #[.unset, .unset, .unset, .unset, .unset] [])) rfl (hb hby d_own_rmN_0) (by decide) (by decide)
  obtain ⟨b1, g1⟩ : ∃ z, z = h0.size := ⟨_, rfl⟩
  rw [← g1] at A1 D1 st1
  have ne_bA_b1 : bA ≠ b1 := Nat.ne_of_lt (Nat.lt_of_lt_of_le V_A.lt (Nat.le_of_eq g1.symm))
  have ne_dE_b1 : dE ≠ b1 := Nat.ne_of_lt (Nat.lt_of_lt_of_le V_D.lt (Nat.le_of_eq g1.symm))
  have ne_m0_b1 : m0 ≠ b1 := Nat.ne_of_lt (Nat.lt_of_lt_of_le E_m0.lt (Nat.le_of_eq g1.symm))
  have ne_m1_b1 : m1 ≠ b1 := Nat.ne_of_lt (Nat.lt_of_lt_of_le E_m1.lt (Nat.le_of_eq g1.symm))
  have ne_s0_b1 : s0 ≠ b1 := Nat.ne_of_lt (Nat.lt_of_lt_of_le E_s0.lt (Nat.le_of_eq g1.symm))
  have ne_s1_b1 : s1 ≠ b1 := Nat.ne_of_lt (Nat.lt_of_lt_of_le E_s1.lt (Nat.le_of_eq g1.symm))
  have new_b1 : n0 ≤ b1 := Nat.le_trans Z0 (Nat.le_of_eq g1.symm)
  have sz_b1 : h0.size ≤ b1 := Nat.le_trans (Keep.refl h0 []).1 (Nat.le_of_eq g1.symm)
  have S_EstimateMethod__VALUES_1 := S_A.ext E1
  have V_bA_1 := V_A.ext E1
  have E_bA_1 := E_A.ext E1
  have S_ArrayList_DEFAULTCAPACITY_EMPTY_ELEMENTDATA_1 := S_D.ext E1
  have V_dE_1 := V_D.ext E1
  have E_m0_1 := E_m0.ext E1
  have F_m0_optionName_1 := F_o0.ext E1
  have E_s0_1 := E_s0.ext E1
  have E_m1_1 := E_m1.ext E1
  have F_m1_optionName_1 := F_o1.ext E1
  have E_s1_1 := E_s1.ext E1
  have Z1 := Nat.le_trans Z0 E1.1
  have K1 := (Keep.refl h0 []).ext E1
  have F_b1_modCount_1 : Fld Z h1 b1 "java/util/AbstractList" "modCount" "I" (.int (0 : Int32)) := D1 (Or.inl (hw _ (List.mem_of_getElem? (i := 26) rfl))) (ty := .int) (by decide)
  have F_b1_elementData_1 : Fld Z h1 b1 "java/util/ArrayList" "elementData" "[Ljava/lang/Object;" .null := D1 (Or.inl (hw _ (List.mem_of_getElem? (i := 29) rfl))) (ty := (.array (.object "java/lang/Object"))) (by decide)
  have F_b1_size_1 : Fld Z h1 b1 "java/util/ArrayList" "size" "I" (.int (0 : Int32)) := D1 (Or.inl (hw _ (List.mem_of_getElem? (i := 55) rfl))) (ty := .int) (by decide)
  obtain ⟨_, _, ⟨T2, L2, k2, n2⟩, -, X2, ⟨Lc2, hQ2, l2, y2, z2⟩, st2⟩ := X1.specialBack hx (y := (⟨"java/util/ArrayList", "<init>", "()V"⟩ : MethodName)) rfl hown (mvT hZ (hw _ (List.mem_of_getElem? (i := 7) rfl))) (mvT hZ (hw _ (List.mem_of_getElem? (i := 8) rfl))) (mvT hZ (hw _ (List.mem_of_getElem? (i := 9) rfl))) (by decide) (backOf (W := 1) (own_rmAR l Z a0 hw [] b1 dE h1 n0 Z1 A1 F_b1_modCount_1 F_b1_elementData_1 F_b1_size_1 new_b1 S_ArrayList_DEFAULTCAPACITY_EMPTY_ELEMENTDATA_1) hZ (hw _ (List.mem_of_getElem? (i := 9) rfl)) (hw _ (List.mem_of_getElem? (i := 6) rfl)) (by decide) (by decide)) (g := (mkF m 4 #[.unset, .unset, .unset, .unset, .unset] [(.ref b1), (.ref b1)])) rfl (by rw [hml]; rfl) (Steps.refl _) (a := b1) (argsL := []) (rest := [(.ref b1)]) (lenOf own_pd0 rfl) rfl (by show 2 * 0 + _ ≤ _; exact Nat.le_of_eq rfl) (hb hby d_own_rmN_4) (fun _ _ => ⟨rfl, e1, (by decide : 1 + 0 ≤ _), (by decide : 3 + 0 ≤ _)⟩)
  dsimp only [Pt.U, Pt.locs, Pt.cells, Pt.slots] at X2 l2 y2 z2 st2 hQ2
  subst l2 y2 z2
  obtain ⟨rfl, N2q, K2q, B2_0, B2_1, B2_2⟩ := hQ2
  have S_EstimateMethod__VALUES_2 := own_staKeep S_EstimateMethod__VALUES_1 A1 K2q
  have V_bA_2 := V_bA_1.keep K2q (fun q => ne_bA_b1 (List.mem_singleton.mp q))
  have E_bA_2 := E_bA_1.keep K2q
  have S_ArrayList_DEFAULTCAPACITY_EMPTY_ELEMENTDATA_2 := own_staKeep S_ArrayList_DEFAULTCAPACITY_EMPTY_ELEMENTDATA_1 A1 K2q
  have V_dE_2 := V_dE_1.keep K2q (fun q => ne_dE_b1 (List.mem_singleton.mp q))
  have E_m0_2 := E_m0_1.keep K2q
  have F_m0_optionName_2 := F_m0_optionName_1.keep K2q (fun q => ne_m0_b1 (List.mem_singleton.mp q))
  have E_s0_2 := E_s0_1.keep K2q
  have E_m1_2 := E_m1_1.keep K2q
  have F_m1_optionName_2 := F_m1_optionName_1.keep K2q (fun q => ne_m1_b1 (List.mem_singleton.mp q))
  have E_s1_2 := E_s1_1.keep K2q
  have E_b1_2 := A1.keep K2q
  have N2 := Fr.app N0 N2q
  have Z2 := Nat.le_trans Z1 K2q.1
  have K2 := K1.trans K2q (fun x hx => by cases List.mem_singleton.mp hx; exact Or.inr sz_b1)
  obtain ⟨_, _, ⟨T3, L3, k3, n3⟩, -, X3, ⟨Lc3, hQ3, l3, y3, z3⟩, st3⟩ := Jvm.LawKit.callS X2 hx (y := (⟨"com/example/corollary/corollary/EstimateMethod", "values", "()[Lcom/example/corollary/corollary/EstimateMethod;"⟩ : MethodName)) hown (mvT hZ (hw _ (List.mem_of_getElem? (i := 30) rfl))) (mvT hZ (hw _ (List.mem_of_getElem? (i := 31) rfl))) (mvT hZ (hw _ (List.mem_of_getElem? (i := 2) rfl))) (mvT hZ (hw _ (List.mem_of_getElem? (i := 32) rfl))) (by decide) (backOf (W := 0) (own_rmA l Z a0 hw []  bA m0 m1 kA T2.heap n0 Z2 S_EstimateMethod__VALUES_2 V_bA_2 E_bA_2) hZ (hw _ (List.mem_of_getElem? (i := 32) rfl)) (hw _ (List.mem_of_getElem? (i := 2) rfl)) (by decide) (by decide)) (g := (mkF m 8 #[.val (.ref b1), .unset, .unset, .unset, .unset] [])) rfl (by rw [hml]; rfl) (argsL := []) (rest := []) (lenOf own_pd5 rfl) rfl (by show 2 * 0 + _ ≤ _; exact Nat.le_of_eq rfl) (hb hby d_own_rmN_8) (fun _ _ => ⟨rfl, rfl, (by decide : 1 + 1 ≤ _), (by decide : 3 + 2 ≤ _)⟩)
  dsimp only [Pt.U, Pt.locs, Pt.cells, Pt.slots] at X3 l3 y3 z3 st3 hQ3
  subst l3 y3 z3
  obtain ⟨bv3, rfl, N3q, K3q, B3_0, B3_1⟩ := hQ3
  have S_EstimateMethod__VALUES_3 := own_staKeep0 S_EstimateMethod__VALUES_2 K3q
  have V_bA_3 := V_bA_2.keep K3q List.not_mem_nil
  have E_bA_3 := E_bA_2.keep K3q
  have S_ArrayList_DEFAULTCAPACITY_EMPTY_ELEMENTDATA_3 := own_staKeep0 S_ArrayList_DEFAULTCAPACITY_EMPTY_ELEMENTDATA_2 K3q
  have V_dE_3 := V_dE_2.keep K3q List.not_mem_nil
  have E_m0_3 := E_m0_2.keep K3q
  have F_m0_optionName_3 := F_m0_optionName_2.keep K3q List.not_mem_nil
  have E_s0_3 := E_s0_2.keep K3q
  have E_m1_3 := E_m1_2.keep K3q
  have F_m1_optionName_3 := F_m1_optionName_2.keep K3q List.not_mem_nil
  have E_s1_3 := E_s1_2.keep K3q
  have E_b1_3 := E_b1_2.keep K3q
  have F_b1_modCount_3 := B2_0.keep K3q List.not_mem_nil
  have F_b1_elementData_3 := B2_1.keep K3q List.not_mem_nil
  have F_b1_size_3 := B2_2.keep K3q List.not_mem_nil
  have N3 := Fr.app N2 N3q
  have Z3 := Nat.le_trans Z2 K3q.1
  have K3 := K2.trans K3q (fun x hx => nomatch hx)
  have ne_b1_bv3 : b1 ≠ bv3 := Nat.ne_of_lt (Nat.lt_of_lt_of_le E_b1_2.lt B3_1)
  have ne_bA_bv3 : bA ≠ bv3 := Nat.ne_of_lt (Nat.lt_of_lt_of_le V_bA_2.lt B3_1)
  have ne_dE_bv3 : dE ≠ bv3 := Nat.ne_of_lt (Nat.lt_of_lt_of_le V_dE_2.lt B3_1)
  have ne_m0_bv3 : m0 ≠ bv3 := Nat.ne_of_lt (Nat.lt_of_lt_of_le E_m0_2.lt B3_1)
  have ne_m1_bv3 : m1 ≠ bv3 := Nat.ne_of_lt (Nat.lt_of_lt_of_le E_m1_2.lt B3_1)
  have ne_s0_bv3 : s0 ≠ bv3 := Nat.ne_of_lt (Nat.lt_of_lt_of_le E_s0_2.lt B3_1)
  have ne_s1_bv3 : s1 ≠ bv3 := Nat.ne_of_lt (Nat.lt_of_lt_of_le E_s1_2.lt B3_1)
  obtain ⟨cl4, Ar4, -, Sz4, M4, -, -⟩ := id B3_0
  obtain ⟨cl5, Ar5, -, Sz5, M5, Hs5, Gs5⟩ := id B3_0
  have hin5 : ¬ ((0 : Int32) < 0 ∨ cl5.slots.size ≤ ((0 : Int32)).toNatClampNeg) := inb_of Sz5 ⟨by decide, by decide⟩
  have hat5 : cl5.slots[((0 : Int32)).toNatClampNeg]? = some (.ref m0) := Hs5 0 (by rw [Sz5]; decide)
  obtain ⟨T6, X6, e6, st6⟩ := getF X3 hx hZ hown (host := "") (Or.inl (hw _ (List.mem_of_getElem? (i := 45) rfl))) Via.refl rfl F_m0_optionName_3 (g := (mkF m 30 #[.val (.ref b1), .val (.ref bv3), .val (.int (2 : Int32)), .val (.int (0 : Int32)), .val (.ref m0)] [(.ref m0), (.ref b1)])) rfl rfl (hb hby d_own_rmN_30)
  obtain ⟨cq7, kq7, q7a, q7b, q7c⟩ := isOf hZ e6 E_b1_3
  obtain ⟨_, _, ⟨T7, L7, k7, n7⟩, -, X7, ⟨Lc7, hQ7, l7, y7, z7⟩, st7⟩ := X6.virtualBack hx (y := (⟨"java/util/ArrayList", "add", "(Ljava/lang/Object;)Z"⟩ : MethodName)) (z := (⟨"java/util/ArrayList", "add", "(Ljava/lang/Object;)Z"⟩ : MethodName)) hown (mvT hZ (hw _ (List.mem_of_getElem? (i := 47) rfl))) (mvT hZ (hw _ (List.mem_of_getElem? (i := 48) rfl))) (notFace_of_selects (args := #[]) (mvT hZ (hw _ (List.mem_of_getElem? (i := 50) rfl)))) (mvT hZ (hw _ (List.mem_of_getElem? (i := 50) rfl))) (mvT hZ (hw _ (List.mem_of_getElem? (i := 49) rfl))) (by decide) (backOf (W := 0) (own_rmAdd0 l Z a0 hw [] b1 s0 dE kD (0 : Int32) T3.heap n0 Z3 E_b1_3 F_b1_modCount_3 F_b1_elementData_3 F_b1_size_3 new_b1 S_ArrayList_DEFAULTCAPACITY_EMPTY_ELEMENTDATA_3 V_dE_3 ne_dE_b1 E_s0_3) hZ (hw _ (List.mem_of_getElem? (i := 51) rfl)) (hw _ (List.mem_of_getElem? (i := 6) rfl)) (by decide) (by decide)) q7a q7c (g := (mkF m 33 #[.val (.ref b1), .val (.ref bv3), .val (.int (2 : Int32)), .val (.int (0 : Int32)), .val (.ref m0)] [(.ref s0), (.ref b1)])) rfl (by rw [hml]; rfl) (Steps.refl _) (argsL := [(.ref s0)]) (rest := []) (lenOf own_pd6 rfl) rfl (by show 2 * 0 + _ ≤ _; exact Nat.le_of_eq rfl) (hb hby d_own_rmN_33) (fun _ _ => ⟨rfl, e6, (by decide : 2 + 1 ≤ _), (by decide : 5 + 10 ≤ _)⟩)
  dsimp only [Pt.U, Pt.locs, Pt.cells, Pt.slots] at X7 l7 y7 z7 st7 hQ7
  subst l7 y7 z7
  have Kq7 := hQ7
  obtain ⟨_, _, _, _, KK7, _⟩ := Kq7
  have PS_EstimateMethod__VALUES_7 := own_staKeep S_EstimateMethod__VALUES_3 E_b1_3 KK7
  have PV_bA_7 := V_bA_3.keep KK7 (fun q => ne_bA_b1 (List.mem_singleton.mp q))
  have PS_ArrayList_DEFAULTCAPACITY_EMPTY_ELEMENTDATA_7 := own_staKeep S_ArrayList_DEFAULTCAPACITY_EMPTY_ELEMENTDATA_3 E_b1_3 KK7
  have PV_dE_7 := V_dE_3.keep KK7 (fun q => ne_dE_b1 (List.mem_singleton.mp q))
  have PF_m0_optionName_7 := F_m0_optionName_3.keep KK7 (fun q => ne_m0_b1 (List.mem_singleton.mp q))
  have PF_m1_optionName_7 := F_m1_optionName_3.keep KK7 (fun q => ne_m1_b1 (List.mem_singleton.mp q))
  have PV_bv3_7 := B3_0.keep KK7 (fun q => (Ne.symm ne_b1_bv3) (List.mem_singleton.mp q))
  obtain ⟨ea7, ke7, hv7, N7q, K7q, Fe7, Fs7, Fm7, Ve7, Oe7, nx7, sx7⟩ := hQ7
  cases hv7
  have E_bA_7 := E_bA_3.keep K7q
  have E_m0_7 := E_m0_3.keep K7q
  have E_s0_7 := E_s0_3.keep K7q
  have E_m1_7 := E_m1_3.keep K7q
  have E_s1_7 := E_s1_3.keep K7q
  have E_b1_7 := E_b1_3.keep K7q
  have N7 := Fr.app N3 N7q
  have Z7 := Nat.le_trans Z3 K7q.1
  have sz_ea7 : h0.size ≤ ea7 := Nat.le_trans K3.1 sx7
  have new_ea7 : n0 ≤ ea7 := Nat.le_trans Z0 sz_ea7
  have K7 := K3.trans K7q (fun x hx => by cases List.mem_singleton.mp hx; exact Or.inr sz_b1)
  have ne_bA_ea7 : bA ≠ ea7 := Nat.ne_of_lt (Nat.lt_of_lt_of_le V_bA_3.lt sx7)
  have ne_bv3_ea7 : bv3 ≠ ea7 := Nat.ne_of_lt (Nat.lt_of_lt_of_le B3_0.lt sx7)
  have ne_dE_ea7 : dE ≠ ea7 := Nat.ne_of_lt (Nat.lt_of_lt_of_le V_dE_3.lt sx7)
  have ne_m0_ea7 : m0 ≠ ea7 := Nat.ne_of_lt (Nat.lt_of_lt_of_le E_m0_3.lt sx7)
  have ne_m1_ea7 : m1 ≠ ea7 := Nat.ne_of_lt (Nat.lt_of_lt_of_le E_m1_3.lt sx7)
  have ne_s0_ea7 : s0 ≠ ea7 := Nat.ne_of_lt (Nat.lt_of_lt_of_le E_s0_3.lt sx7)
  have ne_s1_ea7 : s1 ≠ ea7 := Nat.ne_of_lt (Nat.lt_of_lt_of_le E_s1_3.lt sx7)
  obtain ⟨cl8, Ar8, -, Sz8, M8, Hs8, Gs8⟩ := id PV_bv3_7
  have hin8 : ¬ ((1 : Int32) < 0 ∨ cl8.slots.size ≤ ((1 : Int32)).toNatClampNeg) := inb_of Sz8 ⟨by decide, by decide⟩
  have hat8 : cl8.slots[((1 : Int32)).toNatClampNeg]? = some (.ref m1) := Hs8 1 (by rw [Sz8]; decide)
  obtain ⟨T9, X9, e9, st9⟩ := getF X7 hx hZ hown (host := "") (Or.inl (hw _ (List.mem_of_getElem? (i := 45) rfl))) Via.refl rfl PF_m1_optionName_7 (g := (mkF m 30 #[.val (.ref b1), .val (.ref bv3), .val (.int (2 : Int32)), .val (.int (1 : Int32)), .val (.ref m1)] [(.ref m1), (.ref b1)])) rfl rfl (hb hby d_own_rmN_30)
  obtain ⟨cq10, kq10, q10a, q10b, q10c⟩ := isOf hZ e9 E_b1_7
  obtain ⟨_, _, ⟨T10, L10, k10, n10⟩, -, X10, ⟨Lc10, hQ10, l10, y10, z10⟩, st10⟩ := X9.virtualBack hx (y := (⟨"java/util/ArrayList", "add", "(Ljava/lang/Object;)Z"⟩ : MethodName)) (z := (⟨"java/util/ArrayList", "add", "(Ljava/lang/Object;)Z"⟩ : MethodName)) hown (mvT hZ (hw _ (List.mem_of_getElem? (i := 47) rfl))) (mvT hZ (hw _ (List.mem_of_getElem? (i := 48) rfl))) (notFace_of_selects (args := #[]) (mvT hZ (hw _ (List.mem_of_getElem? (i := 50) rfl)))) (mvT hZ (hw _ (List.mem_of_getElem? (i := 50) rfl))) (mvT hZ (hw _ (List.mem_of_getElem? (i := 49) rfl))) (by decide) (backOf (W := 0) (own_rmAdd1 l Z a0 hw [] b1 s1 ea7 s0 ke7 ((0 : Int32) + (1 : Int32)) T7.heap n0 Z7 E_b1_7 Fm7 Fe7 Fs7 new_b1 Ve7 Oe7 nx7 new_ea7 E_s1_7) hZ (hw _ (List.mem_of_getElem? (i := 51) rfl)) (hw _ (List.mem_of_getElem? (i := 6) rfl)) (by decide) (by decide)) q10a q10c (g := (mkF m 33 #[.val (.ref b1), .val (.ref bv3), .val (.int (2 : Int32)), .val (.int (1 : Int32)), .val (.ref m1)] [(.ref s1), (.ref b1)])) rfl (by rw [hml]; rfl) (Steps.refl _) (argsL := [(.ref s1)]) (rest := []) (lenOf own_pd6 rfl) rfl (by show 2 * 0 + _ ≤ _; exact Nat.le_of_eq rfl) (hb hby d_own_rmN_33) (fun _ _ => ⟨rfl, e9, (by decide : 3 + 0 ≤ _), (by decide : 15 + 0 ≤ _)⟩)
  dsimp only [Pt.U, Pt.locs, Pt.cells, Pt.slots] at X10 l10 y10 z10 st10 hQ10
  subst l10 y10 z10
  obtain ⟨rfl, N10q, K10q, B10_0, B10_1, B10_2⟩ := hQ10
  have E_bA_10 := E_bA_7.keep K10q
  have E_m0_10 := E_m0_7.keep K10q
  have E_s0_10 := E_s0_7.keep K10q
  have E_m1_10 := E_m1_7.keep K10q
  have E_s1_10 := E_s1_7.keep K10q
  have E_b1_10 := E_b1_7.keep K10q
  have V_bA_10 := PV_bA_7.keep K10q (own_nin ne_bA_b1 ne_bA_ea7)
  have V_dE_10 := PV_dE_7.keep K10q (own_nin ne_dE_b1 ne_dE_ea7)
  have F_m0_optionName_10 := PF_m0_optionName_7.keep K10q (own_nin ne_m0_b1 ne_m0_ea7)
  have F_m1_optionName_10 := PF_m1_optionName_7.keep K10q (own_nin ne_m1_b1 ne_m1_ea7)
  have V_bv3_10 := PV_bv3_7.keep K10q (own_nin (Ne.symm ne_b1_bv3) ne_bv3_ea7)
  have N10 := Fr.app N7 N10q
  have Z10 := Nat.le_trans Z7 K10q.1
  have K10 := K7.trans K10q (fun x hx => by rcases own_in2 hx with rfl | rfl <;> first | exact Or.inr sz_b1 | exact Or.inr sz_ea7)
  obtain ⟨fs, hr, hrun, hended, hW, hsame⟩ := X10.leave (v := some (.ref b1)) (fun h => by rw [Bd.returns] at h; cases h)
  refine ⟨_, _, ?_, hrun, hended, _, _, rfl, ?_, ⟨_, rfl⟩, hW, hsame.mono (by decide) (by decide)⟩
  · show Steps p.tables e below (s₁.setTop (mkF m 0 #[.unset, .unset, .unset, .unset, .unset] [])) _
    refine st1 _ ?_
    show Steps p.tables e below (T1.setTop (mkF m 3 #[.unset, .unset, .unset, .unset, .unset] [(.ref b1)])) _
    refine XS.dup X1.here hx rfl (hb hby d_own_rmN_3) rfl rfl ?_
    show Steps p.tables e below (T1.setTop (mkF m 4 #[.unset, .unset, .unset, .unset, .unset] [(.ref b1), (.ref b1)])) _
    refine st2.trans ?_
    show Steps p.tables e below (T2.setTop (mkF m 7 #[.unset, .unset, .unset, .unset, .unset] [(.ref b1)])) _
    refine XS.astoreN X2.here hx rfl (hb hby d_own_rmN_7) rfl rfl (l' := #[.val (.ref b1), .unset, .unset, .unset, .unset]) rfl ?_
    show Steps p.tables e below (T2.setTop (mkF m 8 #[.val (.ref b1), .unset, .unset, .unset, .unset] [])) _
    refine st3 _ ?_
    show Steps p.tables e below (T3.setTop (mkF m 11 #[.val (.ref b1), .unset, .unset, .unset, .unset] [(.ref bv3)])) _
    refine XS.astoreN X3.here hx rfl (hb hby d_own_rmN_11) rfl rfl (l' := #[.val (.ref b1), .val (.ref bv3), .unset, .unset, .unset]) rfl ?_
    show Steps p.tables e below (T3.setTop (mkF m 12 #[.val (.ref b1), .val (.ref bv3), .unset, .unset, .unset] [])) _
    refine XS.aloadN X3.here hx rfl (hb hby d_own_rmN_12) rfl rfl ?_
    show Steps p.tables e below (T3.setTop (mkF m 13 #[.val (.ref b1), .val (.ref bv3), .unset, .unset, .unset] [(.ref bv3)])) _
    refine X3.arraylength hx Ar4.1 (State.isArrayOf_alike hZ.alike Ar4.2.1) (g := (mkF m 13 #[.val (.ref b1), .val (.ref bv3), .unset, .unset, .unset] [(.ref bv3)])) rfl rfl (hb hby d_own_rmN_13) _ ?_
    rw [len_of Sz4 M4]
    show Steps p.tables e below (T3.setTop (mkF m 14 #[.val (.ref b1), .val (.ref bv3), .unset, .unset, .unset] [(.int (2 : Int32))])) _
    refine XS.istoreN X3.here hx rfl (hb hby d_own_rmN_14) rfl (l' := #[.val (.ref b1), .val (.ref bv3), .val (.int (2 : Int32)), .unset, .unset]) rfl ?_
    show Steps p.tables e below (T3.setTop (mkF m 15 #[.val (.ref b1), .val (.ref bv3), .val (.int (2 : Int32)), .unset, .unset] [])) _
    refine XS.iconst X3.here hx rfl (hb hby d_own_rmN_15) ?_
    show Steps p.tables e below (T3.setTop (mkF m 16 #[.val (.ref b1), .val (.ref bv3), .val (.int (2 : Int32)), .unset, .unset] [(.int (0 : Int32))])) _
    refine XS.istoreN X3.here hx rfl (hb hby d_own_rmN_16) rfl (l' := #[.val (.ref b1), .val (.ref bv3), .val (.int (2 : Int32)), .val (.int (0 : Int32)), .unset]) rfl ?_
    show Steps p.tables e below (T3.setTop (mkF m 17 #[.val (.ref b1), .val (.ref bv3), .val (.int (2 : Int32)), .val (.int (0 : Int32)), .unset] [])) _
    refine XS.iloadN X3.here hx rfl (hb hby d_own_rmN_17) rfl ?_
    show Steps p.tables e below (T3.setTop (mkF m 18 #[.val (.ref b1), .val (.ref bv3), .val (.int (2 : Int32)), .val (.int (0 : Int32)), .unset] [(.int (0 : Int32))])) _
    refine XS.iloadN X3.here hx rfl (hb hby d_own_rmN_18) rfl ?_
    show Steps p.tables e below (T3.setTop (mkF m 19 #[.val (.ref b1), .val (.ref bv3), .val (.int (2 : Int32)), .val (.int (0 : Int32)), .unset] [(.int (2 : Int32)), (.int (0 : Int32))])) _
    refine XS.icmpNo X3.here hx rfl (hb hby d_own_rmN_19) rfl (tlt ((by decide) : (0 : Int32) < (2 : Int32))).2.1 ?_
    show Steps p.tables e below (T3.setTop (mkF m 22 #[.val (.ref b1), .val (.ref bv3), .val (.int (2 : Int32)), .val (.int (0 : Int32)), .unset] [])) _
    refine XS.aloadN X3.here hx rfl (hb hby d_own_rmN_22) rfl rfl ?_
    show Steps p.tables e below (T3.setTop (mkF m 23 #[.val (.ref b1), .val (.ref bv3), .val (.int (2 : Int32)), .val (.int (0 : Int32)), .unset] [(.ref bv3)])) _
    refine XS.iloadN X3.here hx rfl (hb hby d_own_rmN_23) rfl ?_
    show Steps p.tables e below (T3.setTop (mkF m 24 #[.val (.ref b1), .val (.ref bv3), .val (.int (2 : Int32)), .val (.int (0 : Int32)), .unset] [(.int (0 : Int32)), (.ref bv3)])) _
    refine X3.aaload hx (j := (0 : Int32)) (v := (.ref m0)) Ar5.1 (State.isArrayOf_alike hZ.alike Ar5.2.1) rfl Ar5.2.2 hin5 hat5 (g := (mkF m 24 #[.val (.ref b1), .val (.ref bv3), .val (.int (2 : Int32)), .val (.int (0 : Int32)), .unset] [(.int (0 : Int32)), (.ref bv3)])) rfl rfl (hb hby d_own_rmN_24) _ ?_
    show Steps p.tables e below (T3.setTop (mkF m 25 #[.val (.ref b1), .val (.ref bv3), .val (.int (2 : Int32)), .val (.int (0 : Int32)), .unset] [(.ref m0)])) _
    refine XS.astore X3.here hx rfl (hb hby d_own_rmN_25) rfl rfl (l' := #[.val (.ref b1), .val (.ref bv3), .val (.int (2 : Int32)), .val (.int (0 : Int32)), .val (.ref m0)]) rfl ?_
    show Steps p.tables e below (T3.setTop (mkF m 27 #[.val (.ref b1), .val (.ref bv3), .val (.int (2 : Int32)), .val (.int (0 : Int32)), .val (.ref m0)] [])) _
    refine XS.aloadN X3.here hx rfl (hb hby d_own_rmN_27) rfl rfl ?_
    show Steps p.tables e below (T3.setTop (mkF m 28 #[.val (.ref b1), .val (.ref bv3), .val (.int (2 : Int32)), .val (.int (0 : Int32)), .val (.ref m0)] [(.ref b1)])) _
    refine XS.aload X3.here hx rfl (hb hby d_own_rmN_28) rfl rfl ?_
    show Steps p.tables e below (T3.setTop (mkF m 30 #[.val (.ref b1), .val (.ref bv3), .val (.int (2 : Int32)), .val (.int (0 : Int32)), .val (.ref m0)] [(.ref m0), (.ref b1)])) _
    refine st6 _ ?_
    show Steps p.tables e below (T6.setTop (mkF m 33 #[.val (.ref b1), .val (.ref bv3), .val (.int (2 : Int32)), .val (.int (0 : Int32)), .val (.ref m0)] [(.ref s0), (.ref b1)])) _
    refine st7.trans ?_
    show Steps p.tables e below (T7.setTop (mkF m 36 #[.val (.ref b1), .val (.ref bv3), .val (.int (2 : Int32)), .val (.int (0 : Int32)), .val (.ref m0)] [(.int (1 : Int32))])) _
    refine XS.pop X7.here hx rfl (hb hby d_own_rmN_36) rfl rfl ?_
    show Steps p.tables e below (T7.setTop (mkF m 37 #[.val (.ref b1), .val (.ref bv3), .val (.int (2 : Int32)), .val (.int (0 : Int32)), .val (.ref m0)] [])) _
    refine XS.iinc X7.here hx rfl (hb hby d_own_rmN_37) rfl (l' := #[.val (.ref b1), .val (.ref bv3), .val (.int (2 : Int32)), .val (.int (1 : Int32)), .val (.ref m0)]) rfl ?_
    show Steps p.tables e below (T7.setTop (mkF m 40 #[.val (.ref b1), .val (.ref bv3), .val (.int (2 : Int32)), .val (.int (1 : Int32)), .val (.ref m0)] [])) _
    refine XS.goto X7.here hx rfl (pc0 := 40) (pc' := 17) rfl (hb hby d_own_rmN_40) (by decide) (by decide) ?_
    show Steps p.tables e below (T7.setTop (mkF m 17 #[.val (.ref b1), .val (.ref bv3), .val (.int (2 : Int32)), .val (.int (1 : Int32)), .val (.ref m0)] [])) _
    refine XS.iloadN X7.here hx rfl (hb hby d_own_rmN_17) rfl ?_
    show Steps p.tables e below (T7.setTop (mkF m 18 #[.val (.ref b1), .val (.ref bv3), .val (.int (2 : Int32)), .val (.int (1 : Int32)), .val (.ref m0)] [(.int (1 : Int32))])) _
    refine XS.iloadN X7.here hx rfl (hb hby d_own_rmN_18) rfl ?_
    show Steps p.tables e below (T7.setTop (mkF m 19 #[.val (.ref b1), .val (.ref bv3), .val (.int (2 : Int32)), .val (.int (1 : Int32)), .val (.ref m0)] [(.int (2 : Int32)), (.int (1 : Int32))])) _
    refine XS.icmpNo X7.here hx rfl (hb hby d_own_rmN_19) rfl (tlt ((by decide) : (1 : Int32) < (2 : Int32))).2.1 ?_
    show Steps p.tables e below (T7.setTop (mkF m 22 #[.val (.ref b1), .val (.ref bv3), .val (.int (2 : Int32)), .val (.int (1 : Int32)), .val (.ref m0)] [])) _
    refine XS.aloadN X7.here hx rfl (hb hby d_own_rmN_22) rfl rfl ?_
    show Steps p.tables e below (T7.setTop (mkF m 23 #[.val (.ref b1), .val (.ref bv3), .val (.int (2 : Int32)), .val (.int (1 : Int32)), .val (.ref m0)] [(.ref bv3)])) _
    refine XS.iloadN X7.here hx rfl (hb hby d_own_rmN_23) rfl ?_
    show Steps p.tables e below (T7.setTop (mkF m 24 #[.val (.ref b1), .val (.ref bv3), .val (.int (2 : Int32)), .val (.int (1 : Int32)), .val (.ref m0)] [(.int (1 : Int32)), (.ref bv3)])) _
    refine X7.aaload hx (j := (1 : Int32)) (v := (.ref m1)) Ar8.1 (State.isArrayOf_alike hZ.alike Ar8.2.1) rfl Ar8.2.2 hin8 hat8 (g := (mkF m 24 #[.val (.ref b1), .val (.ref bv3), .val (.int (2 : Int32)), .val (.int (1 : Int32)), .val (.ref m0)] [(.int (1 : Int32)), (.ref bv3)])) rfl rfl (hb hby d_own_rmN_24) _ ?_
    show Steps p.tables e below (T7.setTop (mkF m 25 #[.val (.ref b1), .val (.ref bv3), .val (.int (2 : Int32)), .val (.int (1 : Int32)), .val (.ref m0)] [(.ref m1)])) _
    refine XS.astore X7.here hx rfl (hb hby d_own_rmN_25) rfl rfl (l' := #[.val (.ref b1), .val (.ref bv3), .val (.int (2 : Int32)), .val (.int (1 : Int32)), .val (.ref m1)]) rfl ?_
    show Steps p.tables e below (T7.setTop (mkF m 27 #[.val (.ref b1), .val (.ref bv3), .val (.int (2 : Int32)), .val (.int (1 : Int32)), .val (.ref m1)] [])) _
    refine XS.aloadN X7.here hx rfl (hb hby d_own_rmN_27) rfl rfl ?_
    show Steps p.tables e below (T7.setTop (mkF m 28 #[.val (.ref b1), .val (.ref bv3), .val (.int (2 : Int32)), .val (.int (1 : Int32)), .val (.ref m1)] [(.ref b1)])) _
    refine XS.aload X7.here hx rfl (hb hby d_own_rmN_28) rfl rfl ?_
    show Steps p.tables e below (T7.setTop (mkF m 30 #[.val (.ref b1), .val (.ref bv3), .val (.int (2 : Int32)), .val (.int (1 : Int32)), .val (.ref m1)] [(.ref m1), (.ref b1)])) _
    refine st9 _ ?_
    show Steps p.tables e below (T9.setTop (mkF m 33 #[.val (.ref b1), .val (.ref bv3), .val (.int (2 : Int32)), .val (.int (1 : Int32)), .val (.ref m1)] [(.ref s1), (.ref b1)])) _
    refine st10.trans ?_
    show Steps p.tables e below (T10.setTop (mkF m 36 #[.val (.ref b1), .val (.ref bv3), .val (.int (2 : Int32)), .val (.int (1 : Int32)), .val (.ref m1)] [(.int (1 : Int32))])) _
    refine XS.pop X10.here hx rfl (hb hby d_own_rmN_36) rfl rfl ?_
    show Steps p.tables e below (T10.setTop (mkF m 37 #[.val (.ref b1), .val (.ref bv3), .val (.int (2 : Int32)), .val (.int (1 : Int32)), .val (.ref m1)] [])) _
    refine XS.iinc X10.here hx rfl (hb hby d_own_rmN_37) rfl (l' := #[.val (.ref b1), .val (.ref bv3), .val (.int (2 : Int32)), .val (.int (2 : Int32)), .val (.ref m1)]) rfl ?_
    show Steps p.tables e below (T10.setTop (mkF m 40 #[.val (.ref b1), .val (.ref bv3), .val (.int (2 : Int32)), .val (.int (2 : Int32)), .val (.ref m1)] [])) _
    refine XS.goto X10.here hx rfl (pc0 := 40) (pc' := 17) rfl (hb hby d_own_rmN_40) (by decide) (by decide) ?_
    show Steps p.tables e below (T10.setTop (mkF m 17 #[.val (.ref b1), .val (.ref bv3), .val (.int (2 : Int32)), .val (.int (2 : Int32)), .val (.ref m1)] [])) _
    refine XS.iloadN X10.here hx rfl (hb hby d_own_rmN_17) rfl ?_
    show Steps p.tables e below (T10.setTop (mkF m 18 #[.val (.ref b1), .val (.ref bv3), .val (.int (2 : Int32)), .val (.int (2 : Int32)), .val (.ref m1)] [(.int (2 : Int32))])) _
    refine XS.iloadN X10.here hx rfl (hb hby d_own_rmN_18) rfl ?_
    show Steps p.tables e below (T10.setTop (mkF m 19 #[.val (.ref b1), .val (.ref bv3), .val (.int (2 : Int32)), .val (.int (2 : Int32)), .val (.ref m1)] [(.int (2 : Int32)), (.int (2 : Int32))])) _
    refine XS.icmpYes X10.here hx rfl (pc0 := 19) (pc' := 43) rfl (hb hby d_own_rmN_19) rfl (flt ((by decide) : ¬ ((2 : Int32) < (2 : Int32)))).2.1 (by decide) (by decide) ?_
    show Steps p.tables e below (T10.setTop (mkF m 43 #[.val (.ref b1), .val (.ref bv3), .val (.int (2 : Int32)), .val (.int (2 : Int32)), .val (.ref m1)] [])) _
    refine XS.aloadN X10.here hx rfl (hb hby d_own_rmN_43) rfl rfl ?_
    show Steps p.tables e below (T10.setTop (mkF m 44 #[.val (.ref b1), .val (.ref bv3), .val (.int (2 : Int32)), .val (.int (2 : Int32)), .val (.ref m1)] [(.ref b1)])) _
    jvm_step X10.here [X10.here.top, hx, (hb hby d_own_rmN_44), X10.method', Bd.returns, Value.isRef, FieldType.isReference]
    first | (intro acts; rw [hr _ acts rfl rfl rfl]) | rw [hr _ _ rfl rfl rfl]
    exact Steps.refl _
  · show own_QM Z s0 s1 h0 n0 _ T10.heap _
    exact ⟨b1, ea7, _, rfl, N10, K10, E_b1_10, B10_1, B10_0, B10_2⟩
theorem d_own_rmSz_0 : decode jdk_38_method_8_code 0 = .ok (.aload_n 0, 1) := by decide +kernel
theorem d_own_rmSz_1 : decode jdk_38_method_8_code 1 = .ok (.getfield 48, 3) := by decide +kernel
theorem d_own_rmSz_4 : decode jdk_38_method_8_code 4 = .ok (.ireturn, 1) := by decide +kernel
theorem ef_own_rmSz (m : MethodId) (x0 : Addr) : entryFrame m #[(.ref x0)] 1 = mkF m 0 #[.val (.ref x0)] [] := by first | (simp [entryFrame, mkF, argsToLocals, Value.category]; done) | rfl
set_option maxRecDepth 65536 in
set_option maxHeartbeats 40000000 in
theorem own_rmSz (l : Launch) (Z : State) (a0 : Array Value) (hw : ∀ d ∈ tables_1, d.before a0 Z = true) (ws : List Jvm.Cond) (b0 : Addr) (u : Int32) (h0 : Heap) (n0 : Nat) (Z0 : n0 ≤ h0.size) (F_s : Fld Z h0 b0 "java/util/ArrayList" "size" "I" (.int u)) :
    MetFree l (⟨"java/util/ArrayList", "size", "()I"⟩ : MethodName) (head1 (Jvm.Cond.code (⟨"java/util/ArrayList", "size", "()I"⟩ : MethodName) jdk_38_method_8_code 1 (some .int) :: ws) ({ frames := 0, cells := 0, slots := 0, locals := 0 } : Room)) (fun a U => a = #[(.ref b0)] ∧ Z.Warmed39 U.vm ∧ U.heap = h0) (fun _ _ _ _ _ => True) (fun _ U o U' => ∃ v L, o = .returned v ∧ own_QI u h0 n0 v U'.heap L ∧ FrameEnd U o U' L ({ frames := 0, cells := 0, slots := 0, locals := 0 } : Room).cells ({ frames := 0, cells := 0, slots := 0, locals := 0 } : Room).slots) := by
  refine MetFree.of_bodySF (plainFor_of_name own_pn2) hisR ?_
  intro p e s m args below meth c s₁ Bd hml0 hP hK
  obtain ⟨rfl, hZ, hh⟩ := hP
  have hx := Bd.exec
  have hby := Bd.bytes
  have hml : c.maxLocals = 1 := hml0
  have hown : s.vm.findClass "java/util/ArrayList" = some m.cls := findClass_of_methodNamed Bd.named
  have hnm := (name_of_methodNamed Bd.named Bd.method).1
  have X0 : Stand p l e ({ frames := 0, cells := 0, slots := 0, locals := 0 } : Room) s m #[(.ref b0)] below meth c s₁ [] 0 0 := Stand.of_body Bd
  have e0 : s₁.heap = h0 := by rw [← hh, Bd.state]; rfl
  have N0 := Fr.nil n0
  refine own_go (b := s₁.setTop (mkF m 0 #[.val (.ref b0)] [])) (fun t k => castTop (ef_own_rmSz m b0) k) ?_
  obtain ⟨T1, X1, e1, st1⟩ := getF X0 hx hZ hown (host := "") (Or.inl (hw _ (List.mem_of_getElem? (i := 54) rfl))) Via.refl e0 F_s (g := (mkF m 1 #[.val (.ref b0)] [(.ref b0)])) rfl rfl (hb hby d_own_rmSz_1)
  obtain ⟨fs, hr, hrun, hended, hW, hsame⟩ := X1.leave (v := some (.int u)) (fun h => by rw [Bd.returns] at h; cases h)
  refine ⟨_, _, ?_, hrun, hended, _, _, rfl, ?_, ⟨_, rfl⟩, hW, hsame.mono (by decide) (by decide)⟩
  · show Steps p.tables e below (s₁.setTop (mkF m 0 #[.val (.ref b0)] [])) _
    refine XS.aloadN X0.here hx rfl (hb hby d_own_rmSz_0) rfl rfl ?_
    show Steps p.tables e below (s₁.setTop (mkF m 1 #[.val (.ref b0)] [(.ref b0)])) _
    refine st1 _ ?_
    show Steps p.tables e below (T1.setTop (mkF m 4 #[.val (.ref b0)] [(.int u)])) _
    exact retI X1 hx Bd.returns (hb hby d_own_rmSz_4) hr
  · show own_QI u h0 n0 _ T1.heap _
    rw [e1]
    exact ⟨rfl, N0, rfl⟩
theorem d_own_rmPc_0 : decode jdk_41_method_11_code 0 = .ok (.iload_n 0, 1) := by decide +kernel
theorem d_own_rmPc_1 : decode jdk_41_method_11_code 1 = .ok (.ifCond .lt 8, 3) := by decide +kernel
theorem d_own_rmPc_4 : decode jdk_41_method_11_code 4 = .ok (.iload_n 0, 1) := by decide +kernel
theorem d_own_rmPc_5 : decode jdk_41_method_11_code 5 = .ok (.iload_n 1, 1) := by decide +kernel
theorem d_own_rmPc_6 : decode jdk_41_method_11_code 6 = .ok (.if_icmp .lt 10, 3) := by decide +kernel
theorem d_own_rmPc_16 : decode jdk_41_method_11_code 16 = .ok (.iload_n 0, 1) := by decide +kernel
theorem d_own_rmPc_17 : decode jdk_41_method_11_code 17 = .ok (.ireturn, 1) := by decide +kernel
theorem ef_own_rmPc (m : MethodId) (x0 : Int32) (x1 : Int32) : entryFrame m #[(.int x0), (.int x1), .null] 3 = mkF m 0 #[.val (.int x0), .val (.int x1), .val .null] [] := by first | (simp [entryFrame, mkF, argsToLocals, Value.category]; done) | rfl
set_option maxRecDepth 65536 in
set_option maxHeartbeats 40000000 in
theorem own_rmPc (l : Launch) (Z : State) (a0 : Array Value) (hw : ∀ d ∈ tables_1, d.before a0 Z = true) (ws : List Jvm.Cond) (p0 : Int32) (p1 : Int32)  (h0 : Heap) (n0 : Nat) (Z0 : n0 ≤ h0.size) (h1 : ¬ p0 < (0 : Int32)) (h2 : p0 < p1) :
    MetFree l (⟨"jdk/internal/util/Preconditions", "checkIndex", "(IILjava/util/function/BiFunction;)I"⟩ : MethodName) (head1 (Jvm.Cond.code (⟨"jdk/internal/util/Preconditions", "checkIndex", "(IILjava/util/function/BiFunction;)I"⟩ : MethodName) jdk_41_method_11_code 3 (some .int) :: ws) ({ frames := 0, cells := 0, slots := 0, locals := 0 } : Room)) (fun a U => a = #[(.int p0), (.int p1), .null] ∧ Z.Warmed39 U.vm ∧ U.heap = h0) (fun _ _ _ _ _ => True) (fun _ U o U' => ∃ v L, o = .returned v ∧ own_QI p0 h0 n0 v U'.heap L ∧ FrameEnd U o U' L ({ frames := 0, cells := 0, slots := 0, locals := 0 } : Room).cells ({ frames := 0, cells := 0, slots := 0, locals := 0 } : Room).slots) := by
  refine MetFree.of_bodySF (plainFor_of_name own_pn4) hisR ?_
  intro p e s m args below meth c s₁ Bd hml0 hP hK
  obtain ⟨rfl, hZ, hh⟩ := hP
  have hx := Bd.exec
  have hby := Bd.bytes
  have hml : c.maxLocals = 3 := hml0
  have hown : s.vm.findClass "jdk/internal/util/Preconditions" = some m.cls := findClass_of_methodNamed Bd.named
  have hnm := (name_of_methodNamed Bd.named Bd.method).1
  have X0 : Stand p l e ({ frames := 0, cells := 0, slots := 0, locals := 0 } : Room) s m #[(.int p0), (.int p1), .null] below meth c s₁ [] 0 0 := Stand.of_body Bd
  have e0 : s₁.heap = h0 := by rw [← hh, Bd.state]; rfl
  have N0 := Fr.nil n0
  refine own_go (b := s₁.setTop (mkF m 0 #[.val (.int p0), .val (.int p1), .val .null] [])) (fun t k => castTop (ef_own_rmPc m p0 p1) k) ?_
  obtain ⟨fs, hr, hrun, hended, hW, hsame⟩ := X0.leave (v := some (.int p0)) (fun h => by rw [Bd.returns] at h; cases h)
  refine ⟨_, _, ?_, hrun, hended, _, _, rfl, ?_, ⟨_, rfl⟩, hW, hsame.mono (by decide) (by decide)⟩
  · show Steps p.tables e below (s₁.setTop (mkF m 0 #[.val (.int p0), .val (.int p1), .val .null] [])) _
    refine XS.iloadN X0.here hx rfl (hb hby d_own_rmPc_0) rfl ?_
    show Steps p.tables e below (s₁.setTop (mkF m 1 #[.val (.int p0), .val (.int p1), .val .null] [(.int p0)])) _
    refine XS.ifNo X0.here hx rfl (hb hby d_own_rmPc_1) rfl ((if0 _ _).trans (flt (h1 : ¬ (p0 < (0 : Int32)))).1) ?_
    show Steps p.tables e below (s₁.setTop (mkF m 4 #[.val (.int p0), .val (.int p1), .val .null] [])) _
    refine XS.iloadN X0.here hx rfl (hb hby d_own_rmPc_4) rfl ?_
    show Steps p.tables e below (s₁.setTop (mkF m 5 #[.val (.int p0), .val (.int p1), .val .null] [(.int p0)])) _
    refine XS.iloadN X0.here hx rfl (hb hby d_own_rmPc_5) rfl ?_
    show Steps p.tables e below (s₁.setTop (mkF m 6 #[.val (.int p0), .val (.int p1), .val .null] [(.int p1), (.int p0)])) _
    refine XS.icmpYes X0.here hx rfl (pc0 := 6) (pc' := 16) rfl (hb hby d_own_rmPc_6) rfl (tlt (h2 : p0 < p1)).1 (by decide) (by decide) ?_
    show Steps p.tables e below (s₁.setTop (mkF m 16 #[.val (.int p0), .val (.int p1), .val .null] [])) _
    refine XS.iloadN X0.here hx rfl (hb hby d_own_rmPc_16) rfl ?_
    show Steps p.tables e below (s₁.setTop (mkF m 17 #[.val (.int p0), .val (.int p1), .val .null] [(.int p0)])) _
    exact retI X0 hx Bd.returns (hb hby d_own_rmPc_17) hr
  · show own_QI p0 h0 n0 _ s₁.heap _
    rw [e0]
    exact ⟨rfl, N0, rfl⟩
theorem d_own_rmOc_0 : decode jdk_31_method_17_code 0 = .ok (.iload_n 0, 1) := by decide +kernel
theorem d_own_rmOc_1 : decode jdk_31_method_17_code 1 = .ok (.iload_n 1, 1) := by decide +kernel
theorem d_own_rmOc_2 : decode jdk_31_method_17_code 2 = .ok (.aconst_null, 1) := by decide +kernel
theorem d_own_rmOc_3 : decode jdk_31_method_17_code 3 = .ok (.invokestatic 105, 3) := by decide +kernel
theorem d_own_rmOc_6 : decode jdk_31_method_17_code 6 = .ok (.ireturn, 1) := by decide +kernel
theorem ef_own_rmOc (m : MethodId) (x0 : Int32) (x1 : Int32) : entryFrame m #[(.int x0), (.int x1)] 2 = mkF m 0 #[.val (.int x0), .val (.int x1)] [] := by first | (simp [entryFrame, mkF, argsToLocals, Value.category]; done) | rfl
set_option maxRecDepth 65536 in
set_option maxHeartbeats 40000000 in
theorem own_rmOc (l : Launch) (Z : State) (a0 : Array Value) (hw : ∀ d ∈ tables_1, d.before a0 Z = true) (ws : List Jvm.Cond) (p0 : Int32) (p1 : Int32)  (h0 : Heap) (n0 : Nat) (Z0 : n0 ≤ h0.size) (h1 : ¬ p0 < (0 : Int32)) (h2 : p0 < p1) :
    MetFree l (⟨"java/util/Objects", "checkIndex", "(II)I"⟩ : MethodName) (head1 (Jvm.Cond.code (⟨"java/util/Objects", "checkIndex", "(II)I"⟩ : MethodName) jdk_31_method_17_code 2 (some .int) :: ws) ({ frames := 1, cells := 0, slots := 0, locals := 14 } : Room)) (fun a U => a = #[(.int p0), (.int p1)] ∧ Z.Warmed39 U.vm ∧ U.heap = h0) (fun _ _ _ _ _ => True) (fun _ U o U' => ∃ v L, o = .returned v ∧ own_QI p0 h0 n0 v U'.heap L ∧ FrameEnd U o U' L ({ frames := 1, cells := 0, slots := 0, locals := 14 } : Room).cells ({ frames := 1, cells := 0, slots := 0, locals := 14 } : Room).slots) := by
  refine MetFree.of_bodySF (plainFor_of_name own_pn5) hisR ?_
  intro p e s m args below meth c s₁ Bd hml0 hP hK
  obtain ⟨rfl, hZ, hh⟩ := hP
  have hx := Bd.exec
  have hby := Bd.bytes
  have hml : c.maxLocals = 2 := hml0
  have hown : s.vm.findClass "java/util/Objects" = some m.cls := findClass_of_methodNamed Bd.named
  have hnm := (name_of_methodNamed Bd.named Bd.method).1
  have X0 : Stand p l e ({ frames := 1, cells := 0, slots := 0, locals := 14 } : Room) s m #[(.int p0), (.int p1)] below meth c s₁ [] 0 0 := Stand.of_body Bd
  have e0 : s₁.heap = h0 := by rw [← hh, Bd.state]; rfl
  have N0 := Fr.nil n0
  refine own_go (b := s₁.setTop (mkF m 0 #[.val (.int p0), .val (.int p1)] [])) (fun t k => castTop (ef_own_rmOc m p0 p1) k) ?_
  obtain ⟨_, _, ⟨T1, L1, k1, n1⟩, -, X1, ⟨Lc1, hQ1, l1, y1, z1⟩, st1⟩ := Jvm.LawKit.callS X0 hx (y := (⟨"jdk/internal/util/Preconditions", "checkIndex", "(IILjava/util/function/BiFunction;)I"⟩ : MethodName)) hown (mvT hZ (hw _ (List.mem_of_getElem? (i := 110) rfl))) (mvT hZ (hw _ (List.mem_of_getElem? (i := 111) rfl))) (mvT hZ (hw _ (List.mem_of_getElem? (i := 112) rfl))) (mvT hZ (hw _ (List.mem_of_getElem? (i := 113) rfl))) (by decide) (backOf (W := 0) (own_rmPc l Z a0 hw [] p0 p1  h0 n0 Z0 h1 h2) hZ (hw _ (List.mem_of_getElem? (i := 113) rfl)) (hw _ (List.mem_of_getElem? (i := 112) rfl)) (by decide) (by decide)) (g := (mkF m 3 #[.val (.int p0), .val (.int p1)] [.null, (.int p1), (.int p0)])) rfl (by rw [hml]; rfl) (argsL := [(.int p0), (.int p1), .null]) (rest := []) (lenOf own_pd7 rfl) rfl (by show 2 * 0 + _ ≤ _; exact Nat.le_of_eq rfl) (hb hby d_own_rmOc_3) (fun _ _ => ⟨rfl, e0, (by decide : 0 + 0 ≤ _), (by decide : 0 + 0 ≤ _)⟩)
  dsimp only [Pt.U, Pt.locs, Pt.cells, Pt.slots] at X1 l1 y1 z1 st1 hQ1
  subst l1 y1 z1
  obtain ⟨rfl, N1q, e1⟩ := hQ1
  have N1 := Fr.app N0 N1q
  obtain ⟨fs, hr, hrun, hended, hW, hsame⟩ := X1.leave (v := some (.int p0)) (fun h => by rw [Bd.returns] at h; cases h)
  refine ⟨_, _, ?_, hrun, hended, _, _, rfl, ?_, ⟨_, rfl⟩, hW, hsame.mono (by decide) (by decide)⟩
  · show Steps p.tables e below (s₁.setTop (mkF m 0 #[.val (.int p0), .val (.int p1)] [])) _
    refine XS.iloadN X0.here hx rfl (hb hby d_own_rmOc_0) rfl ?_
    show Steps p.tables e below (s₁.setTop (mkF m 1 #[.val (.int p0), .val (.int p1)] [(.int p0)])) _
    refine XS.iloadN X0.here hx rfl (hb hby d_own_rmOc_1) rfl ?_
    show Steps p.tables e below (s₁.setTop (mkF m 2 #[.val (.int p0), .val (.int p1)] [(.int p1), (.int p0)])) _
    refine XS.aconstNull X0.here hx rfl (hb hby d_own_rmOc_2) ?_
    show Steps p.tables e below (s₁.setTop (mkF m 3 #[.val (.int p0), .val (.int p1)] [.null, (.int p1), (.int p0)])) _
    refine st1 _ ?_
    show Steps p.tables e below (T1.setTop (mkF m 6 #[.val (.int p0), .val (.int p1)] [(.int p0)])) _
    exact retI X1 hx Bd.returns (hb hby d_own_rmOc_6) hr
  · show own_QI p0 h0 n0 _ T1.heap _
    rw [e1]
    exact ⟨rfl, N1, rfl⟩
theorem d_own_rmEd0_0 : decode jdk_38_method_18_code 0 = .ok (.aload_n 0, 1) := by decide +kernel
theorem d_own_rmEd0_1 : decode jdk_38_method_18_code 1 = .ok (.getfield 9, 3) := by decide +kernel
theorem d_own_rmEd0_4 : decode jdk_38_method_18_code 4 = .ok (.iload_n 1, 1) := by decide +kernel
theorem d_own_rmEd0_5 : decode jdk_38_method_18_code 5 = .ok (.aaload, 1) := by decide +kernel
theorem d_own_rmEd0_6 : decode jdk_38_method_18_code 6 = .ok (.areturn, 1) := by decide +kernel
theorem ef_own_rmEd0 (m : MethodId) (x0 : Addr) : entryFrame m #[(.ref x0), (.int (0 : Int32))] 2 = mkF m 0 #[.val (.ref x0), .val (.int (0 : Int32))] [] := by first | (simp [entryFrame, mkF, argsToLocals, Value.category]; done) | rfl
set_option maxRecDepth 65536 in
set_option maxHeartbeats 40000000 in
theorem own_rmEd0 (l : Launch) (Z : State) (a0 : Array Value) (hw : ∀ d ∈ tables_1, d.before a0 Z = true) (ws : List Jvm.Cond) (b0 : Addr) (ea s0 s1 : Addr) (ke : ClassId) (h0 : Heap) (n0 : Nat) (Z0 : n0 ≤ h0.size) (F_e : Fld Z h0 b0 "java/util/ArrayList" "elementData" "[Ljava/lang/Object;" (.ref ea)) (V_e : Arv Z h0 ea ke (.object "java/lang/Object") (10 : Int32) [(.ref s0), (.ref s1), .null, .null, .null, .null, .null, .null, .null, .null] .null) :
    MetFree l (⟨"java/util/ArrayList", "elementData", "(I)Ljava/lang/Object;"⟩ : MethodName) (head1 (Jvm.Cond.code (⟨"java/util/ArrayList", "elementData", "(I)Ljava/lang/Object;"⟩ : MethodName) jdk_38_method_18_code 2 (some (.object "java/lang/Object")) :: ws) ({ frames := 0, cells := 0, slots := 0, locals := 0 } : Room)) (fun a U => a = #[(.ref b0), (.int (0 : Int32))] ∧ Z.Warmed39 U.vm ∧ U.heap = h0) (fun _ _ _ _ _ => True) (fun _ U o U' => ∃ v L, o = .returned v ∧ own_QR s0 h0 n0 v U'.heap L ∧ FrameEnd U o U' L ({ frames := 0, cells := 0, slots := 0, locals := 0 } : Room).cells ({ frames := 0, cells := 0, slots := 0, locals := 0 } : Room).slots) := by
  refine MetFree.of_bodySF (plainFor_of_name own_pn2) hisR ?_
  intro p e s m args below meth c s₁ Bd hml0 hP hK
  obtain ⟨rfl, hZ, hh⟩ := hP
  have hx := Bd.exec
  have hby := Bd.bytes
  have hml : c.maxLocals = 2 := hml0
  have hown : s.vm.findClass "java/util/ArrayList" = some m.cls := findClass_of_methodNamed Bd.named
  have hnm := (name_of_methodNamed Bd.named Bd.method).1
  have X0 : Stand p l e ({ frames := 0, cells := 0, slots := 0, locals := 0 } : Room) s m #[(.ref b0), (.int (0 : Int32))] below meth c s₁ [] 0 0 := Stand.of_body Bd
  have e0 : s₁.heap = h0 := by rw [← hh, Bd.state]; rfl
  have N0 := Fr.nil n0
  refine own_go (b := s₁.setTop (mkF m 0 #[.val (.ref b0), .val (.int (0 : Int32))] [])) (fun t k => castTop (ef_own_rmEd0 m b0) k) ?_
  obtain ⟨T1, X1, e1, st1⟩ := getF X0 hx hZ hown (host := "") (Or.inl (hw _ (List.mem_of_getElem? (i := 28) rfl))) Via.refl e0 F_e (g := (mkF m 1 #[.val (.ref b0), .val (.int (0 : Int32))] [(.ref b0)])) rfl rfl (hb hby d_own_rmEd0_1)
  obtain ⟨cl2, Ar2, -, Sz2, M2, Hs2, Gs2⟩ := id V_e
  have hin2 : ¬ ((0 : Int32) < 0 ∨ cl2.slots.size ≤ ((0 : Int32)).toNatClampNeg) := inb_of Sz2 ⟨by decide, by decide⟩
  have hat2 : cl2.slots[((0 : Int32)).toNatClampNeg]? = some (.ref s0) := Hs2 0 (by rw [Sz2]; decide)
  obtain ⟨fs, hr, hrun, hended, hW, hsame⟩ := X1.leave (v := some (.ref s0)) (fun h => by rw [Bd.returns] at h; cases h)
  refine ⟨_, _, ?_, hrun, hended, _, _, rfl, ?_, ⟨_, rfl⟩, hW, hsame.mono (by decide) (by decide)⟩
  · show Steps p.tables e below (s₁.setTop (mkF m 0 #[.val (.ref b0), .val (.int (0 : Int32))] [])) _
    refine XS.aloadN X0.here hx rfl (hb hby d_own_rmEd0_0) rfl rfl ?_
    show Steps p.tables e below (s₁.setTop (mkF m 1 #[.val (.ref b0), .val (.int (0 : Int32))] [(.ref b0)])) _
    refine st1 _ ?_
    show Steps p.tables e below (T1.setTop (mkF m 4 #[.val (.ref b0), .val (.int (0 : Int32))] [(.ref ea)])) _
    refine XS.iloadN X1.here hx rfl (hb hby d_own_rmEd0_4) rfl ?_
    show Steps p.tables e below (T1.setTop (mkF m 5 #[.val (.ref b0), .val (.int (0 : Int32))] [(.int (0 : Int32)), (.ref ea)])) _
    refine X1.aaload hx (j := (0 : Int32)) (v := (.ref s0)) (by rw [e1]; exact Ar2.1) (State.isArrayOf_alike hZ.alike Ar2.2.1) rfl Ar2.2.2 hin2 hat2 (g := (mkF m 5 #[.val (.ref b0), .val (.int (0 : Int32))] [(.int (0 : Int32)), (.ref ea)])) rfl rfl (hb hby d_own_rmEd0_5) _ ?_
    show Steps p.tables e below (T1.setTop (mkF m 6 #[.val (.ref b0), .val (.int (0 : Int32))] [(.ref s0)])) _
    jvm_step X1.here [X1.here.top, hx, (hb hby d_own_rmEd0_6), X1.method', Bd.returns, Value.isRef, FieldType.isReference]
    first | (intro acts; rw [hr _ acts rfl rfl rfl]) | rw [hr _ _ rfl rfl rfl]
    exact Steps.refl _
  · show own_QR s0 h0 n0 _ T1.heap _
    rw [e1]
    exact ⟨rfl, N0, rfl⟩
theorem d_own_rmGet0_0 : decode jdk_38_method_20_code 0 = .ok (.iload_n 1, 1) := by decide +kernel
theorem d_own_rmGet0_1 : decode jdk_38_method_20_code 1 = .ok (.aload_n 0, 1) := by decide +kernel
theorem d_own_rmGet0_2 : decode jdk_38_method_20_code 2 = .ok (.getfield 48, 3) := by decide +kernel
theorem d_own_rmGet0_5 : decode jdk_38_method_20_code 5 = .ok (.invokestatic 118, 3) := by decide +kernel
theorem d_own_rmGet0_8 : decode jdk_38_method_20_code 8 = .ok (.pop, 1) := by decide +kernel
theorem d_own_rmGet0_9 : decode jdk_38_method_20_code 9 = .ok (.aload_n 0, 1) := by decide +kernel
theorem d_own_rmGet0_10 : decode jdk_38_method_20_code 10 = .ok (.iload_n 1, 1) := by decide +kernel
theorem d_own_rmGet0_11 : decode jdk_38_method_20_code 11 = .ok (.invokevirtual 123, 3) := by decide +kernel
theorem d_own_rmGet0_14 : decode jdk_38_method_20_code 14 = .ok (.areturn, 1) := by decide +kernel
theorem ef_own_rmGet0 (m : MethodId) (x0 : Addr) : entryFrame m #[(.ref x0), (.int (0 : Int32))] 2 = mkF m 0 #[.val (.ref x0), .val (.int (0 : Int32))] [] := by first | (simp [entryFrame, mkF, argsToLocals, Value.category]; done) | rfl
set_option maxRecDepth 65536 in
set_option maxHeartbeats 40000000 in
theorem own_rmGet0 (l : Launch) (Z : State) (a0 : Array Value) (hw : ∀ d ∈ tables_1, d.before a0 Z = true) (ws : List Jvm.Cond) (b0 : Addr) (ea s0 s1 : Addr) (ke : ClassId) (h0 : Heap) (n0 : Nat) (Z0 : n0 ≤ h0.size) (F_e : Fld Z h0 b0 "java/util/ArrayList" "elementData" "[Ljava/lang/Object;" (.ref ea)) (V_e : Arv Z h0 ea ke (.object "java/lang/Object") (10 : Int32) [(.ref s0), (.ref s1), .null, .null, .null, .null, .null, .null, .null, .null] .null) (E_0 : Exa Z h0 b0 "java/util/ArrayList") (F_s : Fld Z h0 b0 "java/util/ArrayList" "size" "I" (.int (2 : Int32))) :
    MetFree l (⟨"java/util/ArrayList", "get", "(I)Ljava/lang/Object;"⟩ : MethodName) (head1 (Jvm.Cond.code (⟨"java/util/ArrayList", "get", "(I)Ljava/lang/Object;"⟩ : MethodName) jdk_38_method_20_code 2 (some (.object "java/lang/Object")) :: ws) ({ frames := 2, cells := 0, slots := 0, locals := 27 } : Room)) (fun a U => a = #[(.ref b0), (.int (0 : Int32))] ∧ Z.Warmed39 U.vm ∧ U.heap = h0) (fun _ _ _ _ _ => True) (fun _ U o U' => ∃ v L, o = .returned v ∧ own_QR s0 h0 n0 v U'.heap L ∧ FrameEnd U o U' L ({ frames := 2, cells := 0, slots := 0, locals := 27 } : Room).cells ({ frames := 2, cells := 0, slots := 0, locals := 27 } : Room).slots) := by
  refine MetFree.of_bodySF (plainFor_of_name own_pn2) hisR ?_
  intro p e s m args below meth c s₁ Bd hml0 hP hK
  obtain ⟨rfl, hZ, hh⟩ := hP
  have hx := Bd.exec
  have hby := Bd.bytes
  have hml : c.maxLocals = 2 := hml0
  have hown : s.vm.findClass "java/util/ArrayList" = some m.cls := findClass_of_methodNamed Bd.named
  have hnm := (name_of_methodNamed Bd.named Bd.method).1
  have X0 : Stand p l e ({ frames := 2, cells := 0, slots := 0, locals := 27 } : Room) s m #[(.ref b0), (.int (0 : Int32))] below meth c s₁ [] 0 0 := Stand.of_body Bd
  have e0 : s₁.heap = h0 := by rw [← hh, Bd.state]; rfl
  have N0 := Fr.nil n0
  refine own_go (b := s₁.setTop (mkF m 0 #[.val (.ref b0), .val (.int (0 : Int32))] [])) (fun t k => castTop (ef_own_rmGet0 m b0) k) ?_
  obtain ⟨T1, X1, e1, st1⟩ := getF X0 hx hZ hown (host := "") (Or.inl (hw _ (List.mem_of_getElem? (i := 54) rfl))) Via.refl e0 F_s (g := (mkF m 2 #[.val (.ref b0), .val (.int (0 : Int32))] [(.ref b0), (.int (0 : Int32))])) rfl rfl (hb hby d_own_rmGet0_2)
  obtain ⟨_, _, ⟨T2, L2, k2, n2⟩, -, X2, ⟨Lc2, hQ2, l2, y2, z2⟩, st2⟩ := Jvm.LawKit.callS X1 hx (y := (⟨"java/util/Objects", "checkIndex", "(II)I"⟩ : MethodName)) hown (mvT hZ (hw _ (List.mem_of_getElem? (i := 106) rfl))) (mvT hZ (hw _ (List.mem_of_getElem? (i := 107) rfl))) (mvT hZ (hw _ (List.mem_of_getElem? (i := 108) rfl))) (mvT hZ (hw _ (List.mem_of_getElem? (i := 109) rfl))) (by decide) (backOf (W := 0) (own_rmOc l Z a0 hw [] (0 : Int32) (2 : Int32)  h0 n0 Z0 (by decide) (by decide)) hZ (hw _ (List.mem_of_getElem? (i := 109) rfl)) (hw _ (List.mem_of_getElem? (i := 108) rfl)) (by decide) (by decide)) (g := (mkF m 5 #[.val (.ref b0), .val (.int (0 : Int32))] [(.int (2 : Int32)), (.int (0 : Int32))])) rfl (by rw [hml]; rfl) (argsL := [(.int (0 : Int32)), (.int (2 : Int32))]) (rest := []) (lenOf own_pd1 rfl) rfl (by show 2 * 0 + _ ≤ _; exact Nat.le_of_eq rfl) (hb hby d_own_rmGet0_5) (fun _ _ => ⟨rfl, e1, (by decide : 0 + 0 ≤ _), (by decide : 0 + 0 ≤ _)⟩)
  dsimp only [Pt.U, Pt.locs, Pt.cells, Pt.slots] at X2 l2 y2 z2 st2 hQ2
  subst l2 y2 z2
  obtain ⟨rfl, N2q, e2⟩ := hQ2
  have N2 := Fr.app N0 N2q
  obtain ⟨cq3, kq3, q3a, q3b, q3c⟩ := isOf hZ e2 E_0
  obtain ⟨_, _, ⟨T3, L3, k3, n3⟩, -, X3, ⟨Lc3, hQ3, l3, y3, z3⟩, st3⟩ := X2.virtualBack hx (y := (⟨"java/util/ArrayList", "elementData", "(I)Ljava/lang/Object;"⟩ : MethodName)) (z := (⟨"java/util/ArrayList", "elementData", "(I)Ljava/lang/Object;"⟩ : MethodName)) hown (mvT hZ (hw _ (List.mem_of_getElem? (i := 114) rfl))) (mvT hZ (hw _ (List.mem_of_getElem? (i := 115) rfl))) (notFace_of_selects (args := #[]) (mvT hZ (hw _ (List.mem_of_getElem? (i := 117) rfl)))) (mvT hZ (hw _ (List.mem_of_getElem? (i := 117) rfl))) (mvT hZ (hw _ (List.mem_of_getElem? (i := 116) rfl))) (by decide) (backOf (W := 0) (own_rmEd0 l Z a0 hw [] b0 ea s0 s1 ke h0 n0 Z0 F_e V_e) hZ (hw _ (List.mem_of_getElem? (i := 118) rfl)) (hw _ (List.mem_of_getElem? (i := 6) rfl)) (by decide) (by decide)) q3a q3c (g := (mkF m 11 #[.val (.ref b0), .val (.int (0 : Int32))] [(.int (0 : Int32)), (.ref b0)])) rfl (by rw [hml]; rfl) (Steps.refl _) (argsL := [(.int (0 : Int32))]) (rest := []) (lenOf own_pd8 rfl) rfl (by show 2 * 0 + _ ≤ _; exact Nat.le_of_eq rfl) (hb hby d_own_rmGet0_11) (fun _ _ => ⟨rfl, e2, (by decide : 0 + 0 ≤ _), (by decide : 0 + 0 ≤ _)⟩)
  dsimp only [Pt.U, Pt.locs, Pt.cells, Pt.slots] at X3 l3 y3 z3 st3 hQ3
  subst l3 y3 z3
  obtain ⟨rfl, N3q, e3⟩ := hQ3
  have N3 := Fr.app N2 N3q
  obtain ⟨fs, hr, hrun, hended, hW, hsame⟩ := X3.leave (v := some (.ref s0)) (fun h => by rw [Bd.returns] at h; cases h)
  refine ⟨_, _, ?_, hrun, hended, _, _, rfl, ?_, ⟨_, rfl⟩, hW, hsame.mono (by decide) (by decide)⟩
  · show Steps p.tables e below (s₁.setTop (mkF m 0 #[.val (.ref b0), .val (.int (0 : Int32))] [])) _
    refine XS.iloadN X0.here hx rfl (hb hby d_own_rmGet0_0) rfl ?_
    show Steps p.tables e below (s₁.setTop (mkF m 1 #[.val (.ref b0), .val (.int (0 : Int32))] [(.int (0 : Int32))])) _
    refine XS.aloadN X0.here hx rfl (hb hby d_own_rmGet0_1) rfl rfl ?_
    show Steps p.tables e below (s₁.setTop (mkF m 2 #[.val (.ref b0), .val (.int (0 : Int32))] [(.ref b0), (.int (0 : Int32))])) _
    refine st1 _ ?_
    show Steps p.tables e below (T1.setTop (mkF m 5 #[.val (.ref b0), .val (.int (0 : Int32))] [(.int (2 : Int32)), (.int (0 : Int32))])) _
    refine st2 _ ?_
    show Steps p.tables e below (T2.setTop (mkF m 8 #[.val (.ref b0), .val (.int (0 : Int32))] [(.int (0 : Int32))])) _
    refine XS.pop X2.here hx rfl (hb hby d_own_rmGet0_8) rfl rfl ?_
    show Steps p.tables e below (T2.setTop (mkF m 9 #[.val (.ref b0), .val (.int (0 : Int32))] [])) _
    refine XS.aloadN X2.here hx rfl (hb hby d_own_rmGet0_9) rfl rfl ?_
    show Steps p.tables e below (T2.setTop (mkF m 10 #[.val (.ref b0), .val (.int (0 : Int32))] [(.ref b0)])) _
    refine XS.iloadN X2.here hx rfl (hb hby d_own_rmGet0_10) rfl ?_
    show Steps p.tables e below (T2.setTop (mkF m 11 #[.val (.ref b0), .val (.int (0 : Int32))] [(.int (0 : Int32)), (.ref b0)])) _
    refine st3.trans ?_
    show Steps p.tables e below (T3.setTop (mkF m 14 #[.val (.ref b0), .val (.int (0 : Int32))] [(.ref s0)])) _
    jvm_step X3.here [X3.here.top, hx, (hb hby d_own_rmGet0_14), X3.method', Bd.returns, Value.isRef, FieldType.isReference]
    first | (intro acts; rw [hr _ acts rfl rfl rfl]) | rw [hr _ _ rfl rfl rfl]
    exact Steps.refl _
  · show own_QR s0 h0 n0 _ T3.heap _
    rw [e3]
    exact ⟨rfl, N3, rfl⟩
theorem d_own_rmEd1_0 : decode jdk_38_method_18_code 0 = .ok (.aload_n 0, 1) := by decide +kernel
theorem d_own_rmEd1_1 : decode jdk_38_method_18_code 1 = .ok (.getfield 9, 3) := by decide +kernel
theorem d_own_rmEd1_4 : decode jdk_38_method_18_code 4 = .ok (.iload_n 1, 1) := by decide +kernel
theorem d_own_rmEd1_5 : decode jdk_38_method_18_code 5 = .ok (.aaload, 1) := by decide +kernel
theorem d_own_rmEd1_6 : decode jdk_38_method_18_code 6 = .ok (.areturn, 1) := by decide +kernel
theorem ef_own_rmEd1 (m : MethodId) (x0 : Addr) : entryFrame m #[(.ref x0), (.int (1 : Int32))] 2 = mkF m 0 #[.val (.ref x0), .val (.int (1 : Int32))] [] := by first | (simp [entryFrame, mkF, argsToLocals, Value.category]; done) | rfl
set_option maxRecDepth 65536 in
set_option maxHeartbeats 40000000 in
theorem own_rmEd1 (l : Launch) (Z : State) (a0 : Array Value) (hw : ∀ d ∈ tables_1, d.before a0 Z = true) (ws : List Jvm.Cond) (b0 : Addr) (ea s0 s1 : Addr) (ke : ClassId) (h0 : Heap) (n0 : Nat) (Z0 : n0 ≤ h0.size) (F_e : Fld Z h0 b0 "java/util/ArrayList" "elementData" "[Ljava/lang/Object;" (.ref ea)) (V_e : Arv Z h0 ea ke (.object "java/lang/Object") (10 : Int32) [(.ref s0), (.ref s1), .null, .null, .null, .null, .null, .null, .null, .null] .null) :
    MetFree l (⟨"java/util/ArrayList", "elementData", "(I)Ljava/lang/Object;"⟩ : MethodName) (head1 (Jvm.Cond.code (⟨"java/util/ArrayList", "elementData", "(I)Ljava/lang/Object;"⟩ : MethodName) jdk_38_method_18_code 2 (some (.object "java/lang/Object")) :: ws) ({ frames := 0, cells := 0, slots := 0, locals := 0 } : Room)) (fun a U => a = #[(.ref b0), (.int (1 : Int32))] ∧ Z.Warmed39 U.vm ∧ U.heap = h0) (fun _ _ _ _ _ => True) (fun _ U o U' => ∃ v L, o = .returned v ∧ own_QR s1 h0 n0 v U'.heap L ∧ FrameEnd U o U' L ({ frames := 0, cells := 0, slots := 0, locals := 0 } : Room).cells ({ frames := 0, cells := 0, slots := 0, locals := 0 } : Room).slots) := by
  refine MetFree.of_bodySF (plainFor_of_name own_pn2) hisR ?_
  intro p e s m args below meth c s₁ Bd hml0 hP hK
  obtain ⟨rfl, hZ, hh⟩ := hP
  have hx := Bd.exec
  have hby := Bd.bytes
  have hml : c.maxLocals = 2 := hml0
  have hown : s.vm.findClass "java/util/ArrayList" = some m.cls := findClass_of_methodNamed Bd.named
  have hnm := (name_of_methodNamed Bd.named Bd.method).1
  have X0 : Stand p l e ({ frames := 0, cells := 0, slots := 0, locals := 0 } : Room) s m #[(.ref b0), (.int (1 : Int32))] below meth c s₁ [] 0 0 := Stand.of_body Bd
  have e0 : s₁.heap = h0 := by rw [← hh, Bd.state]; rfl
  have N0 := Fr.nil n0
  refine own_go (b := s₁.setTop (mkF m 0 #[.val (.ref b0), .val (.int (1 : Int32))] [])) (fun t k => castTop (ef_own_rmEd1 m b0) k) ?_
  obtain ⟨T1, X1, e1, st1⟩ := getF X0 hx hZ hown (host := "") (Or.inl (hw _ (List.mem_of_getElem? (i := 28) rfl))) Via.refl e0 F_e (g := (mkF m 1 #[.val (.ref b0), .val (.int (1 : Int32))] [(.ref b0)])) rfl rfl (hb hby d_own_rmEd1_1)
  obtain ⟨cl2, Ar2, -, Sz2, M2, Hs2, Gs2⟩ := id V_e
  have hin2 : ¬ ((1 : Int32) < 0 ∨ cl2.slots.size ≤ ((1 : Int32)).toNatClampNeg) := inb_of Sz2 ⟨by decide, by decide⟩
  have hat2 : cl2.slots[((1 : Int32)).toNatClampNeg]? = some (.ref s1) := Hs2 1 (by rw [Sz2]; decide)
  obtain ⟨fs, hr, hrun, hended, hW, hsame⟩ := X1.leave (v := some (.ref s1)) (fun h => by rw [Bd.returns] at h; cases h)
  refine ⟨_, _, ?_, hrun, hended, _, _, rfl, ?_, ⟨_, rfl⟩, hW, hsame.mono (by decide) (by decide)⟩
  · show Steps p.tables e below (s₁.setTop (mkF m 0 #[.val (.ref b0), .val (.int (1 : Int32))] [])) _
    refine XS.aloadN X0.here hx rfl (hb hby d_own_rmEd1_0) rfl rfl ?_
    show Steps p.tables e below (s₁.setTop (mkF m 1 #[.val (.ref b0), .val (.int (1 : Int32))] [(.ref b0)])) _
    refine st1 _ ?_
    show Steps p.tables e below (T1.setTop (mkF m 4 #[.val (.ref b0), .val (.int (1 : Int32))] [(.ref ea)])) _
    refine XS.iloadN X1.here hx rfl (hb hby d_own_rmEd1_4) rfl ?_
    show Steps p.tables e below (T1.setTop (mkF m 5 #[.val (.ref b0), .val (.int (1 : Int32))] [(.int (1 : Int32)), (.ref ea)])) _
    refine X1.aaload hx (j := (1 : Int32)) (v := (.ref s1)) (by rw [e1]; exact Ar2.1) (State.isArrayOf_alike hZ.alike Ar2.2.1) rfl Ar2.2.2 hin2 hat2 (g := (mkF m 5 #[.val (.ref b0), .val (.int (1 : Int32))] [(.int (1 : Int32)), (.ref ea)])) rfl rfl (hb hby d_own_rmEd1_5) _ ?_
    show Steps p.tables e below (T1.setTop (mkF m 6 #[.val (.ref b0), .val (.int (1 : Int32))] [(.ref s1)])) _
    jvm_step X1.here [X1.here.top, hx, (hb hby d_own_rmEd1_6), X1.method', Bd.returns, Value.isRef, FieldType.isReference]
    first | (intro acts; rw [hr _ acts rfl rfl rfl]) | rw [hr _ _ rfl rfl rfl]
    exact Steps.refl _
  · show own_QR s1 h0 n0 _ T1.heap _
    rw [e1]
    exact ⟨rfl, N0, rfl⟩
theorem d_own_rmGet1_0 : decode jdk_38_method_20_code 0 = .ok (.iload_n 1, 1) := by decide +kernel
theorem d_own_rmGet1_1 : decode jdk_38_method_20_code 1 = .ok (.aload_n 0, 1) := by decide +kernel
theorem d_own_rmGet1_2 : decode jdk_38_method_20_code 2 = .ok (.getfield 48, 3) := by decide +kernel
theorem d_own_rmGet1_5 : decode jdk_38_method_20_code 5 = .ok (.invokestatic 118, 3) := by decide +kernel
theorem d_own_rmGet1_8 : decode jdk_38_method_20_code 8 = .ok (.pop, 1) := by decide +kernel
theorem d_own_rmGet1_9 : decode jdk_38_method_20_code 9 = .ok (.aload_n 0, 1) := by decide +kernel
theorem d_own_rmGet1_10 : decode jdk_38_method_20_code 10 = .ok (.iload_n 1, 1) := by decide +kernel
theorem d_own_rmGet1_11 : decode jdk_38_method_20_code 11 = .ok (.invokevirtual 123, 3) := by decide +kernel
theorem d_own_rmGet1_14 : decode jdk_38_method_20_code 14 = .ok (.areturn, 1) := by decide +kernel
theorem ef_own_rmGet1 (m : MethodId) (x0 : Addr) : entryFrame m #[(.ref x0), (.int (1 : Int32))] 2 = mkF m 0 #[.val (.ref x0), .val (.int (1 : Int32))] [] := by first | (simp [entryFrame, mkF, argsToLocals, Value.category]; done) | rfl
set_option maxRecDepth 65536 in
set_option maxHeartbeats 40000000 in
theorem own_rmGet1 (l : Launch) (Z : State) (a0 : Array Value) (hw : ∀ d ∈ tables_1, d.before a0 Z = true) (ws : List Jvm.Cond) (b0 : Addr) (ea s0 s1 : Addr) (ke : ClassId) (h0 : Heap) (n0 : Nat) (Z0 : n0 ≤ h0.size) (F_e : Fld Z h0 b0 "java/util/ArrayList" "elementData" "[Ljava/lang/Object;" (.ref ea)) (V_e : Arv Z h0 ea ke (.object "java/lang/Object") (10 : Int32) [(.ref s0), (.ref s1), .null, .null, .null, .null, .null, .null, .null, .null] .null) (E_0 : Exa Z h0 b0 "java/util/ArrayList") (F_s : Fld Z h0 b0 "java/util/ArrayList" "size" "I" (.int (2 : Int32))) :
    MetFree l (⟨"java/util/ArrayList", "get", "(I)Ljava/lang/Object;"⟩ : MethodName) (head1 (Jvm.Cond.code (⟨"java/util/ArrayList", "get", "(I)Ljava/lang/Object;"⟩ : MethodName) jdk_38_method_20_code 2 (some (.object "java/lang/Object")) :: ws) ({ frames := 2, cells := 0, slots := 0, locals := 27 } : Room)) (fun a U => a = #[(.ref b0), (.int (1 : Int32))] ∧ Z.Warmed39 U.vm ∧ U.heap = h0) (fun _ _ _ _ _ => True) (fun _ U o U' => ∃ v L, o = .returned v ∧ own_QR s1 h0 n0 v U'.heap L ∧ FrameEnd U o U' L ({ frames := 2, cells := 0, slots := 0, locals := 27 } : Room).cells ({ frames := 2, cells := 0, slots := 0, locals := 27 } : Room).slots) := by
  refine MetFree.of_bodySF (plainFor_of_name own_pn2) hisR ?_
  intro p e s m args below meth c s₁ Bd hml0 hP hK
  obtain ⟨rfl, hZ, hh⟩ := hP
  have hx := Bd.exec
  have hby := Bd.bytes
  have hml : c.maxLocals = 2 := hml0
  have hown : s.vm.findClass "java/util/ArrayList" = some m.cls := findClass_of_methodNamed Bd.named
  have hnm := (name_of_methodNamed Bd.named Bd.method).1
  have X0 : Stand p l e ({ frames := 2, cells := 0, slots := 0, locals := 27 } : Room) s m #[(.ref b0), (.int (1 : Int32))] below meth c s₁ [] 0 0 := Stand.of_body Bd
  have e0 : s₁.heap = h0 := by rw [← hh, Bd.state]; rfl
  have N0 := Fr.nil n0
  refine own_go (b := s₁.setTop (mkF m 0 #[.val (.ref b0), .val (.int (1 : Int32))] [])) (fun t k => castTop (ef_own_rmGet1 m b0) k) ?_
  obtain ⟨T1, X1, e1, st1⟩ := getF X0 hx hZ hown (host := "") (Or.inl (hw _ (List.mem_of_getElem? (i := 54) rfl))) Via.refl e0 F_s (g := (mkF m 2 #[.val (.ref b0), .val (.int (1 : Int32))] [(.ref b0), (.int (1 : Int32))])) rfl rfl (hb hby d_own_rmGet1_2)
  obtain ⟨_, _, ⟨T2, L2, k2, n2⟩, -, X2, ⟨Lc2, hQ2, l2, y2, z2⟩, st2⟩ := Jvm.LawKit.callS X1 hx (y := (⟨"java/util/Objects", "checkIndex", "(II)I"⟩ : MethodName)) hown (mvT hZ (hw _ (List.mem_of_getElem? (i := 106) rfl))) (mvT hZ (hw _ (List.mem_of_getElem? (i := 107) rfl))) (mvT hZ (hw _ (List.mem_of_getElem? (i := 108) rfl))) (mvT hZ (hw _ (List.mem_of_getElem? (i := 109) rfl))) (by decide) (backOf (W := 0) (own_rmOc l Z a0 hw [] (1 : Int32) (2 : Int32)  h0 n0 Z0 (by decide) (by decide)) hZ (hw _ (List.mem_of_getElem? (i := 109) rfl)) (hw _ (List.mem_of_getElem? (i := 108) rfl)) (by decide) (by decide)) (g := (mkF m 5 #[.val (.ref b0), .val (.int (1 : Int32))] [(.int (2 : Int32)), (.int (1 : Int32))])) rfl (by rw [hml]; rfl) (argsL := [(.int (1 : Int32)), (.int (2 : Int32))]) (rest := []) (lenOf own_pd1 rfl) rfl (by show 2 * 0 + _ ≤ _; exact Nat.le_of_eq rfl) (hb hby d_own_rmGet1_5) (fun _ _ => ⟨rfl, e1, (by decide : 0 + 0 ≤ _), (by decide : 0 + 0 ≤ _)⟩)
  dsimp only [Pt.U, Pt.locs, Pt.cells, Pt.slots] at X2 l2 y2 z2 st2 hQ2
  subst l2 y2 z2
  obtain ⟨rfl, N2q, e2⟩ := hQ2
  have N2 := Fr.app N0 N2q
  obtain ⟨cq3, kq3, q3a, q3b, q3c⟩ := isOf hZ e2 E_0
  obtain ⟨_, _, ⟨T3, L3, k3, n3⟩, -, X3, ⟨Lc3, hQ3, l3, y3, z3⟩, st3⟩ := X2.virtualBack hx (y := (⟨"java/util/ArrayList", "elementData", "(I)Ljava/lang/Object;"⟩ : MethodName)) (z := (⟨"java/util/ArrayList", "elementData", "(I)Ljava/lang/Object;"⟩ : MethodName)) hown (mvT hZ (hw _ (List.mem_of_getElem? (i := 114) rfl))) (mvT hZ (hw _ (List.mem_of_getElem? (i := 115) rfl))) (notFace_of_selects (args := #[]) (mvT hZ (hw _ (List.mem_of_getElem? (i := 117) rfl)))) (mvT hZ (hw _ (List.mem_of_getElem? (i := 117) rfl))) (mvT hZ (hw _ (List.mem_of_getElem? (i := 116) rfl))) (by decide) (backOf (W := 0) (own_rmEd1 l Z a0 hw [] b0 ea s0 s1 ke h0 n0 Z0 F_e V_e) hZ (hw _ (List.mem_of_getElem? (i := 118) rfl)) (hw _ (List.mem_of_getElem? (i := 6) rfl)) (by decide) (by decide)) q3a q3c (g := (mkF m 11 #[.val (.ref b0), .val (.int (1 : Int32))] [(.int (1 : Int32)), (.ref b0)])) rfl (by rw [hml]; rfl) (Steps.refl _) (argsL := [(.int (1 : Int32))]) (rest := []) (lenOf own_pd8 rfl) rfl (by show 2 * 0 + _ ≤ _; exact Nat.le_of_eq rfl) (hb hby d_own_rmGet1_11) (fun _ _ => ⟨rfl, e2, (by decide : 0 + 0 ≤ _), (by decide : 0 + 0 ≤ _)⟩)
  dsimp only [Pt.U, Pt.locs, Pt.cells, Pt.slots] at X3 l3 y3 z3 st3 hQ3
  subst l3 y3 z3
  obtain ⟨rfl, N3q, e3⟩ := hQ3
  have N3 := Fr.app N2 N3q
  obtain ⟨fs, hr, hrun, hended, hW, hsame⟩ := X3.leave (v := some (.ref s1)) (fun h => by rw [Bd.returns] at h; cases h)
  refine ⟨_, _, ?_, hrun, hended, _, _, rfl, ?_, ⟨_, rfl⟩, hW, hsame.mono (by decide) (by decide)⟩
  · show Steps p.tables e below (s₁.setTop (mkF m 0 #[.val (.ref b0), .val (.int (1 : Int32))] [])) _
    refine XS.iloadN X0.here hx rfl (hb hby d_own_rmGet1_0) rfl ?_
    show Steps p.tables e below (s₁.setTop (mkF m 1 #[.val (.ref b0), .val (.int (1 : Int32))] [(.int (1 : Int32))])) _
    refine XS.aloadN X0.here hx rfl (hb hby d_own_rmGet1_1) rfl rfl ?_
    show Steps p.tables e below (s₁.setTop (mkF m 2 #[.val (.ref b0), .val (.int (1 : Int32))] [(.ref b0), (.int (1 : Int32))])) _
    refine st1 _ ?_
    show Steps p.tables e below (T1.setTop (mkF m 5 #[.val (.ref b0), .val (.int (1 : Int32))] [(.int (2 : Int32)), (.int (1 : Int32))])) _
    refine st2 _ ?_
    show Steps p.tables e below (T2.setTop (mkF m 8 #[.val (.ref b0), .val (.int (1 : Int32))] [(.int (1 : Int32))])) _
    refine XS.pop X2.here hx rfl (hb hby d_own_rmGet1_8) rfl rfl ?_
    show Steps p.tables e below (T2.setTop (mkF m 9 #[.val (.ref b0), .val (.int (1 : Int32))] [])) _
    refine XS.aloadN X2.here hx rfl (hb hby d_own_rmGet1_9) rfl rfl ?_
    show Steps p.tables e below (T2.setTop (mkF m 10 #[.val (.ref b0), .val (.int (1 : Int32))] [(.ref b0)])) _
    refine XS.iloadN X2.here hx rfl (hb hby d_own_rmGet1_10) rfl ?_
    show Steps p.tables e below (T2.setTop (mkF m 11 #[.val (.ref b0), .val (.int (1 : Int32))] [(.int (1 : Int32)), (.ref b0)])) _
    refine st3.trans ?_
    show Steps p.tables e below (T3.setTop (mkF m 14 #[.val (.ref b0), .val (.int (1 : Int32))] [(.ref s1)])) _
    jvm_step X3.here [X3.here.top, hx, (hb hby d_own_rmGet1_14), X3.method', Bd.returns, Value.isRef, FieldType.isReference]
    first | (intro acts; rw [hr _ acts rfl rfl rfl]) | rw [hr _ _ rfl rfl rfl]
    exact Steps.refl _
  · show own_QR s1 h0 n0 _ T3.heap _
    rw [e3]
    exact ⟨rfl, N3, rfl⟩
theorem d_own_rmEqS_0 : decode jdk_42_method_66_code 0 = .ok (.aload_n 0, 1) := by decide +kernel
theorem d_own_rmEqS_1 : decode jdk_42_method_66_code 1 = .ok (.aload_n 1, 1) := by decide +kernel
theorem d_own_rmEqS_2 : decode jdk_42_method_66_code 2 = .ok (.if_acmp .ne 5, 3) := by decide +kernel
theorem d_own_rmEqS_5 : decode jdk_42_method_66_code 5 = .ok (.iconst 1, 1) := by decide +kernel
theorem d_own_rmEqS_6 : decode jdk_42_method_66_code 6 = .ok (.ireturn, 1) := by decide +kernel
theorem ef_own_rmEqS (m : MethodId) (x0 : Addr) (x1 : Addr) : entryFrame m #[(.ref x0), (.ref x1)] 3 = mkF m 0 #[.val (.ref x0), .val (.ref x1), .unset] [] := by first | (simp [entryFrame, mkF, argsToLocals, Value.category]; done) | rfl
set_option maxRecDepth 65536 in
set_option maxHeartbeats 40000000 in
theorem own_rmEqS (l : Launch) (Z : State) (a0 : Array Value) (hw : ∀ d ∈ tables_1, d.before a0 Z = true) (ws : List Jvm.Cond) (b0 : Addr) (b1 : Addr)  (h0 : Heap) (n0 : Nat) (Z0 : n0 ≤ h0.size) (h01 : b0 = b1) :
    MetFree l (⟨"java/lang/String", "equals", "(Ljava/lang/Object;)Z"⟩ : MethodName) (head1 (Jvm.Cond.code (⟨"java/lang/String", "equals", "(Ljava/lang/Object;)Z"⟩ : MethodName) jdk_42_method_66_code 3 (some .boolean) :: ws) ({ frames := 0, cells := 0, slots := 0, locals := 0 } : Room)) (fun a U => a = #[(.ref b0), (.ref b1)] ∧ Z.Warmed39 U.vm ∧ U.heap = h0) (fun _ _ _ _ _ => True) (fun _ U o U' => ∃ v L, o = .returned v ∧ own_QI (1 : Int32) h0 n0 v U'.heap L ∧ FrameEnd U o U' L ({ frames := 0, cells := 0, slots := 0, locals := 0 } : Room).cells ({ frames := 0, cells := 0, slots := 0, locals := 0 } : Room).slots) := by
  refine MetFree.of_bodySF (plainFor_of_name own_pn6) hisR ?_
  intro p e s m args below meth c s₁ Bd hml0 hP hK
  obtain ⟨rfl, hZ, hh⟩ := hP
  have hx := Bd.exec
  have hby := Bd.bytes
  have hml : c.maxLocals = 3 := hml0
  have hown : s.vm.findClass "java/lang/String" = some m.cls := findClass_of_methodNamed Bd.named
  have hnm := (name_of_methodNamed Bd.named Bd.method).1
  have X0 : Stand p l e ({ frames := 0, cells := 0, slots := 0, locals := 0 } : Room) s m #[(.ref b0), (.ref b1)] below meth c s₁ [] 0 0 := Stand.of_body Bd
  have e0 : s₁.heap = h0 := by rw [← hh, Bd.state]; rfl
  have N0 := Fr.nil n0
  refine own_go (b := s₁.setTop (mkF m 0 #[.val (.ref b0), .val (.ref b1), .unset] [])) (fun t k => castTop (ef_own_rmEqS m b0 b1) k) ?_
  obtain ⟨fs, hr, hrun, hended, hW, hsame⟩ := X0.leave (v := some (.int (1 : Int32))) (fun h => by rw [Bd.returns] at h; cases h)
  refine ⟨_, _, ?_, hrun, hended, _, _, rfl, ?_, ⟨_, rfl⟩, hW, hsame.mono (by decide) (by decide)⟩
  · show Steps p.tables e below (s₁.setTop (mkF m 0 #[.val (.ref b0), .val (.ref b1), .unset] [])) _
    refine XS.aloadN X0.here hx rfl (hb hby d_own_rmEqS_0) rfl rfl ?_
    show Steps p.tables e below (s₁.setTop (mkF m 1 #[.val (.ref b0), .val (.ref b1), .unset] [(.ref b0)])) _
    refine XS.aloadN X0.here hx rfl (hb hby d_own_rmEqS_1) rfl rfl ?_
    show Steps p.tables e below (s₁.setTop (mkF m 2 #[.val (.ref b0), .val (.ref b1), .unset] [(.ref b1), (.ref b0)])) _
    refine Jvm.RoadKit.acmp (g := (mkF m 2 #[.val (.ref b0), .val (.ref b1), .unset] [(.ref b1), (.ref b0)])) X0 hx rfl rfl rfl (pc0 := 2) (pc' := 5) (same := true) rfl (hb hby d_own_rmEqS_2) rfl (decide_eq_true (congrArg Value.ref (h01 : b0 = b1))) (by decide) (by decide) ?_
    show Steps p.tables e below (s₁.setTop (mkF m 5 #[.val (.ref b0), .val (.ref b1), .unset] [])) _
    refine XS.iconst X0.here hx rfl (hb hby d_own_rmEqS_5) ?_
    show Steps p.tables e below (s₁.setTop (mkF m 6 #[.val (.ref b0), .val (.ref b1), .unset] [(.int (1 : Int32))])) _
    exact retN X0 hx (t := .boolean) Bd.returns (by simp) (hb hby d_own_rmEqS_6) hr
  · show own_QI (1 : Int32) h0 n0 _ s₁.heap _
    rw [e0]
    exact ⟨rfl, N0, rfl⟩
theorem d_own_rmLe00_0 : decode jdk_43_method_13_code 0 = .ok (.aload_n 0, 1) := by decide +kernel
theorem d_own_rmLe00_1 : decode jdk_43_method_13_code 1 = .ok (.arraylength, 1) := by decide +kernel
theorem d_own_rmLe00_2 : decode jdk_43_method_13_code 2 = .ok (.aload_n 1, 1) := by decide +kernel
theorem d_own_rmLe00_3 : decode jdk_43_method_13_code 3 = .ok (.arraylength, 1) := by decide +kernel
theorem d_own_rmLe00_4 : decode jdk_43_method_13_code 4 = .ok (.if_icmp .ne 30, 3) := by decide +kernel
theorem d_own_rmLe00_7 : decode jdk_43_method_13_code 7 = .ok (.iconst 0, 1) := by decide +kernel
theorem d_own_rmLe00_8 : decode jdk_43_method_13_code 8 = .ok (.istore_n 2, 1) := by decide +kernel
theorem d_own_rmLe00_9 : decode jdk_43_method_13_code 9 = .ok (.iload_n 2, 1) := by decide +kernel
theorem d_own_rmLe00_10 : decode jdk_43_method_13_code 10 = .ok (.aload_n 0, 1) := by decide +kernel
theorem d_own_rmLe00_11 : decode jdk_43_method_13_code 11 = .ok (.arraylength, 1) := by decide +kernel
theorem d_own_rmLe00_12 : decode jdk_43_method_13_code 12 = .ok (.if_icmp .ge 20, 3) := by decide +kernel
theorem d_own_rmLe00_15 : decode jdk_43_method_13_code 15 = .ok (.aload_n 0, 1) := by decide +kernel
theorem d_own_rmLe00_16 : decode jdk_43_method_13_code 16 = .ok (.iload_n 2, 1) := by decide +kernel
theorem d_own_rmLe00_17 : decode jdk_43_method_13_code 17 = .ok (.baload, 1) := by decide +kernel
theorem d_own_rmLe00_18 : decode jdk_43_method_13_code 18 = .ok (.aload_n 1, 1) := by decide +kernel
theorem d_own_rmLe00_19 : decode jdk_43_method_13_code 19 = .ok (.iload_n 2, 1) := by decide +kernel
theorem d_own_rmLe00_20 : decode jdk_43_method_13_code 20 = .ok (.baload, 1) := by decide +kernel
theorem d_own_rmLe00_21 : decode jdk_43_method_13_code 21 = .ok (.if_icmp .eq 5, 3) := by decide +kernel
theorem d_own_rmLe00_26 : decode jdk_43_method_13_code 26 = .ok (.iinc 2 1, 3) := by decide +kernel
theorem d_own_rmLe00_29 : decode jdk_43_method_13_code 29 = .ok (.goto (-20), 3) := by decide +kernel
theorem d_own_rmLe00_32 : decode jdk_43_method_13_code 32 = .ok (.iconst 1, 1) := by decide +kernel
theorem d_own_rmLe00_33 : decode jdk_43_method_13_code 33 = .ok (.ireturn, 1) := by decide +kernel
theorem ef_own_rmLe00 (m : MethodId) (x0 : Addr) (x1 : Addr) : entryFrame m #[(.ref x0), (.ref x1)] 3 = mkF m 0 #[.val (.ref x0), .val (.ref x1), .unset] [] := by first | (simp [entryFrame, mkF, argsToLocals, Value.category]; done) | rfl
set_option maxRecDepth 65536 in
set_option maxHeartbeats 40000000 in
theorem own_rmLe00 (l : Launch) (Z : State) (a0 : Array Value) (hw : ∀ d ∈ tables_1, d.before a0 Z = true) (ws : List Jvm.Cond) (b0 : Addr) (b1 : Addr) (kb0 kb1 : ClassId) (h0 : Heap) (n0 : Nat) (Z0 : n0 ≤ h0.size) (V_b0 : Arv Z h0 b0 kb0 .byte (10 : Int32) [(.int (115 : Int32)), (.int (101 : Int32)), (.int (113 : Int32)), (.int (117 : Int32)), (.int (101 : Int32)), (.int (110 : Int32)), (.int (116 : Int32)), (.int (105 : Int32)), (.int (97 : Int32)), (.int (108 : Int32))] (.int (0 : Int32))) (V_b1 : Arv Z h0 b1 kb1 .byte (10 : Int32) [(.int (115 : Int32)), (.int (101 : Int32)), (.int (113 : Int32)), (.int (117 : Int32)), (.int (101 : Int32)), (.int (110 : Int32)), (.int (116 : Int32)), (.int (105 : Int32)), (.int (97 : Int32)), (.int (108 : Int32))] (.int (0 : Int32))) :
    MetFree l (⟨"java/lang/StringLatin1", "equals", "([B[B)Z"⟩ : MethodName) (head1 (Jvm.Cond.code (⟨"java/lang/StringLatin1", "equals", "([B[B)Z"⟩ : MethodName) jdk_43_method_13_code 3 (some .boolean) :: ws) ({ frames := 0, cells := 0, slots := 0, locals := 0 } : Room)) (fun a U => a = #[(.ref b0), (.ref b1)] ∧ Z.Warmed39 U.vm ∧ U.heap = h0) (fun _ _ _ _ _ => True) (fun _ U o U' => ∃ v L, o = .returned v ∧ own_QI (1 : Int32) h0 n0 v U'.heap L ∧ FrameEnd U o U' L ({ frames := 0, cells := 0, slots := 0, locals := 0 } : Room).cells ({ frames := 0, cells := 0, slots := 0, locals := 0 } : Room).slots) := by
  refine MetFree.of_bodySF (plainFor_of_name own_pn7) hisR ?_
  intro p e s m args below meth c s₁ Bd hml0 hP hK
  obtain ⟨rfl, hZ, hh⟩ := hP
  have hx := Bd.exec
  have hby := Bd.bytes
  have hml : c.maxLocals = 3 := hml0
  have hown : s.vm.findClass "java/lang/StringLatin1" = some m.cls := findClass_of_methodNamed Bd.named
  have hnm := (name_of_methodNamed Bd.named Bd.method).1
  have X0 : Stand p l e ({ frames := 0, cells := 0, slots := 0, locals := 0 } : Room) s m #[(.ref b0), (.ref b1)] below meth c s₁ [] 0 0 := Stand.of_body Bd
  have e0 : s₁.heap = h0 := by rw [← hh, Bd.state]; rfl
  have N0 := Fr.nil n0
  refine own_go (b := s₁.setTop (mkF m 0 #[.val (.ref b0), .val (.ref b1), .unset] [])) (fun t k => castTop (ef_own_rmLe00 m b0 b1) k) ?_
  obtain ⟨cl1, Ar1, -, Sz1, M1, -, -⟩ := id V_b0
  obtain ⟨cl2, Ar2, -, Sz2, M2, -, -⟩ := id V_b1
  obtain ⟨cl3, Ar3, -, Sz3, M3, -, -⟩ := id V_b0
  obtain ⟨cl4, Ar4, -, Sz4, M4, Hs4, Gs4⟩ := id V_b0
  have hin4 : ¬ ((0 : Int32) < 0 ∨ cl4.slots.size ≤ ((0 : Int32)).toNatClampNeg) := inb_of Sz4 ⟨by decide, by decide⟩
  have hat4 : cl4.slots[((0 : Int32)).toNatClampNeg]? = some (.int (115 : Int32)) := Hs4 0 (by rw [Sz4]; decide)
  obtain ⟨cl5, Ar5, -, Sz5, M5, Hs5, Gs5⟩ := id V_b1
  have hin5 : ¬ ((0 : Int32) < 0 ∨ cl5.slots.size ≤ ((0 : Int32)).toNatClampNeg) := inb_of Sz5 ⟨by decide, by decide⟩
  have hat5 : cl5.slots[((0 : Int32)).toNatClampNeg]? = some (.int (115 : Int32)) := Hs5 0 (by rw [Sz5]; decide)
  obtain ⟨cl6, Ar6, -, Sz6, M6, -, -⟩ := id V_b0
  obtain ⟨cl7, Ar7, -, Sz7, M7, Hs7, Gs7⟩ := id V_b0
  have hin7 : ¬ ((1 : Int32) < 0 ∨ cl7.slots.size ≤ ((1 : Int32)).toNatClampNeg) := inb_of Sz7 ⟨by decide, by decide⟩
  have hat7 : cl7.slots[((1 : Int32)).toNatClampNeg]? = some (.int (101 : Int32)) := Hs7 1 (by rw [Sz7]; decide)
  obtain ⟨cl8, Ar8, -, Sz8, M8, Hs8, Gs8⟩ := id V_b1
  have hin8 : ¬ ((1 : Int32) < 0 ∨ cl8.slots.size ≤ ((1 : Int32)).toNatClampNeg) := inb_of Sz8 ⟨by decide, by decide⟩
  have hat8 : cl8.slots[((1 : Int32)).toNatClampNeg]? = some (.int (101 : Int32)) := Hs8 1 (by rw [Sz8]; decide)
  obtain ⟨cl9, Ar9, -, Sz9, M9, -, -⟩ := id V_b0
  obtain ⟨cl10, Ar10, -, Sz10, M10, Hs10, Gs10⟩ := id V_b0
  have hin10 : ¬ ((2 : Int32) < 0 ∨ cl10.slots.size ≤ ((2 : Int32)).toNatClampNeg) := inb_of Sz10 ⟨by decide, by decide⟩
  have hat10 : cl10.slots[((2 : Int32)).toNatClampNeg]? = some (.int (113 : Int32)) := Hs10 2 (by rw [Sz10]; decide)
  obtain ⟨cl11, Ar11, -, Sz11, M11, Hs11, Gs11⟩ := id V_b1
  have hin11 : ¬ ((2 : Int32) < 0 ∨ cl11.slots.size ≤ ((2 : Int32)).toNatClampNeg) := inb_of Sz11 ⟨by decide, by decide⟩
  have hat11 : cl11.slots[((2 : Int32)).toNatClampNeg]? = some (.int (113 : Int32)) := Hs11 2 (by rw [Sz11]; decide)
  obtain ⟨cl12, Ar12, -, Sz12, M12, -, -⟩ := id V_b0
  obtain ⟨cl13, Ar13, -, Sz13, M13, Hs13, Gs13⟩ := id V_b0
  have hin13 : ¬ ((3 : Int32) < 0 ∨ cl13.slots.size ≤ ((3 : Int32)).toNatClampNeg) := inb_of Sz13 ⟨by decide, by decide⟩
  have hat13 : cl13.slots[((3 : Int32)).toNatClampNeg]? = some (.int (117 : Int32)) := Hs13 3 (by rw [Sz13]; decide)
  obtain ⟨cl14, Ar14, -, Sz14, M14, Hs14, Gs14⟩ := id V_b1
  have hin14 : ¬ ((3 : Int32) < 0 ∨ cl14.slots.size ≤ ((3 : Int32)).toNatClampNeg) := inb_of Sz14 ⟨by decide, by decide⟩
  have hat14 : cl14.slots[((3 : Int32)).toNatClampNeg]? = some (.int (117 : Int32)) := Hs14 3 (by rw [Sz14]; decide)
  obtain ⟨cl15, Ar15, -, Sz15, M15, -, -⟩ := id V_b0
  obtain ⟨cl16, Ar16, -, Sz16, M16, Hs16, Gs16⟩ := id V_b0
  have hin16 : ¬ ((4 : Int32) < 0 ∨ cl16.slots.size ≤ ((4 : Int32)).toNatClampNeg) := inb_of Sz16 ⟨by decide, by decide⟩
  have hat16 : cl16.slots[((4 : Int32)).toNatClampNeg]? = some (.int (101 : Int32)) := Hs16 4 (by rw [Sz16]; decide)
  obtain ⟨cl17, Ar17, -, Sz17, M17, Hs17, Gs17⟩ := id V_b1
  have hin17 : ¬ ((4 : Int32) < 0 ∨ cl17.slots.size ≤ ((4 : Int32)).toNatClampNeg) := inb_of Sz17 ⟨by decide, by decide⟩
  have hat17 : cl17.slots[((4 : Int32)).toNatClampNeg]? = some (.int (101 : Int32)) := Hs17 4 (by rw [Sz17]; decide)
  obtain ⟨cl18, Ar18, -, Sz18, M18, -, -⟩ := id V_b0
  obtain ⟨cl19, Ar19, -, Sz19, M19, Hs19, Gs19⟩ := id V_b0
  have hin19 : ¬ ((5 : Int32) < 0 ∨ cl19.slots.size ≤ ((5 : Int32)).toNatClampNeg) := inb_of Sz19 ⟨by decide, by decide⟩
  have hat19 : cl19.slots[((5 : Int32)).toNatClampNeg]? = some (.int (110 : Int32)) := Hs19 5 (by rw [Sz19]; decide)
  obtain ⟨cl20, Ar20, -, Sz20, M20, Hs20, Gs20⟩ := id V_b1
  have hin20 : ¬ ((5 : Int32) < 0 ∨ cl20.slots.size ≤ ((5 : Int32)).toNatClampNeg) := inb_of Sz20 ⟨by decide, by decide⟩
  have hat20 : cl20.slots[((5 : Int32)).toNatClampNeg]? = some (.int (110 : Int32)) := Hs20 5 (by rw [Sz20]; decide)
  obtain ⟨cl21, Ar21, -, Sz21, M21, -, -⟩ := id V_b0
  obtain ⟨cl22, Ar22, -, Sz22, M22, Hs22, Gs22⟩ := id V_b0
  have hin22 : ¬ ((6 : Int32) < 0 ∨ cl22.slots.size ≤ ((6 : Int32)).toNatClampNeg) := inb_of Sz22 ⟨by decide, by decide⟩
  have hat22 : cl22.slots[((6 : Int32)).toNatClampNeg]? = some (.int (116 : Int32)) := Hs22 6 (by rw [Sz22]; decide)
  obtain ⟨cl23, Ar23, -, Sz23, M23, Hs23, Gs23⟩ := id V_b1
  have hin23 : ¬ ((6 : Int32) < 0 ∨ cl23.slots.size ≤ ((6 : Int32)).toNatClampNeg) := inb_of Sz23 ⟨by decide, by decide⟩
  have hat23 : cl23.slots[((6 : Int32)).toNatClampNeg]? = some (.int (116 : Int32)) := Hs23 6 (by rw [Sz23]; decide)
  obtain ⟨cl24, Ar24, -, Sz24, M24, -, -⟩ := id V_b0
  obtain ⟨cl25, Ar25, -, Sz25, M25, Hs25, Gs25⟩ := id V_b0
  have hin25 : ¬ ((7 : Int32) < 0 ∨ cl25.slots.size ≤ ((7 : Int32)).toNatClampNeg) := inb_of Sz25 ⟨by decide, by decide⟩
  have hat25 : cl25.slots[((7 : Int32)).toNatClampNeg]? = some (.int (105 : Int32)) := Hs25 7 (by rw [Sz25]; decide)
  obtain ⟨cl26, Ar26, -, Sz26, M26, Hs26, Gs26⟩ := id V_b1
  have hin26 : ¬ ((7 : Int32) < 0 ∨ cl26.slots.size ≤ ((7 : Int32)).toNatClampNeg) := inb_of Sz26 ⟨by decide, by decide⟩
  have hat26 : cl26.slots[((7 : Int32)).toNatClampNeg]? = some (.int (105 : Int32)) := Hs26 7 (by rw [Sz26]; decide)
  obtain ⟨cl27, Ar27, -, Sz27, M27, -, -⟩ := id V_b0
  obtain ⟨cl28, Ar28, -, Sz28, M28, Hs28, Gs28⟩ := id V_b0
  have hin28 : ¬ ((8 : Int32) < 0 ∨ cl28.slots.size ≤ ((8 : Int32)).toNatClampNeg) := inb_of Sz28 ⟨by decide, by decide⟩
  have hat28 : cl28.slots[((8 : Int32)).toNatClampNeg]? = some (.int (97 : Int32)) := Hs28 8 (by rw [Sz28]; decide)
  obtain ⟨cl29, Ar29, -, Sz29, M29, Hs29, Gs29⟩ := id V_b1
  have hin29 : ¬ ((8 : Int32) < 0 ∨ cl29.slots.size ≤ ((8 : Int32)).toNatClampNeg) := inb_of Sz29 ⟨by decide, by decide⟩
  have hat29 : cl29.slots[((8 : Int32)).toNatClampNeg]? = some (.int (97 : Int32)) := Hs29 8 (by rw [Sz29]; decide)
  obtain ⟨cl30, Ar30, -, Sz30, M30, -, -⟩ := id V_b0
  obtain ⟨cl31, Ar31, -, Sz31, M31, Hs31, Gs31⟩ := id V_b0
  have hin31 : ¬ ((9 : Int32) < 0 ∨ cl31.slots.size ≤ ((9 : Int32)).toNatClampNeg) := inb_of Sz31 ⟨by decide, by decide⟩
  have hat31 : cl31.slots[((9 : Int32)).toNatClampNeg]? = some (.int (108 : Int32)) := Hs31 9 (by rw [Sz31]; decide)
  obtain ⟨cl32, Ar32, -, Sz32, M32, Hs32, Gs32⟩ := id V_b1
  have hin32 : ¬ ((9 : Int32) < 0 ∨ cl32.slots.size ≤ ((9 : Int32)).toNatClampNeg) := inb_of Sz32 ⟨by decide, by decide⟩
  have hat32 : cl32.slots[((9 : Int32)).toNatClampNeg]? = some (.int (108 : Int32)) := Hs32 9 (by rw [Sz32]; decide)
  obtain ⟨cl33, Ar33, -, Sz33, M33, -, -⟩ := id V_b0
  obtain ⟨fs, hr, hrun, hended, hW, hsame⟩ := X0.leave (v := some (.int (1 : Int32))) (fun h => by rw [Bd.returns] at h; cases h)
  refine ⟨_, _, ?_, hrun, hended, _, _, rfl, ?_, ⟨_, rfl⟩, hW, hsame.mono (by decide) (by decide)⟩
  · show Steps p.tables e below (s₁.setTop (mkF m 0 #[.val (.ref b0), .val (.ref b1), .unset] [])) _
    refine XS.aloadN X0.here hx rfl (hb hby d_own_rmLe00_0) rfl rfl ?_
    show Steps p.tables e below (s₁.setTop (mkF m 1 #[.val (.ref b0), .val (.ref b1), .unset] [(.ref b0)])) _
    refine X0.arraylength hx (by rw [e0]; exact Ar1.1) (State.isArrayOf_alike hZ.alike Ar1.2.1) (g := (mkF m 1 #[.val (.ref b0), .val (.ref b1), .unset] [(.ref b0)])) rfl rfl (hb hby d_own_rmLe00_1) _ ?_
    rw [len_of Sz1 M1]
    show Steps p.tables e below (s₁.setTop (mkF m 2 #[.val (.ref b0), .val (.ref b1), .unset] [(.int (10 : Int32))])) _
    refine XS.aloadN X0.here hx rfl (hb hby d_own_rmLe00_2) rfl rfl ?_
    show Steps p.tables e below (s₁.setTop (mkF m 3 #[.val (.ref b0), .val (.ref b1), .unset] [(.ref b1), (.int (10 : Int32))])) _
    refine X0.arraylength hx (by rw [e0]; exact Ar2.1) (State.isArrayOf_alike hZ.alike Ar2.2.1) (g := (mkF m 3 #[.val (.ref b0), .val (.ref b1), .unset] [(.ref b1), (.int (10 : Int32))])) rfl rfl (hb hby d_own_rmLe00_3) _ ?_
    rw [len_of Sz2 M2]
    show Steps p.tables e below (s₁.setTop (mkF m 4 #[.val (.ref b0), .val (.ref b1), .unset] [(.int (10 : Int32)), (.int (10 : Int32))])) _
    refine XS.icmpNo X0.here hx rfl (hb hby d_own_rmLe00_4) rfl (teq ((by decide) : (10 : Int32) = (10 : Int32))).2 ?_
    show Steps p.tables e below (s₁.setTop (mkF m 7 #[.val (.ref b0), .val (.ref b1), .unset] [])) _
    refine XS.iconst X0.here hx rfl (hb hby d_own_rmLe00_7) ?_
    show Steps p.tables e below (s₁.setTop (mkF m 8 #[.val (.ref b0), .val (.ref b1), .unset] [(.int (0 : Int32))])) _
    refine XS.istoreN X0.here hx rfl (hb hby d_own_rmLe00_8) rfl (l' := #[.val (.ref b0), .val (.ref b1), .val (.int (0 : Int32))]) rfl ?_
    show Steps p.tables e below (s₁.setTop (mkF m 9 #[.val (.ref b0), .val (.ref b1), .val (.int (0 : Int32))] [])) _
    refine XS.iloadN X0.here hx rfl (hb hby d_own_rmLe00_9) rfl ?_
    show Steps p.tables e below (s₁.setTop (mkF m 10 #[.val (.ref b0), .val (.ref b1), .val (.int (0 : Int32))] [(.int (0 : Int32))])) _
    refine XS.aloadN X0.here hx rfl (hb hby d_own_rmLe00_10) rfl rfl ?_
    show Steps p.tables e below (s₁.setTop (mkF m 11 #[.val (.ref b0), .val (.ref b1), .val (.int (0 : Int32))] [(.ref b0), (.int (0 : Int32))])) _
    refine X0.arraylength hx (by rw [e0]; exact Ar3.1) (State.isArrayOf_alike hZ.alike Ar3.2.1) (g := (mkF m 11 #[.val (.ref b0), .val (.ref b1), .val (.int (0 : Int32))] [(.ref b0), (.int (0 : Int32))])) rfl rfl (hb hby d_own_rmLe00_11) _ ?_
    rw [len_of Sz3 M3]
    show Steps p.tables e below (s₁.setTop (mkF m 12 #[.val (.ref b0), .val (.ref b1), .val (.int (0 : Int32))] [(.int (10 : Int32)), (.int (0 : Int32))])) _
    refine XS.icmpNo X0.here hx rfl (hb hby d_own_rmLe00_12) rfl (tlt ((by decide) : (0 : Int32) < (10 : Int32))).2.1 ?_
    show Steps p.tables e below (s₁.setTop (mkF m 15 #[.val (.ref b0), .val (.ref b1), .val (.int (0 : Int32))] [])) _
    refine XS.aloadN X0.here hx rfl (hb hby d_own_rmLe00_15) rfl rfl ?_
    show Steps p.tables e below (s₁.setTop (mkF m 16 #[.val (.ref b0), .val (.ref b1), .val (.int (0 : Int32))] [(.ref b0)])) _
    refine XS.iloadN X0.here hx rfl (hb hby d_own_rmLe00_16) rfl ?_
    show Steps p.tables e below (s₁.setTop (mkF m 17 #[.val (.ref b0), .val (.ref b1), .val (.int (0 : Int32))] [(.int (0 : Int32)), (.ref b0)])) _
    refine X0.baloadBytes hx (j := (0 : Int32)) (v := (.int (115 : Int32))) (by rw [e0]; exact Ar4.1) (State.isArrayOf_alike hZ.alike Ar4.2.1) Ar4.2.2 hin4 hat4 (g := (mkF m 17 #[.val (.ref b0), .val (.ref b1), .val (.int (0 : Int32))] [(.int (0 : Int32)), (.ref b0)])) rfl rfl (hb hby d_own_rmLe00_17) _ ?_
    show Steps p.tables e below (s₁.setTop (mkF m 18 #[.val (.ref b0), .val (.ref b1), .val (.int (0 : Int32))] [(.int (115 : Int32))])) _
    refine XS.aloadN X0.here hx rfl (hb hby d_own_rmLe00_18) rfl rfl ?_
    show Steps p.tables e below (s₁.setTop (mkF m 19 #[.val (.ref b0), .val (.ref b1), .val (.int (0 : Int32))] [(.ref b1), (.int (115 : Int32))])) _
    refine XS.iloadN X0.here hx rfl (hb hby d_own_rmLe00_19) rfl ?_
    show Steps p.tables e below (s₁.setTop (mkF m 20 #[.val (.ref b0), .val (.ref b1), .val (.int (0 : Int32))] [(.int (0 : Int32)), (.ref b1), (.int (115 : Int32))])) _
    refine X0.baloadBytes hx (j := (0 : Int32)) (v := (.int (115 : Int32))) (by rw [e0]; exact Ar5.1) (State.isArrayOf_alike hZ.alike Ar5.2.1) Ar5.2.2 hin5 hat5 (g := (mkF m 20 #[.val (.ref b0), .val (.ref b1), .val (.int (0 : Int32))] [(.int (0 : Int32)), (.ref b1), (.int (115 : Int32))])) rfl rfl (hb hby d_own_rmLe00_20) _ ?_
    show Steps p.tables e below (s₁.setTop (mkF m 21 #[.val (.ref b0), .val (.ref b1), .val (.int (0 : Int32))] [(.int (115 : Int32)), (.int (115 : Int32))])) _
    refine XS.icmpYes X0.here hx rfl (pc0 := 21) (pc' := 26) rfl (hb hby d_own_rmLe00_21) rfl (teq ((by decide) : (115 : Int32) = (115 : Int32))).1 (by decide) (by decide) ?_
    show Steps p.tables e below (s₁.setTop (mkF m 26 #[.val (.ref b0), .val (.ref b1), .val (.int (0 : Int32))] [])) _
    refine XS.iinc X0.here hx rfl (hb hby d_own_rmLe00_26) rfl (l' := #[.val (.ref b0), .val (.ref b1), .val (.int (1 : Int32))]) rfl ?_
    show Steps p.tables e below (s₁.setTop (mkF m 29 #[.val (.ref b0), .val (.ref b1), .val (.int (1 : Int32))] [])) _
    refine XS.goto X0.here hx rfl (pc0 := 29) (pc' := 9) rfl (hb hby d_own_rmLe00_29) (by decide) (by decide) ?_
    show Steps p.tables e below (s₁.setTop (mkF m 9 #[.val (.ref b0), .val (.ref b1), .val (.int (1 : Int32))] [])) _
    refine XS.iloadN X0.here hx rfl (hb hby d_own_rmLe00_9) rfl ?_
    show Steps p.tables e below (s₁.setTop (mkF m 10 #[.val (.ref b0), .val (.ref b1), .val (.int (1 : Int32))] [(.int (1 : Int32))])) _
    refine XS.aloadN X0.here hx rfl (hb hby d_own_rmLe00_10) rfl rfl ?_
    show Steps p.tables e below (s₁.setTop (mkF m 11 #[.val (.ref b0), .val (.ref b1), .val (.int (1 : Int32))] [(.ref b0), (.int (1 : Int32))])) _
    refine X0.arraylength hx (by rw [e0]; exact Ar6.1) (State.isArrayOf_alike hZ.alike Ar6.2.1) (g := (mkF m 11 #[.val (.ref b0), .val (.ref b1), .val (.int (1 : Int32))] [(.ref b0), (.int (1 : Int32))])) rfl rfl (hb hby d_own_rmLe00_11) _ ?_
    rw [len_of Sz6 M6]
    show Steps p.tables e below (s₁.setTop (mkF m 12 #[.val (.ref b0), .val (.ref b1), .val (.int (1 : Int32))] [(.int (10 : Int32)), (.int (1 : Int32))])) _
    refine XS.icmpNo X0.here hx rfl (hb hby d_own_rmLe00_12) rfl (tlt ((by decide) : (1 : Int32) < (10 : Int32))).2.1 ?_
    show Steps p.tables e below (s₁.setTop (mkF m 15 #[.val (.ref b0), .val (.ref b1), .val (.int (1 : Int32))] [])) _
    refine XS.aloadN X0.here hx rfl (hb hby d_own_rmLe00_15) rfl rfl ?_
    show Steps p.tables e below (s₁.setTop (mkF m 16 #[.val (.ref b0), .val (.ref b1), .val (.int (1 : Int32))] [(.ref b0)])) _
    refine XS.iloadN X0.here hx rfl (hb hby d_own_rmLe00_16) rfl ?_
    show Steps p.tables e below (s₁.setTop (mkF m 17 #[.val (.ref b0), .val (.ref b1), .val (.int (1 : Int32))] [(.int (1 : Int32)), (.ref b0)])) _
    refine X0.baloadBytes hx (j := (1 : Int32)) (v := (.int (101 : Int32))) (by rw [e0]; exact Ar7.1) (State.isArrayOf_alike hZ.alike Ar7.2.1) Ar7.2.2 hin7 hat7 (g := (mkF m 17 #[.val (.ref b0), .val (.ref b1), .val (.int (1 : Int32))] [(.int (1 : Int32)), (.ref b0)])) rfl rfl (hb hby d_own_rmLe00_17) _ ?_
    show Steps p.tables e below (s₁.setTop (mkF m 18 #[.val (.ref b0), .val (.ref b1), .val (.int (1 : Int32))] [(.int (101 : Int32))])) _
    refine XS.aloadN X0.here hx rfl (hb hby d_own_rmLe00_18) rfl rfl ?_
    show Steps p.tables e below (s₁.setTop (mkF m 19 #[.val (.ref b0), .val (.ref b1), .val (.int (1 : Int32))] [(.ref b1), (.int (101 : Int32))])) _
    refine XS.iloadN X0.here hx rfl (hb hby d_own_rmLe00_19) rfl ?_
    show Steps p.tables e below (s₁.setTop (mkF m 20 #[.val (.ref b0), .val (.ref b1), .val (.int (1 : Int32))] [(.int (1 : Int32)), (.ref b1), (.int (101 : Int32))])) _
    refine X0.baloadBytes hx (j := (1 : Int32)) (v := (.int (101 : Int32))) (by rw [e0]; exact Ar8.1) (State.isArrayOf_alike hZ.alike Ar8.2.1) Ar8.2.2 hin8 hat8 (g := (mkF m 20 #[.val (.ref b0), .val (.ref b1), .val (.int (1 : Int32))] [(.int (1 : Int32)), (.ref b1), (.int (101 : Int32))])) rfl rfl (hb hby d_own_rmLe00_20) _ ?_
    show Steps p.tables e below (s₁.setTop (mkF m 21 #[.val (.ref b0), .val (.ref b1), .val (.int (1 : Int32))] [(.int (101 : Int32)), (.int (101 : Int32))])) _
    refine XS.icmpYes X0.here hx rfl (pc0 := 21) (pc' := 26) rfl (hb hby d_own_rmLe00_21) rfl (teq ((by decide) : (101 : Int32) = (101 : Int32))).1 (by decide) (by decide) ?_
    show Steps p.tables e below (s₁.setTop (mkF m 26 #[.val (.ref b0), .val (.ref b1), .val (.int (1 : Int32))] [])) _
    refine XS.iinc X0.here hx rfl (hb hby d_own_rmLe00_26) rfl (l' := #[.val (.ref b0), .val (.ref b1), .val (.int (2 : Int32))]) rfl ?_
    show Steps p.tables e below (s₁.setTop (mkF m 29 #[.val (.ref b0), .val (.ref b1), .val (.int (2 : Int32))] [])) _
    refine XS.goto X0.here hx rfl (pc0 := 29) (pc' := 9) rfl (hb hby d_own_rmLe00_29) (by decide) (by decide) ?_
    show Steps p.tables e below (s₁.setTop (mkF m 9 #[.val (.ref b0), .val (.ref b1), .val (.int (2 : Int32))] [])) _
    refine XS.iloadN X0.here hx rfl (hb hby d_own_rmLe00_9) rfl ?_
    show Steps p.tables e below (s₁.setTop (mkF m 10 #[.val (.ref b0), .val (.ref b1), .val (.int (2 : Int32))] [(.int (2 : Int32))])) _
    refine XS.aloadN X0.here hx rfl (hb hby d_own_rmLe00_10) rfl rfl ?_
    show Steps p.tables e below (s₁.setTop (mkF m 11 #[.val (.ref b0), .val (.ref b1), .val (.int (2 : Int32))] [(.ref b0), (.int (2 : Int32))])) _
    refine X0.arraylength hx (by rw [e0]; exact Ar9.1) (State.isArrayOf_alike hZ.alike Ar9.2.1) (g := (mkF m 11 #[.val (.ref b0), .val (.ref b1), .val (.int (2 : Int32))] [(.ref b0), (.int (2 : Int32))])) rfl rfl (hb hby d_own_rmLe00_11) _ ?_
    rw [len_of Sz9 M9]
    show Steps p.tables e below (s₁.setTop (mkF m 12 #[.val (.ref b0), .val (.ref b1), .val (.int (2 : Int32))] [(.int (10 : Int32)), (.int (2 : Int32))])) _
    refine XS.icmpNo X0.here hx rfl (hb hby d_own_rmLe00_12) rfl (tlt ((by decide) : (2 : Int32) < (10 : Int32))).2.1 ?_
    show Steps p.tables e below (s₁.setTop (mkF m 15 #[.val (.ref b0), .val (.ref b1), .val (.int (2 : Int32))] [])) _
    refine XS.aloadN X0.here hx rfl (hb hby d_own_rmLe00_15) rfl rfl ?_
    show Steps p.tables e below (s₁.setTop (mkF m 16 #[.val (.ref b0), .val (.ref b1), .val (.int (2 : Int32))] [(.ref b0)])) _
    refine XS.iloadN X0.here hx rfl (hb hby d_own_rmLe00_16) rfl ?_
    show Steps p.tables e below (s₁.setTop (mkF m 17 #[.val (.ref b0), .val (.ref b1), .val (.int (2 : Int32))] [(.int (2 : Int32)), (.ref b0)])) _
    refine X0.baloadBytes hx (j := (2 : Int32)) (v := (.int (113 : Int32))) (by rw [e0]; exact Ar10.1) (State.isArrayOf_alike hZ.alike Ar10.2.1) Ar10.2.2 hin10 hat10 (g := (mkF m 17 #[.val (.ref b0), .val (.ref b1), .val (.int (2 : Int32))] [(.int (2 : Int32)), (.ref b0)])) rfl rfl (hb hby d_own_rmLe00_17) _ ?_
    show Steps p.tables e below (s₁.setTop (mkF m 18 #[.val (.ref b0), .val (.ref b1), .val (.int (2 : Int32))] [(.int (113 : Int32))])) _
    refine XS.aloadN X0.here hx rfl (hb hby d_own_rmLe00_18) rfl rfl ?_
    show Steps p.tables e below (s₁.setTop (mkF m 19 #[.val (.ref b0), .val (.ref b1), .val (.int (2 : Int32))] [(.ref b1), (.int (113 : Int32))])) _
    refine XS.iloadN X0.here hx rfl (hb hby d_own_rmLe00_19) rfl ?_
    show Steps p.tables e below (s₁.setTop (mkF m 20 #[.val (.ref b0), .val (.ref b1), .val (.int (2 : Int32))] [(.int (2 : Int32)), (.ref b1), (.int (113 : Int32))])) _
    refine X0.baloadBytes hx (j := (2 : Int32)) (v := (.int (113 : Int32))) (by rw [e0]; exact Ar11.1) (State.isArrayOf_alike hZ.alike Ar11.2.1) Ar11.2.2 hin11 hat11 (g := (mkF m 20 #[.val (.ref b0), .val (.ref b1), .val (.int (2 : Int32))] [(.int (2 : Int32)), (.ref b1), (.int (113 : Int32))])) rfl rfl (hb hby d_own_rmLe00_20) _ ?_
    show Steps p.tables e below (s₁.setTop (mkF m 21 #[.val (.ref b0), .val (.ref b1), .val (.int (2 : Int32))] [(.int (113 : Int32)), (.int (113 : Int32))])) _
    refine XS.icmpYes X0.here hx rfl (pc0 := 21) (pc' := 26) rfl (hb hby d_own_rmLe00_21) rfl (teq ((by decide) : (113 : Int32) = (113 : Int32))).1 (by decide) (by decide) ?_
    show Steps p.tables e below (s₁.setTop (mkF m 26 #[.val (.ref b0), .val (.ref b1), .val (.int (2 : Int32))] [])) _
    refine XS.iinc X0.here hx rfl (hb hby d_own_rmLe00_26) rfl (l' := #[.val (.ref b0), .val (.ref b1), .val (.int (3 : Int32))]) rfl ?_
    show Steps p.tables e below (s₁.setTop (mkF m 29 #[.val (.ref b0), .val (.ref b1), .val (.int (3 : Int32))] [])) _
    refine XS.goto X0.here hx rfl (pc0 := 29) (pc' := 9) rfl (hb hby d_own_rmLe00_29) (by decide) (by decide) ?_
    show Steps p.tables e below (s₁.setTop (mkF m 9 #[.val (.ref b0), .val (.ref b1), .val (.int (3 : Int32))] [])) _
    refine XS.iloadN X0.here hx rfl (hb hby d_own_rmLe00_9) rfl ?_
    show Steps p.tables e below (s₁.setTop (mkF m 10 #[.val (.ref b0), .val (.ref b1), .val (.int (3 : Int32))] [(.int (3 : Int32))])) _
    refine XS.aloadN X0.here hx rfl (hb hby d_own_rmLe00_10) rfl rfl ?_
    show Steps p.tables e below (s₁.setTop (mkF m 11 #[.val (.ref b0), .val (.ref b1), .val (.int (3 : Int32))] [(.ref b0), (.int (3 : Int32))])) _
    refine X0.arraylength hx (by rw [e0]; exact Ar12.1) (State.isArrayOf_alike hZ.alike Ar12.2.1) (g := (mkF m 11 #[.val (.ref b0), .val (.ref b1), .val (.int (3 : Int32))] [(.ref b0), (.int (3 : Int32))])) rfl rfl (hb hby d_own_rmLe00_11) _ ?_
    rw [len_of Sz12 M12]
    show Steps p.tables e below (s₁.setTop (mkF m 12 #[.val (.ref b0), .val (.ref b1), .val (.int (3 : Int32))] [(.int (10 : Int32)), (.int (3 : Int32))])) _
    refine XS.icmpNo X0.here hx rfl (hb hby d_own_rmLe00_12) rfl (tlt ((by decide) : (3 : Int32) < (10 : Int32))).2.1 ?_
    show Steps p.tables e below (s₁.setTop (mkF m 15 #[.val (.ref b0), .val (.ref b1), .val (.int (3 : Int32))] [])) _
    refine XS.aloadN X0.here hx rfl (hb hby d_own_rmLe00_15) rfl rfl ?_
    show Steps p.tables e below (s₁.setTop (mkF m 16 #[.val (.ref b0), .val (.ref b1), .val (.int (3 : Int32))] [(.ref b0)])) _
    refine XS.iloadN X0.here hx rfl (hb hby d_own_rmLe00_16) rfl ?_
    show Steps p.tables e below (s₁.setTop (mkF m 17 #[.val (.ref b0), .val (.ref b1), .val (.int (3 : Int32))] [(.int (3 : Int32)), (.ref b0)])) _
    refine X0.baloadBytes hx (j := (3 : Int32)) (v := (.int (117 : Int32))) (by rw [e0]; exact Ar13.1) (State.isArrayOf_alike hZ.alike Ar13.2.1) Ar13.2.2 hin13 hat13 (g := (mkF m 17 #[.val (.ref b0), .val (.ref b1), .val (.int (3 : Int32))] [(.int (3 : Int32)), (.ref b0)])) rfl rfl (hb hby d_own_rmLe00_17) _ ?_
    show Steps p.tables e below (s₁.setTop (mkF m 18 #[.val (.ref b0), .val (.ref b1), .val (.int (3 : Int32))] [(.int (117 : Int32))])) _
    refine XS.aloadN X0.here hx rfl (hb hby d_own_rmLe00_18) rfl rfl ?_
    show Steps p.tables e below (s₁.setTop (mkF m 19 #[.val (.ref b0), .val (.ref b1), .val (.int (3 : Int32))] [(.ref b1), (.int (117 : Int32))])) _
    refine XS.iloadN X0.here hx rfl (hb hby d_own_rmLe00_19) rfl ?_
    show Steps p.tables e below (s₁.setTop (mkF m 20 #[.val (.ref b0), .val (.ref b1), .val (.int (3 : Int32))] [(.int (3 : Int32)), (.ref b1), (.int (117 : Int32))])) _
    refine X0.baloadBytes hx (j := (3 : Int32)) (v := (.int (117 : Int32))) (by rw [e0]; exact Ar14.1) (State.isArrayOf_alike hZ.alike Ar14.2.1) Ar14.2.2 hin14 hat14 (g := (mkF m 20 #[.val (.ref b0), .val (.ref b1), .val (.int (3 : Int32))] [(.int (3 : Int32)), (.ref b1), (.int (117 : Int32))])) rfl rfl (hb hby d_own_rmLe00_20) _ ?_
    show Steps p.tables e below (s₁.setTop (mkF m 21 #[.val (.ref b0), .val (.ref b1), .val (.int (3 : Int32))] [(.int (117 : Int32)), (.int (117 : Int32))])) _
    refine XS.icmpYes X0.here hx rfl (pc0 := 21) (pc' := 26) rfl (hb hby d_own_rmLe00_21) rfl (teq ((by decide) : (117 : Int32) = (117 : Int32))).1 (by decide) (by decide) ?_
    show Steps p.tables e below (s₁.setTop (mkF m 26 #[.val (.ref b0), .val (.ref b1), .val (.int (3 : Int32))] [])) _
    refine XS.iinc X0.here hx rfl (hb hby d_own_rmLe00_26) rfl (l' := #[.val (.ref b0), .val (.ref b1), .val (.int (4 : Int32))]) rfl ?_
    show Steps p.tables e below (s₁.setTop (mkF m 29 #[.val (.ref b0), .val (.ref b1), .val (.int (4 : Int32))] [])) _
    refine XS.goto X0.here hx rfl (pc0 := 29) (pc' := 9) rfl (hb hby d_own_rmLe00_29) (by decide) (by decide) ?_
    show Steps p.tables e below (s₁.setTop (mkF m 9 #[.val (.ref b0), .val (.ref b1), .val (.int (4 : Int32))] [])) _
    refine XS.iloadN X0.here hx rfl (hb hby d_own_rmLe00_9) rfl ?_
    show Steps p.tables e below (s₁.setTop (mkF m 10 #[.val (.ref b0), .val (.ref b1), .val (.int (4 : Int32))] [(.int (4 : Int32))])) _
    refine XS.aloadN X0.here hx rfl (hb hby d_own_rmLe00_10) rfl rfl ?_
    show Steps p.tables e below (s₁.setTop (mkF m 11 #[.val (.ref b0), .val (.ref b1), .val (.int (4 : Int32))] [(.ref b0), (.int (4 : Int32))])) _
    refine X0.arraylength hx (by rw [e0]; exact Ar15.1) (State.isArrayOf_alike hZ.alike Ar15.2.1) (g := (mkF m 11 #[.val (.ref b0), .val (.ref b1), .val (.int (4 : Int32))] [(.ref b0), (.int (4 : Int32))])) rfl rfl (hb hby d_own_rmLe00_11) _ ?_
    rw [len_of Sz15 M15]
    show Steps p.tables e below (s₁.setTop (mkF m 12 #[.val (.ref b0), .val (.ref b1), .val (.int (4 : Int32))] [(.int (10 : Int32)), (.int (4 : Int32))])) _
    refine XS.icmpNo X0.here hx rfl (hb hby d_own_rmLe00_12) rfl (tlt ((by decide) : (4 : Int32) < (10 : Int32))).2.1 ?_
    show Steps p.tables e below (s₁.setTop (mkF m 15 #[.val (.ref b0), .val (.ref b1), .val (.int (4 : Int32))] [])) _
    refine XS.aloadN X0.here hx rfl (hb hby d_own_rmLe00_15) rfl rfl ?_
    show Steps p.tables e below (s₁.setTop (mkF m 16 #[.val (.ref b0), .val (.ref b1), .val (.int (4 : Int32))] [(.ref b0)])) _
    refine XS.iloadN X0.here hx rfl (hb hby d_own_rmLe00_16) rfl ?_
    show Steps p.tables e below (s₁.setTop (mkF m 17 #[.val (.ref b0), .val (.ref b1), .val (.int (4 : Int32))] [(.int (4 : Int32)), (.ref b0)])) _
    refine X0.baloadBytes hx (j := (4 : Int32)) (v := (.int (101 : Int32))) (by rw [e0]; exact Ar16.1) (State.isArrayOf_alike hZ.alike Ar16.2.1) Ar16.2.2 hin16 hat16 (g := (mkF m 17 #[.val (.ref b0), .val (.ref b1), .val (.int (4 : Int32))] [(.int (4 : Int32)), (.ref b0)])) rfl rfl (hb hby d_own_rmLe00_17) _ ?_
    show Steps p.tables e below (s₁.setTop (mkF m 18 #[.val (.ref b0), .val (.ref b1), .val (.int (4 : Int32))] [(.int (101 : Int32))])) _
    refine XS.aloadN X0.here hx rfl (hb hby d_own_rmLe00_18) rfl rfl ?_
    show Steps p.tables e below (s₁.setTop (mkF m 19 #[.val (.ref b0), .val (.ref b1), .val (.int (4 : Int32))] [(.ref b1), (.int (101 : Int32))])) _
    refine XS.iloadN X0.here hx rfl (hb hby d_own_rmLe00_19) rfl ?_
    show Steps p.tables e below (s₁.setTop (mkF m 20 #[.val (.ref b0), .val (.ref b1), .val (.int (4 : Int32))] [(.int (4 : Int32)), (.ref b1), (.int (101 : Int32))])) _
    refine X0.baloadBytes hx (j := (4 : Int32)) (v := (.int (101 : Int32))) (by rw [e0]; exact Ar17.1) (State.isArrayOf_alike hZ.alike Ar17.2.1) Ar17.2.2 hin17 hat17 (g := (mkF m 20 #[.val (.ref b0), .val (.ref b1), .val (.int (4 : Int32))] [(.int (4 : Int32)), (.ref b1), (.int (101 : Int32))])) rfl rfl (hb hby d_own_rmLe00_20) _ ?_
    show Steps p.tables e below (s₁.setTop (mkF m 21 #[.val (.ref b0), .val (.ref b1), .val (.int (4 : Int32))] [(.int (101 : Int32)), (.int (101 : Int32))])) _
    refine XS.icmpYes X0.here hx rfl (pc0 := 21) (pc' := 26) rfl (hb hby d_own_rmLe00_21) rfl (teq ((by decide) : (101 : Int32) = (101 : Int32))).1 (by decide) (by decide) ?_
    show Steps p.tables e below (s₁.setTop (mkF m 26 #[.val (.ref b0), .val (.ref b1), .val (.int (4 : Int32))] [])) _
    refine XS.iinc X0.here hx rfl (hb hby d_own_rmLe00_26) rfl (l' := #[.val (.ref b0), .val (.ref b1), .val (.int (5 : Int32))]) rfl ?_
    show Steps p.tables e below (s₁.setTop (mkF m 29 #[.val (.ref b0), .val (.ref b1), .val (.int (5 : Int32))] [])) _
    refine XS.goto X0.here hx rfl (pc0 := 29) (pc' := 9) rfl (hb hby d_own_rmLe00_29) (by decide) (by decide) ?_
    show Steps p.tables e below (s₁.setTop (mkF m 9 #[.val (.ref b0), .val (.ref b1), .val (.int (5 : Int32))] [])) _
    refine XS.iloadN X0.here hx rfl (hb hby d_own_rmLe00_9) rfl ?_
    show Steps p.tables e below (s₁.setTop (mkF m 10 #[.val (.ref b0), .val (.ref b1), .val (.int (5 : Int32))] [(.int (5 : Int32))])) _
    refine XS.aloadN X0.here hx rfl (hb hby d_own_rmLe00_10) rfl rfl ?_
    show Steps p.tables e below (s₁.setTop (mkF m 11 #[.val (.ref b0), .val (.ref b1), .val (.int (5 : Int32))] [(.ref b0), (.int (5 : Int32))])) _
    refine X0.arraylength hx (by rw [e0]; exact Ar18.1) (State.isArrayOf_alike hZ.alike Ar18.2.1) (g := (mkF m 11 #[.val (.ref b0), .val (.ref b1), .val (.int (5 : Int32))] [(.ref b0), (.int (5 : Int32))])) rfl rfl (hb hby d_own_rmLe00_11) _ ?_
    rw [len_of Sz18 M18]
    show Steps p.tables e below (s₁.setTop (mkF m 12 #[.val (.ref b0), .val (.ref b1), .val (.int (5 : Int32))] [(.int (10 : Int32)), (.int (5 : Int32))])) _
    refine XS.icmpNo X0.here hx rfl (hb hby d_own_rmLe00_12) rfl (tlt ((by decide) : (5 : Int32) < (10 : Int32))).2.1 ?_
    show Steps p.tables e below (s₁.setTop (mkF m 15 #[.val (.ref b0), .val (.ref b1), .val (.int (5 : Int32))] [])) _
    refine XS.aloadN X0.here hx rfl (hb hby d_own_rmLe00_15) rfl rfl ?_
    show Steps p.tables e below (s₁.setTop (mkF m 16 #[.val (.ref b0), .val (.ref b1), .val (.int (5 : Int32))] [(.ref b0)])) _
    refine XS.iloadN X0.here hx rfl (hb hby d_own_rmLe00_16) rfl ?_
    show Steps p.tables e below (s₁.setTop (mkF m 17 #[.val (.ref b0), .val (.ref b1), .val (.int (5 : Int32))] [(.int (5 : Int32)), (.ref b0)])) _
    refine X0.baloadBytes hx (j := (5 : Int32)) (v := (.int (110 : Int32))) (by rw [e0]; exact Ar19.1) (State.isArrayOf_alike hZ.alike Ar19.2.1) Ar19.2.2 hin19 hat19 (g := (mkF m 17 #[.val (.ref b0), .val (.ref b1), .val (.int (5 : Int32))] [(.int (5 : Int32)), (.ref b0)])) rfl rfl (hb hby d_own_rmLe00_17) _ ?_
    show Steps p.tables e below (s₁.setTop (mkF m 18 #[.val (.ref b0), .val (.ref b1), .val (.int (5 : Int32))] [(.int (110 : Int32))])) _
    refine XS.aloadN X0.here hx rfl (hb hby d_own_rmLe00_18) rfl rfl ?_
    show Steps p.tables e below (s₁.setTop (mkF m 19 #[.val (.ref b0), .val (.ref b1), .val (.int (5 : Int32))] [(.ref b1), (.int (110 : Int32))])) _
    refine XS.iloadN X0.here hx rfl (hb hby d_own_rmLe00_19) rfl ?_
    show Steps p.tables e below (s₁.setTop (mkF m 20 #[.val (.ref b0), .val (.ref b1), .val (.int (5 : Int32))] [(.int (5 : Int32)), (.ref b1), (.int (110 : Int32))])) _
    refine X0.baloadBytes hx (j := (5 : Int32)) (v := (.int (110 : Int32))) (by rw [e0]; exact Ar20.1) (State.isArrayOf_alike hZ.alike Ar20.2.1) Ar20.2.2 hin20 hat20 (g := (mkF m 20 #[.val (.ref b0), .val (.ref b1), .val (.int (5 : Int32))] [(.int (5 : Int32)), (.ref b1), (.int (110 : Int32))])) rfl rfl (hb hby d_own_rmLe00_20) _ ?_
    show Steps p.tables e below (s₁.setTop (mkF m 21 #[.val (.ref b0), .val (.ref b1), .val (.int (5 : Int32))] [(.int (110 : Int32)), (.int (110 : Int32))])) _
    refine XS.icmpYes X0.here hx rfl (pc0 := 21) (pc' := 26) rfl (hb hby d_own_rmLe00_21) rfl (teq ((by decide) : (110 : Int32) = (110 : Int32))).1 (by decide) (by decide) ?_
    show Steps p.tables e below (s₁.setTop (mkF m 26 #[.val (.ref b0), .val (.ref b1), .val (.int (5 : Int32))] [])) _
    refine XS.iinc X0.here hx rfl (hb hby d_own_rmLe00_26) rfl (l' := #[.val (.ref b0), .val (.ref b1), .val (.int (6 : Int32))]) rfl ?_
    show Steps p.tables e below (s₁.setTop (mkF m 29 #[.val (.ref b0), .val (.ref b1), .val (.int (6 : Int32))] [])) _
    refine XS.goto X0.here hx rfl (pc0 := 29) (pc' := 9) rfl (hb hby d_own_rmLe00_29) (by decide) (by decide) ?_
    show Steps p.tables e below (s₁.setTop (mkF m 9 #[.val (.ref b0), .val (.ref b1), .val (.int (6 : Int32))] [])) _
    refine XS.iloadN X0.here hx rfl (hb hby d_own_rmLe00_9) rfl ?_
    show Steps p.tables e below (s₁.setTop (mkF m 10 #[.val (.ref b0), .val (.ref b1), .val (.int (6 : Int32))] [(.int (6 : Int32))])) _
    refine XS.aloadN X0.here hx rfl (hb hby d_own_rmLe00_10) rfl rfl ?_
    show Steps p.tables e below (s₁.setTop (mkF m 11 #[.val (.ref b0), .val (.ref b1), .val (.int (6 : Int32))] [(.ref b0), (.int (6 : Int32))])) _
    refine X0.arraylength hx (by rw [e0]; exact Ar21.1) (State.isArrayOf_alike hZ.alike Ar21.2.1) (g := (mkF m 11 #[.val (.ref b0), .val (.ref b1), .val (.int (6 : Int32))] [(.ref b0), (.int (6 : Int32))])) rfl rfl (hb hby d_own_rmLe00_11) _ ?_
    rw [len_of Sz21 M21]
    show Steps p.tables e below (s₁.setTop (mkF m 12 #[.val (.ref b0), .val (.ref b1), .val (.int (6 : Int32))] [(.int (10 : Int32)), (.int (6 : Int32))])) _
    refine XS.icmpNo X0.here hx rfl (hb hby d_own_rmLe00_12) rfl (tlt ((by decide) : (6 : Int32) < (10 : Int32))).2.1 ?_
    show Steps p.tables e below (s₁.setTop (mkF m 15 #[.val (.ref b0), .val (.ref b1), .val (.int (6 : Int32))] [])) _
    refine XS.aloadN X0.here hx rfl (hb hby d_own_rmLe00_15) rfl rfl ?_
    show Steps p.tables e below (s₁.setTop (mkF m 16 #[.val (.ref b0), .val (.ref b1), .val (.int (6 : Int32))] [(.ref b0)])) _
    refine XS.iloadN X0.here hx rfl (hb hby d_own_rmLe00_16) rfl ?_
    show Steps p.tables e below (s₁.setTop (mkF m 17 #[.val (.ref b0), .val (.ref b1), .val (.int (6 : Int32))] [(.int (6 : Int32)), (.ref b0)])) _
    refine X0.baloadBytes hx (j := (6 : Int32)) (v := (.int (116 : Int32))) (by rw [e0]; exact Ar22.1) (State.isArrayOf_alike hZ.alike Ar22.2.1) Ar22.2.2 hin22 hat22 (g := (mkF m 17 #[.val (.ref b0), .val (.ref b1), .val (.int (6 : Int32))] [(.int (6 : Int32)), (.ref b0)])) rfl rfl (hb hby d_own_rmLe00_17) _ ?_
    show Steps p.tables e below (s₁.setTop (mkF m 18 #[.val (.ref b0), .val (.ref b1), .val (.int (6 : Int32))] [(.int (116 : Int32))])) _
    refine XS.aloadN X0.here hx rfl (hb hby d_own_rmLe00_18) rfl rfl ?_
    show Steps p.tables e below (s₁.setTop (mkF m 19 #[.val (.ref b0), .val (.ref b1), .val (.int (6 : Int32))] [(.ref b1), (.int (116 : Int32))])) _
    refine XS.iloadN X0.here hx rfl (hb hby d_own_rmLe00_19) rfl ?_
    show Steps p.tables e below (s₁.setTop (mkF m 20 #[.val (.ref b0), .val (.ref b1), .val (.int (6 : Int32))] [(.int (6 : Int32)), (.ref b1), (.int (116 : Int32))])) _
    refine X0.baloadBytes hx (j := (6 : Int32)) (v := (.int (116 : Int32))) (by rw [e0]; exact Ar23.1) (State.isArrayOf_alike hZ.alike Ar23.2.1) Ar23.2.2 hin23 hat23 (g := (mkF m 20 #[.val (.ref b0), .val (.ref b1), .val (.int (6 : Int32))] [(.int (6 : Int32)), (.ref b1), (.int (116 : Int32))])) rfl rfl (hb hby d_own_rmLe00_20) _ ?_
    show Steps p.tables e below (s₁.setTop (mkF m 21 #[.val (.ref b0), .val (.ref b1), .val (.int (6 : Int32))] [(.int (116 : Int32)), (.int (116 : Int32))])) _
    refine XS.icmpYes X0.here hx rfl (pc0 := 21) (pc' := 26) rfl (hb hby d_own_rmLe00_21) rfl (teq ((by decide) : (116 : Int32) = (116 : Int32))).1 (by decide) (by decide) ?_
    show Steps p.tables e below (s₁.setTop (mkF m 26 #[.val (.ref b0), .val (.ref b1), .val (.int (6 : Int32))] [])) _
    refine XS.iinc X0.here hx rfl (hb hby d_own_rmLe00_26) rfl (l' := #[.val (.ref b0), .val (.ref b1), .val (.int (7 : Int32))]) rfl ?_
    show Steps p.tables e below (s₁.setTop (mkF m 29 #[.val (.ref b0), .val (.ref b1), .val (.int (7 : Int32))] [])) _
    refine XS.goto X0.here hx rfl (pc0 := 29) (pc' := 9) rfl (hb hby d_own_rmLe00_29) (by decide) (by decide) ?_
    show Steps p.tables e below (s₁.setTop (mkF m 9 #[.val (.ref b0), .val (.ref b1), .val (.int (7 : Int32))] [])) _
    refine XS.iloadN X0.here hx rfl (hb hby d_own_rmLe00_9) rfl ?_
    show Steps p.tables e below (s₁.setTop (mkF m 10 #[.val (.ref b0), .val (.ref b1), .val (.int (7 : Int32))] [(.int (7 : Int32))])) _
    refine XS.aloadN X0.here hx rfl (hb hby d_own_rmLe00_10) rfl rfl ?_
    show Steps p.tables e below (s₁.setTop (mkF m 11 #[.val (.ref b0), .val (.ref b1), .val (.int (7 : Int32))] [(.ref b0), (.int (7 : Int32))])) _
    refine X0.arraylength hx (by rw [e0]; exact Ar24.1) (State.isArrayOf_alike hZ.alike Ar24.2.1) (g := (mkF m 11 #[.val (.ref b0), .val (.ref b1), .val (.int (7 : Int32))] [(.ref b0), (.int (7 : Int32))])) rfl rfl (hb hby d_own_rmLe00_11) _ ?_
    rw [len_of Sz24 M24]
    show Steps p.tables e below (s₁.setTop (mkF m 12 #[.val (.ref b0), .val (.ref b1), .val (.int (7 : Int32))] [(.int (10 : Int32)), (.int (7 : Int32))])) _
    refine XS.icmpNo X0.here hx rfl (hb hby d_own_rmLe00_12) rfl (tlt ((by decide) : (7 : Int32) < (10 : Int32))).2.1 ?_
    show Steps p.tables e below (s₁.setTop (mkF m 15 #[.val (.ref b0), .val (.ref b1), .val (.int (7 : Int32))] [])) _
    refine XS.aloadN X0.here hx rfl (hb hby d_own_rmLe00_15) rfl rfl ?_
    show Steps p.tables e below (s₁.setTop (mkF m 16 #[.val (.ref b0), .val (.ref b1), .val (.int (7 : Int32))] [(.ref b0)])) _
    refine XS.iloadN X0.here hx rfl (hb hby d_own_rmLe00_16) rfl ?_
    show Steps p.tables e below (s₁.setTop (mkF m 17 #[.val (.ref b0), .val (.ref b1), .val (.int (7 : Int32))] [(.int (7 : Int32)), (.ref b0)])) _
    refine X0.baloadBytes hx (j := (7 : Int32)) (v := (.int (105 : Int32))) (by rw [e0]; exact Ar25.1) (State.isArrayOf_alike hZ.alike Ar25.2.1) Ar25.2.2 hin25 hat25 (g := (mkF m 17 #[.val (.ref b0), .val (.ref b1), .val (.int (7 : Int32))] [(.int (7 : Int32)), (.ref b0)])) rfl rfl (hb hby d_own_rmLe00_17) _ ?_
    show Steps p.tables e below (s₁.setTop (mkF m 18 #[.val (.ref b0), .val (.ref b1), .val (.int (7 : Int32))] [(.int (105 : Int32))])) _
    refine XS.aloadN X0.here hx rfl (hb hby d_own_rmLe00_18) rfl rfl ?_
    show Steps p.tables e below (s₁.setTop (mkF m 19 #[.val (.ref b0), .val (.ref b1), .val (.int (7 : Int32))] [(.ref b1), (.int (105 : Int32))])) _
    refine XS.iloadN X0.here hx rfl (hb hby d_own_rmLe00_19) rfl ?_
    show Steps p.tables e below (s₁.setTop (mkF m 20 #[.val (.ref b0), .val (.ref b1), .val (.int (7 : Int32))] [(.int (7 : Int32)), (.ref b1), (.int (105 : Int32))])) _
    refine X0.baloadBytes hx (j := (7 : Int32)) (v := (.int (105 : Int32))) (by rw [e0]; exact Ar26.1) (State.isArrayOf_alike hZ.alike Ar26.2.1) Ar26.2.2 hin26 hat26 (g := (mkF m 20 #[.val (.ref b0), .val (.ref b1), .val (.int (7 : Int32))] [(.int (7 : Int32)), (.ref b1), (.int (105 : Int32))])) rfl rfl (hb hby d_own_rmLe00_20) _ ?_
    show Steps p.tables e below (s₁.setTop (mkF m 21 #[.val (.ref b0), .val (.ref b1), .val (.int (7 : Int32))] [(.int (105 : Int32)), (.int (105 : Int32))])) _
    refine XS.icmpYes X0.here hx rfl (pc0 := 21) (pc' := 26) rfl (hb hby d_own_rmLe00_21) rfl (teq ((by decide) : (105 : Int32) = (105 : Int32))).1 (by decide) (by decide) ?_
    show Steps p.tables e below (s₁.setTop (mkF m 26 #[.val (.ref b0), .val (.ref b1), .val (.int (7 : Int32))] [])) _
    refine XS.iinc X0.here hx rfl (hb hby d_own_rmLe00_26) rfl (l' := #[.val (.ref b0), .val (.ref b1), .val (.int (8 : Int32))]) rfl ?_
    show Steps p.tables e below (s₁.setTop (mkF m 29 #[.val (.ref b0), .val (.ref b1), .val (.int (8 : Int32))] [])) _
    refine XS.goto X0.here hx rfl (pc0 := 29) (pc' := 9) rfl (hb hby d_own_rmLe00_29) (by decide) (by decide) ?_
    show Steps p.tables e below (s₁.setTop (mkF m 9 #[.val (.ref b0), .val (.ref b1), .val (.int (8 : Int32))] [])) _
    refine XS.iloadN X0.here hx rfl (hb hby d_own_rmLe00_9) rfl ?_
    show Steps p.tables e below (s₁.setTop (mkF m 10 #[.val (.ref b0), .val (.ref b1), .val (.int (8 : Int32))] [(.int (8 : Int32))])) _
    refine XS.aloadN X0.here hx rfl (hb hby d_own_rmLe00_10) rfl rfl ?_
    show Steps p.tables e below (s₁.setTop (mkF m 11 #[.val (.ref b0), .val (.ref b1), .val (.int (8 : Int32))] [(.ref b0), (.int (8 : Int32))])) _
    refine X0.arraylength hx (by rw [e0]; exact Ar27.1) (State.isArrayOf_alike hZ.alike Ar27.2.1) (g := (mkF m 11 #[.val (.ref b0), .val (.ref b1), .val (.int (8 : Int32))] [(.ref b0), (.int (8 : Int32))])) rfl rfl (hb hby d_own_rmLe00_11) _ ?_
    rw [len_of Sz27 M27]
    show Steps p.tables e below (s₁.setTop (mkF m 12 #[.val (.ref b0), .val (.ref b1), .val (.int (8 : Int32))] [(.int (10 : Int32)), (.int (8 : Int32))])) _
    refine XS.icmpNo X0.here hx rfl (hb hby d_own_rmLe00_12) rfl (tlt ((by decide) : (8 : Int32) < (10 : Int32))).2.1 ?_
    show Steps p.tables e below (s₁.setTop (mkF m 15 #[.val (.ref b0), .val (.ref b1), .val (.int (8 : Int32))] [])) _
    refine XS.aloadN X0.here hx rfl (hb hby d_own_rmLe00_15) rfl rfl ?_
    show Steps p.tables e below (s₁.setTop (mkF m 16 #[.val (.ref b0), .val (.ref b1), .val (.int (8 : Int32))] [(.ref b0)])) _
    refine XS.iloadN X0.here hx rfl (hb hby d_own_rmLe00_16) rfl ?_
    show Steps p.tables e below (s₁.setTop (mkF m 17 #[.val (.ref b0), .val (.ref b1), .val (.int (8 : Int32))] [(.int (8 : Int32)), (.ref b0)])) _
    refine X0.baloadBytes hx (j := (8 : Int32)) (v := (.int (97 : Int32))) (by rw [e0]; exact Ar28.1) (State.isArrayOf_alike hZ.alike Ar28.2.1) Ar28.2.2 hin28 hat28 (g := (mkF m 17 #[.val (.ref b0), .val (.ref b1), .val (.int (8 : Int32))] [(.int (8 : Int32)), (.ref b0)])) rfl rfl (hb hby d_own_rmLe00_17) _ ?_
    show Steps p.tables e below (s₁.setTop (mkF m 18 #[.val (.ref b0), .val (.ref b1), .val (.int (8 : Int32))] [(.int (97 : Int32))])) _
    refine XS.aloadN X0.here hx rfl (hb hby d_own_rmLe00_18) rfl rfl ?_
    show Steps p.tables e below (s₁.setTop (mkF m 19 #[.val (.ref b0), .val (.ref b1), .val (.int (8 : Int32))] [(.ref b1), (.int (97 : Int32))])) _
    refine XS.iloadN X0.here hx rfl (hb hby d_own_rmLe00_19) rfl ?_
    show Steps p.tables e below (s₁.setTop (mkF m 20 #[.val (.ref b0), .val (.ref b1), .val (.int (8 : Int32))] [(.int (8 : Int32)), (.ref b1), (.int (97 : Int32))])) _
    refine X0.baloadBytes hx (j := (8 : Int32)) (v := (.int (97 : Int32))) (by rw [e0]; exact Ar29.1) (State.isArrayOf_alike hZ.alike Ar29.2.1) Ar29.2.2 hin29 hat29 (g := (mkF m 20 #[.val (.ref b0), .val (.ref b1), .val (.int (8 : Int32))] [(.int (8 : Int32)), (.ref b1), (.int (97 : Int32))])) rfl rfl (hb hby d_own_rmLe00_20) _ ?_
    show Steps p.tables e below (s₁.setTop (mkF m 21 #[.val (.ref b0), .val (.ref b1), .val (.int (8 : Int32))] [(.int (97 : Int32)), (.int (97 : Int32))])) _
    refine XS.icmpYes X0.here hx rfl (pc0 := 21) (pc' := 26) rfl (hb hby d_own_rmLe00_21) rfl (teq ((by decide) : (97 : Int32) = (97 : Int32))).1 (by decide) (by decide) ?_
    show Steps p.tables e below (s₁.setTop (mkF m 26 #[.val (.ref b0), .val (.ref b1), .val (.int (8 : Int32))] [])) _
    refine XS.iinc X0.here hx rfl (hb hby d_own_rmLe00_26) rfl (l' := #[.val (.ref b0), .val (.ref b1), .val (.int (9 : Int32))]) rfl ?_
    show Steps p.tables e below (s₁.setTop (mkF m 29 #[.val (.ref b0), .val (.ref b1), .val (.int (9 : Int32))] [])) _
    refine XS.goto X0.here hx rfl (pc0 := 29) (pc' := 9) rfl (hb hby d_own_rmLe00_29) (by decide) (by decide) ?_
    show Steps p.tables e below (s₁.setTop (mkF m 9 #[.val (.ref b0), .val (.ref b1), .val (.int (9 : Int32))] [])) _
    refine XS.iloadN X0.here hx rfl (hb hby d_own_rmLe00_9) rfl ?_
    show Steps p.tables e below (s₁.setTop (mkF m 10 #[.val (.ref b0), .val (.ref b1), .val (.int (9 : Int32))] [(.int (9 : Int32))])) _
    refine XS.aloadN X0.here hx rfl (hb hby d_own_rmLe00_10) rfl rfl ?_
    show Steps p.tables e below (s₁.setTop (mkF m 11 #[.val (.ref b0), .val (.ref b1), .val (.int (9 : Int32))] [(.ref b0), (.int (9 : Int32))])) _
    refine X0.arraylength hx (by rw [e0]; exact Ar30.1) (State.isArrayOf_alike hZ.alike Ar30.2.1) (g := (mkF m 11 #[.val (.ref b0), .val (.ref b1), .val (.int (9 : Int32))] [(.ref b0), (.int (9 : Int32))])) rfl rfl (hb hby d_own_rmLe00_11) _ ?_
    rw [len_of Sz30 M30]
    show Steps p.tables e below (s₁.setTop (mkF m 12 #[.val (.ref b0), .val (.ref b1), .val (.int (9 : Int32))] [(.int (10 : Int32)), (.int (9 : Int32))])) _
    refine XS.icmpNo X0.here hx rfl (hb hby d_own_rmLe00_12) rfl (tlt ((by decide) : (9 : Int32) < (10 : Int32))).2.1 ?_
    show Steps p.tables e below (s₁.setTop (mkF m 15 #[.val (.ref b0), .val (.ref b1), .val (.int (9 : Int32))] [])) _
    refine XS.aloadN X0.here hx rfl (hb hby d_own_rmLe00_15) rfl rfl ?_
    show Steps p.tables e below (s₁.setTop (mkF m 16 #[.val (.ref b0), .val (.ref b1), .val (.int (9 : Int32))] [(.ref b0)])) _
    refine XS.iloadN X0.here hx rfl (hb hby d_own_rmLe00_16) rfl ?_
    show Steps p.tables e below (s₁.setTop (mkF m 17 #[.val (.ref b0), .val (.ref b1), .val (.int (9 : Int32))] [(.int (9 : Int32)), (.ref b0)])) _
    refine X0.baloadBytes hx (j := (9 : Int32)) (v := (.int (108 : Int32))) (by rw [e0]; exact Ar31.1) (State.isArrayOf_alike hZ.alike Ar31.2.1) Ar31.2.2 hin31 hat31 (g := (mkF m 17 #[.val (.ref b0), .val (.ref b1), .val (.int (9 : Int32))] [(.int (9 : Int32)), (.ref b0)])) rfl rfl (hb hby d_own_rmLe00_17) _ ?_
    show Steps p.tables e below (s₁.setTop (mkF m 18 #[.val (.ref b0), .val (.ref b1), .val (.int (9 : Int32))] [(.int (108 : Int32))])) _
    refine XS.aloadN X0.here hx rfl (hb hby d_own_rmLe00_18) rfl rfl ?_
    show Steps p.tables e below (s₁.setTop (mkF m 19 #[.val (.ref b0), .val (.ref b1), .val (.int (9 : Int32))] [(.ref b1), (.int (108 : Int32))])) _
    refine XS.iloadN X0.here hx rfl (hb hby d_own_rmLe00_19) rfl ?_
    show Steps p.tables e below (s₁.setTop (mkF m 20 #[.val (.ref b0), .val (.ref b1), .val (.int (9 : Int32))] [(.int (9 : Int32)), (.ref b1), (.int (108 : Int32))])) _
    refine X0.baloadBytes hx (j := (9 : Int32)) (v := (.int (108 : Int32))) (by rw [e0]; exact Ar32.1) (State.isArrayOf_alike hZ.alike Ar32.2.1) Ar32.2.2 hin32 hat32 (g := (mkF m 20 #[.val (.ref b0), .val (.ref b1), .val (.int (9 : Int32))] [(.int (9 : Int32)), (.ref b1), (.int (108 : Int32))])) rfl rfl (hb hby d_own_rmLe00_20) _ ?_
    show Steps p.tables e below (s₁.setTop (mkF m 21 #[.val (.ref b0), .val (.ref b1), .val (.int (9 : Int32))] [(.int (108 : Int32)), (.int (108 : Int32))])) _
    refine XS.icmpYes X0.here hx rfl (pc0 := 21) (pc' := 26) rfl (hb hby d_own_rmLe00_21) rfl (teq ((by decide) : (108 : Int32) = (108 : Int32))).1 (by decide) (by decide) ?_
    show Steps p.tables e below (s₁.setTop (mkF m 26 #[.val (.ref b0), .val (.ref b1), .val (.int (9 : Int32))] [])) _
    refine XS.iinc X0.here hx rfl (hb hby d_own_rmLe00_26) rfl (l' := #[.val (.ref b0), .val (.ref b1), .val (.int (10 : Int32))]) rfl ?_
    show Steps p.tables e below (s₁.setTop (mkF m 29 #[.val (.ref b0), .val (.ref b1), .val (.int (10 : Int32))] [])) _
    refine XS.goto X0.here hx rfl (pc0 := 29) (pc' := 9) rfl (hb hby d_own_rmLe00_29) (by decide) (by decide) ?_
    show Steps p.tables e below (s₁.setTop (mkF m 9 #[.val (.ref b0), .val (.ref b1), .val (.int (10 : Int32))] [])) _
    refine XS.iloadN X0.here hx rfl (hb hby d_own_rmLe00_9) rfl ?_
    show Steps p.tables e below (s₁.setTop (mkF m 10 #[.val (.ref b0), .val (.ref b1), .val (.int (10 : Int32))] [(.int (10 : Int32))])) _
    refine XS.aloadN X0.here hx rfl (hb hby d_own_rmLe00_10) rfl rfl ?_
    show Steps p.tables e below (s₁.setTop (mkF m 11 #[.val (.ref b0), .val (.ref b1), .val (.int (10 : Int32))] [(.ref b0), (.int (10 : Int32))])) _
    refine X0.arraylength hx (by rw [e0]; exact Ar33.1) (State.isArrayOf_alike hZ.alike Ar33.2.1) (g := (mkF m 11 #[.val (.ref b0), .val (.ref b1), .val (.int (10 : Int32))] [(.ref b0), (.int (10 : Int32))])) rfl rfl (hb hby d_own_rmLe00_11) _ ?_
    rw [len_of Sz33 M33]
    show Steps p.tables e below (s₁.setTop (mkF m 12 #[.val (.ref b0), .val (.ref b1), .val (.int (10 : Int32))] [(.int (10 : Int32)), (.int (10 : Int32))])) _
    refine XS.icmpYes X0.here hx rfl (pc0 := 12) (pc' := 32) rfl (hb hby d_own_rmLe00_12) rfl (flt ((by decide) : ¬ ((10 : Int32) < (10 : Int32)))).2.1 (by decide) (by decide) ?_
    show Steps p.tables e below (s₁.setTop (mkF m 32 #[.val (.ref b0), .val (.ref b1), .val (.int (10 : Int32))] [])) _
    refine XS.iconst X0.here hx rfl (hb hby d_own_rmLe00_32) ?_
    show Steps p.tables e below (s₁.setTop (mkF m 33 #[.val (.ref b0), .val (.ref b1), .val (.int (10 : Int32))] [(.int (1 : Int32))])) _
    exact retN X0 hx (t := .boolean) Bd.returns (by simp) (hb hby d_own_rmLe00_33) hr
  · show own_QI (1 : Int32) h0 n0 _ s₁.heap _
    rw [e0]
    exact ⟨rfl, N0, rfl⟩
theorem d_own_rmEq00_0 : decode jdk_42_method_66_code 0 = .ok (.aload_n 0, 1) := by decide +kernel
theorem d_own_rmEq00_1 : decode jdk_42_method_66_code 1 = .ok (.aload_n 1, 1) := by decide +kernel
theorem d_own_rmEq00_2 : decode jdk_42_method_66_code 2 = .ok (.if_acmp .ne 5, 3) := by decide +kernel
theorem d_own_rmEq00_7 : decode jdk_42_method_66_code 7 = .ok (.aload_n 1, 1) := by decide +kernel
theorem d_own_rmEq00_8 : decode jdk_42_method_66_code 8 = .ok (.instanceof 10, 3) := by decide +kernel
theorem d_own_rmEq00_11 : decode jdk_42_method_66_code 11 = .ok (.ifCond .eq 43, 3) := by decide +kernel
theorem d_own_rmEq00_14 : decode jdk_42_method_66_code 14 = .ok (.aload_n 1, 1) := by decide +kernel
theorem d_own_rmEq00_15 : decode jdk_42_method_66_code 15 = .ok (.checkcast 10, 3) := by decide +kernel
theorem d_own_rmEq00_18 : decode jdk_42_method_66_code 18 = .ok (.astore_n 2, 1) := by decide +kernel
theorem d_own_rmEq00_19 : decode jdk_42_method_66_code 19 = .ok (.getstatic 38, 3) := by decide +kernel
theorem d_own_rmEq00_22 : decode jdk_42_method_66_code 22 = .ok (.ifCond .eq 14, 3) := by decide +kernel
theorem d_own_rmEq00_25 : decode jdk_42_method_66_code 25 = .ok (.aload_n 0, 1) := by decide +kernel
theorem d_own_rmEq00_26 : decode jdk_42_method_66_code 26 = .ok (.getfield 15, 3) := by decide +kernel
theorem d_own_rmEq00_29 : decode jdk_42_method_66_code 29 = .ok (.aload_n 2, 1) := by decide +kernel
theorem d_own_rmEq00_30 : decode jdk_42_method_66_code 30 = .ok (.getfield 15, 3) := by decide +kernel
theorem d_own_rmEq00_33 : decode jdk_42_method_66_code 33 = .ok (.if_icmp .ne 21, 3) := by decide +kernel
theorem d_own_rmEq00_36 : decode jdk_42_method_66_code 36 = .ok (.aload_n 0, 1) := by decide +kernel
theorem d_own_rmEq00_37 : decode jdk_42_method_66_code 37 = .ok (.getfield 9, 3) := by decide +kernel
theorem d_own_rmEq00_40 : decode jdk_42_method_66_code 40 = .ok (.aload_n 2, 1) := by decide +kernel
theorem d_own_rmEq00_41 : decode jdk_42_method_66_code 41 = .ok (.getfield 9, 3) := by decide +kernel
theorem d_own_rmEq00_44 : decode jdk_42_method_66_code 44 = .ok (.invokestatic 541, 3) := by decide +kernel
theorem d_own_rmEq00_47 : decode jdk_42_method_66_code 47 = .ok (.ifCond .eq 7, 3) := by decide +kernel
theorem d_own_rmEq00_50 : decode jdk_42_method_66_code 50 = .ok (.iconst 1, 1) := by decide +kernel
theorem d_own_rmEq00_51 : decode jdk_42_method_66_code 51 = .ok (.goto 4, 3) := by decide +kernel
theorem d_own_rmEq00_55 : decode jdk_42_method_66_code 55 = .ok (.ireturn, 1) := by decide +kernel
theorem ef_own_rmEq00 (m : MethodId) (x0 : Addr) (x1 : Addr) : entryFrame m #[(.ref x0), (.ref x1)] 3 = mkF m 0 #[.val (.ref x0), .val (.ref x1), .unset] [] := by first | (simp [entryFrame, mkF, argsToLocals, Value.category]; done) | rfl
set_option maxRecDepth 65536 in
set_option maxHeartbeats 40000000 in
theorem own_rmEq00 (l : Launch) (Z : State) (a0 : Array Value) (hw : ∀ d ∈ tables_1, d.before a0 Z = true) (ws : List Jvm.Cond) (b0 : Addr) (b1 : Addr) (v0 v1 : Addr) (kv0 kv1 : ClassId) (cs : Int32) (h0 : Heap) (n0 : Nat) (Z0 : n0 ≤ h0.size) (E_b0 : Exa Z h0 b0 "java/lang/String") (F_cb0 : Fld Z h0 b0 "java/lang/String" "coder" "B" (.int (0 : Int32))) (F_vb0 : Fld Z h0 b0 "java/lang/String" "value" "[B" (.ref v0)) (V_v0 : Arv Z h0 v0 kv0 .byte (10 : Int32) [(.int (115 : Int32)), (.int (101 : Int32)), (.int (113 : Int32)), (.int (117 : Int32)), (.int (101 : Int32)), (.int (110 : Int32)), (.int (116 : Int32)), (.int (105 : Int32)), (.int (97 : Int32)), (.int (108 : Int32))] (.int (0 : Int32))) (E_b1 : Exa Z h0 b1 "java/lang/String") (F_cb1 : Fld Z h0 b1 "java/lang/String" "coder" "B" (.int (0 : Int32))) (F_vb1 : Fld Z h0 b1 "java/lang/String" "value" "[B" (.ref v1)) (V_v1 : Arv Z h0 v1 kv1 .byte (10 : Int32) [(.int (115 : Int32)), (.int (101 : Int32)), (.int (113 : Int32)), (.int (117 : Int32)), (.int (101 : Int32)), (.int (110 : Int32)), (.int (116 : Int32)), (.int (105 : Int32)), (.int (97 : Int32)), (.int (108 : Int32))] (.int (0 : Int32))) (S_cs : Sta Z h0 "java/lang/String" "COMPACT_STRINGS" "Z" (.int cs)) (hcs : ¬ cs = (0 : Int32)) (h01 : ¬ b0 = b1) :
    MetFree l (⟨"java/lang/String", "equals", "(Ljava/lang/Object;)Z"⟩ : MethodName) (head1 (Jvm.Cond.code (⟨"java/lang/String", "equals", "(Ljava/lang/Object;)Z"⟩ : MethodName) jdk_42_method_66_code 3 (some .boolean) :: ws) ({ frames := 1, cells := 0, slots := 0, locals := 14 } : Room)) (fun a U => a = #[(.ref b0), (.ref b1)] ∧ Z.Warmed39 U.vm ∧ U.heap = h0) (fun _ _ _ _ _ => True) (fun _ U o U' => ∃ v L, o = .returned v ∧ own_QI (1 : Int32) h0 n0 v U'.heap L ∧ FrameEnd U o U' L ({ frames := 1, cells := 0, slots := 0, locals := 14 } : Room).cells ({ frames := 1, cells := 0, slots := 0, locals := 14 } : Room).slots) := by
  refine MetFree.of_bodySF (plainFor_of_name own_pn6) hisR ?_
  intro p e s m args below meth c s₁ Bd hml0 hP hK
  obtain ⟨rfl, hZ, hh⟩ := hP
  have hx := Bd.exec
  have hby := Bd.bytes
  have hml : c.maxLocals = 3 := hml0
  have hown : s.vm.findClass "java/lang/String" = some m.cls := findClass_of_methodNamed Bd.named
  have hnm := (name_of_methodNamed Bd.named Bd.method).1
  have X0 : Stand p l e ({ frames := 1, cells := 0, slots := 0, locals := 14 } : Room) s m #[(.ref b0), (.ref b1)] below meth c s₁ [] 0 0 := Stand.of_body Bd
  have e0 : s₁.heap = h0 := by rw [← hh, Bd.state]; rfl
  have N0 := Fr.nil n0
  refine own_go (b := s₁.setTop (mkF m 0 #[.val (.ref b0), .val (.ref b1), .unset] [])) (fun t k => castTop (ef_own_rmEq00 m b0 b1) k) ?_
  obtain ⟨T1, X1, e1, st1⟩ := instY X0 hx hZ hown (hw _ (List.mem_of_getElem? (i := 126) rfl)) e0 (Ins.self E_b1) (g := (mkF m 8 #[.val (.ref b0), .val (.ref b1), .unset] [(.ref b1)])) rfl rfl (hb hby d_own_rmEq00_8)
  obtain ⟨T2, X2, e2, st2⟩ := castY X1 hx hZ hown (hw _ (List.mem_of_getElem? (i := 126) rfl)) e1 (Ins.self E_b1) (g := (mkF m 15 #[.val (.ref b0), .val (.ref b1), .unset] [(.ref b1)])) rfl rfl (hb hby d_own_rmEq00_15)
  obtain ⟨T3, X3, e3, st3⟩ := getS2 X2 hx hZ hown (host := "") (Or.inl (hw _ (List.mem_of_getElem? (i := 127) rfl))) Via.refl e2 S_cs (g := (mkF m 19 #[.val (.ref b0), .val (.ref b1), .val (.ref b1)] [])) rfl (hb hby d_own_rmEq00_19)
  obtain ⟨T4, X4, e4, st4⟩ := getF X3 hx hZ hown (host := "") (Or.inl (hw _ (List.mem_of_getElem? (i := 128) rfl))) Via.refl e3 F_cb0 (g := (mkF m 26 #[.val (.ref b0), .val (.ref b1), .val (.ref b1)] [(.ref b0)])) rfl rfl (hb hby d_own_rmEq00_26)
  obtain ⟨T5, X5, e5, st5⟩ := getF X4 hx hZ hown (host := "") (Or.inl (hw _ (List.mem_of_getElem? (i := 128) rfl))) Via.refl e4 F_cb1 (g := (mkF m 30 #[.val (.ref b0), .val (.ref b1), .val (.ref b1)] [(.ref b1), (.int (0 : Int32))])) rfl rfl (hb hby d_own_rmEq00_30)
  obtain ⟨T6, X6, e6, st6⟩ := getF X5 hx hZ hown (host := "") (Or.inl (hw _ (List.mem_of_getElem? (i := 129) rfl))) Via.refl e5 F_vb0 (g := (mkF m 37 #[.val (.ref b0), .val (.ref b1), .val (.ref b1)] [(.ref b0)])) rfl rfl (hb hby d_own_rmEq00_37)
  obtain ⟨T7, X7, e7, st7⟩ := getF X6 hx hZ hown (host := "") (Or.inl (hw _ (List.mem_of_getElem? (i := 129) rfl))) Via.refl e6 F_vb1 (g := (mkF m 41 #[.val (.ref b0), .val (.ref b1), .val (.ref b1)] [(.ref b1), (.ref v0)])) rfl rfl (hb hby d_own_rmEq00_41)
  obtain ⟨_, _, ⟨T8, L8, k8, n8⟩, -, X8, ⟨Lc8, hQ8, l8, y8, z8⟩, st8⟩ := Jvm.LawKit.callS X7 hx (y := (⟨"java/lang/StringLatin1", "equals", "([B[B)Z"⟩ : MethodName)) hown (mvT hZ (hw _ (List.mem_of_getElem? (i := 130) rfl))) (mvT hZ (hw _ (List.mem_of_getElem? (i := 131) rfl))) (mvT hZ (hw _ (List.mem_of_getElem? (i := 132) rfl))) (mvT hZ (hw _ (List.mem_of_getElem? (i := 133) rfl))) (by decide) (backOf (W := 0) (own_rmLe00 l Z a0 hw [] v0 v1 kv0 kv1 h0 n0 Z0 V_v0 V_v1) hZ (hw _ (List.mem_of_getElem? (i := 133) rfl)) (hw _ (List.mem_of_getElem? (i := 132) rfl)) (by decide) (by decide)) (g := (mkF m 44 #[.val (.ref b0), .val (.ref b1), .val (.ref b1)] [(.ref v1), (.ref v0)])) rfl (by rw [hml]; rfl) (argsL := [(.ref v0), (.ref v1)]) (rest := []) (lenOf own_pd9 rfl) rfl (by show 2 * 0 + _ ≤ _; exact Nat.le_of_eq rfl) (hb hby d_own_rmEq00_44) (fun _ _ => ⟨rfl, e7, (by decide : 0 + 0 ≤ _), (by decide : 0 + 0 ≤ _)⟩)
  dsimp only [Pt.U, Pt.locs, Pt.cells, Pt.slots] at X8 l8 y8 z8 st8 hQ8
  subst l8 y8 z8
  obtain ⟨rfl, N8q, e8⟩ := hQ8
  have N8 := Fr.app N0 N8q
  obtain ⟨fs, hr, hrun, hended, hW, hsame⟩ := X8.leave (v := some (.int (1 : Int32))) (fun h => by rw [Bd.returns] at h; cases h)
  refine ⟨_, _, ?_, hrun, hended, _, _, rfl, ?_, ⟨_, rfl⟩, hW, hsame.mono (by decide) (by decide)⟩
  · show Steps p.tables e below (s₁.setTop (mkF m 0 #[.val (.ref b0), .val (.ref b1), .unset] [])) _
    refine XS.aloadN X0.here hx rfl (hb hby d_own_rmEq00_0) rfl rfl ?_
    show Steps p.tables e below (s₁.setTop (mkF m 1 #[.val (.ref b0), .val (.ref b1), .unset] [(.ref b0)])) _
    refine XS.aloadN X0.here hx rfl (hb hby d_own_rmEq00_1) rfl rfl ?_
    show Steps p.tables e below (s₁.setTop (mkF m 2 #[.val (.ref b0), .val (.ref b1), .unset] [(.ref b1), (.ref b0)])) _
    refine Jvm.RoadKit.acmp (g := (mkF m 2 #[.val (.ref b0), .val (.ref b1), .unset] [(.ref b1), (.ref b0)])) X0 hx rfl rfl rfl (pc0 := 2) (pc' := 7) (same := false) rfl (hb hby d_own_rmEq00_2) rfl (decide_eq_false fun q => (h01 : ¬ (b0 = b1)) (Value.ref.inj q)) (by decide) (by decide) ?_
    show Steps p.tables e below (s₁.setTop (mkF m 7 #[.val (.ref b0), .val (.ref b1), .unset] [])) _
    refine XS.aloadN X0.here hx rfl (hb hby d_own_rmEq00_7) rfl rfl ?_
    show Steps p.tables e below (s₁.setTop (mkF m 8 #[.val (.ref b0), .val (.ref b1), .unset] [(.ref b1)])) _
    refine st1 _ ?_
    show Steps p.tables e below (T1.setTop (mkF m 11 #[.val (.ref b0), .val (.ref b1), .unset] [(.int (1 : Int32))])) _
    refine XS.ifNo X1.here hx rfl (hb hby d_own_rmEq00_11) rfl ((if0 _ _).trans (feq ((by decide) : ¬ ((1 : Int32) = (0 : Int32)))).1) ?_
    show Steps p.tables e below (T1.setTop (mkF m 14 #[.val (.ref b0), .val (.ref b1), .unset] [])) _
    refine XS.aloadN X1.here hx rfl (hb hby d_own_rmEq00_14) rfl rfl ?_
    show Steps p.tables e below (T1.setTop (mkF m 15 #[.val (.ref b0), .val (.ref b1), .unset] [(.ref b1)])) _
    refine st2 _ ?_
    show Steps p.tables e below (T2.setTop (mkF m 18 #[.val (.ref b0), .val (.ref b1), .unset] [(.ref b1)])) _
    refine XS.astoreN X2.here hx rfl (hb hby d_own_rmEq00_18) rfl rfl (l' := #[.val (.ref b0), .val (.ref b1), .val (.ref b1)]) rfl ?_
    show Steps p.tables e below (T2.setTop (mkF m 19 #[.val (.ref b0), .val (.ref b1), .val (.ref b1)] [])) _
    refine st3 _ ?_
    show Steps p.tables e below (T3.setTop (mkF m 22 #[.val (.ref b0), .val (.ref b1), .val (.ref b1)] [(.int cs)])) _
    refine XS.ifNo X3.here hx rfl (hb hby d_own_rmEq00_22) rfl ((if0 _ _).trans (feq (hcs : ¬ (cs = (0 : Int32)))).1) ?_
    show Steps p.tables e below (T3.setTop (mkF m 25 #[.val (.ref b0), .val (.ref b1), .val (.ref b1)] [])) _
    refine XS.aloadN X3.here hx rfl (hb hby d_own_rmEq00_25) rfl rfl ?_
    show Steps p.tables e below (T3.setTop (mkF m 26 #[.val (.ref b0), .val (.ref b1), .val (.ref b1)] [(.ref b0)])) _
    refine st4 _ ?_
    show Steps p.tables e below (T4.setTop (mkF m 29 #[.val (.ref b0), .val (.ref b1), .val (.ref b1)] [(.int (0 : Int32))])) _
    refine XS.aloadN X4.here hx rfl (hb hby d_own_rmEq00_29) rfl rfl ?_
    show Steps p.tables e below (T4.setTop (mkF m 30 #[.val (.ref b0), .val (.ref b1), .val (.ref b1)] [(.ref b1), (.int (0 : Int32))])) _
    refine st5 _ ?_
    show Steps p.tables e below (T5.setTop (mkF m 33 #[.val (.ref b0), .val (.ref b1), .val (.ref b1)] [(.int (0 : Int32)), (.int (0 : Int32))])) _
    refine XS.icmpNo X5.here hx rfl (hb hby d_own_rmEq00_33) rfl (teq ((by decide) : (0 : Int32) = (0 : Int32))).2 ?_
    show Steps p.tables e below (T5.setTop (mkF m 36 #[.val (.ref b0), .val (.ref b1), .val (.ref b1)] [])) _
    refine XS.aloadN X5.here hx rfl (hb hby d_own_rmEq00_36) rfl rfl ?_
    show Steps p.tables e below (T5.setTop (mkF m 37 #[.val (.ref b0), .val (.ref b1), .val (.ref b1)] [(.ref b0)])) _
    refine st6 _ ?_
    show Steps p.tables e below (T6.setTop (mkF m 40 #[.val (.ref b0), .val (.ref b1), .val (.ref b1)] [(.ref v0)])) _
    refine XS.aloadN X6.here hx rfl (hb hby d_own_rmEq00_40) rfl rfl ?_
    show Steps p.tables e below (T6.setTop (mkF m 41 #[.val (.ref b0), .val (.ref b1), .val (.ref b1)] [(.ref b1), (.ref v0)])) _
    refine st7 _ ?_
    show Steps p.tables e below (T7.setTop (mkF m 44 #[.val (.ref b0), .val (.ref b1), .val (.ref b1)] [(.ref v1), (.ref v0)])) _
    refine st8 _ ?_
    show Steps p.tables e below (T8.setTop (mkF m 47 #[.val (.ref b0), .val (.ref b1), .val (.ref b1)] [(.int (1 : Int32))])) _
    refine XS.ifNo X8.here hx rfl (hb hby d_own_rmEq00_47) rfl ((if0 _ _).trans (feq ((by decide) : ¬ ((1 : Int32) = (0 : Int32)))).1) ?_
    show Steps p.tables e below (T8.setTop (mkF m 50 #[.val (.ref b0), .val (.ref b1), .val (.ref b1)] [])) _
    refine XS.iconst X8.here hx rfl (hb hby d_own_rmEq00_50) ?_
    show Steps p.tables e below (T8.setTop (mkF m 51 #[.val (.ref b0), .val (.ref b1), .val (.ref b1)] [(.int (1 : Int32))])) _
    refine XS.goto X8.here hx rfl (pc0 := 51) (pc' := 55) rfl (hb hby d_own_rmEq00_51) (by decide) (by decide) ?_
    show Steps p.tables e below (T8.setTop (mkF m 55 #[.val (.ref b0), .val (.ref b1), .val (.ref b1)] [(.int (1 : Int32))])) _
    exact retN X8 hx (t := .boolean) Bd.returns (by simp) (hb hby d_own_rmEq00_55) hr
  · show own_QI (1 : Int32) h0 n0 _ T8.heap _
    rw [e8]
    exact ⟨rfl, N8, rfl⟩
theorem d_own_rmLe11_0 : decode jdk_43_method_13_code 0 = .ok (.aload_n 0, 1) := by decide +kernel
theorem d_own_rmLe11_1 : decode jdk_43_method_13_code 1 = .ok (.arraylength, 1) := by decide +kernel
theorem d_own_rmLe11_2 : decode jdk_43_method_13_code 2 = .ok (.aload_n 1, 1) := by decide +kernel
theorem d_own_rmLe11_3 : decode jdk_43_method_13_code 3 = .ok (.arraylength, 1) := by decide +kernel
theorem d_own_rmLe11_4 : decode jdk_43_method_13_code 4 = .ok (.if_icmp .ne 30, 3) := by decide +kernel
theorem d_own_rmLe11_7 : decode jdk_43_method_13_code 7 = .ok (.iconst 0, 1) := by decide +kernel
theorem d_own_rmLe11_8 : decode jdk_43_method_13_code 8 = .ok (.istore_n 2, 1) := by decide +kernel
theorem d_own_rmLe11_9 : decode jdk_43_method_13_code 9 = .ok (.iload_n 2, 1) := by decide +kernel
theorem d_own_rmLe11_10 : decode jdk_43_method_13_code 10 = .ok (.aload_n 0, 1) := by decide +kernel
theorem d_own_rmLe11_11 : decode jdk_43_method_13_code 11 = .ok (.arraylength, 1) := by decide +kernel
theorem d_own_rmLe11_12 : decode jdk_43_method_13_code 12 = .ok (.if_icmp .ge 20, 3) := by decide +kernel
theorem d_own_rmLe11_15 : decode jdk_43_method_13_code 15 = .ok (.aload_n 0, 1) := by decide +kernel
theorem d_own_rmLe11_16 : decode jdk_43_method_13_code 16 = .ok (.iload_n 2, 1) := by decide +kernel
theorem d_own_rmLe11_17 : decode jdk_43_method_13_code 17 = .ok (.baload, 1) := by decide +kernel
theorem d_own_rmLe11_18 : decode jdk_43_method_13_code 18 = .ok (.aload_n 1, 1) := by decide +kernel
theorem d_own_rmLe11_19 : decode jdk_43_method_13_code 19 = .ok (.iload_n 2, 1) := by decide +kernel
theorem d_own_rmLe11_20 : decode jdk_43_method_13_code 20 = .ok (.baload, 1) := by decide +kernel
theorem d_own_rmLe11_21 : decode jdk_43_method_13_code 21 = .ok (.if_icmp .eq 5, 3) := by decide +kernel
theorem d_own_rmLe11_26 : decode jdk_43_method_13_code 26 = .ok (.iinc 2 1, 3) := by decide +kernel
theorem d_own_rmLe11_29 : decode jdk_43_method_13_code 29 = .ok (.goto (-20), 3) := by decide +kernel
theorem d_own_rmLe11_32 : decode jdk_43_method_13_code 32 = .ok (.iconst 1, 1) := by decide +kernel
theorem d_own_rmLe11_33 : decode jdk_43_method_13_code 33 = .ok (.ireturn, 1) := by decide +kernel
theorem ef_own_rmLe11 (m : MethodId) (x0 : Addr) (x1 : Addr) : entryFrame m #[(.ref x0), (.ref x1)] 3 = mkF m 0 #[.val (.ref x0), .val (.ref x1), .unset] [] := by first | (simp [entryFrame, mkF, argsToLocals, Value.category]; done) | rfl
set_option maxRecDepth 65536 in
set_option maxHeartbeats 40000000 in
theorem own_rmLe11 (l : Launch) (Z : State) (a0 : Array Value) (hw : ∀ d ∈ tables_1, d.before a0 Z = true) (ws : List Jvm.Cond) (b0 : Addr) (b1 : Addr) (kb0 kb1 : ClassId) (h0 : Heap) (n0 : Nat) (Z0 : n0 ≤ h0.size) (V_b0 : Arv Z h0 b0 kb0 .byte (9 : Int32) [(.int (114 : Int32)), (.int (101 : Int32)), (.int (102 : Int32)), (.int (101 : Int32)), (.int (114 : Int32)), (.int (101 : Int32)), (.int (110 : Int32)), (.int (99 : Int32)), (.int (101 : Int32))] (.int (0 : Int32))) (V_b1 : Arv Z h0 b1 kb1 .byte (9 : Int32) [(.int (114 : Int32)), (.int (101 : Int32)), (.int (102 : Int32)), (.int (101 : Int32)), (.int (114 : Int32)), (.int (101 : Int32)), (.int (110 : Int32)), (.int (99 : Int32)), (.int (101 : Int32))] (.int (0 : Int32))) :
    MetFree l (⟨"java/lang/StringLatin1", "equals", "([B[B)Z"⟩ : MethodName) (head1 (Jvm.Cond.code (⟨"java/lang/StringLatin1", "equals", "([B[B)Z"⟩ : MethodName) jdk_43_method_13_code 3 (some .boolean) :: ws) ({ frames := 0, cells := 0, slots := 0, locals := 0 } : Room)) (fun a U => a = #[(.ref b0), (.ref b1)] ∧ Z.Warmed39 U.vm ∧ U.heap = h0) (fun _ _ _ _ _ => True) (fun _ U o U' => ∃ v L, o = .returned v ∧ own_QI (1 : Int32) h0 n0 v U'.heap L ∧ FrameEnd U o U' L ({ frames := 0, cells := 0, slots := 0, locals := 0 } : Room).cells ({ frames := 0, cells := 0, slots := 0, locals := 0 } : Room).slots) := by
  refine MetFree.of_bodySF (plainFor_of_name own_pn7) hisR ?_
  intro p e s m args below meth c s₁ Bd hml0 hP hK
  obtain ⟨rfl, hZ, hh⟩ := hP
  have hx := Bd.exec
  have hby := Bd.bytes
  have hml : c.maxLocals = 3 := hml0
  have hown : s.vm.findClass "java/lang/StringLatin1" = some m.cls := findClass_of_methodNamed Bd.named
  have hnm := (name_of_methodNamed Bd.named Bd.method).1
  have X0 : Stand p l e ({ frames := 0, cells := 0, slots := 0, locals := 0 } : Room) s m #[(.ref b0), (.ref b1)] below meth c s₁ [] 0 0 := Stand.of_body Bd
  have e0 : s₁.heap = h0 := by rw [← hh, Bd.state]; rfl
  have N0 := Fr.nil n0
  refine own_go (b := s₁.setTop (mkF m 0 #[.val (.ref b0), .val (.ref b1), .unset] [])) (fun t k => castTop (ef_own_rmLe11 m b0 b1) k) ?_
  obtain ⟨cl1, Ar1, -, Sz1, M1, -, -⟩ := id V_b0
  obtain ⟨cl2, Ar2, -, Sz2, M2, -, -⟩ := id V_b1
  obtain ⟨cl3, Ar3, -, Sz3, M3, -, -⟩ := id V_b0
  obtain ⟨cl4, Ar4, -, Sz4, M4, Hs4, Gs4⟩ := id V_b0
  have hin4 : ¬ ((0 : Int32) < 0 ∨ cl4.slots.size ≤ ((0 : Int32)).toNatClampNeg) := inb_of Sz4 ⟨by decide, by decide⟩
  have hat4 : cl4.slots[((0 : Int32)).toNatClampNeg]? = some (.int (114 : Int32)) := Hs4 0 (by rw [Sz4]; decide)
  obtain ⟨cl5, Ar5, -, Sz5, M5, Hs5, Gs5⟩ := id V_b1
  have hin5 : ¬ ((0 : Int32) < 0 ∨ cl5.slots.size ≤ ((0 : Int32)).toNatClampNeg) := inb_of Sz5 ⟨by decide, by decide⟩
  have hat5 : cl5.slots[((0 : Int32)).toNatClampNeg]? = some (.int (114 : Int32)) := Hs5 0 (by rw [Sz5]; decide)
  obtain ⟨cl6, Ar6, -, Sz6, M6, -, -⟩ := id V_b0
  obtain ⟨cl7, Ar7, -, Sz7, M7, Hs7, Gs7⟩ := id V_b0
  have hin7 : ¬ ((1 : Int32) < 0 ∨ cl7.slots.size ≤ ((1 : Int32)).toNatClampNeg) := inb_of Sz7 ⟨by decide, by decide⟩
  have hat7 : cl7.slots[((1 : Int32)).toNatClampNeg]? = some (.int (101 : Int32)) := Hs7 1 (by rw [Sz7]; decide)
  obtain ⟨cl8, Ar8, -, Sz8, M8, Hs8, Gs8⟩ := id V_b1
  have hin8 : ¬ ((1 : Int32) < 0 ∨ cl8.slots.size ≤ ((1 : Int32)).toNatClampNeg) := inb_of Sz8 ⟨by decide, by decide⟩
  have hat8 : cl8.slots[((1 : Int32)).toNatClampNeg]? = some (.int (101 : Int32)) := Hs8 1 (by rw [Sz8]; decide)
  obtain ⟨cl9, Ar9, -, Sz9, M9, -, -⟩ := id V_b0
  obtain ⟨cl10, Ar10, -, Sz10, M10, Hs10, Gs10⟩ := id V_b0
  have hin10 : ¬ ((2 : Int32) < 0 ∨ cl10.slots.size ≤ ((2 : Int32)).toNatClampNeg) := inb_of Sz10 ⟨by decide, by decide⟩
  have hat10 : cl10.slots[((2 : Int32)).toNatClampNeg]? = some (.int (102 : Int32)) := Hs10 2 (by rw [Sz10]; decide)
  obtain ⟨cl11, Ar11, -, Sz11, M11, Hs11, Gs11⟩ := id V_b1
  have hin11 : ¬ ((2 : Int32) < 0 ∨ cl11.slots.size ≤ ((2 : Int32)).toNatClampNeg) := inb_of Sz11 ⟨by decide, by decide⟩
  have hat11 : cl11.slots[((2 : Int32)).toNatClampNeg]? = some (.int (102 : Int32)) := Hs11 2 (by rw [Sz11]; decide)
  obtain ⟨cl12, Ar12, -, Sz12, M12, -, -⟩ := id V_b0
  obtain ⟨cl13, Ar13, -, Sz13, M13, Hs13, Gs13⟩ := id V_b0
  have hin13 : ¬ ((3 : Int32) < 0 ∨ cl13.slots.size ≤ ((3 : Int32)).toNatClampNeg) := inb_of Sz13 ⟨by decide, by decide⟩
  have hat13 : cl13.slots[((3 : Int32)).toNatClampNeg]? = some (.int (101 : Int32)) := Hs13 3 (by rw [Sz13]; decide)
  obtain ⟨cl14, Ar14, -, Sz14, M14, Hs14, Gs14⟩ := id V_b1
  have hin14 : ¬ ((3 : Int32) < 0 ∨ cl14.slots.size ≤ ((3 : Int32)).toNatClampNeg) := inb_of Sz14 ⟨by decide, by decide⟩
  have hat14 : cl14.slots[((3 : Int32)).toNatClampNeg]? = some (.int (101 : Int32)) := Hs14 3 (by rw [Sz14]; decide)
  obtain ⟨cl15, Ar15, -, Sz15, M15, -, -⟩ := id V_b0
  obtain ⟨cl16, Ar16, -, Sz16, M16, Hs16, Gs16⟩ := id V_b0
  have hin16 : ¬ ((4 : Int32) < 0 ∨ cl16.slots.size ≤ ((4 : Int32)).toNatClampNeg) := inb_of Sz16 ⟨by decide, by decide⟩
  have hat16 : cl16.slots[((4 : Int32)).toNatClampNeg]? = some (.int (114 : Int32)) := Hs16 4 (by rw [Sz16]; decide)
  obtain ⟨cl17, Ar17, -, Sz17, M17, Hs17, Gs17⟩ := id V_b1
  have hin17 : ¬ ((4 : Int32) < 0 ∨ cl17.slots.size ≤ ((4 : Int32)).toNatClampNeg) := inb_of Sz17 ⟨by decide, by decide⟩
  have hat17 : cl17.slots[((4 : Int32)).toNatClampNeg]? = some (.int (114 : Int32)) := Hs17 4 (by rw [Sz17]; decide)
  obtain ⟨cl18, Ar18, -, Sz18, M18, -, -⟩ := id V_b0
  obtain ⟨cl19, Ar19, -, Sz19, M19, Hs19, Gs19⟩ := id V_b0
  have hin19 : ¬ ((5 : Int32) < 0 ∨ cl19.slots.size ≤ ((5 : Int32)).toNatClampNeg) := inb_of Sz19 ⟨by decide, by decide⟩
  have hat19 : cl19.slots[((5 : Int32)).toNatClampNeg]? = some (.int (101 : Int32)) := Hs19 5 (by rw [Sz19]; decide)
  obtain ⟨cl20, Ar20, -, Sz20, M20, Hs20, Gs20⟩ := id V_b1
  have hin20 : ¬ ((5 : Int32) < 0 ∨ cl20.slots.size ≤ ((5 : Int32)).toNatClampNeg) := inb_of Sz20 ⟨by decide, by decide⟩
  have hat20 : cl20.slots[((5 : Int32)).toNatClampNeg]? = some (.int (101 : Int32)) := Hs20 5 (by rw [Sz20]; decide)
  obtain ⟨cl21, Ar21, -, Sz21, M21, -, -⟩ := id V_b0
  obtain ⟨cl22, Ar22, -, Sz22, M22, Hs22, Gs22⟩ := id V_b0
  have hin22 : ¬ ((6 : Int32) < 0 ∨ cl22.slots.size ≤ ((6 : Int32)).toNatClampNeg) := inb_of Sz22 ⟨by decide, by decide⟩
  have hat22 : cl22.slots[((6 : Int32)).toNatClampNeg]? = some (.int (110 : Int32)) := Hs22 6 (by rw [Sz22]; decide)
  obtain ⟨cl23, Ar23, -, Sz23, M23, Hs23, Gs23⟩ := id V_b1
  have hin23 : ¬ ((6 : Int32) < 0 ∨ cl23.slots.size ≤ ((6 : Int32)).toNatClampNeg) := inb_of Sz23 ⟨by decide, by decide⟩
  have hat23 : cl23.slots[((6 : Int32)).toNatClampNeg]? = some (.int (110 : Int32)) := Hs23 6 (by rw [Sz23]; decide)
  obtain ⟨cl24, Ar24, -, Sz24, M24, -, -⟩ := id V_b0
  obtain ⟨cl25, Ar25, -, Sz25, M25, Hs25, Gs25⟩ := id V_b0
  have hin25 : ¬ ((7 : Int32) < 0 ∨ cl25.slots.size ≤ ((7 : Int32)).toNatClampNeg) := inb_of Sz25 ⟨by decide, by decide⟩
  have hat25 : cl25.slots[((7 : Int32)).toNatClampNeg]? = some (.int (99 : Int32)) := Hs25 7 (by rw [Sz25]; decide)
  obtain ⟨cl26, Ar26, -, Sz26, M26, Hs26, Gs26⟩ := id V_b1
  have hin26 : ¬ ((7 : Int32) < 0 ∨ cl26.slots.size ≤ ((7 : Int32)).toNatClampNeg) := inb_of Sz26 ⟨by decide, by decide⟩
  have hat26 : cl26.slots[((7 : Int32)).toNatClampNeg]? = some (.int (99 : Int32)) := Hs26 7 (by rw [Sz26]; decide)
  obtain ⟨cl27, Ar27, -, Sz27, M27, -, -⟩ := id V_b0
  obtain ⟨cl28, Ar28, -, Sz28, M28, Hs28, Gs28⟩ := id V_b0
  have hin28 : ¬ ((8 : Int32) < 0 ∨ cl28.slots.size ≤ ((8 : Int32)).toNatClampNeg) := inb_of Sz28 ⟨by decide, by decide⟩
  have hat28 : cl28.slots[((8 : Int32)).toNatClampNeg]? = some (.int (101 : Int32)) := Hs28 8 (by rw [Sz28]; decide)
  obtain ⟨cl29, Ar29, -, Sz29, M29, Hs29, Gs29⟩ := id V_b1
  have hin29 : ¬ ((8 : Int32) < 0 ∨ cl29.slots.size ≤ ((8 : Int32)).toNatClampNeg) := inb_of Sz29 ⟨by decide, by decide⟩
  have hat29 : cl29.slots[((8 : Int32)).toNatClampNeg]? = some (.int (101 : Int32)) := Hs29 8 (by rw [Sz29]; decide)
  obtain ⟨cl30, Ar30, -, Sz30, M30, -, -⟩ := id V_b0
  obtain ⟨fs, hr, hrun, hended, hW, hsame⟩ := X0.leave (v := some (.int (1 : Int32))) (fun h => by rw [Bd.returns] at h; cases h)
  refine ⟨_, _, ?_, hrun, hended, _, _, rfl, ?_, ⟨_, rfl⟩, hW, hsame.mono (by decide) (by decide)⟩
  · show Steps p.tables e below (s₁.setTop (mkF m 0 #[.val (.ref b0), .val (.ref b1), .unset] [])) _
    refine XS.aloadN X0.here hx rfl (hb hby d_own_rmLe11_0) rfl rfl ?_
    show Steps p.tables e below (s₁.setTop (mkF m 1 #[.val (.ref b0), .val (.ref b1), .unset] [(.ref b0)])) _
    refine X0.arraylength hx (by rw [e0]; exact Ar1.1) (State.isArrayOf_alike hZ.alike Ar1.2.1) (g := (mkF m 1 #[.val (.ref b0), .val (.ref b1), .unset] [(.ref b0)])) rfl rfl (hb hby d_own_rmLe11_1) _ ?_
    rw [len_of Sz1 M1]
    show Steps p.tables e below (s₁.setTop (mkF m 2 #[.val (.ref b0), .val (.ref b1), .unset] [(.int (9 : Int32))])) _
    refine XS.aloadN X0.here hx rfl (hb hby d_own_rmLe11_2) rfl rfl ?_
    show Steps p.tables e below (s₁.setTop (mkF m 3 #[.val (.ref b0), .val (.ref b1), .unset] [(.ref b1), (.int (9 : Int32))])) _
    refine X0.arraylength hx (by rw [e0]; exact Ar2.1) (State.isArrayOf_alike hZ.alike Ar2.2.1) (g := (mkF m 3 #[.val (.ref b0), .val (.ref b1), .unset] [(.ref b1), (.int (9 : Int32))])) rfl rfl (hb hby d_own_rmLe11_3) _ ?_
    rw [len_of Sz2 M2]
    show Steps p.tables e below (s₁.setTop (mkF m 4 #[.val (.ref b0), .val (.ref b1), .unset] [(.int (9 : Int32)), (.int (9 : Int32))])) _
    refine XS.icmpNo X0.here hx rfl (hb hby d_own_rmLe11_4) rfl (teq ((by decide) : (9 : Int32) = (9 : Int32))).2 ?_
    show Steps p.tables e below (s₁.setTop (mkF m 7 #[.val (.ref b0), .val (.ref b1), .unset] [])) _
    refine XS.iconst X0.here hx rfl (hb hby d_own_rmLe11_7) ?_
    show Steps p.tables e below (s₁.setTop (mkF m 8 #[.val (.ref b0), .val (.ref b1), .unset] [(.int (0 : Int32))])) _
    refine XS.istoreN X0.here hx rfl (hb hby d_own_rmLe11_8) rfl (l' := #[.val (.ref b0), .val (.ref b1), .val (.int (0 : Int32))]) rfl ?_
    show Steps p.tables e below (s₁.setTop (mkF m 9 #[.val (.ref b0), .val (.ref b1), .val (.int (0 : Int32))] [])) _
    refine XS.iloadN X0.here hx rfl (hb hby d_own_rmLe11_9) rfl ?_
    show Steps p.tables e below (s₁.setTop (mkF m 10 #[.val (.ref b0), .val (.ref b1), .val (.int (0 : Int32))] [(.int (0 : Int32))])) _
    refine XS.aloadN X0.here hx rfl (hb hby d_own_rmLe11_10) rfl rfl ?_
    show Steps p.tables e below (s₁.setTop (mkF m 11 #[.val (.ref b0), .val (.ref b1), .val (.int (0 : Int32))] [(.ref b0), (.int (0 : Int32))])) _
    refine X0.arraylength hx (by rw [e0]; exact Ar3.1) (State.isArrayOf_alike hZ.alike Ar3.2.1) (g := (mkF m 11 #[.val (.ref b0), .val (.ref b1), .val (.int (0 : Int32))] [(.ref b0), (.int (0 : Int32))])) rfl rfl (hb hby d_own_rmLe11_11) _ ?_
    rw [len_of Sz3 M3]
    show Steps p.tables e below (s₁.setTop (mkF m 12 #[.val (.ref b0), .val (.ref b1), .val (.int (0 : Int32))] [(.int (9 : Int32)), (.int (0 : Int32))])) _
    refine XS.icmpNo X0.here hx rfl (hb hby d_own_rmLe11_12) rfl (tlt ((by decide) : (0 : Int32) < (9 : Int32))).2.1 ?_
    show Steps p.tables e below (s₁.setTop (mkF m 15 #[.val (.ref b0), .val (.ref b1), .val (.int (0 : Int32))] [])) _
    refine XS.aloadN X0.here hx rfl (hb hby d_own_rmLe11_15) rfl rfl ?_
    show Steps p.tables e below (s₁.setTop (mkF m 16 #[.val (.ref b0), .val (.ref b1), .val (.int (0 : Int32))] [(.ref b0)])) _
    refine XS.iloadN X0.here hx rfl (hb hby d_own_rmLe11_16) rfl ?_
    show Steps p.tables e below (s₁.setTop (mkF m 17 #[.val (.ref b0), .val (.ref b1), .val (.int (0 : Int32))] [(.int (0 : Int32)), (.ref b0)])) _
    refine X0.baloadBytes hx (j := (0 : Int32)) (v := (.int (114 : Int32))) (by rw [e0]; exact Ar4.1) (State.isArrayOf_alike hZ.alike Ar4.2.1) Ar4.2.2 hin4 hat4 (g := (mkF m 17 #[.val (.ref b0), .val (.ref b1), .val (.int (0 : Int32))] [(.int (0 : Int32)), (.ref b0)])) rfl rfl (hb hby d_own_rmLe11_17) _ ?_
    show Steps p.tables e below (s₁.setTop (mkF m 18 #[.val (.ref b0), .val (.ref b1), .val (.int (0 : Int32))] [(.int (114 : Int32))])) _
    refine XS.aloadN X0.here hx rfl (hb hby d_own_rmLe11_18) rfl rfl ?_
    show Steps p.tables e below (s₁.setTop (mkF m 19 #[.val (.ref b0), .val (.ref b1), .val (.int (0 : Int32))] [(.ref b1), (.int (114 : Int32))])) _
    refine XS.iloadN X0.here hx rfl (hb hby d_own_rmLe11_19) rfl ?_
    show Steps p.tables e below (s₁.setTop (mkF m 20 #[.val (.ref b0), .val (.ref b1), .val (.int (0 : Int32))] [(.int (0 : Int32)), (.ref b1), (.int (114 : Int32))])) _
    refine X0.baloadBytes hx (j := (0 : Int32)) (v := (.int (114 : Int32))) (by rw [e0]; exact Ar5.1) (State.isArrayOf_alike hZ.alike Ar5.2.1) Ar5.2.2 hin5 hat5 (g := (mkF m 20 #[.val (.ref b0), .val (.ref b1), .val (.int (0 : Int32))] [(.int (0 : Int32)), (.ref b1), (.int (114 : Int32))])) rfl rfl (hb hby d_own_rmLe11_20) _ ?_
    show Steps p.tables e below (s₁.setTop (mkF m 21 #[.val (.ref b0), .val (.ref b1), .val (.int (0 : Int32))] [(.int (114 : Int32)), (.int (114 : Int32))])) _
    refine XS.icmpYes X0.here hx rfl (pc0 := 21) (pc' := 26) rfl (hb hby d_own_rmLe11_21) rfl (teq ((by decide) : (114 : Int32) = (114 : Int32))).1 (by decide) (by decide) ?_
    show Steps p.tables e below (s₁.setTop (mkF m 26 #[.val (.ref b0), .val (.ref b1), .val (.int (0 : Int32))] [])) _
    refine XS.iinc X0.here hx rfl (hb hby d_own_rmLe11_26) rfl (l' := #[.val (.ref b0), .val (.ref b1), .val (.int (1 : Int32))]) rfl ?_
    show Steps p.tables e below (s₁.setTop (mkF m 29 #[.val (.ref b0), .val (.ref b1), .val (.int (1 : Int32))] [])) _
    refine XS.goto X0.here hx rfl (pc0 := 29) (pc' := 9) rfl (hb hby d_own_rmLe11_29) (by decide) (by decide) ?_
    show Steps p.tables e below (s₁.setTop (mkF m 9 #[.val (.ref b0), .val (.ref b1), .val (.int (1 : Int32))] [])) _
    refine XS.iloadN X0.here hx rfl (hb hby d_own_rmLe11_9) rfl ?_
    show Steps p.tables e below (s₁.setTop (mkF m 10 #[.val (.ref b0), .val (.ref b1), .val (.int (1 : Int32))] [(.int (1 : Int32))])) _
    refine XS.aloadN X0.here hx rfl (hb hby d_own_rmLe11_10) rfl rfl ?_
    show Steps p.tables e below (s₁.setTop (mkF m 11 #[.val (.ref b0), .val (.ref b1), .val (.int (1 : Int32))] [(.ref b0), (.int (1 : Int32))])) _
    refine X0.arraylength hx (by rw [e0]; exact Ar6.1) (State.isArrayOf_alike hZ.alike Ar6.2.1) (g := (mkF m 11 #[.val (.ref b0), .val (.ref b1), .val (.int (1 : Int32))] [(.ref b0), (.int (1 : Int32))])) rfl rfl (hb hby d_own_rmLe11_11) _ ?_
    rw [len_of Sz6 M6]
    show Steps p.tables e below (s₁.setTop (mkF m 12 #[.val (.ref b0), .val (.ref b1), .val (.int (1 : Int32))] [(.int (9 : Int32)), (.int (1 : Int32))])) _
    refine XS.icmpNo X0.here hx rfl (hb hby d_own_rmLe11_12) rfl (tlt ((by decide) : (1 : Int32) < (9 : Int32))).2.1 ?_
    show Steps p.tables e below (s₁.setTop (mkF m 15 #[.val (.ref b0), .val (.ref b1), .val (.int (1 : Int32))] [])) _
    refine XS.aloadN X0.here hx rfl (hb hby d_own_rmLe11_15) rfl rfl ?_
    show Steps p.tables e below (s₁.setTop (mkF m 16 #[.val (.ref b0), .val (.ref b1), .val (.int (1 : Int32))] [(.ref b0)])) _
    refine XS.iloadN X0.here hx rfl (hb hby d_own_rmLe11_16) rfl ?_
    show Steps p.tables e below (s₁.setTop (mkF m 17 #[.val (.ref b0), .val (.ref b1), .val (.int (1 : Int32))] [(.int (1 : Int32)), (.ref b0)])) _
    refine X0.baloadBytes hx (j := (1 : Int32)) (v := (.int (101 : Int32))) (by rw [e0]; exact Ar7.1) (State.isArrayOf_alike hZ.alike Ar7.2.1) Ar7.2.2 hin7 hat7 (g := (mkF m 17 #[.val (.ref b0), .val (.ref b1), .val (.int (1 : Int32))] [(.int (1 : Int32)), (.ref b0)])) rfl rfl (hb hby d_own_rmLe11_17) _ ?_
    show Steps p.tables e below (s₁.setTop (mkF m 18 #[.val (.ref b0), .val (.ref b1), .val (.int (1 : Int32))] [(.int (101 : Int32))])) _
    refine XS.aloadN X0.here hx rfl (hb hby d_own_rmLe11_18) rfl rfl ?_
    show Steps p.tables e below (s₁.setTop (mkF m 19 #[.val (.ref b0), .val (.ref b1), .val (.int (1 : Int32))] [(.ref b1), (.int (101 : Int32))])) _
    refine XS.iloadN X0.here hx rfl (hb hby d_own_rmLe11_19) rfl ?_
    show Steps p.tables e below (s₁.setTop (mkF m 20 #[.val (.ref b0), .val (.ref b1), .val (.int (1 : Int32))] [(.int (1 : Int32)), (.ref b1), (.int (101 : Int32))])) _
    refine X0.baloadBytes hx (j := (1 : Int32)) (v := (.int (101 : Int32))) (by rw [e0]; exact Ar8.1) (State.isArrayOf_alike hZ.alike Ar8.2.1) Ar8.2.2 hin8 hat8 (g := (mkF m 20 #[.val (.ref b0), .val (.ref b1), .val (.int (1 : Int32))] [(.int (1 : Int32)), (.ref b1), (.int (101 : Int32))])) rfl rfl (hb hby d_own_rmLe11_20) _ ?_
    show Steps p.tables e below (s₁.setTop (mkF m 21 #[.val (.ref b0), .val (.ref b1), .val (.int (1 : Int32))] [(.int (101 : Int32)), (.int (101 : Int32))])) _
    refine XS.icmpYes X0.here hx rfl (pc0 := 21) (pc' := 26) rfl (hb hby d_own_rmLe11_21) rfl (teq ((by decide) : (101 : Int32) = (101 : Int32))).1 (by decide) (by decide) ?_
    show Steps p.tables e below (s₁.setTop (mkF m 26 #[.val (.ref b0), .val (.ref b1), .val (.int (1 : Int32))] [])) _
    refine XS.iinc X0.here hx rfl (hb hby d_own_rmLe11_26) rfl (l' := #[.val (.ref b0), .val (.ref b1), .val (.int (2 : Int32))]) rfl ?_
    show Steps p.tables e below (s₁.setTop (mkF m 29 #[.val (.ref b0), .val (.ref b1), .val (.int (2 : Int32))] [])) _
    refine XS.goto X0.here hx rfl (pc0 := 29) (pc' := 9) rfl (hb hby d_own_rmLe11_29) (by decide) (by decide) ?_
    show Steps p.tables e below (s₁.setTop (mkF m 9 #[.val (.ref b0), .val (.ref b1), .val (.int (2 : Int32))] [])) _
    refine XS.iloadN X0.here hx rfl (hb hby d_own_rmLe11_9) rfl ?_
    show Steps p.tables e below (s₁.setTop (mkF m 10 #[.val (.ref b0), .val (.ref b1), .val (.int (2 : Int32))] [(.int (2 : Int32))])) _
    refine XS.aloadN X0.here hx rfl (hb hby d_own_rmLe11_10) rfl rfl ?_
    show Steps p.tables e below (s₁.setTop (mkF m 11 #[.val (.ref b0), .val (.ref b1), .val (.int (2 : Int32))] [(.ref b0), (.int (2 : Int32))])) _
    refine X0.arraylength hx (by rw [e0]; exact Ar9.1) (State.isArrayOf_alike hZ.alike Ar9.2.1) (g := (mkF m 11 #[.val (.ref b0), .val (.ref b1), .val (.int (2 : Int32))] [(.ref b0), (.int (2 : Int32))])) rfl rfl (hb hby d_own_rmLe11_11) _ ?_
    rw [len_of Sz9 M9]
    show Steps p.tables e below (s₁.setTop (mkF m 12 #[.val (.ref b0), .val (.ref b1), .val (.int (2 : Int32))] [(.int (9 : Int32)), (.int (2 : Int32))])) _
    refine XS.icmpNo X0.here hx rfl (hb hby d_own_rmLe11_12) rfl (tlt ((by decide) : (2 : Int32) < (9 : Int32))).2.1 ?_
    show Steps p.tables e below (s₁.setTop (mkF m 15 #[.val (.ref b0), .val (.ref b1), .val (.int (2 : Int32))] [])) _
    refine XS.aloadN X0.here hx rfl (hb hby d_own_rmLe11_15) rfl rfl ?_
    show Steps p.tables e below (s₁.setTop (mkF m 16 #[.val (.ref b0), .val (.ref b1), .val (.int (2 : Int32))] [(.ref b0)])) _
    refine XS.iloadN X0.here hx rfl (hb hby d_own_rmLe11_16) rfl ?_
    show Steps p.tables e below (s₁.setTop (mkF m 17 #[.val (.ref b0), .val (.ref b1), .val (.int (2 : Int32))] [(.int (2 : Int32)), (.ref b0)])) _
    refine X0.baloadBytes hx (j := (2 : Int32)) (v := (.int (102 : Int32))) (by rw [e0]; exact Ar10.1) (State.isArrayOf_alike hZ.alike Ar10.2.1) Ar10.2.2 hin10 hat10 (g := (mkF m 17 #[.val (.ref b0), .val (.ref b1), .val (.int (2 : Int32))] [(.int (2 : Int32)), (.ref b0)])) rfl rfl (hb hby d_own_rmLe11_17) _ ?_
    show Steps p.tables e below (s₁.setTop (mkF m 18 #[.val (.ref b0), .val (.ref b1), .val (.int (2 : Int32))] [(.int (102 : Int32))])) _
    refine XS.aloadN X0.here hx rfl (hb hby d_own_rmLe11_18) rfl rfl ?_
    show Steps p.tables e below (s₁.setTop (mkF m 19 #[.val (.ref b0), .val (.ref b1), .val (.int (2 : Int32))] [(.ref b1), (.int (102 : Int32))])) _
    refine XS.iloadN X0.here hx rfl (hb hby d_own_rmLe11_19) rfl ?_
    show Steps p.tables e below (s₁.setTop (mkF m 20 #[.val (.ref b0), .val (.ref b1), .val (.int (2 : Int32))] [(.int (2 : Int32)), (.ref b1), (.int (102 : Int32))])) _
    refine X0.baloadBytes hx (j := (2 : Int32)) (v := (.int (102 : Int32))) (by rw [e0]; exact Ar11.1) (State.isArrayOf_alike hZ.alike Ar11.2.1) Ar11.2.2 hin11 hat11 (g := (mkF m 20 #[.val (.ref b0), .val (.ref b1), .val (.int (2 : Int32))] [(.int (2 : Int32)), (.ref b1), (.int (102 : Int32))])) rfl rfl (hb hby d_own_rmLe11_20) _ ?_
    show Steps p.tables e below (s₁.setTop (mkF m 21 #[.val (.ref b0), .val (.ref b1), .val (.int (2 : Int32))] [(.int (102 : Int32)), (.int (102 : Int32))])) _
    refine XS.icmpYes X0.here hx rfl (pc0 := 21) (pc' := 26) rfl (hb hby d_own_rmLe11_21) rfl (teq ((by decide) : (102 : Int32) = (102 : Int32))).1 (by decide) (by decide) ?_
    show Steps p.tables e below (s₁.setTop (mkF m 26 #[.val (.ref b0), .val (.ref b1), .val (.int (2 : Int32))] [])) _
    refine XS.iinc X0.here hx rfl (hb hby d_own_rmLe11_26) rfl (l' := #[.val (.ref b0), .val (.ref b1), .val (.int (3 : Int32))]) rfl ?_
    show Steps p.tables e below (s₁.setTop (mkF m 29 #[.val (.ref b0), .val (.ref b1), .val (.int (3 : Int32))] [])) _
    refine XS.goto X0.here hx rfl (pc0 := 29) (pc' := 9) rfl (hb hby d_own_rmLe11_29) (by decide) (by decide) ?_
    show Steps p.tables e below (s₁.setTop (mkF m 9 #[.val (.ref b0), .val (.ref b1), .val (.int (3 : Int32))] [])) _
    refine XS.iloadN X0.here hx rfl (hb hby d_own_rmLe11_9) rfl ?_
    show Steps p.tables e below (s₁.setTop (mkF m 10 #[.val (.ref b0), .val (.ref b1), .val (.int (3 : Int32))] [(.int (3 : Int32))])) _
    refine XS.aloadN X0.here hx rfl (hb hby d_own_rmLe11_10) rfl rfl ?_
    show Steps p.tables e below (s₁.setTop (mkF m 11 #[.val (.ref b0), .val (.ref b1), .val (.int (3 : Int32))] [(.ref b0), (.int (3 : Int32))])) _
    refine X0.arraylength hx (by rw [e0]; exact Ar12.1) (State.isArrayOf_alike hZ.alike Ar12.2.1) (g := (mkF m 11 #[.val (.ref b0), .val (.ref b1), .val (.int (3 : Int32))] [(.ref b0), (.int (3 : Int32))])) rfl rfl (hb hby d_own_rmLe11_11) _ ?_
    rw [len_of Sz12 M12]
    show Steps p.tables e below (s₁.setTop (mkF m 12 #[.val (.ref b0), .val (.ref b1), .val (.int (3 : Int32))] [(.int (9 : Int32)), (.int (3 : Int32))])) _
    refine XS.icmpNo X0.here hx rfl (hb hby d_own_rmLe11_12) rfl (tlt ((by decide) : (3 : Int32) < (9 : Int32))).2.1 ?_
    show Steps p.tables e below (s₁.setTop (mkF m 15 #[.val (.ref b0), .val (.ref b1), .val (.int (3 : Int32))] [])) _
    refine XS.aloadN X0.here hx rfl (hb hby d_own_rmLe11_15) rfl rfl ?_
    show Steps p.tables e below (s₁.setTop (mkF m 16 #[.val (.ref b0), .val (.ref b1), .val (.int (3 : Int32))] [(.ref b0)])) _
    refine XS.iloadN X0.here hx rfl (hb hby d_own_rmLe11_16) rfl ?_
    show Steps p.tables e below (s₁.setTop (mkF m 17 #[.val (.ref b0), .val (.ref b1), .val (.int (3 : Int32))] [(.int (3 : Int32)), (.ref b0)])) _
    refine X0.baloadBytes hx (j := (3 : Int32)) (v := (.int (101 : Int32))) (by rw [e0]; exact Ar13.1) (State.isArrayOf_alike hZ.alike Ar13.2.1) Ar13.2.2 hin13 hat13 (g := (mkF m 17 #[.val (.ref b0), .val (.ref b1), .val (.int (3 : Int32))] [(.int (3 : Int32)), (.ref b0)])) rfl rfl (hb hby d_own_rmLe11_17) _ ?_
    show Steps p.tables e below (s₁.setTop (mkF m 18 #[.val (.ref b0), .val (.ref b1), .val (.int (3 : Int32))] [(.int (101 : Int32))])) _
    refine XS.aloadN X0.here hx rfl (hb hby d_own_rmLe11_18) rfl rfl ?_
    show Steps p.tables e below (s₁.setTop (mkF m 19 #[.val (.ref b0), .val (.ref b1), .val (.int (3 : Int32))] [(.ref b1), (.int (101 : Int32))])) _
    refine XS.iloadN X0.here hx rfl (hb hby d_own_rmLe11_19) rfl ?_
    show Steps p.tables e below (s₁.setTop (mkF m 20 #[.val (.ref b0), .val (.ref b1), .val (.int (3 : Int32))] [(.int (3 : Int32)), (.ref b1), (.int (101 : Int32))])) _
    refine X0.baloadBytes hx (j := (3 : Int32)) (v := (.int (101 : Int32))) (by rw [e0]; exact Ar14.1) (State.isArrayOf_alike hZ.alike Ar14.2.1) Ar14.2.2 hin14 hat14 (g := (mkF m 20 #[.val (.ref b0), .val (.ref b1), .val (.int (3 : Int32))] [(.int (3 : Int32)), (.ref b1), (.int (101 : Int32))])) rfl rfl (hb hby d_own_rmLe11_20) _ ?_
    show Steps p.tables e below (s₁.setTop (mkF m 21 #[.val (.ref b0), .val (.ref b1), .val (.int (3 : Int32))] [(.int (101 : Int32)), (.int (101 : Int32))])) _
    refine XS.icmpYes X0.here hx rfl (pc0 := 21) (pc' := 26) rfl (hb hby d_own_rmLe11_21) rfl (teq ((by decide) : (101 : Int32) = (101 : Int32))).1 (by decide) (by decide) ?_
    show Steps p.tables e below (s₁.setTop (mkF m 26 #[.val (.ref b0), .val (.ref b1), .val (.int (3 : Int32))] [])) _
    refine XS.iinc X0.here hx rfl (hb hby d_own_rmLe11_26) rfl (l' := #[.val (.ref b0), .val (.ref b1), .val (.int (4 : Int32))]) rfl ?_
    show Steps p.tables e below (s₁.setTop (mkF m 29 #[.val (.ref b0), .val (.ref b1), .val (.int (4 : Int32))] [])) _
    refine XS.goto X0.here hx rfl (pc0 := 29) (pc' := 9) rfl (hb hby d_own_rmLe11_29) (by decide) (by decide) ?_
    show Steps p.tables e below (s₁.setTop (mkF m 9 #[.val (.ref b0), .val (.ref b1), .val (.int (4 : Int32))] [])) _
    refine XS.iloadN X0.here hx rfl (hb hby d_own_rmLe11_9) rfl ?_
    show Steps p.tables e below (s₁.setTop (mkF m 10 #[.val (.ref b0), .val (.ref b1), .val (.int (4 : Int32))] [(.int (4 : Int32))])) _
    refine XS.aloadN X0.here hx rfl (hb hby d_own_rmLe11_10) rfl rfl ?_
    show Steps p.tables e below (s₁.setTop (mkF m 11 #[.val (.ref b0), .val (.ref b1), .val (.int (4 : Int32))] [(.ref b0), (.int (4 : Int32))])) _
    refine X0.arraylength hx (by rw [e0]; exact Ar15.1) (State.isArrayOf_alike hZ.alike Ar15.2.1) (g := (mkF m 11 #[.val (.ref b0), .val (.ref b1), .val (.int (4 : Int32))] [(.ref b0), (.int (4 : Int32))])) rfl rfl (hb hby d_own_rmLe11_11) _ ?_
    rw [len_of Sz15 M15]
    show Steps p.tables e below (s₁.setTop (mkF m 12 #[.val (.ref b0), .val (.ref b1), .val (.int (4 : Int32))] [(.int (9 : Int32)), (.int (4 : Int32))])) _
    refine XS.icmpNo X0.here hx rfl (hb hby d_own_rmLe11_12) rfl (tlt ((by decide) : (4 : Int32) < (9 : Int32))).2.1 ?_
    show Steps p.tables e below (s₁.setTop (mkF m 15 #[.val (.ref b0), .val (.ref b1), .val (.int (4 : Int32))] [])) _
    refine XS.aloadN X0.here hx rfl (hb hby d_own_rmLe11_15) rfl rfl ?_
    show Steps p.tables e below (s₁.setTop (mkF m 16 #[.val (.ref b0), .val (.ref b1), .val (.int (4 : Int32))] [(.ref b0)])) _
    refine XS.iloadN X0.here hx rfl (hb hby d_own_rmLe11_16) rfl ?_
    show Steps p.tables e below (s₁.setTop (mkF m 17 #[.val (.ref b0), .val (.ref b1), .val (.int (4 : Int32))] [(.int (4 : Int32)), (.ref b0)])) _
    refine X0.baloadBytes hx (j := (4 : Int32)) (v := (.int (114 : Int32))) (by rw [e0]; exact Ar16.1) (State.isArrayOf_alike hZ.alike Ar16.2.1) Ar16.2.2 hin16 hat16 (g := (mkF m 17 #[.val (.ref b0), .val (.ref b1), .val (.int (4 : Int32))] [(.int (4 : Int32)), (.ref b0)])) rfl rfl (hb hby d_own_rmLe11_17) _ ?_
    show Steps p.tables e below (s₁.setTop (mkF m 18 #[.val (.ref b0), .val (.ref b1), .val (.int (4 : Int32))] [(.int (114 : Int32))])) _
    refine XS.aloadN X0.here hx rfl (hb hby d_own_rmLe11_18) rfl rfl ?_
    show Steps p.tables e below (s₁.setTop (mkF m 19 #[.val (.ref b0), .val (.ref b1), .val (.int (4 : Int32))] [(.ref b1), (.int (114 : Int32))])) _
    refine XS.iloadN X0.here hx rfl (hb hby d_own_rmLe11_19) rfl ?_
    show Steps p.tables e below (s₁.setTop (mkF m 20 #[.val (.ref b0), .val (.ref b1), .val (.int (4 : Int32))] [(.int (4 : Int32)), (.ref b1), (.int (114 : Int32))])) _
    refine X0.baloadBytes hx (j := (4 : Int32)) (v := (.int (114 : Int32))) (by rw [e0]; exact Ar17.1) (State.isArrayOf_alike hZ.alike Ar17.2.1) Ar17.2.2 hin17 hat17 (g := (mkF m 20 #[.val (.ref b0), .val (.ref b1), .val (.int (4 : Int32))] [(.int (4 : Int32)), (.ref b1), (.int (114 : Int32))])) rfl rfl (hb hby d_own_rmLe11_20) _ ?_
    show Steps p.tables e below (s₁.setTop (mkF m 21 #[.val (.ref b0), .val (.ref b1), .val (.int (4 : Int32))] [(.int (114 : Int32)), (.int (114 : Int32))])) _
    refine XS.icmpYes X0.here hx rfl (pc0 := 21) (pc' := 26) rfl (hb hby d_own_rmLe11_21) rfl (teq ((by decide) : (114 : Int32) = (114 : Int32))).1 (by decide) (by decide) ?_
    show Steps p.tables e below (s₁.setTop (mkF m 26 #[.val (.ref b0), .val (.ref b1), .val (.int (4 : Int32))] [])) _
    refine XS.iinc X0.here hx rfl (hb hby d_own_rmLe11_26) rfl (l' := #[.val (.ref b0), .val (.ref b1), .val (.int (5 : Int32))]) rfl ?_
    show Steps p.tables e below (s₁.setTop (mkF m 29 #[.val (.ref b0), .val (.ref b1), .val (.int (5 : Int32))] [])) _
    refine XS.goto X0.here hx rfl (pc0 := 29) (pc' := 9) rfl (hb hby d_own_rmLe11_29) (by decide) (by decide) ?_
    show Steps p.tables e below (s₁.setTop (mkF m 9 #[.val (.ref b0), .val (.ref b1), .val (.int (5 : Int32))] [])) _
    refine XS.iloadN X0.here hx rfl (hb hby d_own_rmLe11_9) rfl ?_
    show Steps p.tables e below (s₁.setTop (mkF m 10 #[.val (.ref b0), .val (.ref b1), .val (.int (5 : Int32))] [(.int (5 : Int32))])) _
    refine XS.aloadN X0.here hx rfl (hb hby d_own_rmLe11_10) rfl rfl ?_
    show Steps p.tables e below (s₁.setTop (mkF m 11 #[.val (.ref b0), .val (.ref b1), .val (.int (5 : Int32))] [(.ref b0), (.int (5 : Int32))])) _
    refine X0.arraylength hx (by rw [e0]; exact Ar18.1) (State.isArrayOf_alike hZ.alike Ar18.2.1) (g := (mkF m 11 #[.val (.ref b0), .val (.ref b1), .val (.int (5 : Int32))] [(.ref b0), (.int (5 : Int32))])) rfl rfl (hb hby d_own_rmLe11_11) _ ?_
    rw [len_of Sz18 M18]
    show Steps p.tables e below (s₁.setTop (mkF m 12 #[.val (.ref b0), .val (.ref b1), .val (.int (5 : Int32))] [(.int (9 : Int32)), (.int (5 : Int32))])) _
    refine XS.icmpNo X0.here hx rfl (hb hby d_own_rmLe11_12) rfl (tlt ((by decide) : (5 : Int32) < (9 : Int32))).2.1 ?_
    show Steps p.tables e below (s₁.setTop (mkF m 15 #[.val (.ref b0), .val (.ref b1), .val (.int (5 : Int32))] [])) _
    refine XS.aloadN X0.here hx rfl (hb hby d_own_rmLe11_15) rfl rfl ?_
    show Steps p.tables e below (s₁.setTop (mkF m 16 #[.val (.ref b0), .val (.ref b1), .val (.int (5 : Int32))] [(.ref b0)])) _
    refine XS.iloadN X0.here hx rfl (hb hby d_own_rmLe11_16) rfl ?_
    show Steps p.tables e below (s₁.setTop (mkF m 17 #[.val (.ref b0), .val (.ref b1), .val (.int (5 : Int32))] [(.int (5 : Int32)), (.ref b0)])) _
    refine X0.baloadBytes hx (j := (5 : Int32)) (v := (.int (101 : Int32))) (by rw [e0]; exact Ar19.1) (State.isArrayOf_alike hZ.alike Ar19.2.1) Ar19.2.2 hin19 hat19 (g := (mkF m 17 #[.val (.ref b0), .val (.ref b1), .val (.int (5 : Int32))] [(.int (5 : Int32)), (.ref b0)])) rfl rfl (hb hby d_own_rmLe11_17) _ ?_
    show Steps p.tables e below (s₁.setTop (mkF m 18 #[.val (.ref b0), .val (.ref b1), .val (.int (5 : Int32))] [(.int (101 : Int32))])) _
    refine XS.aloadN X0.here hx rfl (hb hby d_own_rmLe11_18) rfl rfl ?_
    show Steps p.tables e below (s₁.setTop (mkF m 19 #[.val (.ref b0), .val (.ref b1), .val (.int (5 : Int32))] [(.ref b1), (.int (101 : Int32))])) _
    refine XS.iloadN X0.here hx rfl (hb hby d_own_rmLe11_19) rfl ?_
    show Steps p.tables e below (s₁.setTop (mkF m 20 #[.val (.ref b0), .val (.ref b1), .val (.int (5 : Int32))] [(.int (5 : Int32)), (.ref b1), (.int (101 : Int32))])) _
    refine X0.baloadBytes hx (j := (5 : Int32)) (v := (.int (101 : Int32))) (by rw [e0]; exact Ar20.1) (State.isArrayOf_alike hZ.alike Ar20.2.1) Ar20.2.2 hin20 hat20 (g := (mkF m 20 #[.val (.ref b0), .val (.ref b1), .val (.int (5 : Int32))] [(.int (5 : Int32)), (.ref b1), (.int (101 : Int32))])) rfl rfl (hb hby d_own_rmLe11_20) _ ?_
    show Steps p.tables e below (s₁.setTop (mkF m 21 #[.val (.ref b0), .val (.ref b1), .val (.int (5 : Int32))] [(.int (101 : Int32)), (.int (101 : Int32))])) _
    refine XS.icmpYes X0.here hx rfl (pc0 := 21) (pc' := 26) rfl (hb hby d_own_rmLe11_21) rfl (teq ((by decide) : (101 : Int32) = (101 : Int32))).1 (by decide) (by decide) ?_
    show Steps p.tables e below (s₁.setTop (mkF m 26 #[.val (.ref b0), .val (.ref b1), .val (.int (5 : Int32))] [])) _
    refine XS.iinc X0.here hx rfl (hb hby d_own_rmLe11_26) rfl (l' := #[.val (.ref b0), .val (.ref b1), .val (.int (6 : Int32))]) rfl ?_
    show Steps p.tables e below (s₁.setTop (mkF m 29 #[.val (.ref b0), .val (.ref b1), .val (.int (6 : Int32))] [])) _
    refine XS.goto X0.here hx rfl (pc0 := 29) (pc' := 9) rfl (hb hby d_own_rmLe11_29) (by decide) (by decide) ?_
    show Steps p.tables e below (s₁.setTop (mkF m 9 #[.val (.ref b0), .val (.ref b1), .val (.int (6 : Int32))] [])) _
    refine XS.iloadN X0.here hx rfl (hb hby d_own_rmLe11_9) rfl ?_
    show Steps p.tables e below (s₁.setTop (mkF m 10 #[.val (.ref b0), .val (.ref b1), .val (.int (6 : Int32))] [(.int (6 : Int32))])) _
    refine XS.aloadN X0.here hx rfl (hb hby d_own_rmLe11_10) rfl rfl ?_
    show Steps p.tables e below (s₁.setTop (mkF m 11 #[.val (.ref b0), .val (.ref b1), .val (.int (6 : Int32))] [(.ref b0), (.int (6 : Int32))])) _
    refine X0.arraylength hx (by rw [e0]; exact Ar21.1) (State.isArrayOf_alike hZ.alike Ar21.2.1) (g := (mkF m 11 #[.val (.ref b0), .val (.ref b1), .val (.int (6 : Int32))] [(.ref b0), (.int (6 : Int32))])) rfl rfl (hb hby d_own_rmLe11_11) _ ?_
    rw [len_of Sz21 M21]
    show Steps p.tables e below (s₁.setTop (mkF m 12 #[.val (.ref b0), .val (.ref b1), .val (.int (6 : Int32))] [(.int (9 : Int32)), (.int (6 : Int32))])) _
    refine XS.icmpNo X0.here hx rfl (hb hby d_own_rmLe11_12) rfl (tlt ((by decide) : (6 : Int32) < (9 : Int32))).2.1 ?_
    show Steps p.tables e below (s₁.setTop (mkF m 15 #[.val (.ref b0), .val (.ref b1), .val (.int (6 : Int32))] [])) _
    refine XS.aloadN X0.here hx rfl (hb hby d_own_rmLe11_15) rfl rfl ?_
    show Steps p.tables e below (s₁.setTop (mkF m 16 #[.val (.ref b0), .val (.ref b1), .val (.int (6 : Int32))] [(.ref b0)])) _
    refine XS.iloadN X0.here hx rfl (hb hby d_own_rmLe11_16) rfl ?_
    show Steps p.tables e below (s₁.setTop (mkF m 17 #[.val (.ref b0), .val (.ref b1), .val (.int (6 : Int32))] [(.int (6 : Int32)), (.ref b0)])) _
    refine X0.baloadBytes hx (j := (6 : Int32)) (v := (.int (110 : Int32))) (by rw [e0]; exact Ar22.1) (State.isArrayOf_alike hZ.alike Ar22.2.1) Ar22.2.2 hin22 hat22 (g := (mkF m 17 #[.val (.ref b0), .val (.ref b1), .val (.int (6 : Int32))] [(.int (6 : Int32)), (.ref b0)])) rfl rfl (hb hby d_own_rmLe11_17) _ ?_
    show Steps p.tables e below (s₁.setTop (mkF m 18 #[.val (.ref b0), .val (.ref b1), .val (.int (6 : Int32))] [(.int (110 : Int32))])) _
    refine XS.aloadN X0.here hx rfl (hb hby d_own_rmLe11_18) rfl rfl ?_
    show Steps p.tables e below (s₁.setTop (mkF m 19 #[.val (.ref b0), .val (.ref b1), .val (.int (6 : Int32))] [(.ref b1), (.int (110 : Int32))])) _
    refine XS.iloadN X0.here hx rfl (hb hby d_own_rmLe11_19) rfl ?_
    show Steps p.tables e below (s₁.setTop (mkF m 20 #[.val (.ref b0), .val (.ref b1), .val (.int (6 : Int32))] [(.int (6 : Int32)), (.ref b1), (.int (110 : Int32))])) _
    refine X0.baloadBytes hx (j := (6 : Int32)) (v := (.int (110 : Int32))) (by rw [e0]; exact Ar23.1) (State.isArrayOf_alike hZ.alike Ar23.2.1) Ar23.2.2 hin23 hat23 (g := (mkF m 20 #[.val (.ref b0), .val (.ref b1), .val (.int (6 : Int32))] [(.int (6 : Int32)), (.ref b1), (.int (110 : Int32))])) rfl rfl (hb hby d_own_rmLe11_20) _ ?_
    show Steps p.tables e below (s₁.setTop (mkF m 21 #[.val (.ref b0), .val (.ref b1), .val (.int (6 : Int32))] [(.int (110 : Int32)), (.int (110 : Int32))])) _
    refine XS.icmpYes X0.here hx rfl (pc0 := 21) (pc' := 26) rfl (hb hby d_own_rmLe11_21) rfl (teq ((by decide) : (110 : Int32) = (110 : Int32))).1 (by decide) (by decide) ?_
    show Steps p.tables e below (s₁.setTop (mkF m 26 #[.val (.ref b0), .val (.ref b1), .val (.int (6 : Int32))] [])) _
    refine XS.iinc X0.here hx rfl (hb hby d_own_rmLe11_26) rfl (l' := #[.val (.ref b0), .val (.ref b1), .val (.int (7 : Int32))]) rfl ?_
    show Steps p.tables e below (s₁.setTop (mkF m 29 #[.val (.ref b0), .val (.ref b1), .val (.int (7 : Int32))] [])) _
    refine XS.goto X0.here hx rfl (pc0 := 29) (pc' := 9) rfl (hb hby d_own_rmLe11_29) (by decide) (by decide) ?_
    show Steps p.tables e below (s₁.setTop (mkF m 9 #[.val (.ref b0), .val (.ref b1), .val (.int (7 : Int32))] [])) _
    refine XS.iloadN X0.here hx rfl (hb hby d_own_rmLe11_9) rfl ?_
    show Steps p.tables e below (s₁.setTop (mkF m 10 #[.val (.ref b0), .val (.ref b1), .val (.int (7 : Int32))] [(.int (7 : Int32))])) _
    refine XS.aloadN X0.here hx rfl (hb hby d_own_rmLe11_10) rfl rfl ?_
    show Steps p.tables e below (s₁.setTop (mkF m 11 #[.val (.ref b0), .val (.ref b1), .val (.int (7 : Int32))] [(.ref b0), (.int (7 : Int32))])) _
    refine X0.arraylength hx (by rw [e0]; exact Ar24.1) (State.isArrayOf_alike hZ.alike Ar24.2.1) (g := (mkF m 11 #[.val (.ref b0), .val (.ref b1), .val (.int (7 : Int32))] [(.ref b0), (.int (7 : Int32))])) rfl rfl (hb hby d_own_rmLe11_11) _ ?_
    rw [len_of Sz24 M24]
    show Steps p.tables e below (s₁.setTop (mkF m 12 #[.val (.ref b0), .val (.ref b1), .val (.int (7 : Int32))] [(.int (9 : Int32)), (.int (7 : Int32))])) _
    refine XS.icmpNo X0.here hx rfl (hb hby d_own_rmLe11_12) rfl (tlt ((by decide) : (7 : Int32) < (9 : Int32))).2.1 ?_
    show Steps p.tables e below (s₁.setTop (mkF m 15 #[.val (.ref b0), .val (.ref b1), .val (.int (7 : Int32))] [])) _
    refine XS.aloadN X0.here hx rfl (hb hby d_own_rmLe11_15) rfl rfl ?_
    show Steps p.tables e below (s₁.setTop (mkF m 16 #[.val (.ref b0), .val (.ref b1), .val (.int (7 : Int32))] [(.ref b0)])) _
    refine XS.iloadN X0.here hx rfl (hb hby d_own_rmLe11_16) rfl ?_
    show Steps p.tables e below (s₁.setTop (mkF m 17 #[.val (.ref b0), .val (.ref b1), .val (.int (7 : Int32))] [(.int (7 : Int32)), (.ref b0)])) _
    refine X0.baloadBytes hx (j := (7 : Int32)) (v := (.int (99 : Int32))) (by rw [e0]; exact Ar25.1) (State.isArrayOf_alike hZ.alike Ar25.2.1) Ar25.2.2 hin25 hat25 (g := (mkF m 17 #[.val (.ref b0), .val (.ref b1), .val (.int (7 : Int32))] [(.int (7 : Int32)), (.ref b0)])) rfl rfl (hb hby d_own_rmLe11_17) _ ?_
    show Steps p.tables e below (s₁.setTop (mkF m 18 #[.val (.ref b0), .val (.ref b1), .val (.int (7 : Int32))] [(.int (99 : Int32))])) _
    refine XS.aloadN X0.here hx rfl (hb hby d_own_rmLe11_18) rfl rfl ?_
    show Steps p.tables e below (s₁.setTop (mkF m 19 #[.val (.ref b0), .val (.ref b1), .val (.int (7 : Int32))] [(.ref b1), (.int (99 : Int32))])) _
    refine XS.iloadN X0.here hx rfl (hb hby d_own_rmLe11_19) rfl ?_
    show Steps p.tables e below (s₁.setTop (mkF m 20 #[.val (.ref b0), .val (.ref b1), .val (.int (7 : Int32))] [(.int (7 : Int32)), (.ref b1), (.int (99 : Int32))])) _
    refine X0.baloadBytes hx (j := (7 : Int32)) (v := (.int (99 : Int32))) (by rw [e0]; exact Ar26.1) (State.isArrayOf_alike hZ.alike Ar26.2.1) Ar26.2.2 hin26 hat26 (g := (mkF m 20 #[.val (.ref b0), .val (.ref b1), .val (.int (7 : Int32))] [(.int (7 : Int32)), (.ref b1), (.int (99 : Int32))])) rfl rfl (hb hby d_own_rmLe11_20) _ ?_
    show Steps p.tables e below (s₁.setTop (mkF m 21 #[.val (.ref b0), .val (.ref b1), .val (.int (7 : Int32))] [(.int (99 : Int32)), (.int (99 : Int32))])) _
    refine XS.icmpYes X0.here hx rfl (pc0 := 21) (pc' := 26) rfl (hb hby d_own_rmLe11_21) rfl (teq ((by decide) : (99 : Int32) = (99 : Int32))).1 (by decide) (by decide) ?_
    show Steps p.tables e below (s₁.setTop (mkF m 26 #[.val (.ref b0), .val (.ref b1), .val (.int (7 : Int32))] [])) _
    refine XS.iinc X0.here hx rfl (hb hby d_own_rmLe11_26) rfl (l' := #[.val (.ref b0), .val (.ref b1), .val (.int (8 : Int32))]) rfl ?_
    show Steps p.tables e below (s₁.setTop (mkF m 29 #[.val (.ref b0), .val (.ref b1), .val (.int (8 : Int32))] [])) _
    refine XS.goto X0.here hx rfl (pc0 := 29) (pc' := 9) rfl (hb hby d_own_rmLe11_29) (by decide) (by decide) ?_
    show Steps p.tables e below (s₁.setTop (mkF m 9 #[.val (.ref b0), .val (.ref b1), .val (.int (8 : Int32))] [])) _
    refine XS.iloadN X0.here hx rfl (hb hby d_own_rmLe11_9) rfl ?_
    show Steps p.tables e below (s₁.setTop (mkF m 10 #[.val (.ref b0), .val (.ref b1), .val (.int (8 : Int32))] [(.int (8 : Int32))])) _
    refine XS.aloadN X0.here hx rfl (hb hby d_own_rmLe11_10) rfl rfl ?_
    show Steps p.tables e below (s₁.setTop (mkF m 11 #[.val (.ref b0), .val (.ref b1), .val (.int (8 : Int32))] [(.ref b0), (.int (8 : Int32))])) _
    refine X0.arraylength hx (by rw [e0]; exact Ar27.1) (State.isArrayOf_alike hZ.alike Ar27.2.1) (g := (mkF m 11 #[.val (.ref b0), .val (.ref b1), .val (.int (8 : Int32))] [(.ref b0), (.int (8 : Int32))])) rfl rfl (hb hby d_own_rmLe11_11) _ ?_
    rw [len_of Sz27 M27]
    show Steps p.tables e below (s₁.setTop (mkF m 12 #[.val (.ref b0), .val (.ref b1), .val (.int (8 : Int32))] [(.int (9 : Int32)), (.int (8 : Int32))])) _
    refine XS.icmpNo X0.here hx rfl (hb hby d_own_rmLe11_12) rfl (tlt ((by decide) : (8 : Int32) < (9 : Int32))).2.1 ?_
    show Steps p.tables e below (s₁.setTop (mkF m 15 #[.val (.ref b0), .val (.ref b1), .val (.int (8 : Int32))] [])) _
    refine XS.aloadN X0.here hx rfl (hb hby d_own_rmLe11_15) rfl rfl ?_
    show Steps p.tables e below (s₁.setTop (mkF m 16 #[.val (.ref b0), .val (.ref b1), .val (.int (8 : Int32))] [(.ref b0)])) _
    refine XS.iloadN X0.here hx rfl (hb hby d_own_rmLe11_16) rfl ?_
    show Steps p.tables e below (s₁.setTop (mkF m 17 #[.val (.ref b0), .val (.ref b1), .val (.int (8 : Int32))] [(.int (8 : Int32)), (.ref b0)])) _
    refine X0.baloadBytes hx (j := (8 : Int32)) (v := (.int (101 : Int32))) (by rw [e0]; exact Ar28.1) (State.isArrayOf_alike hZ.alike Ar28.2.1) Ar28.2.2 hin28 hat28 (g := (mkF m 17 #[.val (.ref b0), .val (.ref b1), .val (.int (8 : Int32))] [(.int (8 : Int32)), (.ref b0)])) rfl rfl (hb hby d_own_rmLe11_17) _ ?_
    show Steps p.tables e below (s₁.setTop (mkF m 18 #[.val (.ref b0), .val (.ref b1), .val (.int (8 : Int32))] [(.int (101 : Int32))])) _
    refine XS.aloadN X0.here hx rfl (hb hby d_own_rmLe11_18) rfl rfl ?_
    show Steps p.tables e below (s₁.setTop (mkF m 19 #[.val (.ref b0), .val (.ref b1), .val (.int (8 : Int32))] [(.ref b1), (.int (101 : Int32))])) _
    refine XS.iloadN X0.here hx rfl (hb hby d_own_rmLe11_19) rfl ?_
    show Steps p.tables e below (s₁.setTop (mkF m 20 #[.val (.ref b0), .val (.ref b1), .val (.int (8 : Int32))] [(.int (8 : Int32)), (.ref b1), (.int (101 : Int32))])) _
    refine X0.baloadBytes hx (j := (8 : Int32)) (v := (.int (101 : Int32))) (by rw [e0]; exact Ar29.1) (State.isArrayOf_alike hZ.alike Ar29.2.1) Ar29.2.2 hin29 hat29 (g := (mkF m 20 #[.val (.ref b0), .val (.ref b1), .val (.int (8 : Int32))] [(.int (8 : Int32)), (.ref b1), (.int (101 : Int32))])) rfl rfl (hb hby d_own_rmLe11_20) _ ?_
    show Steps p.tables e below (s₁.setTop (mkF m 21 #[.val (.ref b0), .val (.ref b1), .val (.int (8 : Int32))] [(.int (101 : Int32)), (.int (101 : Int32))])) _
    refine XS.icmpYes X0.here hx rfl (pc0 := 21) (pc' := 26) rfl (hb hby d_own_rmLe11_21) rfl (teq ((by decide) : (101 : Int32) = (101 : Int32))).1 (by decide) (by decide) ?_
    show Steps p.tables e below (s₁.setTop (mkF m 26 #[.val (.ref b0), .val (.ref b1), .val (.int (8 : Int32))] [])) _
    refine XS.iinc X0.here hx rfl (hb hby d_own_rmLe11_26) rfl (l' := #[.val (.ref b0), .val (.ref b1), .val (.int (9 : Int32))]) rfl ?_
    show Steps p.tables e below (s₁.setTop (mkF m 29 #[.val (.ref b0), .val (.ref b1), .val (.int (9 : Int32))] [])) _
    refine XS.goto X0.here hx rfl (pc0 := 29) (pc' := 9) rfl (hb hby d_own_rmLe11_29) (by decide) (by decide) ?_
    show Steps p.tables e below (s₁.setTop (mkF m 9 #[.val (.ref b0), .val (.ref b1), .val (.int (9 : Int32))] [])) _
    refine XS.iloadN X0.here hx rfl (hb hby d_own_rmLe11_9) rfl ?_
    show Steps p.tables e below (s₁.setTop (mkF m 10 #[.val (.ref b0), .val (.ref b1), .val (.int (9 : Int32))] [(.int (9 : Int32))])) _
    refine XS.aloadN X0.here hx rfl (hb hby d_own_rmLe11_10) rfl rfl ?_
    show Steps p.tables e below (s₁.setTop (mkF m 11 #[.val (.ref b0), .val (.ref b1), .val (.int (9 : Int32))] [(.ref b0), (.int (9 : Int32))])) _
    refine X0.arraylength hx (by rw [e0]; exact Ar30.1) (State.isArrayOf_alike hZ.alike Ar30.2.1) (g := (mkF m 11 #[.val (.ref b0), .val (.ref b1), .val (.int (9 : Int32))] [(.ref b0), (.int (9 : Int32))])) rfl rfl (hb hby d_own_rmLe11_11) _ ?_
    rw [len_of Sz30 M30]
    show Steps p.tables e below (s₁.setTop (mkF m 12 #[.val (.ref b0), .val (.ref b1), .val (.int (9 : Int32))] [(.int (9 : Int32)), (.int (9 : Int32))])) _
    refine XS.icmpYes X0.here hx rfl (pc0 := 12) (pc' := 32) rfl (hb hby d_own_rmLe11_12) rfl (flt ((by decide) : ¬ ((9 : Int32) < (9 : Int32)))).2.1 (by decide) (by decide) ?_
    show Steps p.tables e below (s₁.setTop (mkF m 32 #[.val (.ref b0), .val (.ref b1), .val (.int (9 : Int32))] [])) _
    refine XS.iconst X0.here hx rfl (hb hby d_own_rmLe11_32) ?_
    show Steps p.tables e below (s₁.setTop (mkF m 33 #[.val (.ref b0), .val (.ref b1), .val (.int (9 : Int32))] [(.int (1 : Int32))])) _
    exact retN X0 hx (t := .boolean) Bd.returns (by simp) (hb hby d_own_rmLe11_33) hr
  · show own_QI (1 : Int32) h0 n0 _ s₁.heap _
    rw [e0]
    exact ⟨rfl, N0, rfl⟩
theorem d_own_rmEq11_0 : decode jdk_42_method_66_code 0 = .ok (.aload_n 0, 1) := by decide +kernel
theorem d_own_rmEq11_1 : decode jdk_42_method_66_code 1 = .ok (.aload_n 1, 1) := by decide +kernel
theorem d_own_rmEq11_2 : decode jdk_42_method_66_code 2 = .ok (.if_acmp .ne 5, 3) := by decide +kernel
theorem d_own_rmEq11_7 : decode jdk_42_method_66_code 7 = .ok (.aload_n 1, 1) := by decide +kernel
theorem d_own_rmEq11_8 : decode jdk_42_method_66_code 8 = .ok (.instanceof 10, 3) := by decide +kernel
theorem d_own_rmEq11_11 : decode jdk_42_method_66_code 11 = .ok (.ifCond .eq 43, 3) := by decide +kernel
theorem d_own_rmEq11_14 : decode jdk_42_method_66_code 14 = .ok (.aload_n 1, 1) := by decide +kernel
theorem d_own_rmEq11_15 : decode jdk_42_method_66_code 15 = .ok (.checkcast 10, 3) := by decide +kernel
theorem d_own_rmEq11_18 : decode jdk_42_method_66_code 18 = .ok (.astore_n 2, 1) := by decide +kernel
theorem d_own_rmEq11_19 : decode jdk_42_method_66_code 19 = .ok (.getstatic 38, 3) := by decide +kernel
theorem d_own_rmEq11_22 : decode jdk_42_method_66_code 22 = .ok (.ifCond .eq 14, 3) := by decide +kernel
theorem d_own_rmEq11_25 : decode jdk_42_method_66_code 25 = .ok (.aload_n 0, 1) := by decide +kernel
theorem d_own_rmEq11_26 : decode jdk_42_method_66_code 26 = .ok (.getfield 15, 3) := by decide +kernel
theorem d_own_rmEq11_29 : decode jdk_42_method_66_code 29 = .ok (.aload_n 2, 1) := by decide +kernel
theorem d_own_rmEq11_30 : decode jdk_42_method_66_code 30 = .ok (.getfield 15, 3) := by decide +kernel
theorem d_own_rmEq11_33 : decode jdk_42_method_66_code 33 = .ok (.if_icmp .ne 21, 3) := by decide +kernel
theorem d_own_rmEq11_36 : decode jdk_42_method_66_code 36 = .ok (.aload_n 0, 1) := by decide +kernel
theorem d_own_rmEq11_37 : decode jdk_42_method_66_code 37 = .ok (.getfield 9, 3) := by decide +kernel
theorem d_own_rmEq11_40 : decode jdk_42_method_66_code 40 = .ok (.aload_n 2, 1) := by decide +kernel
theorem d_own_rmEq11_41 : decode jdk_42_method_66_code 41 = .ok (.getfield 9, 3) := by decide +kernel
theorem d_own_rmEq11_44 : decode jdk_42_method_66_code 44 = .ok (.invokestatic 541, 3) := by decide +kernel
theorem d_own_rmEq11_47 : decode jdk_42_method_66_code 47 = .ok (.ifCond .eq 7, 3) := by decide +kernel
theorem d_own_rmEq11_50 : decode jdk_42_method_66_code 50 = .ok (.iconst 1, 1) := by decide +kernel
theorem d_own_rmEq11_51 : decode jdk_42_method_66_code 51 = .ok (.goto 4, 3) := by decide +kernel
theorem d_own_rmEq11_55 : decode jdk_42_method_66_code 55 = .ok (.ireturn, 1) := by decide +kernel
theorem ef_own_rmEq11 (m : MethodId) (x0 : Addr) (x1 : Addr) : entryFrame m #[(.ref x0), (.ref x1)] 3 = mkF m 0 #[.val (.ref x0), .val (.ref x1), .unset] [] := by first | (simp [entryFrame, mkF, argsToLocals, Value.category]; done) | rfl
set_option maxRecDepth 65536 in
set_option maxHeartbeats 40000000 in
theorem own_rmEq11 (l : Launch) (Z : State) (a0 : Array Value) (hw : ∀ d ∈ tables_1, d.before a0 Z = true) (ws : List Jvm.Cond) (b0 : Addr) (b1 : Addr) (v0 v1 : Addr) (kv0 kv1 : ClassId) (cs : Int32) (h0 : Heap) (n0 : Nat) (Z0 : n0 ≤ h0.size) (E_b0 : Exa Z h0 b0 "java/lang/String") (F_cb0 : Fld Z h0 b0 "java/lang/String" "coder" "B" (.int (0 : Int32))) (F_vb0 : Fld Z h0 b0 "java/lang/String" "value" "[B" (.ref v0)) (V_v0 : Arv Z h0 v0 kv0 .byte (9 : Int32) [(.int (114 : Int32)), (.int (101 : Int32)), (.int (102 : Int32)), (.int (101 : Int32)), (.int (114 : Int32)), (.int (101 : Int32)), (.int (110 : Int32)), (.int (99 : Int32)), (.int (101 : Int32))] (.int (0 : Int32))) (E_b1 : Exa Z h0 b1 "java/lang/String") (F_cb1 : Fld Z h0 b1 "java/lang/String" "coder" "B" (.int (0 : Int32))) (F_vb1 : Fld Z h0 b1 "java/lang/String" "value" "[B" (.ref v1)) (V_v1 : Arv Z h0 v1 kv1 .byte (9 : Int32) [(.int (114 : Int32)), (.int (101 : Int32)), (.int (102 : Int32)), (.int (101 : Int32)), (.int (114 : Int32)), (.int (101 : Int32)), (.int (110 : Int32)), (.int (99 : Int32)), (.int (101 : Int32))] (.int (0 : Int32))) (S_cs : Sta Z h0 "java/lang/String" "COMPACT_STRINGS" "Z" (.int cs)) (hcs : ¬ cs = (0 : Int32)) (h01 : ¬ b0 = b1) :
    MetFree l (⟨"java/lang/String", "equals", "(Ljava/lang/Object;)Z"⟩ : MethodName) (head1 (Jvm.Cond.code (⟨"java/lang/String", "equals", "(Ljava/lang/Object;)Z"⟩ : MethodName) jdk_42_method_66_code 3 (some .boolean) :: ws) ({ frames := 1, cells := 0, slots := 0, locals := 14 } : Room)) (fun a U => a = #[(.ref b0), (.ref b1)] ∧ Z.Warmed39 U.vm ∧ U.heap = h0) (fun _ _ _ _ _ => True) (fun _ U o U' => ∃ v L, o = .returned v ∧ own_QI (1 : Int32) h0 n0 v U'.heap L ∧ FrameEnd U o U' L ({ frames := 1, cells := 0, slots := 0, locals := 14 } : Room).cells ({ frames := 1, cells := 0, slots := 0, locals := 14 } : Room).slots) := by
  refine MetFree.of_bodySF (plainFor_of_name own_pn6) hisR ?_
  intro p e s m args below meth c s₁ Bd hml0 hP hK
  obtain ⟨rfl, hZ, hh⟩ := hP
  have hx := Bd.exec
  have hby := Bd.bytes
  have hml : c.maxLocals = 3 := hml0
  have hown : s.vm.findClass "java/lang/String" = some m.cls := findClass_of_methodNamed Bd.named
  have hnm := (name_of_methodNamed Bd.named Bd.method).1
  have X0 : Stand p l e ({ frames := 1, cells := 0, slots := 0, locals := 14 } : Room) s m #[(.ref b0), (.ref b1)] below meth c s₁ [] 0 0 := Stand.of_body Bd
  have e0 : s₁.heap = h0 := by rw [← hh, Bd.state]; rfl
  have N0 := Fr.nil n0
  refine own_go (b := s₁.setTop (mkF m 0 #[.val (.ref b0), .val (.ref b1), .unset] [])) (fun t k => castTop (ef_own_rmEq11 m b0 b1) k) ?_
  obtain ⟨T1, X1, e1, st1⟩ := instY X0 hx hZ hown (hw _ (List.mem_of_getElem? (i := 126) rfl)) e0 (Ins.self E_b1) (g := (mkF m 8 #[.val (.ref b0), .val (.ref b1), .unset] [(.ref b1)])) rfl rfl (hb hby d_own_rmEq11_8)
  obtain ⟨T2, X2, e2, st2⟩ := castY X1 hx hZ hown (hw _ (List.mem_of_getElem? (i := 126) rfl)) e1 (Ins.self E_b1) (g := (mkF m 15 #[.val (.ref b0), .val (.ref b1), .unset] [(.ref b1)])) rfl rfl (hb hby d_own_rmEq11_15)
  obtain ⟨T3, X3, e3, st3⟩ := getS2 X2 hx hZ hown (host := "") (Or.inl (hw _ (List.mem_of_getElem? (i := 127) rfl))) Via.refl e2 S_cs (g := (mkF m 19 #[.val (.ref b0), .val (.ref b1), .val (.ref b1)] [])) rfl (hb hby d_own_rmEq11_19)
  obtain ⟨T4, X4, e4, st4⟩ := getF X3 hx hZ hown (host := "") (Or.inl (hw _ (List.mem_of_getElem? (i := 128) rfl))) Via.refl e3 F_cb0 (g := (mkF m 26 #[.val (.ref b0), .val (.ref b1), .val (.ref b1)] [(.ref b0)])) rfl rfl (hb hby d_own_rmEq11_26)
  obtain ⟨T5, X5, e5, st5⟩ := getF X4 hx hZ hown (host := "") (Or.inl (hw _ (List.mem_of_getElem? (i := 128) rfl))) Via.refl e4 F_cb1 (g := (mkF m 30 #[.val (.ref b0), .val (.ref b1), .val (.ref b1)] [(.ref b1), (.int (0 : Int32))])) rfl rfl (hb hby d_own_rmEq11_30)
  obtain ⟨T6, X6, e6, st6⟩ := getF X5 hx hZ hown (host := "") (Or.inl (hw _ (List.mem_of_getElem? (i := 129) rfl))) Via.refl e5 F_vb0 (g := (mkF m 37 #[.val (.ref b0), .val (.ref b1), .val (.ref b1)] [(.ref b0)])) rfl rfl (hb hby d_own_rmEq11_37)
  obtain ⟨T7, X7, e7, st7⟩ := getF X6 hx hZ hown (host := "") (Or.inl (hw _ (List.mem_of_getElem? (i := 129) rfl))) Via.refl e6 F_vb1 (g := (mkF m 41 #[.val (.ref b0), .val (.ref b1), .val (.ref b1)] [(.ref b1), (.ref v0)])) rfl rfl (hb hby d_own_rmEq11_41)
  obtain ⟨_, _, ⟨T8, L8, k8, n8⟩, -, X8, ⟨Lc8, hQ8, l8, y8, z8⟩, st8⟩ := Jvm.LawKit.callS X7 hx (y := (⟨"java/lang/StringLatin1", "equals", "([B[B)Z"⟩ : MethodName)) hown (mvT hZ (hw _ (List.mem_of_getElem? (i := 130) rfl))) (mvT hZ (hw _ (List.mem_of_getElem? (i := 131) rfl))) (mvT hZ (hw _ (List.mem_of_getElem? (i := 132) rfl))) (mvT hZ (hw _ (List.mem_of_getElem? (i := 133) rfl))) (by decide) (backOf (W := 0) (own_rmLe11 l Z a0 hw [] v0 v1 kv0 kv1 h0 n0 Z0 V_v0 V_v1) hZ (hw _ (List.mem_of_getElem? (i := 133) rfl)) (hw _ (List.mem_of_getElem? (i := 132) rfl)) (by decide) (by decide)) (g := (mkF m 44 #[.val (.ref b0), .val (.ref b1), .val (.ref b1)] [(.ref v1), (.ref v0)])) rfl (by rw [hml]; rfl) (argsL := [(.ref v0), (.ref v1)]) (rest := []) (lenOf own_pd9 rfl) rfl (by show 2 * 0 + _ ≤ _; exact Nat.le_of_eq rfl) (hb hby d_own_rmEq11_44) (fun _ _ => ⟨rfl, e7, (by decide : 0 + 0 ≤ _), (by decide : 0 + 0 ≤ _)⟩)
  dsimp only [Pt.U, Pt.locs, Pt.cells, Pt.slots] at X8 l8 y8 z8 st8 hQ8
  subst l8 y8 z8
  obtain ⟨rfl, N8q, e8⟩ := hQ8
  have N8 := Fr.app N0 N8q
  obtain ⟨fs, hr, hrun, hended, hW, hsame⟩ := X8.leave (v := some (.int (1 : Int32))) (fun h => by rw [Bd.returns] at h; cases h)
  refine ⟨_, _, ?_, hrun, hended, _, _, rfl, ?_, ⟨_, rfl⟩, hW, hsame.mono (by decide) (by decide)⟩
  · show Steps p.tables e below (s₁.setTop (mkF m 0 #[.val (.ref b0), .val (.ref b1), .unset] [])) _
    refine XS.aloadN X0.here hx rfl (hb hby d_own_rmEq11_0) rfl rfl ?_
    show Steps p.tables e below (s₁.setTop (mkF m 1 #[.val (.ref b0), .val (.ref b1), .unset] [(.ref b0)])) _
    refine XS.aloadN X0.here hx rfl (hb hby d_own_rmEq11_1) rfl rfl ?_
    show Steps p.tables e below (s₁.setTop (mkF m 2 #[.val (.ref b0), .val (.ref b1), .unset] [(.ref b1), (.ref b0)])) _
    refine Jvm.RoadKit.acmp (g := (mkF m 2 #[.val (.ref b0), .val (.ref b1), .unset] [(.ref b1), (.ref b0)])) X0 hx rfl rfl rfl (pc0 := 2) (pc' := 7) (same := false) rfl (hb hby d_own_rmEq11_2) rfl (decide_eq_false fun q => (h01 : ¬ (b0 = b1)) (Value.ref.inj q)) (by decide) (by decide) ?_
    show Steps p.tables e below (s₁.setTop (mkF m 7 #[.val (.ref b0), .val (.ref b1), .unset] [])) _
    refine XS.aloadN X0.here hx rfl (hb hby d_own_rmEq11_7) rfl rfl ?_
    show Steps p.tables e below (s₁.setTop (mkF m 8 #[.val (.ref b0), .val (.ref b1), .unset] [(.ref b1)])) _
    refine st1 _ ?_
    show Steps p.tables e below (T1.setTop (mkF m 11 #[.val (.ref b0), .val (.ref b1), .unset] [(.int (1 : Int32))])) _
    refine XS.ifNo X1.here hx rfl (hb hby d_own_rmEq11_11) rfl ((if0 _ _).trans (feq ((by decide) : ¬ ((1 : Int32) = (0 : Int32)))).1) ?_
    show Steps p.tables e below (T1.setTop (mkF m 14 #[.val (.ref b0), .val (.ref b1), .unset] [])) _
    refine XS.aloadN X1.here hx rfl (hb hby d_own_rmEq11_14) rfl rfl ?_
    show Steps p.tables e below (T1.setTop (mkF m 15 #[.val (.ref b0), .val (.ref b1), .unset] [(.ref b1)])) _
    refine st2 _ ?_
    show Steps p.tables e below (T2.setTop (mkF m 18 #[.val (.ref b0), .val (.ref b1), .unset] [(.ref b1)])) _
    refine XS.astoreN X2.here hx rfl (hb hby d_own_rmEq11_18) rfl rfl (l' := #[.val (.ref b0), .val (.ref b1), .val (.ref b1)]) rfl ?_
    show Steps p.tables e below (T2.setTop (mkF m 19 #[.val (.ref b0), .val (.ref b1), .val (.ref b1)] [])) _
    refine st3 _ ?_
    show Steps p.tables e below (T3.setTop (mkF m 22 #[.val (.ref b0), .val (.ref b1), .val (.ref b1)] [(.int cs)])) _
    refine XS.ifNo X3.here hx rfl (hb hby d_own_rmEq11_22) rfl ((if0 _ _).trans (feq (hcs : ¬ (cs = (0 : Int32)))).1) ?_
    show Steps p.tables e below (T3.setTop (mkF m 25 #[.val (.ref b0), .val (.ref b1), .val (.ref b1)] [])) _
    refine XS.aloadN X3.here hx rfl (hb hby d_own_rmEq11_25) rfl rfl ?_
    show Steps p.tables e below (T3.setTop (mkF m 26 #[.val (.ref b0), .val (.ref b1), .val (.ref b1)] [(.ref b0)])) _
    refine st4 _ ?_
    show Steps p.tables e below (T4.setTop (mkF m 29 #[.val (.ref b0), .val (.ref b1), .val (.ref b1)] [(.int (0 : Int32))])) _
    refine XS.aloadN X4.here hx rfl (hb hby d_own_rmEq11_29) rfl rfl ?_
    show Steps p.tables e below (T4.setTop (mkF m 30 #[.val (.ref b0), .val (.ref b1), .val (.ref b1)] [(.ref b1), (.int (0 : Int32))])) _
    refine st5 _ ?_
    show Steps p.tables e below (T5.setTop (mkF m 33 #[.val (.ref b0), .val (.ref b1), .val (.ref b1)] [(.int (0 : Int32)), (.int (0 : Int32))])) _
    refine XS.icmpNo X5.here hx rfl (hb hby d_own_rmEq11_33) rfl (teq ((by decide) : (0 : Int32) = (0 : Int32))).2 ?_
    show Steps p.tables e below (T5.setTop (mkF m 36 #[.val (.ref b0), .val (.ref b1), .val (.ref b1)] [])) _
    refine XS.aloadN X5.here hx rfl (hb hby d_own_rmEq11_36) rfl rfl ?_
    show Steps p.tables e below (T5.setTop (mkF m 37 #[.val (.ref b0), .val (.ref b1), .val (.ref b1)] [(.ref b0)])) _
    refine st6 _ ?_
    show Steps p.tables e below (T6.setTop (mkF m 40 #[.val (.ref b0), .val (.ref b1), .val (.ref b1)] [(.ref v0)])) _
    refine XS.aloadN X6.here hx rfl (hb hby d_own_rmEq11_40) rfl rfl ?_
    show Steps p.tables e below (T6.setTop (mkF m 41 #[.val (.ref b0), .val (.ref b1), .val (.ref b1)] [(.ref b1), (.ref v0)])) _
    refine st7 _ ?_
    show Steps p.tables e below (T7.setTop (mkF m 44 #[.val (.ref b0), .val (.ref b1), .val (.ref b1)] [(.ref v1), (.ref v0)])) _
    refine st8 _ ?_
    show Steps p.tables e below (T8.setTop (mkF m 47 #[.val (.ref b0), .val (.ref b1), .val (.ref b1)] [(.int (1 : Int32))])) _
    refine XS.ifNo X8.here hx rfl (hb hby d_own_rmEq11_47) rfl ((if0 _ _).trans (feq ((by decide) : ¬ ((1 : Int32) = (0 : Int32)))).1) ?_
    show Steps p.tables e below (T8.setTop (mkF m 50 #[.val (.ref b0), .val (.ref b1), .val (.ref b1)] [])) _
    refine XS.iconst X8.here hx rfl (hb hby d_own_rmEq11_50) ?_
    show Steps p.tables e below (T8.setTop (mkF m 51 #[.val (.ref b0), .val (.ref b1), .val (.ref b1)] [(.int (1 : Int32))])) _
    refine XS.goto X8.here hx rfl (pc0 := 51) (pc' := 55) rfl (hb hby d_own_rmEq11_51) (by decide) (by decide) ?_
    show Steps p.tables e below (T8.setTop (mkF m 55 #[.val (.ref b0), .val (.ref b1), .val (.ref b1)] [(.int (1 : Int32))])) _
    exact retN X8 hx (t := .boolean) Bd.returns (by simp) (hb hby d_own_rmEq11_55) hr
  · show own_QI (1 : Int32) h0 n0 _ T8.heap _
    rw [e8]
    exact ⟨rfl, N8, rfl⟩
theorem d_own_rmLe01_0 : decode jdk_43_method_13_code 0 = .ok (.aload_n 0, 1) := by decide +kernel
theorem d_own_rmLe01_1 : decode jdk_43_method_13_code 1 = .ok (.arraylength, 1) := by decide +kernel
theorem d_own_rmLe01_2 : decode jdk_43_method_13_code 2 = .ok (.aload_n 1, 1) := by decide +kernel
theorem d_own_rmLe01_3 : decode jdk_43_method_13_code 3 = .ok (.arraylength, 1) := by decide +kernel
theorem d_own_rmLe01_4 : decode jdk_43_method_13_code 4 = .ok (.if_icmp .ne 30, 3) := by decide +kernel
theorem d_own_rmLe01_34 : decode jdk_43_method_13_code 34 = .ok (.iconst 0, 1) := by decide +kernel
theorem d_own_rmLe01_35 : decode jdk_43_method_13_code 35 = .ok (.ireturn, 1) := by decide +kernel
theorem ef_own_rmLe01 (m : MethodId) (x0 : Addr) (x1 : Addr) : entryFrame m #[(.ref x0), (.ref x1)] 3 = mkF m 0 #[.val (.ref x0), .val (.ref x1), .unset] [] := by first | (simp [entryFrame, mkF, argsToLocals, Value.category]; done) | rfl
set_option maxRecDepth 65536 in
set_option maxHeartbeats 40000000 in
theorem own_rmLe01 (l : Launch) (Z : State) (a0 : Array Value) (hw : ∀ d ∈ tables_1, d.before a0 Z = true) (ws : List Jvm.Cond) (b0 : Addr) (b1 : Addr) (kb0 kb1 : ClassId) (h0 : Heap) (n0 : Nat) (Z0 : n0 ≤ h0.size) (V_b0 : Arv Z h0 b0 kb0 .byte (10 : Int32) [(.int (115 : Int32)), (.int (101 : Int32)), (.int (113 : Int32)), (.int (117 : Int32)), (.int (101 : Int32)), (.int (110 : Int32)), (.int (116 : Int32)), (.int (105 : Int32)), (.int (97 : Int32)), (.int (108 : Int32))] (.int (0 : Int32))) (V_b1 : Arv Z h0 b1 kb1 .byte (9 : Int32) [(.int (114 : Int32)), (.int (101 : Int32)), (.int (102 : Int32)), (.int (101 : Int32)), (.int (114 : Int32)), (.int (101 : Int32)), (.int (110 : Int32)), (.int (99 : Int32)), (.int (101 : Int32))] (.int (0 : Int32))) :
    MetFree l (⟨"java/lang/StringLatin1", "equals", "([B[B)Z"⟩ : MethodName) (head1 (Jvm.Cond.code (⟨"java/lang/StringLatin1", "equals", "([B[B)Z"⟩ : MethodName) jdk_43_method_13_code 3 (some .boolean) :: ws) ({ frames := 0, cells := 0, slots := 0, locals := 0 } : Room)) (fun a U => a = #[(.ref b0), (.ref b1)] ∧ Z.Warmed39 U.vm ∧ U.heap = h0) (fun _ _ _ _ _ => True) (fun _ U o U' => ∃ v L, o = .returned v ∧ own_QI (0 : Int32) h0 n0 v U'.heap L ∧ FrameEnd U o U' L ({ frames := 0, cells := 0, slots := 0, locals := 0 } : Room).cells ({ frames := 0, cells := 0, slots := 0, locals := 0 } : Room).slots) := by
  refine MetFree.of_bodySF (plainFor_of_name own_pn7) hisR ?_
  intro p e s m args below meth c s₁ Bd hml0 hP hK
  obtain ⟨rfl, hZ, hh⟩ := hP
  have hx := Bd.exec
  have hby := Bd.bytes
  have hml : c.maxLocals = 3 := hml0
  have hown : s.vm.findClass "java/lang/StringLatin1" = some m.cls := findClass_of_methodNamed Bd.named
  have hnm := (name_of_methodNamed Bd.named Bd.method).1
  have X0 : Stand p l e ({ frames := 0, cells := 0, slots := 0, locals := 0 } : Room) s m #[(.ref b0), (.ref b1)] below meth c s₁ [] 0 0 := Stand.of_body Bd
  have e0 : s₁.heap = h0 := by rw [← hh, Bd.state]; rfl
  have N0 := Fr.nil n0
  refine own_go (b := s₁.setTop (mkF m 0 #[.val (.ref b0), .val (.ref b1), .unset] [])) (fun t k => castTop (ef_own_rmLe01 m b0 b1) k) ?_
  obtain ⟨cl1, Ar1, -, Sz1, M1, -, -⟩ := id V_b0
  obtain ⟨cl2, Ar2, -, Sz2, M2, -, -⟩ := id V_b1
  obtain ⟨fs, hr, hrun, hended, hW, hsame⟩ := X0.leave (v := some (.int (0 : Int32))) (fun h => by rw [Bd.returns] at h; cases h)
  refine ⟨_, _, ?_, hrun, hended, _, _, rfl, ?_, ⟨_, rfl⟩, hW, hsame.mono (by decide) (by decide)⟩
  · show Steps p.tables e below (s₁.setTop (mkF m 0 #[.val (.ref b0), .val (.ref b1), .unset] [])) _
    refine XS.aloadN X0.here hx rfl (hb hby d_own_rmLe01_0) rfl rfl ?_
    show Steps p.tables e below (s₁.setTop (mkF m 1 #[.val (.ref b0), .val (.ref b1), .unset] [(.ref b0)])) _
    refine X0.arraylength hx (by rw [e0]; exact Ar1.1) (State.isArrayOf_alike hZ.alike Ar1.2.1) (g := (mkF m 1 #[.val (.ref b0), .val (.ref b1), .unset] [(.ref b0)])) rfl rfl (hb hby d_own_rmLe01_1) _ ?_
    rw [len_of Sz1 M1]
    show Steps p.tables e below (s₁.setTop (mkF m 2 #[.val (.ref b0), .val (.ref b1), .unset] [(.int (10 : Int32))])) _
    refine XS.aloadN X0.here hx rfl (hb hby d_own_rmLe01_2) rfl rfl ?_
    show Steps p.tables e below (s₁.setTop (mkF m 3 #[.val (.ref b0), .val (.ref b1), .unset] [(.ref b1), (.int (10 : Int32))])) _
    refine X0.arraylength hx (by rw [e0]; exact Ar2.1) (State.isArrayOf_alike hZ.alike Ar2.2.1) (g := (mkF m 3 #[.val (.ref b0), .val (.ref b1), .unset] [(.ref b1), (.int (10 : Int32))])) rfl rfl (hb hby d_own_rmLe01_3) _ ?_
    rw [len_of Sz2 M2]
    show Steps p.tables e below (s₁.setTop (mkF m 4 #[.val (.ref b0), .val (.ref b1), .unset] [(.int (9 : Int32)), (.int (10 : Int32))])) _
    refine XS.icmpYes X0.here hx rfl (pc0 := 4) (pc' := 34) rfl (hb hby d_own_rmLe01_4) rfl (feq ((by decide) : ¬ ((10 : Int32) = (9 : Int32)))).2 (by decide) (by decide) ?_
    show Steps p.tables e below (s₁.setTop (mkF m 34 #[.val (.ref b0), .val (.ref b1), .unset] [])) _
    refine XS.iconst X0.here hx rfl (hb hby d_own_rmLe01_34) ?_
    show Steps p.tables e below (s₁.setTop (mkF m 35 #[.val (.ref b0), .val (.ref b1), .unset] [(.int (0 : Int32))])) _
    exact retN X0 hx (t := .boolean) Bd.returns (by simp) (hb hby d_own_rmLe01_35) hr
  · show own_QI (0 : Int32) h0 n0 _ s₁.heap _
    rw [e0]
    exact ⟨rfl, N0, rfl⟩
theorem d_own_rmEq01_0 : decode jdk_42_method_66_code 0 = .ok (.aload_n 0, 1) := by decide +kernel
theorem d_own_rmEq01_1 : decode jdk_42_method_66_code 1 = .ok (.aload_n 1, 1) := by decide +kernel
theorem d_own_rmEq01_2 : decode jdk_42_method_66_code 2 = .ok (.if_acmp .ne 5, 3) := by decide +kernel
theorem d_own_rmEq01_7 : decode jdk_42_method_66_code 7 = .ok (.aload_n 1, 1) := by decide +kernel
theorem d_own_rmEq01_8 : decode jdk_42_method_66_code 8 = .ok (.instanceof 10, 3) := by decide +kernel
theorem d_own_rmEq01_11 : decode jdk_42_method_66_code 11 = .ok (.ifCond .eq 43, 3) := by decide +kernel
theorem d_own_rmEq01_14 : decode jdk_42_method_66_code 14 = .ok (.aload_n 1, 1) := by decide +kernel
theorem d_own_rmEq01_15 : decode jdk_42_method_66_code 15 = .ok (.checkcast 10, 3) := by decide +kernel
theorem d_own_rmEq01_18 : decode jdk_42_method_66_code 18 = .ok (.astore_n 2, 1) := by decide +kernel
theorem d_own_rmEq01_19 : decode jdk_42_method_66_code 19 = .ok (.getstatic 38, 3) := by decide +kernel
theorem d_own_rmEq01_22 : decode jdk_42_method_66_code 22 = .ok (.ifCond .eq 14, 3) := by decide +kernel
theorem d_own_rmEq01_25 : decode jdk_42_method_66_code 25 = .ok (.aload_n 0, 1) := by decide +kernel
theorem d_own_rmEq01_26 : decode jdk_42_method_66_code 26 = .ok (.getfield 15, 3) := by decide +kernel
theorem d_own_rmEq01_29 : decode jdk_42_method_66_code 29 = .ok (.aload_n 2, 1) := by decide +kernel
theorem d_own_rmEq01_30 : decode jdk_42_method_66_code 30 = .ok (.getfield 15, 3) := by decide +kernel
theorem d_own_rmEq01_33 : decode jdk_42_method_66_code 33 = .ok (.if_icmp .ne 21, 3) := by decide +kernel
theorem d_own_rmEq01_36 : decode jdk_42_method_66_code 36 = .ok (.aload_n 0, 1) := by decide +kernel
theorem d_own_rmEq01_37 : decode jdk_42_method_66_code 37 = .ok (.getfield 9, 3) := by decide +kernel
theorem d_own_rmEq01_40 : decode jdk_42_method_66_code 40 = .ok (.aload_n 2, 1) := by decide +kernel
theorem d_own_rmEq01_41 : decode jdk_42_method_66_code 41 = .ok (.getfield 9, 3) := by decide +kernel
theorem d_own_rmEq01_44 : decode jdk_42_method_66_code 44 = .ok (.invokestatic 541, 3) := by decide +kernel
theorem d_own_rmEq01_47 : decode jdk_42_method_66_code 47 = .ok (.ifCond .eq 7, 3) := by decide +kernel
theorem d_own_rmEq01_54 : decode jdk_42_method_66_code 54 = .ok (.iconst 0, 1) := by decide +kernel
theorem d_own_rmEq01_55 : decode jdk_42_method_66_code 55 = .ok (.ireturn, 1) := by decide +kernel
theorem ef_own_rmEq01 (m : MethodId) (x0 : Addr) (x1 : Addr) : entryFrame m #[(.ref x0), (.ref x1)] 3 = mkF m 0 #[.val (.ref x0), .val (.ref x1), .unset] [] := by first | (simp [entryFrame, mkF, argsToLocals, Value.category]; done) | rfl
set_option maxRecDepth 65536 in
set_option maxHeartbeats 40000000 in
theorem own_rmEq01 (l : Launch) (Z : State) (a0 : Array Value) (hw : ∀ d ∈ tables_1, d.before a0 Z = true) (ws : List Jvm.Cond) (b0 : Addr) (b1 : Addr) (v0 v1 : Addr) (kv0 kv1 : ClassId) (cs : Int32) (h0 : Heap) (n0 : Nat) (Z0 : n0 ≤ h0.size) (E_b0 : Exa Z h0 b0 "java/lang/String") (F_cb0 : Fld Z h0 b0 "java/lang/String" "coder" "B" (.int (0 : Int32))) (F_vb0 : Fld Z h0 b0 "java/lang/String" "value" "[B" (.ref v0)) (V_v0 : Arv Z h0 v0 kv0 .byte (10 : Int32) [(.int (115 : Int32)), (.int (101 : Int32)), (.int (113 : Int32)), (.int (117 : Int32)), (.int (101 : Int32)), (.int (110 : Int32)), (.int (116 : Int32)), (.int (105 : Int32)), (.int (97 : Int32)), (.int (108 : Int32))] (.int (0 : Int32))) (E_b1 : Exa Z h0 b1 "java/lang/String") (F_cb1 : Fld Z h0 b1 "java/lang/String" "coder" "B" (.int (0 : Int32))) (F_vb1 : Fld Z h0 b1 "java/lang/String" "value" "[B" (.ref v1)) (V_v1 : Arv Z h0 v1 kv1 .byte (9 : Int32) [(.int (114 : Int32)), (.int (101 : Int32)), (.int (102 : Int32)), (.int (101 : Int32)), (.int (114 : Int32)), (.int (101 : Int32)), (.int (110 : Int32)), (.int (99 : Int32)), (.int (101 : Int32))] (.int (0 : Int32))) (S_cs : Sta Z h0 "java/lang/String" "COMPACT_STRINGS" "Z" (.int cs)) (hcs : ¬ cs = (0 : Int32)) (h01 : ¬ b0 = b1) :
    MetFree l (⟨"java/lang/String", "equals", "(Ljava/lang/Object;)Z"⟩ : MethodName) (head1 (Jvm.Cond.code (⟨"java/lang/String", "equals", "(Ljava/lang/Object;)Z"⟩ : MethodName) jdk_42_method_66_code 3 (some .boolean) :: ws) ({ frames := 1, cells := 0, slots := 0, locals := 14 } : Room)) (fun a U => a = #[(.ref b0), (.ref b1)] ∧ Z.Warmed39 U.vm ∧ U.heap = h0) (fun _ _ _ _ _ => True) (fun _ U o U' => ∃ v L, o = .returned v ∧ own_QI (0 : Int32) h0 n0 v U'.heap L ∧ FrameEnd U o U' L ({ frames := 1, cells := 0, slots := 0, locals := 14 } : Room).cells ({ frames := 1, cells := 0, slots := 0, locals := 14 } : Room).slots) := by
  refine MetFree.of_bodySF (plainFor_of_name own_pn6) hisR ?_
  intro p e s m args below meth c s₁ Bd hml0 hP hK
  obtain ⟨rfl, hZ, hh⟩ := hP
  have hx := Bd.exec
  have hby := Bd.bytes
  have hml : c.maxLocals = 3 := hml0
  have hown : s.vm.findClass "java/lang/String" = some m.cls := findClass_of_methodNamed Bd.named
  have hnm := (name_of_methodNamed Bd.named Bd.method).1
  have X0 : Stand p l e ({ frames := 1, cells := 0, slots := 0, locals := 14 } : Room) s m #[(.ref b0), (.ref b1)] below meth c s₁ [] 0 0 := Stand.of_body Bd
  have e0 : s₁.heap = h0 := by rw [← hh, Bd.state]; rfl
  have N0 := Fr.nil n0
  refine own_go (b := s₁.setTop (mkF m 0 #[.val (.ref b0), .val (.ref b1), .unset] [])) (fun t k => castTop (ef_own_rmEq01 m b0 b1) k) ?_
  obtain ⟨T1, X1, e1, st1⟩ := instY X0 hx hZ hown (hw _ (List.mem_of_getElem? (i := 126) rfl)) e0 (Ins.self E_b1) (g := (mkF m 8 #[.val (.ref b0), .val (.ref b1), .unset] [(.ref b1)])) rfl rfl (hb hby d_own_rmEq01_8)
  obtain ⟨T2, X2, e2, st2⟩ := castY X1 hx hZ hown (hw _ (List.mem_of_getElem? (i := 126) rfl)) e1 (Ins.self E_b1) (g := (mkF m 15 #[.val (.ref b0), .val (.ref b1), .unset] [(.ref b1)])) rfl rfl (hb hby d_own_rmEq01_15)
  obtain ⟨T3, X3, e3, st3⟩ := getS2 X2 hx hZ hown (host := "") (Or.inl (hw _ (List.mem_of_getElem? (i := 127) rfl))) Via.refl e2 S_cs (g := (mkF m 19 #[.val (.ref b0), .val (.ref b1), .val (.ref b1)] [])) rfl (hb hby d_own_rmEq01_19)
  obtain ⟨T4, X4, e4, st4⟩ := getF X3 hx hZ hown (host := "") (Or.inl (hw _ (List.mem_of_getElem? (i := 128) rfl))) Via.refl e3 F_cb0 (g := (mkF m 26 #[.val (.ref b0), .val (.ref b1), .val (.ref b1)] [(.ref b0)])) rfl rfl (hb hby d_own_rmEq01_26)
  obtain ⟨T5, X5, e5, st5⟩ := getF X4 hx hZ hown (host := "") (Or.inl (hw _ (List.mem_of_getElem? (i := 128) rfl))) Via.refl e4 F_cb1 (g := (mkF m 30 #[.val (.ref b0), .val (.ref b1), .val (.ref b1)] [(.ref b1), (.int (0 : Int32))])) rfl rfl (hb hby d_own_rmEq01_30)
  obtain ⟨T6, X6, e6, st6⟩ := getF X5 hx hZ hown (host := "") (Or.inl (hw _ (List.mem_of_getElem? (i := 129) rfl))) Via.refl e5 F_vb0 (g := (mkF m 37 #[.val (.ref b0), .val (.ref b1), .val (.ref b1)] [(.ref b0)])) rfl rfl (hb hby d_own_rmEq01_37)
  obtain ⟨T7, X7, e7, st7⟩ := getF X6 hx hZ hown (host := "") (Or.inl (hw _ (List.mem_of_getElem? (i := 129) rfl))) Via.refl e6 F_vb1 (g := (mkF m 41 #[.val (.ref b0), .val (.ref b1), .val (.ref b1)] [(.ref b1), (.ref v0)])) rfl rfl (hb hby d_own_rmEq01_41)
  obtain ⟨_, _, ⟨T8, L8, k8, n8⟩, -, X8, ⟨Lc8, hQ8, l8, y8, z8⟩, st8⟩ := Jvm.LawKit.callS X7 hx (y := (⟨"java/lang/StringLatin1", "equals", "([B[B)Z"⟩ : MethodName)) hown (mvT hZ (hw _ (List.mem_of_getElem? (i := 130) rfl))) (mvT hZ (hw _ (List.mem_of_getElem? (i := 131) rfl))) (mvT hZ (hw _ (List.mem_of_getElem? (i := 132) rfl))) (mvT hZ (hw _ (List.mem_of_getElem? (i := 133) rfl))) (by decide) (backOf (W := 0) (own_rmLe01 l Z a0 hw [] v0 v1 kv0 kv1 h0 n0 Z0 V_v0 V_v1) hZ (hw _ (List.mem_of_getElem? (i := 133) rfl)) (hw _ (List.mem_of_getElem? (i := 132) rfl)) (by decide) (by decide)) (g := (mkF m 44 #[.val (.ref b0), .val (.ref b1), .val (.ref b1)] [(.ref v1), (.ref v0)])) rfl (by rw [hml]; rfl) (argsL := [(.ref v0), (.ref v1)]) (rest := []) (lenOf own_pd9 rfl) rfl (by show 2 * 0 + _ ≤ _; exact Nat.le_of_eq rfl) (hb hby d_own_rmEq01_44) (fun _ _ => ⟨rfl, e7, (by decide : 0 + 0 ≤ _), (by decide : 0 + 0 ≤ _)⟩)
  dsimp only [Pt.U, Pt.locs, Pt.cells, Pt.slots] at X8 l8 y8 z8 st8 hQ8
  subst l8 y8 z8
  obtain ⟨rfl, N8q, e8⟩ := hQ8
  have N8 := Fr.app N0 N8q
  obtain ⟨fs, hr, hrun, hended, hW, hsame⟩ := X8.leave (v := some (.int (0 : Int32))) (fun h => by rw [Bd.returns] at h; cases h)
  refine ⟨_, _, ?_, hrun, hended, _, _, rfl, ?_, ⟨_, rfl⟩, hW, hsame.mono (by decide) (by decide)⟩
  · show Steps p.tables e below (s₁.setTop (mkF m 0 #[.val (.ref b0), .val (.ref b1), .unset] [])) _
    refine XS.aloadN X0.here hx rfl (hb hby d_own_rmEq01_0) rfl rfl ?_
    show Steps p.tables e below (s₁.setTop (mkF m 1 #[.val (.ref b0), .val (.ref b1), .unset] [(.ref b0)])) _
    refine XS.aloadN X0.here hx rfl (hb hby d_own_rmEq01_1) rfl rfl ?_
    show Steps p.tables e below (s₁.setTop (mkF m 2 #[.val (.ref b0), .val (.ref b1), .unset] [(.ref b1), (.ref b0)])) _
    refine Jvm.RoadKit.acmp (g := (mkF m 2 #[.val (.ref b0), .val (.ref b1), .unset] [(.ref b1), (.ref b0)])) X0 hx rfl rfl rfl (pc0 := 2) (pc' := 7) (same := false) rfl (hb hby d_own_rmEq01_2) rfl (decide_eq_false fun q => (h01 : ¬ (b0 = b1)) (Value.ref.inj q)) (by decide) (by decide) ?_
    show Steps p.tables e below (s₁.setTop (mkF m 7 #[.val (.ref b0), .val (.ref b1), .unset] [])) _
    refine XS.aloadN X0.here hx rfl (hb hby d_own_rmEq01_7) rfl rfl ?_
    show Steps p.tables e below (s₁.setTop (mkF m 8 #[.val (.ref b0), .val (.ref b1), .unset] [(.ref b1)])) _
    refine st1 _ ?_
    show Steps p.tables e below (T1.setTop (mkF m 11 #[.val (.ref b0), .val (.ref b1), .unset] [(.int (1 : Int32))])) _
    refine XS.ifNo X1.here hx rfl (hb hby d_own_rmEq01_11) rfl ((if0 _ _).trans (feq ((by decide) : ¬ ((1 : Int32) = (0 : Int32)))).1) ?_
    show Steps p.tables e below (T1.setTop (mkF m 14 #[.val (.ref b0), .val (.ref b1), .unset] [])) _
    refine XS.aloadN X1.here hx rfl (hb hby d_own_rmEq01_14) rfl rfl ?_
    show Steps p.tables e below (T1.setTop (mkF m 15 #[.val (.ref b0), .val (.ref b1), .unset] [(.ref b1)])) _
    refine st2 _ ?_
    show Steps p.tables e below (T2.setTop (mkF m 18 #[.val (.ref b0), .val (.ref b1), .unset] [(.ref b1)])) _
    refine XS.astoreN X2.here hx rfl (hb hby d_own_rmEq01_18) rfl rfl (l' := #[.val (.ref b0), .val (.ref b1), .val (.ref b1)]) rfl ?_
    show Steps p.tables e below (T2.setTop (mkF m 19 #[.val (.ref b0), .val (.ref b1), .val (.ref b1)] [])) _
    refine st3 _ ?_
    show Steps p.tables e below (T3.setTop (mkF m 22 #[.val (.ref b0), .val (.ref b1), .val (.ref b1)] [(.int cs)])) _
    refine XS.ifNo X3.here hx rfl (hb hby d_own_rmEq01_22) rfl ((if0 _ _).trans (feq (hcs : ¬ (cs = (0 : Int32)))).1) ?_
    show Steps p.tables e below (T3.setTop (mkF m 25 #[.val (.ref b0), .val (.ref b1), .val (.ref b1)] [])) _
    refine XS.aloadN X3.here hx rfl (hb hby d_own_rmEq01_25) rfl rfl ?_
    show Steps p.tables e below (T3.setTop (mkF m 26 #[.val (.ref b0), .val (.ref b1), .val (.ref b1)] [(.ref b0)])) _
    refine st4 _ ?_
    show Steps p.tables e below (T4.setTop (mkF m 29 #[.val (.ref b0), .val (.ref b1), .val (.ref b1)] [(.int (0 : Int32))])) _
    refine XS.aloadN X4.here hx rfl (hb hby d_own_rmEq01_29) rfl rfl ?_
    show Steps p.tables e below (T4.setTop (mkF m 30 #[.val (.ref b0), .val (.ref b1), .val (.ref b1)] [(.ref b1), (.int (0 : Int32))])) _
    refine st5 _ ?_
    show Steps p.tables e below (T5.setTop (mkF m 33 #[.val (.ref b0), .val (.ref b1), .val (.ref b1)] [(.int (0 : Int32)), (.int (0 : Int32))])) _
    refine XS.icmpNo X5.here hx rfl (hb hby d_own_rmEq01_33) rfl (teq ((by decide) : (0 : Int32) = (0 : Int32))).2 ?_
    show Steps p.tables e below (T5.setTop (mkF m 36 #[.val (.ref b0), .val (.ref b1), .val (.ref b1)] [])) _
    refine XS.aloadN X5.here hx rfl (hb hby d_own_rmEq01_36) rfl rfl ?_
    show Steps p.tables e below (T5.setTop (mkF m 37 #[.val (.ref b0), .val (.ref b1), .val (.ref b1)] [(.ref b0)])) _
    refine st6 _ ?_
    show Steps p.tables e below (T6.setTop (mkF m 40 #[.val (.ref b0), .val (.ref b1), .val (.ref b1)] [(.ref v0)])) _
    refine XS.aloadN X6.here hx rfl (hb hby d_own_rmEq01_40) rfl rfl ?_
    show Steps p.tables e below (T6.setTop (mkF m 41 #[.val (.ref b0), .val (.ref b1), .val (.ref b1)] [(.ref b1), (.ref v0)])) _
    refine st7 _ ?_
    show Steps p.tables e below (T7.setTop (mkF m 44 #[.val (.ref b0), .val (.ref b1), .val (.ref b1)] [(.ref v1), (.ref v0)])) _
    refine st8 _ ?_
    show Steps p.tables e below (T8.setTop (mkF m 47 #[.val (.ref b0), .val (.ref b1), .val (.ref b1)] [(.int (0 : Int32))])) _
    refine XS.ifYes X8.here hx rfl (pc0 := 47) (pc' := 54) rfl (hb hby d_own_rmEq01_47) rfl ((if0 _ _).trans (teq ((by decide) : (0 : Int32) = (0 : Int32))).1) (by decide) (by decide) ?_
    show Steps p.tables e below (T8.setTop (mkF m 54 #[.val (.ref b0), .val (.ref b1), .val (.ref b1)] [])) _
    refine XS.iconst X8.here hx rfl (hb hby d_own_rmEq01_54) ?_
    show Steps p.tables e below (T8.setTop (mkF m 55 #[.val (.ref b0), .val (.ref b1), .val (.ref b1)] [(.int (0 : Int32))])) _
    exact retN X8 hx (t := .boolean) Bd.returns (by simp) (hb hby d_own_rmEq01_55) hr
  · show own_QI (0 : Int32) h0 n0 _ T8.heap _
    rw [e8]
    exact ⟨rfl, N8, rfl⟩
def own_QX (r : Addr) (h0 : Heap) (n0 : Nat) (v : Option Value) (h : Heap) (L : List Loc) : Prop := v = some (.ref r) ∧ Fr n0 L ∧ Keep h0 h []


theorem d_own_rmNm0_0 : decode prog_11_method_6_code 0 = .ok (.invokestatic 33, 3) := by decide +kernel
theorem d_own_rmNm0_3 : decode prog_11_method_6_code 3 = .ok (.astore_n 1, 1) := by decide +kernel
theorem d_own_rmNm0_4 : decode prog_11_method_6_code 4 = .ok (.aload_n 1, 1) := by decide +kernel
theorem d_own_rmNm0_5 : decode prog_11_method_6_code 5 = .ok (.arraylength, 1) := by decide +kernel
theorem d_own_rmNm0_6 : decode prog_11_method_6_code 6 = .ok (.istore_n 2, 1) := by decide +kernel
theorem d_own_rmNm0_7 : decode prog_11_method_6_code 7 = .ok (.iconst 0, 1) := by decide +kernel
theorem d_own_rmNm0_8 : decode prog_11_method_6_code 8 = .ok (.istore_n 3, 1) := by decide +kernel
theorem d_own_rmNm0_9 : decode prog_11_method_6_code 9 = .ok (.iload_n 3, 1) := by decide +kernel
theorem d_own_rmNm0_10 : decode prog_11_method_6_code 10 = .ok (.iload_n 2, 1) := by decide +kernel
theorem d_own_rmNm0_11 : decode prog_11_method_6_code 11 = .ok (.if_icmp .ge 29, 3) := by decide +kernel
theorem d_own_rmNm0_14 : decode prog_11_method_6_code 14 = .ok (.aload_n 1, 1) := by decide +kernel
theorem d_own_rmNm0_15 : decode prog_11_method_6_code 15 = .ok (.iload_n 3, 1) := by decide +kernel
theorem d_own_rmNm0_16 : decode prog_11_method_6_code 16 = .ok (.aaload, 1) := by decide +kernel
theorem d_own_rmNm0_17 : decode prog_11_method_6_code 17 = .ok (.astore 4, 2) := by decide +kernel
theorem d_own_rmNm0_19 : decode prog_11_method_6_code 19 = .ok (.aload 4, 2) := by decide +kernel
theorem d_own_rmNm0_21 : decode prog_11_method_6_code 21 = .ok (.getfield 29, 3) := by decide +kernel
theorem d_own_rmNm0_24 : decode prog_11_method_6_code 24 = .ok (.aload_n 0, 1) := by decide +kernel
theorem d_own_rmNm0_25 : decode prog_11_method_6_code 25 = .ok (.invokevirtual 37, 3) := by decide +kernel
theorem d_own_rmNm0_28 : decode prog_11_method_6_code 28 = .ok (.ifCond .eq 6, 3) := by decide +kernel
theorem d_own_rmNm0_31 : decode prog_11_method_6_code 31 = .ok (.aload 4, 2) := by decide +kernel
theorem d_own_rmNm0_33 : decode prog_11_method_6_code 33 = .ok (.areturn, 1) := by decide +kernel
theorem ef_own_rmNm0 (m : MethodId) (x0 : Addr) : entryFrame m #[(.ref x0)] 5 = mkF m 0 #[.val (.ref x0), .unset, .unset, .unset, .unset] [] := by first | (simp [entryFrame, mkF, argsToLocals, Value.category]; done) | rfl
set_option maxRecDepth 65536 in
set_option maxHeartbeats 40000000 in
theorem own_rmNm0 (l : Launch) (Z : State) (a0 : Array Value) (hw : ∀ d ∈ tables_1, d.before a0 Z = true) (ws : List Jvm.Cond) (s0 : Addr) (bA m0 m1 s1 v0 v1 : Addr) (kA kv0 kv1 : ClassId) (cs : Int32) (h0 : Heap) (n0 : Nat) (Z0 : n0 ≤ h0.size) (S_A : Sta Z h0 "com/example/corollary/corollary/EstimateMethod" "$VALUES" "[Lcom/example/corollary/corollary/EstimateMethod;" (.ref bA)) (V_A : Arv Z h0 bA kA (.object "com/example/corollary/corollary/EstimateMethod") (2 : Int32) [(.ref m0), (.ref m1)] .null) (E_A : Exa Z h0 bA "[Lcom/example/corollary/corollary/EstimateMethod;") (E_m0 : Exa Z h0 m0 "com/example/corollary/corollary/EstimateMethod$1") (F_o0 : Fld Z h0 m0 "com/example/corollary/corollary/EstimateMethod" "optionName" "Ljava/lang/String;" (.ref s0)) (E_s0 : Exa Z h0 s0 "java/lang/String") (E_m1 : Exa Z h0 m1 "com/example/corollary/corollary/EstimateMethod$2") (F_o1 : Fld Z h0 m1 "com/example/corollary/corollary/EstimateMethod" "optionName" "Ljava/lang/String;" (.ref s1)) (E_s1 : Exa Z h0 s1 "java/lang/String") (F_cs0 : Fld Z h0 s0 "java/lang/String" "coder" "B" (.int (0 : Int32))) (F_vs0 : Fld Z h0 s0 "java/lang/String" "value" "[B" (.ref v0)) (V_v0 : Arv Z h0 v0 kv0 .byte (10 : Int32) [(.int (115 : Int32)), (.int (101 : Int32)), (.int (113 : Int32)), (.int (117 : Int32)), (.int (101 : Int32)), (.int (110 : Int32)), (.int (116 : Int32)), (.int (105 : Int32)), (.int (97 : Int32)), (.int (108 : Int32))] (.int (0 : Int32))) (F_cs1 : Fld Z h0 s1 "java/lang/String" "coder" "B" (.int (0 : Int32))) (F_vs1 : Fld Z h0 s1 "java/lang/String" "value" "[B" (.ref v1)) (V_v1 : Arv Z h0 v1 kv1 .byte (9 : Int32) [(.int (114 : Int32)), (.int (101 : Int32)), (.int (102 : Int32)), (.int (101 : Int32)), (.int (114 : Int32)), (.int (101 : Int32)), (.int (110 : Int32)), (.int (99 : Int32)), (.int (101 : Int32))] (.int (0 : Int32))) (S_cs : Sta Z h0 "java/lang/String" "COMPACT_STRINGS" "Z" (.int cs)) (hcs : ¬ cs = (0 : Int32)) (h01 : ¬ s0 = s1) :
    MetFree l (⟨"com/example/corollary/corollary/EstimateMethod", "named", "(Ljava/lang/String;)Lcom/example/corollary/corollary/EstimateMethod;"⟩ : MethodName) (head1 (Jvm.Cond.code (⟨"com/example/corollary/corollary/EstimateMethod", "named", "(Ljava/lang/String;)Lcom/example/corollary/corollary/EstimateMethod;"⟩ : MethodName) prog_11_method_6_code 5 (some (.object "com/example/corollary/corollary/EstimateMethod")) :: ws) ({ frames := 2, cells := 1, slots := 2, locals := 28 } : Room)) (fun a U => a = #[(.ref s0)] ∧ Z.Warmed39 U.vm ∧ U.heap = h0) (fun _ _ _ _ _ => True) (fun _ U o U' => ∃ v L, o = .returned v ∧ own_QX m0 h0 n0 v U'.heap L ∧ FrameEnd U o U' L ({ frames := 2, cells := 1, slots := 2, locals := 28 } : Room).cells ({ frames := 2, cells := 1, slots := 2, locals := 28 } : Room).slots) := by
  refine MetFree.of_bodySF (plainFor_of_name own_pn3) hisR ?_
  intro p e s m args below meth c s₁ Bd hml0 hP hK
  obtain ⟨rfl, hZ, hh⟩ := hP
  have hx := Bd.exec
  have hby := Bd.bytes
  have hml : c.maxLocals = 5 := hml0
  have hown : s.vm.findClass "com/example/corollary/corollary/EstimateMethod" = some m.cls := findClass_of_methodNamed Bd.named
  have hnm := (name_of_methodNamed Bd.named Bd.method).1
  have X0 : Stand p l e ({ frames := 2, cells := 1, slots := 2, locals := 28 } : Room) s m #[(.ref s0)] below meth c s₁ [] 0 0 := Stand.of_body Bd
  have e0 : s₁.heap = h0 := by rw [← hh, Bd.state]; rfl
  have N0 := Fr.nil n0
  refine own_go (b := s₁.setTop (mkF m 0 #[.val (.ref s0), .unset, .unset, .unset, .unset] [])) (fun t k => castTop (ef_own_rmNm0 m s0) k) ?_
  obtain ⟨_, _, ⟨T1, L1, k1, n1⟩, -, X1, ⟨Lc1, hQ1, l1, y1, z1⟩, st1⟩ := Jvm.LawKit.callS X0 hx (y := (⟨"com/example/corollary/corollary/EstimateMethod", "values", "()[Lcom/example/corollary/corollary/EstimateMethod;"⟩ : MethodName)) hown (mvT hZ (hw _ (List.mem_of_getElem? (i := 30) rfl))) (mvT hZ (hw _ (List.mem_of_getElem? (i := 31) rfl))) (mvT hZ (hw _ (List.mem_of_getElem? (i := 2) rfl))) (mvT hZ (hw _ (List.mem_of_getElem? (i := 32) rfl))) (by decide) (backOf (W := 0) (own_rmA l Z a0 hw []  bA m0 m1 kA h0 n0 Z0 S_A V_A E_A) hZ (hw _ (List.mem_of_getElem? (i := 32) rfl)) (hw _ (List.mem_of_getElem? (i := 2) rfl)) (by decide) (by decide)) (g := (mkF m 0 #[.val (.ref s0), .unset, .unset, .unset, .unset] [])) rfl (by rw [hml]; rfl) (argsL := []) (rest := []) (lenOf own_pd5 rfl) rfl (by show 2 * 0 + _ ≤ _; exact Nat.le_of_eq rfl) (hb hby d_own_rmNm0_0) (fun _ _ => ⟨rfl, e0, (by decide : 0 + 1 ≤ _), (by decide : 0 + 2 ≤ _)⟩)
  dsimp only [Pt.U, Pt.locs, Pt.cells, Pt.slots] at X1 l1 y1 z1 st1 hQ1
  subst l1 y1 z1
  obtain ⟨bv1, rfl, N1q, K1q, B1_0, B1_1⟩ := hQ1
  have S_EstimateMethod__VALUES_1 := own_staKeep0 S_A K1q
  have V_bA_1 := V_A.keep K1q List.not_mem_nil
  have E_bA_1 := E_A.keep K1q
  have E_m0_1 := E_m0.keep K1q
  have F_m0_optionName_1 := F_o0.keep K1q List.not_mem_nil
  have E_s0_1 := E_s0.keep K1q
  have E_m1_1 := E_m1.keep K1q
  have F_m1_optionName_1 := F_o1.keep K1q List.not_mem_nil
  have E_s1_1 := E_s1.keep K1q
  have F_s0_coder_1 := F_cs0.keep K1q List.not_mem_nil
  have F_s0_value_1 := F_vs0.keep K1q List.not_mem_nil
  have V_v0_1 := V_v0.keep K1q List.not_mem_nil
  have F_s1_coder_1 := F_cs1.keep K1q List.not_mem_nil
  have F_s1_value_1 := F_vs1.keep K1q List.not_mem_nil
  have V_v1_1 := V_v1.keep K1q List.not_mem_nil
  have S_String_COMPACT_STRINGS_1 := own_staKeep0 S_cs K1q
  have N1 := Fr.app N0 N1q
  have Z1 := Nat.le_trans Z0 K1q.1
  have K1 := (Keep.refl h0 []).trans K1q (fun x hx => nomatch hx)
  have ne_bA_bv1 : bA ≠ bv1 := Nat.ne_of_lt (Nat.lt_of_lt_of_le V_A.lt B1_1)
  have ne_m0_bv1 : m0 ≠ bv1 := Nat.ne_of_lt (Nat.lt_of_lt_of_le E_m0.lt B1_1)
  have ne_m1_bv1 : m1 ≠ bv1 := Nat.ne_of_lt (Nat.lt_of_lt_of_le E_m1.lt B1_1)
  have ne_s0_bv1 : s0 ≠ bv1 := Nat.ne_of_lt (Nat.lt_of_lt_of_le E_s0.lt B1_1)
  have ne_s1_bv1 : s1 ≠ bv1 := Nat.ne_of_lt (Nat.lt_of_lt_of_le E_s1.lt B1_1)
  have ne_v0_bv1 : v0 ≠ bv1 := Nat.ne_of_lt (Nat.lt_of_lt_of_le V_v0.lt B1_1)
  have ne_v1_bv1 : v1 ≠ bv1 := Nat.ne_of_lt (Nat.lt_of_lt_of_le V_v1.lt B1_1)
  obtain ⟨cl2, Ar2, -, Sz2, M2, -, -⟩ := id B1_0
  obtain ⟨cl3, Ar3, -, Sz3, M3, Hs3, Gs3⟩ := id B1_0
  have hin3 : ¬ ((0 : Int32) < 0 ∨ cl3.slots.size ≤ ((0 : Int32)).toNatClampNeg) := inb_of Sz3 ⟨by decide, by decide⟩
  have hat3 : cl3.slots[((0 : Int32)).toNatClampNeg]? = some (.ref m0) := Hs3 0 (by rw [Sz3]; decide)
  obtain ⟨T4, X4, e4, st4⟩ := getF X1 hx hZ hown (host := "") (Or.inl (hw _ (List.mem_of_getElem? (i := 45) rfl))) Via.refl rfl F_m0_optionName_1 (g := (mkF m 21 #[.val (.ref s0), .val (.ref bv1), .val (.int (2 : Int32)), .val (.int (0 : Int32)), .val (.ref m0)] [(.ref m0)])) rfl rfl (hb hby d_own_rmNm0_21)
  obtain ⟨cq5, kq5, q5a, q5b, q5c⟩ := isOf hZ e4 E_s0_1
  obtain ⟨_, _, ⟨T5, L5, k5, n5⟩, -, X5, ⟨Lc5, hQ5, l5, y5, z5⟩, st5⟩ := X4.virtualBack hx (y := (⟨"java/lang/String", "equals", "(Ljava/lang/Object;)Z"⟩ : MethodName)) (z := (⟨"java/lang/String", "equals", "(Ljava/lang/Object;)Z"⟩ : MethodName)) hown (mvT hZ (hw _ (List.mem_of_getElem? (i := 142) rfl))) (mvT hZ (hw _ (List.mem_of_getElem? (i := 122) rfl))) (notFace_of_selects (args := #[]) (mvT hZ (hw _ (List.mem_of_getElem? (i := 124) rfl)))) (mvT hZ (hw _ (List.mem_of_getElem? (i := 124) rfl))) (mvT hZ (hw _ (List.mem_of_getElem? (i := 123) rfl))) (by decide) (backOf (W := 0) (own_rmEqS l Z a0 hw [] s0 s0  T1.heap n0 Z1 rfl) hZ (hw _ (List.mem_of_getElem? (i := 125) rfl)) (hw _ (List.mem_of_getElem? (i := 91) rfl)) (by decide) (by decide)) q5a q5c (g := (mkF m 25 #[.val (.ref s0), .val (.ref bv1), .val (.int (2 : Int32)), .val (.int (0 : Int32)), .val (.ref m0)] [(.ref s0), (.ref s0)])) rfl (by rw [hml]; rfl) (Steps.refl _) (argsL := [(.ref s0)]) (rest := []) (lenOf own_pd6 rfl) rfl (by show 2 * 0 + _ ≤ _; exact Nat.le_of_eq rfl) (hb hby d_own_rmNm0_25) (fun _ _ => ⟨rfl, e4, (by decide : 1 + 0 ≤ _), (by decide : 2 + 0 ≤ _)⟩)
  dsimp only [Pt.U, Pt.locs, Pt.cells, Pt.slots] at X5 l5 y5 z5 st5 hQ5
  subst l5 y5 z5
  obtain ⟨rfl, N5q, e5⟩ := hQ5
  have N5 := Fr.app N1 N5q
  obtain ⟨fs, hr, hrun, hended, hW, hsame⟩ := X5.leave (v := some (.ref m0)) (fun h => by rw [Bd.returns] at h; cases h)
  refine ⟨_, _, ?_, hrun, hended, _, _, rfl, ?_, ⟨_, rfl⟩, hW, hsame.mono (by decide) (by decide)⟩
  · show Steps p.tables e below (s₁.setTop (mkF m 0 #[.val (.ref s0), .unset, .unset, .unset, .unset] [])) _
    refine st1 _ ?_
    show Steps p.tables e below (T1.setTop (mkF m 3 #[.val (.ref s0), .unset, .unset, .unset, .unset] [(.ref bv1)])) _
    refine XS.astoreN X1.here hx rfl (hb hby d_own_rmNm0_3) rfl rfl (l' := #[.val (.ref s0), .val (.ref bv1), .unset, .unset, .unset]) rfl ?_
    show Steps p.tables e below (T1.setTop (mkF m 4 #[.val (.ref s0), .val (.ref bv1), .unset, .unset, .unset] [])) _
    refine XS.aloadN X1.here hx rfl (hb hby d_own_rmNm0_4) rfl rfl ?_
    show Steps p.tables e below (T1.setTop (mkF m 5 #[.val (.ref s0), .val (.ref bv1), .unset, .unset, .unset] [(.ref bv1)])) _
    refine X1.arraylength hx Ar2.1 (State.isArrayOf_alike hZ.alike Ar2.2.1) (g := (mkF m 5 #[.val (.ref s0), .val (.ref bv1), .unset, .unset, .unset] [(.ref bv1)])) rfl rfl (hb hby d_own_rmNm0_5) _ ?_
    rw [len_of Sz2 M2]
    show Steps p.tables e below (T1.setTop (mkF m 6 #[.val (.ref s0), .val (.ref bv1), .unset, .unset, .unset] [(.int (2 : Int32))])) _
    refine XS.istoreN X1.here hx rfl (hb hby d_own_rmNm0_6) rfl (l' := #[.val (.ref s0), .val (.ref bv1), .val (.int (2 : Int32)), .unset, .unset]) rfl ?_
    show Steps p.tables e below (T1.setTop (mkF m 7 #[.val (.ref s0), .val (.ref bv1), .val (.int (2 : Int32)), .unset, .unset] [])) _
    refine XS.iconst X1.here hx rfl (hb hby d_own_rmNm0_7) ?_
    show Steps p.tables e below (T1.setTop (mkF m 8 #[.val (.ref s0), .val (.ref bv1), .val (.int (2 : Int32)), .unset, .unset] [(.int (0 : Int32))])) _
    refine XS.istoreN X1.here hx rfl (hb hby d_own_rmNm0_8) rfl (l' := #[.val (.ref s0), .val (.ref bv1), .val (.int (2 : Int32)), .val (.int (0 : Int32)), .unset]) rfl ?_
    show Steps p.tables e below (T1.setTop (mkF m 9 #[.val (.ref s0), .val (.ref bv1), .val (.int (2 : Int32)), .val (.int (0 : Int32)), .unset] [])) _
    refine XS.iloadN X1.here hx rfl (hb hby d_own_rmNm0_9) rfl ?_
    show Steps p.tables e below (T1.setTop (mkF m 10 #[.val (.ref s0), .val (.ref bv1), .val (.int (2 : Int32)), .val (.int (0 : Int32)), .unset] [(.int (0 : Int32))])) _
    refine XS.iloadN X1.here hx rfl (hb hby d_own_rmNm0_10) rfl ?_
    show Steps p.tables e below (T1.setTop (mkF m 11 #[.val (.ref s0), .val (.ref bv1), .val (.int (2 : Int32)), .val (.int (0 : Int32)), .unset] [(.int (2 : Int32)), (.int (0 : Int32))])) _
    refine XS.icmpNo X1.here hx rfl (hb hby d_own_rmNm0_11) rfl (tlt ((by decide) : (0 : Int32) < (2 : Int32))).2.1 ?_
    show Steps p.tables e below (T1.setTop (mkF m 14 #[.val (.ref s0), .val (.ref bv1), .val (.int (2 : Int32)), .val (.int (0 : Int32)), .unset] [])) _
    refine XS.aloadN X1.here hx rfl (hb hby d_own_rmNm0_14) rfl rfl ?_
    show Steps p.tables e below (T1.setTop (mkF m 15 #[.val (.ref s0), .val (.ref bv1), .val (.int (2 : Int32)), .val (.int (0 : Int32)), .unset] [(.ref bv1)])) _
    refine XS.iloadN X1.here hx rfl (hb hby d_own_rmNm0_15) rfl ?_
    show Steps p.tables e below (T1.setTop (mkF m 16 #[.val (.ref s0), .val (.ref bv1), .val (.int (2 : Int32)), .val (.int (0 : Int32)), .unset] [(.int (0 : Int32)), (.ref bv1)])) _
    refine X1.aaload hx (j := (0 : Int32)) (v := (.ref m0)) Ar3.1 (State.isArrayOf_alike hZ.alike Ar3.2.1) rfl Ar3.2.2 hin3 hat3 (g := (mkF m 16 #[.val (.ref s0), .val (.ref bv1), .val (.int (2 : Int32)), .val (.int (0 : Int32)), .unset] [(.int (0 : Int32)), (.ref bv1)])) rfl rfl (hb hby d_own_rmNm0_16) _ ?_
    show Steps p.tables e below (T1.setTop (mkF m 17 #[.val (.ref s0), .val (.ref bv1), .val (.int (2 : Int32)), .val (.int (0 : Int32)), .unset] [(.ref m0)])) _
    refine XS.astore X1.here hx rfl (hb hby d_own_rmNm0_17) rfl rfl (l' := #[.val (.ref s0), .val (.ref bv1), .val (.int (2 : Int32)), .val (.int (0 : Int32)), .val (.ref m0)]) rfl ?_
    show Steps p.tables e below (T1.setTop (mkF m 19 #[.val (.ref s0), .val (.ref bv1), .val (.int (2 : Int32)), .val (.int (0 : Int32)), .val (.ref m0)] [])) _
    refine XS.aload X1.here hx rfl (hb hby d_own_rmNm0_19) rfl rfl ?_
    show Steps p.tables e below (T1.setTop (mkF m 21 #[.val (.ref s0), .val (.ref bv1), .val (.int (2 : Int32)), .val (.int (0 : Int32)), .val (.ref m0)] [(.ref m0)])) _
    refine st4 _ ?_
    show Steps p.tables e below (T4.setTop (mkF m 24 #[.val (.ref s0), .val (.ref bv1), .val (.int (2 : Int32)), .val (.int (0 : Int32)), .val (.ref m0)] [(.ref s0)])) _
    refine XS.aloadN X4.here hx rfl (hb hby d_own_rmNm0_24) rfl rfl ?_
    show Steps p.tables e below (T4.setTop (mkF m 25 #[.val (.ref s0), .val (.ref bv1), .val (.int (2 : Int32)), .val (.int (0 : Int32)), .val (.ref m0)] [(.ref s0), (.ref s0)])) _
    refine st5.trans ?_
    show Steps p.tables e below (T5.setTop (mkF m 28 #[.val (.ref s0), .val (.ref bv1), .val (.int (2 : Int32)), .val (.int (0 : Int32)), .val (.ref m0)] [(.int (1 : Int32))])) _
    refine XS.ifNo X5.here hx rfl (hb hby d_own_rmNm0_28) rfl ((if0 _ _).trans (feq ((by decide) : ¬ ((1 : Int32) = (0 : Int32)))).1) ?_
    show Steps p.tables e below (T5.setTop (mkF m 31 #[.val (.ref s0), .val (.ref bv1), .val (.int (2 : Int32)), .val (.int (0 : Int32)), .val (.ref m0)] [])) _
    refine XS.aload X5.here hx rfl (hb hby d_own_rmNm0_31) rfl rfl ?_
    show Steps p.tables e below (T5.setTop (mkF m 33 #[.val (.ref s0), .val (.ref bv1), .val (.int (2 : Int32)), .val (.int (0 : Int32)), .val (.ref m0)] [(.ref m0)])) _
    jvm_step X5.here [X5.here.top, hx, (hb hby d_own_rmNm0_33), X5.method', Bd.returns, Value.isRef, FieldType.isReference]
    first | (intro acts; rw [hr _ acts rfl rfl rfl]) | rw [hr _ _ rfl rfl rfl]
    exact Steps.refl _
  · show own_QX m0 h0 n0 _ T5.heap _
    rw [e5]
    exact ⟨rfl, N5, K1⟩
theorem d_own_rmNm1_0 : decode prog_11_method_6_code 0 = .ok (.invokestatic 33, 3) := by decide +kernel
theorem d_own_rmNm1_3 : decode prog_11_method_6_code 3 = .ok (.astore_n 1, 1) := by decide +kernel
theorem d_own_rmNm1_4 : decode prog_11_method_6_code 4 = .ok (.aload_n 1, 1) := by decide +kernel
theorem d_own_rmNm1_5 : decode prog_11_method_6_code 5 = .ok (.arraylength, 1) := by decide +kernel
theorem d_own_rmNm1_6 : decode prog_11_method_6_code 6 = .ok (.istore_n 2, 1) := by decide +kernel
theorem d_own_rmNm1_7 : decode prog_11_method_6_code 7 = .ok (.iconst 0, 1) := by decide +kernel
theorem d_own_rmNm1_8 : decode prog_11_method_6_code 8 = .ok (.istore_n 3, 1) := by decide +kernel
theorem d_own_rmNm1_9 : decode prog_11_method_6_code 9 = .ok (.iload_n 3, 1) := by decide +kernel
theorem d_own_rmNm1_10 : decode prog_11_method_6_code 10 = .ok (.iload_n 2, 1) := by decide +kernel
theorem d_own_rmNm1_11 : decode prog_11_method_6_code 11 = .ok (.if_icmp .ge 29, 3) := by decide +kernel
theorem d_own_rmNm1_14 : decode prog_11_method_6_code 14 = .ok (.aload_n 1, 1) := by decide +kernel
theorem d_own_rmNm1_15 : decode prog_11_method_6_code 15 = .ok (.iload_n 3, 1) := by decide +kernel
theorem d_own_rmNm1_16 : decode prog_11_method_6_code 16 = .ok (.aaload, 1) := by decide +kernel
theorem d_own_rmNm1_17 : decode prog_11_method_6_code 17 = .ok (.astore 4, 2) := by decide +kernel
theorem d_own_rmNm1_19 : decode prog_11_method_6_code 19 = .ok (.aload 4, 2) := by decide +kernel
theorem d_own_rmNm1_21 : decode prog_11_method_6_code 21 = .ok (.getfield 29, 3) := by decide +kernel
theorem d_own_rmNm1_24 : decode prog_11_method_6_code 24 = .ok (.aload_n 0, 1) := by decide +kernel
theorem d_own_rmNm1_25 : decode prog_11_method_6_code 25 = .ok (.invokevirtual 37, 3) := by decide +kernel
theorem d_own_rmNm1_28 : decode prog_11_method_6_code 28 = .ok (.ifCond .eq 6, 3) := by decide +kernel
theorem d_own_rmNm1_31 : decode prog_11_method_6_code 31 = .ok (.aload 4, 2) := by decide +kernel
theorem d_own_rmNm1_33 : decode prog_11_method_6_code 33 = .ok (.areturn, 1) := by decide +kernel
theorem d_own_rmNm1_34 : decode prog_11_method_6_code 34 = .ok (.iinc 3 1, 3) := by decide +kernel
theorem d_own_rmNm1_37 : decode prog_11_method_6_code 37 = .ok (.goto (-28), 3) := by decide +kernel
theorem ef_own_rmNm1 (m : MethodId) (x0 : Addr) : entryFrame m #[(.ref x0)] 5 = mkF m 0 #[.val (.ref x0), .unset, .unset, .unset, .unset] [] := by first | (simp [entryFrame, mkF, argsToLocals, Value.category]; done) | rfl
set_option maxRecDepth 65536 in
set_option maxHeartbeats 40000000 in
theorem own_rmNm1 (l : Launch) (Z : State) (a0 : Array Value) (hw : ∀ d ∈ tables_1, d.before a0 Z = true) (ws : List Jvm.Cond) (s1 : Addr) (bA m0 m1 s0 v0 v1 : Addr) (kA kv0 kv1 : ClassId) (cs : Int32) (h0 : Heap) (n0 : Nat) (Z0 : n0 ≤ h0.size) (S_A : Sta Z h0 "com/example/corollary/corollary/EstimateMethod" "$VALUES" "[Lcom/example/corollary/corollary/EstimateMethod;" (.ref bA)) (V_A : Arv Z h0 bA kA (.object "com/example/corollary/corollary/EstimateMethod") (2 : Int32) [(.ref m0), (.ref m1)] .null) (E_A : Exa Z h0 bA "[Lcom/example/corollary/corollary/EstimateMethod;") (E_m0 : Exa Z h0 m0 "com/example/corollary/corollary/EstimateMethod$1") (F_o0 : Fld Z h0 m0 "com/example/corollary/corollary/EstimateMethod" "optionName" "Ljava/lang/String;" (.ref s0)) (E_s0 : Exa Z h0 s0 "java/lang/String") (E_m1 : Exa Z h0 m1 "com/example/corollary/corollary/EstimateMethod$2") (F_o1 : Fld Z h0 m1 "com/example/corollary/corollary/EstimateMethod" "optionName" "Ljava/lang/String;" (.ref s1)) (E_s1 : Exa Z h0 s1 "java/lang/String") (F_cs0 : Fld Z h0 s0 "java/lang/String" "coder" "B" (.int (0 : Int32))) (F_vs0 : Fld Z h0 s0 "java/lang/String" "value" "[B" (.ref v0)) (V_v0 : Arv Z h0 v0 kv0 .byte (10 : Int32) [(.int (115 : Int32)), (.int (101 : Int32)), (.int (113 : Int32)), (.int (117 : Int32)), (.int (101 : Int32)), (.int (110 : Int32)), (.int (116 : Int32)), (.int (105 : Int32)), (.int (97 : Int32)), (.int (108 : Int32))] (.int (0 : Int32))) (F_cs1 : Fld Z h0 s1 "java/lang/String" "coder" "B" (.int (0 : Int32))) (F_vs1 : Fld Z h0 s1 "java/lang/String" "value" "[B" (.ref v1)) (V_v1 : Arv Z h0 v1 kv1 .byte (9 : Int32) [(.int (114 : Int32)), (.int (101 : Int32)), (.int (102 : Int32)), (.int (101 : Int32)), (.int (114 : Int32)), (.int (101 : Int32)), (.int (110 : Int32)), (.int (99 : Int32)), (.int (101 : Int32))] (.int (0 : Int32))) (S_cs : Sta Z h0 "java/lang/String" "COMPACT_STRINGS" "Z" (.int cs)) (hcs : ¬ cs = (0 : Int32)) (h01 : ¬ s0 = s1) :
    MetFree l (⟨"com/example/corollary/corollary/EstimateMethod", "named", "(Ljava/lang/String;)Lcom/example/corollary/corollary/EstimateMethod;"⟩ : MethodName) (head1 (Jvm.Cond.code (⟨"com/example/corollary/corollary/EstimateMethod", "named", "(Ljava/lang/String;)Lcom/example/corollary/corollary/EstimateMethod;"⟩ : MethodName) prog_11_method_6_code 5 (some (.object "com/example/corollary/corollary/EstimateMethod")) :: ws) ({ frames := 2, cells := 1, slots := 2, locals := 28 } : Room)) (fun a U => a = #[(.ref s1)] ∧ Z.Warmed39 U.vm ∧ U.heap = h0) (fun _ _ _ _ _ => True) (fun _ U o U' => ∃ v L, o = .returned v ∧ own_QX m1 h0 n0 v U'.heap L ∧ FrameEnd U o U' L ({ frames := 2, cells := 1, slots := 2, locals := 28 } : Room).cells ({ frames := 2, cells := 1, slots := 2, locals := 28 } : Room).slots) := by
  refine MetFree.of_bodySF (plainFor_of_name own_pn3) hisR ?_
  intro p e s m args below meth c s₁ Bd hml0 hP hK
  obtain ⟨rfl, hZ, hh⟩ := hP
  have hx := Bd.exec
  have hby := Bd.bytes
  have hml : c.maxLocals = 5 := hml0
  have hown : s.vm.findClass "com/example/corollary/corollary/EstimateMethod" = some m.cls := findClass_of_methodNamed Bd.named
  have hnm := (name_of_methodNamed Bd.named Bd.method).1
  have X0 : Stand p l e ({ frames := 2, cells := 1, slots := 2, locals := 28 } : Room) s m #[(.ref s1)] below meth c s₁ [] 0 0 := Stand.of_body Bd
  have e0 : s₁.heap = h0 := by rw [← hh, Bd.state]; rfl
  have N0 := Fr.nil n0
  refine own_go (b := s₁.setTop (mkF m 0 #[.val (.ref s1), .unset, .unset, .unset, .unset] [])) (fun t k => castTop (ef_own_rmNm1 m s1) k) ?_
  obtain ⟨_, _, ⟨T1, L1, k1, n1⟩, -, X1, ⟨Lc1, hQ1, l1, y1, z1⟩, st1⟩ := Jvm.LawKit.callS X0 hx (y := (⟨"com/example/corollary/corollary/EstimateMethod", "values", "()[Lcom/example/corollary/corollary/EstimateMethod;"⟩ : MethodName)) hown (mvT hZ (hw _ (List.mem_of_getElem? (i := 30) rfl))) (mvT hZ (hw _ (List.mem_of_getElem? (i := 31) rfl))) (mvT hZ (hw _ (List.mem_of_getElem? (i := 2) rfl))) (mvT hZ (hw _ (List.mem_of_getElem? (i := 32) rfl))) (by decide) (backOf (W := 0) (own_rmA l Z a0 hw []  bA m0 m1 kA h0 n0 Z0 S_A V_A E_A) hZ (hw _ (List.mem_of_getElem? (i := 32) rfl)) (hw _ (List.mem_of_getElem? (i := 2) rfl)) (by decide) (by decide)) (g := (mkF m 0 #[.val (.ref s1), .unset, .unset, .unset, .unset] [])) rfl (by rw [hml]; rfl) (argsL := []) (rest := []) (lenOf own_pd5 rfl) rfl (by show 2 * 0 + _ ≤ _; exact Nat.le_of_eq rfl) (hb hby d_own_rmNm1_0) (fun _ _ => ⟨rfl, e0, (by decide : 0 + 1 ≤ _), (by decide : 0 + 2 ≤ _)⟩)
  dsimp only [Pt.U, Pt.locs, Pt.cells, Pt.slots] at X1 l1 y1 z1 st1 hQ1
  subst l1 y1 z1
  obtain ⟨bv1, rfl, N1q, K1q, B1_0, B1_1⟩ := hQ1
  have S_EstimateMethod__VALUES_1 := own_staKeep0 S_A K1q
  have V_bA_1 := V_A.keep K1q List.not_mem_nil
  have E_bA_1 := E_A.keep K1q
  have E_m0_1 := E_m0.keep K1q
  have F_m0_optionName_1 := F_o0.keep K1q List.not_mem_nil
  have E_s0_1 := E_s0.keep K1q
  have E_m1_1 := E_m1.keep K1q
  have F_m1_optionName_1 := F_o1.keep K1q List.not_mem_nil
  have E_s1_1 := E_s1.keep K1q
  have F_s0_coder_1 := F_cs0.keep K1q List.not_mem_nil
  have F_s0_value_1 := F_vs0.keep K1q List.not_mem_nil
  have V_v0_1 := V_v0.keep K1q List.not_mem_nil
  have F_s1_coder_1 := F_cs1.keep K1q List.not_mem_nil
  have F_s1_value_1 := F_vs1.keep K1q List.not_mem_nil
  have V_v1_1 := V_v1.keep K1q List.not_mem_nil
  have S_String_COMPACT_STRINGS_1 := own_staKeep0 S_cs K1q
  have N1 := Fr.app N0 N1q
  have Z1 := Nat.le_trans Z0 K1q.1
  have K1 := (Keep.refl h0 []).trans K1q (fun x hx => nomatch hx)
  have ne_bA_bv1 : bA ≠ bv1 := Nat.ne_of_lt (Nat.lt_of_lt_of_le V_A.lt B1_1)
  have ne_m0_bv1 : m0 ≠ bv1 := Nat.ne_of_lt (Nat.lt_of_lt_of_le E_m0.lt B1_1)
  have ne_m1_bv1 : m1 ≠ bv1 := Nat.ne_of_lt (Nat.lt_of_lt_of_le E_m1.lt B1_1)
  have ne_s0_bv1 : s0 ≠ bv1 := Nat.ne_of_lt (Nat.lt_of_lt_of_le E_s0.lt B1_1)
  have ne_s1_bv1 : s1 ≠ bv1 := Nat.ne_of_lt (Nat.lt_of_lt_of_le E_s1.lt B1_1)
  have ne_v0_bv1 : v0 ≠ bv1 := Nat.ne_of_lt (Nat.lt_of_lt_of_le V_v0.lt B1_1)
  have ne_v1_bv1 : v1 ≠ bv1 := Nat.ne_of_lt (Nat.lt_of_lt_of_le V_v1.lt B1_1)
  obtain ⟨cl2, Ar2, -, Sz2, M2, -, -⟩ := id B1_0
  obtain ⟨cl3, Ar3, -, Sz3, M3, Hs3, Gs3⟩ := id B1_0
  have hin3 : ¬ ((0 : Int32) < 0 ∨ cl3.slots.size ≤ ((0 : Int32)).toNatClampNeg) := inb_of Sz3 ⟨by decide, by decide⟩
  have hat3 : cl3.slots[((0 : Int32)).toNatClampNeg]? = some (.ref m0) := Hs3 0 (by rw [Sz3]; decide)
  obtain ⟨T4, X4, e4, st4⟩ := getF X1 hx hZ hown (host := "") (Or.inl (hw _ (List.mem_of_getElem? (i := 45) rfl))) Via.refl rfl F_m0_optionName_1 (g := (mkF m 21 #[.val (.ref s1), .val (.ref bv1), .val (.int (2 : Int32)), .val (.int (0 : Int32)), .val (.ref m0)] [(.ref m0)])) rfl rfl (hb hby d_own_rmNm1_21)
  obtain ⟨cq5, kq5, q5a, q5b, q5c⟩ := isOf hZ e4 E_s0_1
  obtain ⟨_, _, ⟨T5, L5, k5, n5⟩, -, X5, ⟨Lc5, hQ5, l5, y5, z5⟩, st5⟩ := X4.virtualBack hx (y := (⟨"java/lang/String", "equals", "(Ljava/lang/Object;)Z"⟩ : MethodName)) (z := (⟨"java/lang/String", "equals", "(Ljava/lang/Object;)Z"⟩ : MethodName)) hown (mvT hZ (hw _ (List.mem_of_getElem? (i := 142) rfl))) (mvT hZ (hw _ (List.mem_of_getElem? (i := 122) rfl))) (notFace_of_selects (args := #[]) (mvT hZ (hw _ (List.mem_of_getElem? (i := 124) rfl)))) (mvT hZ (hw _ (List.mem_of_getElem? (i := 124) rfl))) (mvT hZ (hw _ (List.mem_of_getElem? (i := 123) rfl))) (by decide) (backOf (W := 0) (own_rmEq01 l Z a0 hw [] s0 s1 v0 v1 kv0 kv1 cs T1.heap n0 Z1 E_s0_1 F_s0_coder_1 F_s0_value_1 V_v0_1 E_s1_1 F_s1_coder_1 F_s1_value_1 V_v1_1 S_String_COMPACT_STRINGS_1 hcs h01) hZ (hw _ (List.mem_of_getElem? (i := 125) rfl)) (hw _ (List.mem_of_getElem? (i := 91) rfl)) (by decide) (by decide)) q5a q5c (g := (mkF m 25 #[.val (.ref s1), .val (.ref bv1), .val (.int (2 : Int32)), .val (.int (0 : Int32)), .val (.ref m0)] [(.ref s1), (.ref s0)])) rfl (by rw [hml]; rfl) (Steps.refl _) (argsL := [(.ref s1)]) (rest := []) (lenOf own_pd6 rfl) rfl (by show 2 * 0 + _ ≤ _; exact Nat.le_of_eq rfl) (hb hby d_own_rmNm1_25) (fun _ _ => ⟨rfl, e4, (by decide : 1 + 0 ≤ _), (by decide : 2 + 0 ≤ _)⟩)
  dsimp only [Pt.U, Pt.locs, Pt.cells, Pt.slots] at X5 l5 y5 z5 st5 hQ5
  subst l5 y5 z5
  obtain ⟨rfl, N5q, e5⟩ := hQ5
  have N5 := Fr.app N1 N5q
  obtain ⟨cl6, Ar6, -, Sz6, M6, Hs6, Gs6⟩ := id B1_0
  have hin6 : ¬ ((1 : Int32) < 0 ∨ cl6.slots.size ≤ ((1 : Int32)).toNatClampNeg) := inb_of Sz6 ⟨by decide, by decide⟩
  have hat6 : cl6.slots[((1 : Int32)).toNatClampNeg]? = some (.ref m1) := Hs6 1 (by rw [Sz6]; decide)
  obtain ⟨T7, X7, e7, st7⟩ := getF X5 hx hZ hown (host := "") (Or.inl (hw _ (List.mem_of_getElem? (i := 45) rfl))) Via.refl e5 F_m1_optionName_1 (g := (mkF m 21 #[.val (.ref s1), .val (.ref bv1), .val (.int (2 : Int32)), .val (.int (1 : Int32)), .val (.ref m1)] [(.ref m1)])) rfl rfl (hb hby d_own_rmNm1_21)
  obtain ⟨cq8, kq8, q8a, q8b, q8c⟩ := isOf hZ e7 E_s1_1
  obtain ⟨_, _, ⟨T8, L8, k8, n8⟩, -, X8, ⟨Lc8, hQ8, l8, y8, z8⟩, st8⟩ := X7.virtualBack hx (y := (⟨"java/lang/String", "equals", "(Ljava/lang/Object;)Z"⟩ : MethodName)) (z := (⟨"java/lang/String", "equals", "(Ljava/lang/Object;)Z"⟩ : MethodName)) hown (mvT hZ (hw _ (List.mem_of_getElem? (i := 142) rfl))) (mvT hZ (hw _ (List.mem_of_getElem? (i := 122) rfl))) (notFace_of_selects (args := #[]) (mvT hZ (hw _ (List.mem_of_getElem? (i := 124) rfl)))) (mvT hZ (hw _ (List.mem_of_getElem? (i := 124) rfl))) (mvT hZ (hw _ (List.mem_of_getElem? (i := 123) rfl))) (by decide) (backOf (W := 0) (own_rmEqS l Z a0 hw [] s1 s1  T1.heap n0 Z1 rfl) hZ (hw _ (List.mem_of_getElem? (i := 125) rfl)) (hw _ (List.mem_of_getElem? (i := 91) rfl)) (by decide) (by decide)) q8a q8c (g := (mkF m 25 #[.val (.ref s1), .val (.ref bv1), .val (.int (2 : Int32)), .val (.int (1 : Int32)), .val (.ref m1)] [(.ref s1), (.ref s1)])) rfl (by rw [hml]; rfl) (Steps.refl _) (argsL := [(.ref s1)]) (rest := []) (lenOf own_pd6 rfl) rfl (by show 2 * 0 + _ ≤ _; exact Nat.le_of_eq rfl) (hb hby d_own_rmNm1_25) (fun _ _ => ⟨rfl, e7, (by decide : 1 + 0 ≤ _), (by decide : 2 + 0 ≤ _)⟩)
  dsimp only [Pt.U, Pt.locs, Pt.cells, Pt.slots] at X8 l8 y8 z8 st8 hQ8
  subst l8 y8 z8
  obtain ⟨rfl, N8q, e8⟩ := hQ8
  have N8 := Fr.app N5 N8q
  obtain ⟨fs, hr, hrun, hended, hW, hsame⟩ := X8.leave (v := some (.ref m1)) (fun h => by rw [Bd.returns] at h; cases h)
  refine ⟨_, _, ?_, hrun, hended, _, _, rfl, ?_, ⟨_, rfl⟩, hW, hsame.mono (by decide) (by decide)⟩
  · show Steps p.tables e below (s₁.setTop (mkF m 0 #[.val (.ref s1), .unset, .unset, .unset, .unset] [])) _
    refine st1 _ ?_
    show Steps p.tables e below (T1.setTop (mkF m 3 #[.val (.ref s1), .unset, .unset, .unset, .unset] [(.ref bv1)])) _
    refine XS.astoreN X1.here hx rfl (hb hby d_own_rmNm1_3) rfl rfl (l' := #[.val (.ref s1), .val (.ref bv1), .unset, .unset, .unset]) rfl ?_
    show Steps p.tables e below (T1.setTop (mkF m 4 #[.val (.ref s1), .val (.ref bv1), .unset, .unset, .unset] [])) _
    refine XS.aloadN X1.here hx rfl (hb hby d_own_rmNm1_4) rfl rfl ?_
    show Steps p.tables e below (T1.setTop (mkF m 5 #[.val (.ref s1), .val (.ref bv1), .unset, .unset, .unset] [(.ref bv1)])) _
    refine X1.arraylength hx Ar2.1 (State.isArrayOf_alike hZ.alike Ar2.2.1) (g := (mkF m 5 #[.val (.ref s1), .val (.ref bv1), .unset, .unset, .unset] [(.ref bv1)])) rfl rfl (hb hby d_own_rmNm1_5) _ ?_
    rw [len_of Sz2 M2]
    show Steps p.tables e below (T1.setTop (mkF m 6 #[.val (.ref s1), .val (.ref bv1), .unset, .unset, .unset] [(.int (2 : Int32))])) _
    refine XS.istoreN X1.here hx rfl (hb hby d_own_rmNm1_6) rfl (l' := #[.val (.ref s1), .val (.ref bv1), .val (.int (2 : Int32)), .unset, .unset]) rfl ?_
    show Steps p.tables e below (T1.setTop (mkF m 7 #[.val (.ref s1), .val (.ref bv1), .val (.int (2 : Int32)), .unset, .unset] [])) _
    refine XS.iconst X1.here hx rfl (hb hby d_own_rmNm1_7) ?_
    show Steps p.tables e below (T1.setTop (mkF m 8 #[.val (.ref s1), .val (.ref bv1), .val (.int (2 : Int32)), .unset, .unset] [(.int (0 : Int32))])) _
    refine XS.istoreN X1.here hx rfl (hb hby d_own_rmNm1_8) rfl (l' := #[.val (.ref s1), .val (.ref bv1), .val (.int (2 : Int32)), .val (.int (0 : Int32)), .unset]) rfl ?_
    show Steps p.tables e below (T1.setTop (mkF m 9 #[.val (.ref s1), .val (.ref bv1), .val (.int (2 : Int32)), .val (.int (0 : Int32)), .unset] [])) _
    refine XS.iloadN X1.here hx rfl (hb hby d_own_rmNm1_9) rfl ?_
    show Steps p.tables e below (T1.setTop (mkF m 10 #[.val (.ref s1), .val (.ref bv1), .val (.int (2 : Int32)), .val (.int (0 : Int32)), .unset] [(.int (0 : Int32))])) _
    refine XS.iloadN X1.here hx rfl (hb hby d_own_rmNm1_10) rfl ?_
    show Steps p.tables e below (T1.setTop (mkF m 11 #[.val (.ref s1), .val (.ref bv1), .val (.int (2 : Int32)), .val (.int (0 : Int32)), .unset] [(.int (2 : Int32)), (.int (0 : Int32))])) _
    refine XS.icmpNo X1.here hx rfl (hb hby d_own_rmNm1_11) rfl (tlt ((by decide) : (0 : Int32) < (2 : Int32))).2.1 ?_
    show Steps p.tables e below (T1.setTop (mkF m 14 #[.val (.ref s1), .val (.ref bv1), .val (.int (2 : Int32)), .val (.int (0 : Int32)), .unset] [])) _
    refine XS.aloadN X1.here hx rfl (hb hby d_own_rmNm1_14) rfl rfl ?_
    show Steps p.tables e below (T1.setTop (mkF m 15 #[.val (.ref s1), .val (.ref bv1), .val (.int (2 : Int32)), .val (.int (0 : Int32)), .unset] [(.ref bv1)])) _
    refine XS.iloadN X1.here hx rfl (hb hby d_own_rmNm1_15) rfl ?_
    show Steps p.tables e below (T1.setTop (mkF m 16 #[.val (.ref s1), .val (.ref bv1), .val (.int (2 : Int32)), .val (.int (0 : Int32)), .unset] [(.int (0 : Int32)), (.ref bv1)])) _
    refine X1.aaload hx (j := (0 : Int32)) (v := (.ref m0)) Ar3.1 (State.isArrayOf_alike hZ.alike Ar3.2.1) rfl Ar3.2.2 hin3 hat3 (g := (mkF m 16 #[.val (.ref s1), .val (.ref bv1), .val (.int (2 : Int32)), .val (.int (0 : Int32)), .unset] [(.int (0 : Int32)), (.ref bv1)])) rfl rfl (hb hby d_own_rmNm1_16) _ ?_
    show Steps p.tables e below (T1.setTop (mkF m 17 #[.val (.ref s1), .val (.ref bv1), .val (.int (2 : Int32)), .val (.int (0 : Int32)), .unset] [(.ref m0)])) _
    refine XS.astore X1.here hx rfl (hb hby d_own_rmNm1_17) rfl rfl (l' := #[.val (.ref s1), .val (.ref bv1), .val (.int (2 : Int32)), .val (.int (0 : Int32)), .val (.ref m0)]) rfl ?_
    show Steps p.tables e below (T1.setTop (mkF m 19 #[.val (.ref s1), .val (.ref bv1), .val (.int (2 : Int32)), .val (.int (0 : Int32)), .val (.ref m0)] [])) _
    refine XS.aload X1.here hx rfl (hb hby d_own_rmNm1_19) rfl rfl ?_
    show Steps p.tables e below (T1.setTop (mkF m 21 #[.val (.ref s1), .val (.ref bv1), .val (.int (2 : Int32)), .val (.int (0 : Int32)), .val (.ref m0)] [(.ref m0)])) _
    refine st4 _ ?_
    show Steps p.tables e below (T4.setTop (mkF m 24 #[.val (.ref s1), .val (.ref bv1), .val (.int (2 : Int32)), .val (.int (0 : Int32)), .val (.ref m0)] [(.ref s0)])) _
    refine XS.aloadN X4.here hx rfl (hb hby d_own_rmNm1_24) rfl rfl ?_
    show Steps p.tables e below (T4.setTop (mkF m 25 #[.val (.ref s1), .val (.ref bv1), .val (.int (2 : Int32)), .val (.int (0 : Int32)), .val (.ref m0)] [(.ref s1), (.ref s0)])) _
    refine st5.trans ?_
    show Steps p.tables e below (T5.setTop (mkF m 28 #[.val (.ref s1), .val (.ref bv1), .val (.int (2 : Int32)), .val (.int (0 : Int32)), .val (.ref m0)] [(.int (0 : Int32))])) _
    refine XS.ifYes X5.here hx rfl (pc0 := 28) (pc' := 34) rfl (hb hby d_own_rmNm1_28) rfl ((if0 _ _).trans (teq ((by decide) : (0 : Int32) = (0 : Int32))).1) (by decide) (by decide) ?_
    show Steps p.tables e below (T5.setTop (mkF m 34 #[.val (.ref s1), .val (.ref bv1), .val (.int (2 : Int32)), .val (.int (0 : Int32)), .val (.ref m0)] [])) _
    refine XS.iinc X5.here hx rfl (hb hby d_own_rmNm1_34) rfl (l' := #[.val (.ref s1), .val (.ref bv1), .val (.int (2 : Int32)), .val (.int (1 : Int32)), .val (.ref m0)]) rfl ?_
    show Steps p.tables e below (T5.setTop (mkF m 37 #[.val (.ref s1), .val (.ref bv1), .val (.int (2 : Int32)), .val (.int (1 : Int32)), .val (.ref m0)] [])) _
    refine XS.goto X5.here hx rfl (pc0 := 37) (pc' := 9) rfl (hb hby d_own_rmNm1_37) (by decide) (by decide) ?_
    show Steps p.tables e below (T5.setTop (mkF m 9 #[.val (.ref s1), .val (.ref bv1), .val (.int (2 : Int32)), .val (.int (1 : Int32)), .val (.ref m0)] [])) _
    refine XS.iloadN X5.here hx rfl (hb hby d_own_rmNm1_9) rfl ?_
    show Steps p.tables e below (T5.setTop (mkF m 10 #[.val (.ref s1), .val (.ref bv1), .val (.int (2 : Int32)), .val (.int (1 : Int32)), .val (.ref m0)] [(.int (1 : Int32))])) _
    refine XS.iloadN X5.here hx rfl (hb hby d_own_rmNm1_10) rfl ?_
    show Steps p.tables e below (T5.setTop (mkF m 11 #[.val (.ref s1), .val (.ref bv1), .val (.int (2 : Int32)), .val (.int (1 : Int32)), .val (.ref m0)] [(.int (2 : Int32)), (.int (1 : Int32))])) _
    refine XS.icmpNo X5.here hx rfl (hb hby d_own_rmNm1_11) rfl (tlt ((by decide) : (1 : Int32) < (2 : Int32))).2.1 ?_
    show Steps p.tables e below (T5.setTop (mkF m 14 #[.val (.ref s1), .val (.ref bv1), .val (.int (2 : Int32)), .val (.int (1 : Int32)), .val (.ref m0)] [])) _
    refine XS.aloadN X5.here hx rfl (hb hby d_own_rmNm1_14) rfl rfl ?_
    show Steps p.tables e below (T5.setTop (mkF m 15 #[.val (.ref s1), .val (.ref bv1), .val (.int (2 : Int32)), .val (.int (1 : Int32)), .val (.ref m0)] [(.ref bv1)])) _
    refine XS.iloadN X5.here hx rfl (hb hby d_own_rmNm1_15) rfl ?_
    show Steps p.tables e below (T5.setTop (mkF m 16 #[.val (.ref s1), .val (.ref bv1), .val (.int (2 : Int32)), .val (.int (1 : Int32)), .val (.ref m0)] [(.int (1 : Int32)), (.ref bv1)])) _
    refine X5.aaload hx (j := (1 : Int32)) (v := (.ref m1)) (by rw [e5]; exact Ar6.1) (State.isArrayOf_alike hZ.alike Ar6.2.1) rfl Ar6.2.2 hin6 hat6 (g := (mkF m 16 #[.val (.ref s1), .val (.ref bv1), .val (.int (2 : Int32)), .val (.int (1 : Int32)), .val (.ref m0)] [(.int (1 : Int32)), (.ref bv1)])) rfl rfl (hb hby d_own_rmNm1_16) _ ?_
    show Steps p.tables e below (T5.setTop (mkF m 17 #[.val (.ref s1), .val (.ref bv1), .val (.int (2 : Int32)), .val (.int (1 : Int32)), .val (.ref m0)] [(.ref m1)])) _
    refine XS.astore X5.here hx rfl (hb hby d_own_rmNm1_17) rfl rfl (l' := #[.val (.ref s1), .val (.ref bv1), .val (.int (2 : Int32)), .val (.int (1 : Int32)), .val (.ref m1)]) rfl ?_
    show Steps p.tables e below (T5.setTop (mkF m 19 #[.val (.ref s1), .val (.ref bv1), .val (.int (2 : Int32)), .val (.int (1 : Int32)), .val (.ref m1)] [])) _
    refine XS.aload X5.here hx rfl (hb hby d_own_rmNm1_19) rfl rfl ?_
    show Steps p.tables e below (T5.setTop (mkF m 21 #[.val (.ref s1), .val (.ref bv1), .val (.int (2 : Int32)), .val (.int (1 : Int32)), .val (.ref m1)] [(.ref m1)])) _
    refine st7 _ ?_
    show Steps p.tables e below (T7.setTop (mkF m 24 #[.val (.ref s1), .val (.ref bv1), .val (.int (2 : Int32)), .val (.int (1 : Int32)), .val (.ref m1)] [(.ref s1)])) _
    refine XS.aloadN X7.here hx rfl (hb hby d_own_rmNm1_24) rfl rfl ?_
    show Steps p.tables e below (T7.setTop (mkF m 25 #[.val (.ref s1), .val (.ref bv1), .val (.int (2 : Int32)), .val (.int (1 : Int32)), .val (.ref m1)] [(.ref s1), (.ref s1)])) _
    refine st8.trans ?_
    show Steps p.tables e below (T8.setTop (mkF m 28 #[.val (.ref s1), .val (.ref bv1), .val (.int (2 : Int32)), .val (.int (1 : Int32)), .val (.ref m1)] [(.int (1 : Int32))])) _
    refine XS.ifNo X8.here hx rfl (hb hby d_own_rmNm1_28) rfl ((if0 _ _).trans (feq ((by decide) : ¬ ((1 : Int32) = (0 : Int32)))).1) ?_
    show Steps p.tables e below (T8.setTop (mkF m 31 #[.val (.ref s1), .val (.ref bv1), .val (.int (2 : Int32)), .val (.int (1 : Int32)), .val (.ref m1)] [])) _
    refine XS.aload X8.here hx rfl (hb hby d_own_rmNm1_31) rfl rfl ?_
    show Steps p.tables e below (T8.setTop (mkF m 33 #[.val (.ref s1), .val (.ref bv1), .val (.int (2 : Int32)), .val (.int (1 : Int32)), .val (.ref m1)] [(.ref m1)])) _
    jvm_step X8.here [X8.here.top, hx, (hb hby d_own_rmNm1_33), X8.method', Bd.returns, Value.isRef, FieldType.isReference]
    first | (intro acts; rw [hr _ acts rfl rfl rfl]) | rw [hr _ _ rfl rfl rfl]
    exact Steps.refl _
  · show own_QX m1 h0 n0 _ T8.heap _
    rw [e8]
    exact ⟨rfl, N8, K1⟩
theorem d_own_rmTs_0 : decode prog_11_method_5_code 0 = .ok (.aload_n 0, 1) := by decide +kernel
theorem d_own_rmTs_1 : decode prog_11_method_5_code 1 = .ok (.getfield 29, 3) := by decide +kernel
theorem d_own_rmTs_4 : decode prog_11_method_5_code 4 = .ok (.areturn, 1) := by decide +kernel
theorem ef_own_rmTs (m : MethodId) (x0 : Addr) : entryFrame m #[(.ref x0)] 1 = mkF m 0 #[.val (.ref x0)] [] := by first | (simp [entryFrame, mkF, argsToLocals, Value.category]; done) | rfl
set_option maxRecDepth 65536 in
set_option maxHeartbeats 40000000 in
theorem own_rmTs (l : Launch) (Z : State) (a0 : Array Value) (hw : ∀ d ∈ tables_1, d.before a0 Z = true) (ws : List Jvm.Cond) (b0 : Addr) (r : Addr) (h0 : Heap) (n0 : Nat) (Z0 : n0 ≤ h0.size) (F_o : Fld Z h0 b0 "com/example/corollary/corollary/EstimateMethod" "optionName" "Ljava/lang/String;" (.ref r)) :
    MetFree l (⟨"com/example/corollary/corollary/EstimateMethod", "toString", "()Ljava/lang/String;"⟩ : MethodName) (head1 (Jvm.Cond.code (⟨"com/example/corollary/corollary/EstimateMethod", "toString", "()Ljava/lang/String;"⟩ : MethodName) prog_11_method_5_code 1 (some (.object "java/lang/String")) :: ws) ({ frames := 0, cells := 0, slots := 0, locals := 0 } : Room)) (fun a U => a = #[(.ref b0)] ∧ Z.Warmed39 U.vm ∧ U.heap = h0) (fun _ _ _ _ _ => True) (fun _ U o U' => ∃ v L, o = .returned v ∧ own_QR r h0 n0 v U'.heap L ∧ FrameEnd U o U' L ({ frames := 0, cells := 0, slots := 0, locals := 0 } : Room).cells ({ frames := 0, cells := 0, slots := 0, locals := 0 } : Room).slots) := by
  refine MetFree.of_bodySF (plainFor_of_name own_pn3) hisR ?_
  intro p e s m args below meth c s₁ Bd hml0 hP hK
  obtain ⟨rfl, hZ, hh⟩ := hP
  have hx := Bd.exec
  have hby := Bd.bytes
  have hml : c.maxLocals = 1 := hml0
  have hown : s.vm.findClass "com/example/corollary/corollary/EstimateMethod" = some m.cls := findClass_of_methodNamed Bd.named
  have hnm := (name_of_methodNamed Bd.named Bd.method).1
  have X0 : Stand p l e ({ frames := 0, cells := 0, slots := 0, locals := 0 } : Room) s m #[(.ref b0)] below meth c s₁ [] 0 0 := Stand.of_body Bd
  have e0 : s₁.heap = h0 := by rw [← hh, Bd.state]; rfl
  have N0 := Fr.nil n0
  refine own_go (b := s₁.setTop (mkF m 0 #[.val (.ref b0)] [])) (fun t k => castTop (ef_own_rmTs m b0) k) ?_
  obtain ⟨T1, X1, e1, st1⟩ := getF X0 hx hZ hown (host := "") (Or.inl (hw _ (List.mem_of_getElem? (i := 45) rfl))) Via.refl e0 F_o (g := (mkF m 1 #[.val (.ref b0)] [(.ref b0)])) rfl rfl (hb hby d_own_rmTs_1)
  obtain ⟨fs, hr, hrun, hended, hW, hsame⟩ := X1.leave (v := some (.ref r)) (fun h => by rw [Bd.returns] at h; cases h)
  refine ⟨_, _, ?_, hrun, hended, _, _, rfl, ?_, ⟨_, rfl⟩, hW, hsame.mono (by decide) (by decide)⟩
  · show Steps p.tables e below (s₁.setTop (mkF m 0 #[.val (.ref b0)] [])) _
    refine XS.aloadN X0.here hx rfl (hb hby d_own_rmTs_0) rfl rfl ?_
    show Steps p.tables e below (s₁.setTop (mkF m 1 #[.val (.ref b0)] [(.ref b0)])) _
    refine st1 _ ?_
    show Steps p.tables e below (T1.setTop (mkF m 4 #[.val (.ref b0)] [(.ref r)])) _
    jvm_step X1.here [X1.here.top, hx, (hb hby d_own_rmTs_4), X1.method', Bd.returns, Value.isRef, FieldType.isReference]
    first | (intro acts; rw [hr _ acts rfl rfl rfl]) | rw [hr _ _ rfl rfl rfl]
    exact Steps.refl _
  · show own_QR r h0 n0 _ T1.heap _
    rw [e1]
    exact ⟨rfl, N0, rfl⟩
def own_Q0 (n0 : Nat) (v : Option Value) (h : Heap) (L : List Loc) : Prop := v = some (.int (1 : Int32)) ∧ Fr n0 L
theorem ef_own_rm0 (m : MethodId) (x0 : Int32) : entryFrame m #[(.int x0)] maxLocals = mkF m 0 #[.val (.int x0), .unset, .unset, .unset, .unset, .unset] [] := by first | (simp [entryFrame, mkF, argsToLocals, Value.category, maxLocals]; done) | rfl
set_option maxRecDepth 65536 in
set_option maxHeartbeats 40000000 in
theorem own_rm0 (l : Launch) (Z : State) (a0 : Array Value) (hw : ∀ d ∈ tables_1, d.before a0 Z = true) (ws : List Jvm.Cond) (p0 : Int32) (bA m0 m1 s0 s1 v0 v1 dE : Addr) (kA kD kv0 kv1 : ClassId) (cs : Int32) (h0 : Heap) (n0 : Nat) (Z0 : n0 ≤ h0.size) (S_A : Sta Z h0 "com/example/corollary/corollary/EstimateMethod" "$VALUES" "[Lcom/example/corollary/corollary/EstimateMethod;" (.ref bA)) (V_A : Arv Z h0 bA kA (.object "com/example/corollary/corollary/EstimateMethod") (2 : Int32) [(.ref m0), (.ref m1)] .null) (E_A : Exa Z h0 bA "[Lcom/example/corollary/corollary/EstimateMethod;") (S_D : Sta Z h0 "java/util/ArrayList" "DEFAULTCAPACITY_EMPTY_ELEMENTDATA" "[Ljava/lang/Object;" (.ref dE)) (V_D : Arv Z h0 dE kD (.object "java/lang/Object") (0 : Int32) [] .null) (E_m0 : Exa Z h0 m0 "com/example/corollary/corollary/EstimateMethod$1") (F_o0 : Fld Z h0 m0 "com/example/corollary/corollary/EstimateMethod" "optionName" "Ljava/lang/String;" (.ref s0)) (E_s0 : Exa Z h0 s0 "java/lang/String") (E_m1 : Exa Z h0 m1 "com/example/corollary/corollary/EstimateMethod$2") (F_o1 : Fld Z h0 m1 "com/example/corollary/corollary/EstimateMethod" "optionName" "Ljava/lang/String;" (.ref s1)) (E_s1 : Exa Z h0 s1 "java/lang/String") (F_cs0 : Fld Z h0 s0 "java/lang/String" "coder" "B" (.int (0 : Int32))) (F_vs0 : Fld Z h0 s0 "java/lang/String" "value" "[B" (.ref v0)) (V_v0 : Arv Z h0 v0 kv0 .byte (10 : Int32) [(.int (115 : Int32)), (.int (101 : Int32)), (.int (113 : Int32)), (.int (117 : Int32)), (.int (101 : Int32)), (.int (110 : Int32)), (.int (116 : Int32)), (.int (105 : Int32)), (.int (97 : Int32)), (.int (108 : Int32))] (.int (0 : Int32))) (F_cs1 : Fld Z h0 s1 "java/lang/String" "coder" "B" (.int (0 : Int32))) (F_vs1 : Fld Z h0 s1 "java/lang/String" "value" "[B" (.ref v1)) (V_v1 : Arv Z h0 v1 kv1 .byte (9 : Int32) [(.int (114 : Int32)), (.int (101 : Int32)), (.int (102 : Int32)), (.int (101 : Int32)), (.int (114 : Int32)), (.int (101 : Int32)), (.int (110 : Int32)), (.int (99 : Int32)), (.int (101 : Int32))] (.int (0 : Int32))) (S_cs : Sta Z h0 "java/lang/String" "COMPACT_STRINGS" "Z" (.int cs)) (hcs : ¬ cs = (0 : Int32)) (h01 : ¬ s0 = s1) (S_S : Sta Z h0 "com/example/corollary/corollary/EstimateMethod" "SEQUENTIAL" "Lcom/example/corollary/corollary/EstimateMethod;" (.ref m0)) (S_R : Sta Z h0 "com/example/corollary/corollary/EstimateMethod" "REFERENCE" "Lcom/example/corollary/corollary/EstimateMethod;" (.ref m1)) (hn0 : n0 = h0.size) (hC26 : Jvm.Lit.constHeld Z "com/example/corollary/corollary/EstimateMethodNamesPinLaw" 26) (hC28 : Jvm.Lit.constHeld Z "com/example/corollary/corollary/EstimateMethodNamesPinLaw" 28) (hcw : Jvm.Lit.compactW.before a0 Z = true) :
    MetFree l x (head1 (Jvm.Cond.code x code maxLocals ret :: ws) room_1) (fun a U => a = #[(.int p0)] ∧ Z = U ∧ U.heap = h0) (fun _ _ _ _ _ => True) (fun _ U o U' => ∃ v L, o = .returned v ∧ own_Q0 n0 v U'.heap L ∧ ReturnedEndW U o U' L room_1.cells room_1.slots) := by
  refine MetFree.of_bodySF (plainFor_of_name own_pn8) hisR ?_
  intro p e s m args below meth c s₁ Bd hml0 hP hK
  obtain ⟨rfl, hUZ, hh⟩ := hP
  have hZ : Z.Warmed39 s.vm := by rw [hUZ]; exact State.Warmed39.refl s
  have hx := Bd.exec
  have hby := Bd.bytes
  have hml : c.maxLocals = 6 := hml0
  have hown : s.vm.findClass "com/example/corollary/corollary/EstimateMethodNamesPinLaw" = some m.cls := findClass_of_methodNamed Bd.named
  have hnm := (name_of_methodNamed Bd.named Bd.method).1
  have X0 : Stand p l e room_1 s m #[(.int p0)] below meth c s₁ [] 0 0 := Stand.of_body Bd
  have e0 : s₁.heap = h0 := by rw [← hh, Bd.state]; rfl
  have N0 := Fr.nil n0
  refine own_go (b := s₁.setTop (mkF m 0 #[.val (.int p0), .unset, .unset, .unset, .unset, .unset] [])) (fun t k => castTop (ef_own_rm0 m p0) k) ?_
  obtain ⟨_, _, ⟨T1, L1, k1, n1⟩, -, X1, ⟨Lc1, hQ1, l1, y1, z1⟩, st1⟩ := Jvm.LawKit.callS X0 hx (y := (⟨"com/example/corollary/corollary/EstimateMethod", "names", "()Ljava/util/List;"⟩ : MethodName)) hown (mvT hZ (hw _ (List.mem_of_getElem? (i := 0) rfl))) (mvT hZ (hw _ (List.mem_of_getElem? (i := 1) rfl))) (mvT hZ (hw _ (List.mem_of_getElem? (i := 2) rfl))) (mvT hZ (hw _ (List.mem_of_getElem? (i := 3) rfl))) (by decide) (backOf (W := 0) (own_rmN l Z a0 hw []  bA m0 m1 s0 s1 dE kA kD h0 n0 Z0 S_A V_A E_A S_D V_D E_m0 F_o0 E_s0 E_m1 F_o1 E_s1) hZ (hw _ (List.mem_of_getElem? (i := 3) rfl)) (hw _ (List.mem_of_getElem? (i := 2) rfl)) (by decide) (by decide)) (g := (mkF m 0 #[.val (.int p0), .unset, .unset, .unset, .unset, .unset] [])) rfl (by rw [hml]; rfl) (argsL := []) (rest := []) (lenOf own_pd10 rfl) rfl (by show 2 * 0 + _ ≤ _; exact Nat.le_of_eq rfl) (hb hby at_0) (fun _ _ => ⟨rfl, e0, (by decide : 0 + 3 ≤ _), (by decide : 0 + 15 ≤ _)⟩)
  dsimp only [Pt.U, Pt.locs, Pt.cells, Pt.slots] at X1 l1 y1 z1 st1 hQ1
  subst l1 y1 z1
  obtain ⟨br1, be1, ke1, rfl, N1q, K1q, B1_0, B1_1, B1_2, B1_3⟩ := hQ1
  have S_EstimateMethod__VALUES_1 := own_staKeep0 S_A K1q
  have V_bA_1 := V_A.keep K1q List.not_mem_nil
  have E_bA_1 := E_A.keep K1q
  have S_ArrayList_DEFAULTCAPACITY_EMPTY_ELEMENTDATA_1 := own_staKeep0 S_D K1q
  have V_dE_1 := V_D.keep K1q List.not_mem_nil
  have E_m0_1 := E_m0.keep K1q
  have F_m0_optionName_1 := F_o0.keep K1q List.not_mem_nil
  have E_s0_1 := E_s0.keep K1q
  have E_m1_1 := E_m1.keep K1q
  have F_m1_optionName_1 := F_o1.keep K1q List.not_mem_nil
  have E_s1_1 := E_s1.keep K1q
  have F_s0_coder_1 := F_cs0.keep K1q List.not_mem_nil
  have F_s0_value_1 := F_vs0.keep K1q List.not_mem_nil
  have V_v0_1 := V_v0.keep K1q List.not_mem_nil
  have F_s1_coder_1 := F_cs1.keep K1q List.not_mem_nil
  have F_s1_value_1 := F_vs1.keep K1q List.not_mem_nil
  have V_v1_1 := V_v1.keep K1q List.not_mem_nil
  have S_String_COMPACT_STRINGS_1 := own_staKeep0 S_cs K1q
  have S_EstimateMethod_SEQUENTIAL_1 := own_staKeep0 S_S K1q
  have S_EstimateMethod_REFERENCE_1 := own_staKeep0 S_R K1q
  have N1 := Fr.app N0 N1q
  have Z1 := Nat.le_trans Z0 K1q.1
  have K1 := (Keep.refl h0 []).trans K1q (fun x hx => nomatch hx)
  obtain ⟨cq2, kq2, q2a, q2b, q2c⟩ := isOf hZ rfl B1_0
  obtain ⟨_, _, ⟨T2, L2, k2, n2⟩, -, X2, ⟨Lc2, hQ2, l2, y2, z2⟩, st2⟩ := X1.interfaceBack hx (xi := (⟨"java/util/List", "size", "()I"⟩ : MethodName)) (y := (⟨"java/util/ArrayList", "size", "()I"⟩ : MethodName)) hown (mvT hZ (hw _ (List.mem_of_getElem? (i := 79) rfl))) (mvT hZ (hw _ (List.mem_of_getElem? (i := 80) rfl))) (mvT hZ (hw _ (List.mem_of_getElem? (i := 81) rfl))) (mvT hZ (hw _ (List.mem_of_getElem? (i := 82) rfl))) (mvT hZ (hw _ (List.mem_of_getElem? (i := 83) rfl))) (mvT hZ (hw _ (List.mem_of_getElem? (i := 84) rfl))) (mvT hZ (hw _ (List.mem_of_getElem? (i := 85) rfl))) (mvT hZ (hw _ (List.mem_of_getElem? (i := 86) rfl))) (by decide) (backOf (W := 0) (own_rmSz l Z a0 hw [] br1 (2 : Int32) T1.heap n0 Z1 B1_1) hZ (hw _ (List.mem_of_getElem? (i := 87) rfl)) (hw _ (List.mem_of_getElem? (i := 6) rfl)) (by decide) (by decide)) q2a q2b q2c (g := (mkF m 5 #[.val (.int p0), .val (.ref br1), .unset, .unset, .unset, .unset] [(.ref br1)])) rfl (by rw [hml]; rfl) (Steps.refl _) (argsL := []) (rest := []) (lenOf own_pd11 rfl) rfl (by show 2 * 0 + _ ≤ _; exact Nat.le_of_eq rfl) (hb hby at_5) (fun _ _ => ⟨rfl, rfl, (by decide : 3 + 0 ≤ _), (by decide : 15 + 0 ≤ _)⟩)
  dsimp only [Pt.U, Pt.locs, Pt.cells, Pt.slots] at X2 l2 y2 z2 st2 hQ2
  subst l2 y2 z2
  obtain ⟨rfl, N2q, e2⟩ := hQ2
  have N2 := Fr.app N1 N2q
  refine own_go (b := T2.setTop (mkF m 19 #[.val (.int p0), .val (.ref br1), .unset, .unset, .unset, .unset] [(.int (p0 &&& (1 : Int32)))])) (fun t k => ?_) ?_
  · show Steps p.tables e below (s₁.setTop (mkF m 0 #[.val (.int p0), .unset, .unset, .unset, .unset, .unset] [])) _
    refine st1 _ ?_
    show Steps p.tables e below (T1.setTop (mkF m 3 #[.val (.int p0), .unset, .unset, .unset, .unset, .unset] [(.ref br1)])) _
    refine XS.astoreN X1.here hx rfl (hb hby at_3) rfl rfl (l' := #[.val (.int p0), .val (.ref br1), .unset, .unset, .unset, .unset]) rfl ?_
    show Steps p.tables e below (T1.setTop (mkF m 4 #[.val (.int p0), .val (.ref br1), .unset, .unset, .unset, .unset] [])) _
    refine XS.aloadN X1.here hx rfl (hb hby at_4) rfl rfl ?_
    show Steps p.tables e below (T1.setTop (mkF m 5 #[.val (.int p0), .val (.ref br1), .unset, .unset, .unset, .unset] [(.ref br1)])) _
    refine st2.trans ?_
    show Steps p.tables e below (T2.setTop (mkF m 10 #[.val (.int p0), .val (.ref br1), .unset, .unset, .unset, .unset] [(.int (2 : Int32))])) _
    refine XS.iconst X2.here hx rfl (hb hby at_10) ?_
    show Steps p.tables e below (T2.setTop (mkF m 11 #[.val (.int p0), .val (.ref br1), .unset, .unset, .unset, .unset] [(.int (2 : Int32)), (.int (2 : Int32))])) _
    refine XS.icmpYes X2.here hx rfl (pc0 := 11) (pc' := 16) rfl (hb hby at_11) rfl (teq ((by decide) : (2 : Int32) = (2 : Int32))).1 (by decide) (by decide) ?_
    show Steps p.tables e below (T2.setTop (mkF m 16 #[.val (.int p0), .val (.ref br1), .unset, .unset, .unset, .unset] [])) _
    refine XS.iloadN X2.here hx rfl (hb hby at_16) rfl ?_
    show Steps p.tables e below (T2.setTop (mkF m 17 #[.val (.int p0), .val (.ref br1), .unset, .unset, .unset, .unset] [(.int p0)])) _
    refine XS.iconst X2.here hx rfl (hb hby at_17) ?_
    show Steps p.tables e below (T2.setTop (mkF m 18 #[.val (.int p0), .val (.ref br1), .unset, .unset, .unset, .unset] [(.int (1 : Int32)), (.int p0)])) _
    refine XS.iand X2.here hx rfl (hb hby at_18) rfl ?_
    show Steps p.tables e below (T2.setTop (mkF m 19 #[.val (.int p0), .val (.ref br1), .unset, .unset, .unset, .unset] [(.int (p0 &&& (1 : Int32)))])) t
    exact k
  have hm_i := own_bit p0
  generalize (p0 &&& (1 : Int32)) = v_i at hm_i ⊢
  rcases hm_i with rfl | rfl
  · obtain ⟨T3, X3, e3, st3⟩ := getS2 X2 hx hZ hown (host := "") (Or.inl (hw _ (List.mem_of_getElem? (i := 88) rfl))) Via.refl e2 S_EstimateMethod_SEQUENTIAL_1 (g := (mkF m 24 #[.val (.int p0), .val (.ref br1), .val (.int (0 : Int32)), .unset, .unset, .unset] [])) rfl (hb hby at_24)
    obtain ⟨sa4, T4, h4, kk4, sb4, kb4, X4, e4, E4, hS4, hk4_, hZ, hown, Ea4, Fc4, Fv4, Va4, -, -, -, st4⟩ := ldcSV (s := s) (show Stand p l e room_1 (s.setVm s.vm) m _ below meth c _ _ _ _ from X3) hx hZ hown (hw _ (List.mem_of_getElem? (i := 90) rfl)) (own_atoms hw) e3 ((State.WarmedH.refl s).since 0) (Nat.zero_le _) (by rw [hh, ← hn0]; exact N2) (by rw [hUZ]; exact fun _ _ q => q) (show IB Z s.vm [] by rw [hUZ]; exact IB.start) (List.not_mem_nil) hC26 hcw (vs := [(.int (115 : Int32)), (.int (101 : Int32)), (.int (113 : Int32)), (.int (117 : Int32)), (.int (101 : Int32)), (.int (110 : Int32)), (.int (116 : Int32)), (.int (105 : Int32)), (.int (97 : Int32)), (.int (108 : Int32))]) (z := (10 : Int32)) (by decide +kernel) (by decide) (by decide +kernel) (g := (mkF m 38 #[.val (.int p0), .val (.ref br1), .val (.int (0 : Int32)), .val (.ref m0), .unset, .unset] [])) rfl (hb hby at_38) (n := 40) (by decide +kernel) (by decide) (by decide) (by decide)
    have S_EstimateMethod__VALUES_4 := S_EstimateMethod__VALUES_1.ext E4
    have V_bA_4 := V_bA_1.ext E4
    have E_bA_4 := E_bA_1.ext E4
    have S_ArrayList_DEFAULTCAPACITY_EMPTY_ELEMENTDATA_4 := S_ArrayList_DEFAULTCAPACITY_EMPTY_ELEMENTDATA_1.ext E4
    have V_dE_4 := V_dE_1.ext E4
    have E_m0_4 := E_m0_1.ext E4
    have F_m0_optionName_4 := F_m0_optionName_1.ext E4
    have E_s0_4 := E_s0_1.ext E4
    have E_m1_4 := E_m1_1.ext E4
    have F_m1_optionName_4 := F_m1_optionName_1.ext E4
    have E_s1_4 := E_s1_1.ext E4
    have F_s0_coder_4 := F_s0_coder_1.ext E4
    have F_s0_value_4 := F_s0_value_1.ext E4
    have V_v0_4 := V_v0_1.ext E4
    have F_s1_coder_4 := F_s1_coder_1.ext E4
    have F_s1_value_4 := F_s1_value_1.ext E4
    have V_v1_4 := V_v1_1.ext E4
    have S_String_COMPACT_STRINGS_4 := S_String_COMPACT_STRINGS_1.ext E4
    have S_EstimateMethod_SEQUENTIAL_4 := S_EstimateMethod_SEQUENTIAL_1.ext E4
    have S_EstimateMethod_REFERENCE_4 := S_EstimateMethod_REFERENCE_1.ext E4
    have E_br1_4 := B1_0.ext E4
    have F_br1_size_4 := B1_1.ext E4
    have F_br1_elementData_4 := B1_2.ext E4
    have V_be1_4 := B1_3.ext E4
    have Z4 := Nat.le_trans Z1 E4.1
    have K4 := K1.ext E4
    obtain ⟨cq5, kq5, q5a, q5b, q5c⟩ := isOf hZ e4 E_br1_4
    obtain ⟨_, _, ⟨T5, L5, k5, n5⟩, -, X5, ⟨Lc5, hQ5, l5, y5, z5⟩, st5⟩ := X4.interfaceBack hx (xi := (⟨"java/util/List", "get", "(I)Ljava/lang/Object;"⟩ : MethodName)) (y := (⟨"java/util/ArrayList", "get", "(I)Ljava/lang/Object;"⟩ : MethodName)) hown (mvT hZ (hw _ (List.mem_of_getElem? (i := 98) rfl))) (mvT hZ (hw _ (List.mem_of_getElem? (i := 99) rfl))) (mvT hZ (hw _ (List.mem_of_getElem? (i := 100) rfl))) (mvT hZ (hw _ (List.mem_of_getElem? (i := 101) rfl))) (mvT hZ (hw _ (List.mem_of_getElem? (i := 102) rfl))) (mvT hZ (hw _ (List.mem_of_getElem? (i := 103) rfl))) (mvT hZ (hw _ (List.mem_of_getElem? (i := 104) rfl))) (mvT hZ (hw _ (List.mem_of_getElem? (i := 86) rfl))) (by decide) (backOf (W := 0) (own_rmGet0 l Z a0 hw [] br1 be1 s0 s1 ke1 h4 n0 Z4 F_br1_elementData_4 V_be1_4 E_br1_4 F_br1_size_4) hZ (hw _ (List.mem_of_getElem? (i := 105) rfl)) (hw _ (List.mem_of_getElem? (i := 6) rfl)) (by decide) (by decide)) q5a q5b q5c (g := (mkF m 49 #[.val (.int p0), .val (.ref br1), .val (.int (0 : Int32)), .val (.ref m0), .val (.ref sa4), .unset] [(.int (0 : Int32)), (.ref br1)])) rfl (by rw [hml]; rfl) (Steps.refl _) (argsL := [(.int (0 : Int32))]) (rest := []) (lenOf own_pd8 rfl) rfl (by show 2 * 0 + _ ≤ _; exact Nat.le_of_eq rfl) (hb hby at_49) (fun _ _ => ⟨rfl, e4, (by decide : 5 + 0 ≤ _), (by decide : 59 + 0 ≤ _)⟩)
    dsimp only [Pt.U, Pt.locs, Pt.cells, Pt.slots] at X5 l5 y5 z5 st5 hQ5
    subst l5 y5 z5
    obtain ⟨rfl, N5q, e5⟩ := hQ5
    have N5 := Fr.app N2 N5q
    obtain ⟨T6, X6, e6, st6⟩ := castY X5 hx hZ hown (hw _ (List.mem_of_getElem? (i := 119) rfl)) e5 (Ins.self E_s0_4) (g := (mkF m 54 #[.val (.int p0), .val (.ref br1), .val (.int (0 : Int32)), .val (.ref m0), .val (.ref sa4), .unset] [(.ref s0)])) rfl rfl (hb hby at_54)
    refine own_go (b := T6.setTop (mkF m 70 #[.val (.int p0), .val (.ref br1), .val (.int (0 : Int32)), .val (.ref m0), .val (.ref sa4), .val (.ref s0)] [(.ref sa4), (.ref s0)])) (fun t k => ?_) ?_
    · show Steps p.tables e below (T2.setTop (mkF m 19 #[.val (.int p0), .val (.ref br1), .unset, .unset, .unset, .unset] [(.int (0 : Int32))])) _
      refine XS.istoreN X2.here hx rfl (hb hby at_19) rfl (l' := #[.val (.int p0), .val (.ref br1), .val (.int (0 : Int32)), .unset, .unset, .unset]) rfl ?_
      show Steps p.tables e below (T2.setTop (mkF m 20 #[.val (.int p0), .val (.ref br1), .val (.int (0 : Int32)), .unset, .unset, .unset] [])) _
      refine XS.iloadN X2.here hx rfl (hb hby at_20) rfl ?_
      show Steps p.tables e below (T2.setTop (mkF m 21 #[.val (.int p0), .val (.ref br1), .val (.int (0 : Int32)), .unset, .unset, .unset] [(.int (0 : Int32))])) _
      refine XS.ifNo X2.here hx rfl (hb hby at_21) rfl ((if0 _ _).trans (teq ((by decide) : (0 : Int32) = (0 : Int32))).2) ?_
      show Steps p.tables e below (T2.setTop (mkF m 24 #[.val (.int p0), .val (.ref br1), .val (.int (0 : Int32)), .unset, .unset, .unset] [])) _
      refine st3 _ ?_
      show Steps p.tables e below (T3.setTop (mkF m 27 #[.val (.int p0), .val (.ref br1), .val (.int (0 : Int32)), .unset, .unset, .unset] [(.ref m0)])) _
      refine XS.goto X3.here hx rfl (pc0 := 27) (pc' := 33) rfl (hb hby at_27) (by decide) (by decide) ?_
      show Steps p.tables e below (T3.setTop (mkF m 33 #[.val (.int p0), .val (.ref br1), .val (.int (0 : Int32)), .unset, .unset, .unset] [(.ref m0)])) _
      refine XS.astoreN X3.here hx rfl (hb hby at_33) rfl rfl (l' := #[.val (.int p0), .val (.ref br1), .val (.int (0 : Int32)), .val (.ref m0), .unset, .unset]) rfl ?_
      show Steps p.tables e below (T3.setTop (mkF m 34 #[.val (.int p0), .val (.ref br1), .val (.int (0 : Int32)), .val (.ref m0), .unset, .unset] [])) _
      refine XS.iloadN X3.here hx rfl (hb hby at_34) rfl ?_
      show Steps p.tables e below (T3.setTop (mkF m 35 #[.val (.int p0), .val (.ref br1), .val (.int (0 : Int32)), .val (.ref m0), .unset, .unset] [(.int (0 : Int32))])) _
      refine XS.ifNo X3.here hx rfl (hb hby at_35) rfl ((if0 _ _).trans (teq ((by decide) : (0 : Int32) = (0 : Int32))).2) ?_
      show Steps p.tables e below (T3.setTop (mkF m 38 #[.val (.int p0), .val (.ref br1), .val (.int (0 : Int32)), .val (.ref m0), .unset, .unset] [])) _
      refine st4 _ ?_
      show Steps p.tables e below (T4.setTop (mkF m 40 #[.val (.int p0), .val (.ref br1), .val (.int (0 : Int32)), .val (.ref m0), .unset, .unset] [(.ref sa4)])) _
      refine XS.goto X4.here hx rfl (pc0 := 40) (pc' := 45) rfl (hb hby at_40) (by decide) (by decide) ?_
      show Steps p.tables e below (T4.setTop (mkF m 45 #[.val (.int p0), .val (.ref br1), .val (.int (0 : Int32)), .val (.ref m0), .unset, .unset] [(.ref sa4)])) _
      refine XS.astore X4.here hx rfl (hb hby at_45) rfl rfl (l' := #[.val (.int p0), .val (.ref br1), .val (.int (0 : Int32)), .val (.ref m0), .val (.ref sa4), .unset]) rfl ?_
      show Steps p.tables e below (T4.setTop (mkF m 47 #[.val (.int p0), .val (.ref br1), .val (.int (0 : Int32)), .val (.ref m0), .val (.ref sa4), .unset] [])) _
      refine XS.aloadN X4.here hx rfl (hb hby at_47) rfl rfl ?_
      show Steps p.tables e below (T4.setTop (mkF m 48 #[.val (.int p0), .val (.ref br1), .val (.int (0 : Int32)), .val (.ref m0), .val (.ref sa4), .unset] [(.ref br1)])) _
      refine XS.iloadN X4.here hx rfl (hb hby at_48) rfl ?_
      show Steps p.tables e below (T4.setTop (mkF m 49 #[.val (.int p0), .val (.ref br1), .val (.int (0 : Int32)), .val (.ref m0), .val (.ref sa4), .unset] [(.int (0 : Int32)), (.ref br1)])) _
      refine st5.trans ?_
      show Steps p.tables e below (T5.setTop (mkF m 54 #[.val (.int p0), .val (.ref br1), .val (.int (0 : Int32)), .val (.ref m0), .val (.ref sa4), .unset] [(.ref s0)])) _
      refine st6 _ ?_
      show Steps p.tables e below (T6.setTop (mkF m 57 #[.val (.int p0), .val (.ref br1), .val (.int (0 : Int32)), .val (.ref m0), .val (.ref sa4), .unset] [(.ref s0)])) _
      refine XS.astore X6.here hx rfl (hb hby at_57) rfl rfl (l' := #[.val (.int p0), .val (.ref br1), .val (.int (0 : Int32)), .val (.ref m0), .val (.ref sa4), .val (.ref s0)]) rfl ?_
      show Steps p.tables e below (T6.setTop (mkF m 59 #[.val (.int p0), .val (.ref br1), .val (.int (0 : Int32)), .val (.ref m0), .val (.ref sa4), .val (.ref s0)] [])) _
      refine XS.aload X6.here hx rfl (hb hby at_59) rfl rfl ?_
      show Steps p.tables e below (T6.setTop (mkF m 61 #[.val (.int p0), .val (.ref br1), .val (.int (0 : Int32)), .val (.ref m0), .val (.ref sa4), .val (.ref s0)] [(.ref s0)])) _
      refine XS.ifnonnullYes X6.here hx rfl (pc0 := 61) (pc' := 66) rfl (hb hby at_61) rfl (by decide) (by decide) ?_
      show Steps p.tables e below (T6.setTop (mkF m 66 #[.val (.int p0), .val (.ref br1), .val (.int (0 : Int32)), .val (.ref m0), .val (.ref sa4), .val (.ref s0)] [])) _
      refine XS.aload X6.here hx rfl (hb hby at_66) rfl rfl ?_
      show Steps p.tables e below (T6.setTop (mkF m 68 #[.val (.int p0), .val (.ref br1), .val (.int (0 : Int32)), .val (.ref m0), .val (.ref sa4), .val (.ref s0)] [(.ref s0)])) _
      refine XS.aload X6.here hx rfl (hb hby at_68) rfl rfl ?_
      show Steps p.tables e below (T6.setTop (mkF m 70 #[.val (.int p0), .val (.ref br1), .val (.int (0 : Int32)), .val (.ref m0), .val (.ref sa4), .val (.ref s0)] [(.ref sa4), (.ref s0)])) t
      exact k
    by_cases h_lit : s0 = sa4
    · obtain ⟨cq7, kq7, q7a, q7b, q7c⟩ := isOf hZ e6 E_s0_4
      obtain ⟨_, _, ⟨T7, L7, k7, n7⟩, -, X7, ⟨Lc7, hQ7, l7, y7, z7⟩, st7⟩ := X6.virtualBack hx (y := (⟨"java/lang/String", "equals", "(Ljava/lang/Object;)Z"⟩ : MethodName)) (z := (⟨"java/lang/String", "equals", "(Ljava/lang/Object;)Z"⟩ : MethodName)) hown (mvT hZ (hw _ (List.mem_of_getElem? (i := 121) rfl))) (mvT hZ (hw _ (List.mem_of_getElem? (i := 122) rfl))) (notFace_of_selects (args := #[]) (mvT hZ (hw _ (List.mem_of_getElem? (i := 124) rfl)))) (mvT hZ (hw _ (List.mem_of_getElem? (i := 124) rfl))) (mvT hZ (hw _ (List.mem_of_getElem? (i := 123) rfl))) (by decide) (backOf (W := 0) (own_rmEqS l Z a0 hw [] s0 sa4  h4 n0 Z4 h_lit) hZ (hw _ (List.mem_of_getElem? (i := 125) rfl)) (hw _ (List.mem_of_getElem? (i := 91) rfl)) (by decide) (by decide)) q7a q7c (g := (mkF m 70 #[.val (.int p0), .val (.ref br1), .val (.int (0 : Int32)), .val (.ref m0), .val (.ref sa4), .val (.ref s0)] [(.ref sa4), (.ref s0)])) rfl (by rw [hml]; rfl) (Steps.refl _) (argsL := [(.ref sa4)]) (rest := []) (lenOf own_pd6 rfl) rfl (by show 2 * 0 + _ ≤ _; exact Nat.le_of_eq rfl) (hb hby at_70) (fun _ _ => ⟨rfl, e6, (by decide : 5 + 0 ≤ _), (by decide : 59 + 0 ≤ _)⟩)
      dsimp only [Pt.U, Pt.locs, Pt.cells, Pt.slots] at X7 l7 y7 z7 st7 hQ7
      subst l7 y7 z7
      obtain ⟨rfl, N7q, e7⟩ := hQ7
      have N7 := Fr.app N5 N7q
      obtain ⟨cq8, kq8, q8a, q8b, q8c⟩ := isOf hZ e7 E_m0_4
      obtain ⟨_, _, ⟨T8, L8, k8, n8⟩, -, X8, ⟨Lc8, hQ8, l8, y8, z8⟩, st8⟩ := X7.virtualBack hx (y := (⟨"com/example/corollary/corollary/EstimateMethod", "toString", "()Ljava/lang/String;"⟩ : MethodName)) (z := (⟨"com/example/corollary/corollary/EstimateMethod", "toString", "()Ljava/lang/String;"⟩ : MethodName)) hown (mvT hZ (hw _ (List.mem_of_getElem? (i := 134) rfl))) (mvT hZ (hw _ (List.mem_of_getElem? (i := 135) rfl))) (notFace_of_selects (args := #[]) (mvT hZ (hw _ (List.mem_of_getElem? (i := 137) rfl)))) (mvT hZ (hw _ (List.mem_of_getElem? (i := 137) rfl))) (mvT hZ (hw _ (List.mem_of_getElem? (i := 136) rfl))) (by decide) (backOf (W := 1) (own_rmTs l Z a0 hw [] m0 s0 h4 n0 Z4 F_m0_optionName_4) hZ (hw _ (List.mem_of_getElem? (i := 138) rfl)) (hw _ (List.mem_of_getElem? (i := 2) rfl)) (by decide) (by decide)) q8a q8c (g := (mkF m 79 #[.val (.int p0), .val (.ref br1), .val (.int (0 : Int32)), .val (.ref m0), .val (.ref sa4), .val (.ref s0)] [(.ref m0), (.ref s0)])) rfl (by rw [hml]; rfl) (Steps.refl _) (argsL := []) (rest := [(.ref s0)]) (lenOf own_pd12 rfl) rfl (by show 2 * 0 + _ ≤ _; exact Nat.le_of_eq rfl) (hb hby at_79) (fun _ _ => ⟨rfl, e7, (by decide : 5 + 0 ≤ _), (by decide : 59 + 0 ≤ _)⟩)
      dsimp only [Pt.U, Pt.locs, Pt.cells, Pt.slots] at X8 l8 y8 z8 st8 hQ8
      subst l8 y8 z8
      obtain ⟨rfl, N8q, e8⟩ := hQ8
      have N8 := Fr.app N7 N8q
      obtain ⟨cq9, kq9, q9a, q9b, q9c⟩ := isOf hZ e8 E_s0_4
      obtain ⟨_, _, ⟨T9, L9, k9, n9⟩, -, X9, ⟨Lc9, hQ9, l9, y9, z9⟩, st9⟩ := X8.virtualBack hx (y := (⟨"java/lang/String", "equals", "(Ljava/lang/Object;)Z"⟩ : MethodName)) (z := (⟨"java/lang/String", "equals", "(Ljava/lang/Object;)Z"⟩ : MethodName)) hown (mvT hZ (hw _ (List.mem_of_getElem? (i := 121) rfl))) (mvT hZ (hw _ (List.mem_of_getElem? (i := 122) rfl))) (notFace_of_selects (args := #[]) (mvT hZ (hw _ (List.mem_of_getElem? (i := 124) rfl)))) (mvT hZ (hw _ (List.mem_of_getElem? (i := 124) rfl))) (mvT hZ (hw _ (List.mem_of_getElem? (i := 123) rfl))) (by decide) (backOf (W := 0) (own_rmEqS l Z a0 hw [] s0 s0  h4 n0 Z4 rfl) hZ (hw _ (List.mem_of_getElem? (i := 125) rfl)) (hw _ (List.mem_of_getElem? (i := 91) rfl)) (by decide) (by decide)) q9a q9c (g := (mkF m 82 #[.val (.int p0), .val (.ref br1), .val (.int (0 : Int32)), .val (.ref m0), .val (.ref sa4), .val (.ref s0)] [(.ref s0), (.ref s0)])) rfl (by rw [hml]; rfl) (Steps.refl _) (argsL := [(.ref s0)]) (rest := []) (lenOf own_pd6 rfl) rfl (by show 2 * 0 + _ ≤ _; exact Nat.le_of_eq rfl) (hb hby at_82) (fun _ _ => ⟨rfl, e8, (by decide : 5 + 0 ≤ _), (by decide : 59 + 0 ≤ _)⟩)
      dsimp only [Pt.U, Pt.locs, Pt.cells, Pt.slots] at X9 l9 y9 z9 st9 hQ9
      subst l9 y9 z9
      obtain ⟨rfl, N9q, e9⟩ := hQ9
      have N9 := Fr.app N8 N9q
      obtain ⟨_, _, ⟨T10, L10, k10, n10⟩, -, X10, ⟨Lc10, hQ10, l10, y10, z10⟩, st10⟩ := Jvm.LawKit.callS X9 hx (y := (⟨"com/example/corollary/corollary/EstimateMethod", "named", "(Ljava/lang/String;)Lcom/example/corollary/corollary/EstimateMethod;"⟩ : MethodName)) hown (mvT hZ (hw _ (List.mem_of_getElem? (i := 139) rfl))) (mvT hZ (hw _ (List.mem_of_getElem? (i := 140) rfl))) (mvT hZ (hw _ (List.mem_of_getElem? (i := 2) rfl))) (mvT hZ (hw _ (List.mem_of_getElem? (i := 141) rfl))) (by decide) (backOf (W := 0) (own_rmNm0 l Z a0 hw [] s0 bA m0 m1 s1 v0 v1 kA kv0 kv1 cs h4 n0 Z4 S_EstimateMethod__VALUES_4 V_bA_4 E_bA_4 E_m0_4 F_m0_optionName_4 E_s0_4 E_m1_4 F_m1_optionName_4 E_s1_4 F_s0_coder_4 F_s0_value_4 V_v0_4 F_s1_coder_4 F_s1_value_4 V_v1_4 S_String_COMPACT_STRINGS_4 hcs h01) hZ (hw _ (List.mem_of_getElem? (i := 141) rfl)) (hw _ (List.mem_of_getElem? (i := 2) rfl)) (by decide) (by decide)) (g := (mkF m 90 #[.val (.int p0), .val (.ref br1), .val (.int (0 : Int32)), .val (.ref m0), .val (.ref sa4), .val (.ref s0)] [(.ref s0)])) rfl (by rw [hml]; rfl) (argsL := [(.ref s0)]) (rest := []) (lenOf own_pd13 rfl) rfl (by show 2 * 0 + _ ≤ _; exact Nat.le_of_eq rfl) (hb hby at_90) (fun _ _ => ⟨rfl, e9, (by decide : 5 + 1 ≤ _), (by decide : 59 + 2 ≤ _)⟩)
      dsimp only [Pt.U, Pt.locs, Pt.cells, Pt.slots] at X10 l10 y10 z10 st10 hQ10
      subst l10 y10 z10
      obtain ⟨rfl, N10q, K10q⟩ := hQ10
      have S_EstimateMethod__VALUES_10 := own_staKeep0 S_EstimateMethod__VALUES_4 K10q
      have V_bA_10 := V_bA_4.keep K10q List.not_mem_nil
      have E_bA_10 := E_bA_4.keep K10q
      have S_ArrayList_DEFAULTCAPACITY_EMPTY_ELEMENTDATA_10 := own_staKeep0 S_ArrayList_DEFAULTCAPACITY_EMPTY_ELEMENTDATA_4 K10q
      have V_dE_10 := V_dE_4.keep K10q List.not_mem_nil
      have E_m0_10 := E_m0_4.keep K10q
      have F_m0_optionName_10 := F_m0_optionName_4.keep K10q List.not_mem_nil
      have E_s0_10 := E_s0_4.keep K10q
      have E_m1_10 := E_m1_4.keep K10q
      have F_m1_optionName_10 := F_m1_optionName_4.keep K10q List.not_mem_nil
      have E_s1_10 := E_s1_4.keep K10q
      have F_s0_coder_10 := F_s0_coder_4.keep K10q List.not_mem_nil
      have F_s0_value_10 := F_s0_value_4.keep K10q List.not_mem_nil
      have V_v0_10 := V_v0_4.keep K10q List.not_mem_nil
      have F_s1_coder_10 := F_s1_coder_4.keep K10q List.not_mem_nil
      have F_s1_value_10 := F_s1_value_4.keep K10q List.not_mem_nil
      have V_v1_10 := V_v1_4.keep K10q List.not_mem_nil
      have S_String_COMPACT_STRINGS_10 := own_staKeep0 S_String_COMPACT_STRINGS_4 K10q
      have S_EstimateMethod_SEQUENTIAL_10 := own_staKeep0 S_EstimateMethod_SEQUENTIAL_4 K10q
      have S_EstimateMethod_REFERENCE_10 := own_staKeep0 S_EstimateMethod_REFERENCE_4 K10q
      have E_br1_10 := E_br1_4.keep K10q
      have F_br1_size_10 := F_br1_size_4.keep K10q List.not_mem_nil
      have F_br1_elementData_10 := F_br1_elementData_4.keep K10q List.not_mem_nil
      have V_be1_10 := V_be1_4.keep K10q List.not_mem_nil
      have E_sa4_10 := Ea4.keep K10q
      have F_sa4_coder_10 := Fc4.keep K10q List.not_mem_nil
      have F_sa4_value_10 := Fv4.keep K10q List.not_mem_nil
      have V_sb4_10 := Va4.keep K10q List.not_mem_nil
      have N10 := Fr.app N9 N10q
      have Z10 := Nat.le_trans Z4 K10q.1
      have hk10 := Nat.le_trans hk4_ K10q.1
      have K10 := K4.trans K10q (fun x hx => nomatch hx)
      obtain ⟨fs, hr, hrun, hended, hRE⟩ := Jvm.Stand.leaveW (s := s) X10 hS4 (by show _ ≤ T10.heap.size; exact hk10) (v := some (.int (1 : Int32))) (fun h => by rw [Bd.returns] at h; cases h)
      refine ⟨_, _, ?_, hrun, hended, _, _, rfl, ?_, hRE.1, hRE.2.1, hRE.2.2.1, hRE.2.2.2.mono (by decide) (by decide)⟩
      · show Steps p.tables e below (T6.setTop (mkF m 70 #[.val (.int p0), .val (.ref br1), .val (.int (0 : Int32)), .val (.ref m0), .val (.ref sa4), .val (.ref s0)] [(.ref sa4), (.ref s0)])) _
        refine st7.trans ?_
        show Steps p.tables e below (T7.setTop (mkF m 73 #[.val (.int p0), .val (.ref br1), .val (.int (0 : Int32)), .val (.ref m0), .val (.ref sa4), .val (.ref s0)] [(.int (1 : Int32))])) _
        refine XS.ifNo X7.here hx rfl (hb hby at_73) rfl ((if0 _ _).trans (feq ((by decide) : ¬ ((1 : Int32) = (0 : Int32)))).1) ?_
        show Steps p.tables e below (T7.setTop (mkF m 76 #[.val (.int p0), .val (.ref br1), .val (.int (0 : Int32)), .val (.ref m0), .val (.ref sa4), .val (.ref s0)] [])) _
        refine XS.aload X7.here hx rfl (hb hby at_76) rfl rfl ?_
        show Steps p.tables e below (T7.setTop (mkF m 78 #[.val (.int p0), .val (.ref br1), .val (.int (0 : Int32)), .val (.ref m0), .val (.ref sa4), .val (.ref s0)] [(.ref s0)])) _
        refine XS.aloadN X7.here hx rfl (hb hby at_78) rfl rfl ?_
        show Steps p.tables e below (T7.setTop (mkF m 79 #[.val (.int p0), .val (.ref br1), .val (.int (0 : Int32)), .val (.ref m0), .val (.ref sa4), .val (.ref s0)] [(.ref m0), (.ref s0)])) _
        refine st8.trans ?_
        show Steps p.tables e below (T8.setTop (mkF m 82 #[.val (.int p0), .val (.ref br1), .val (.int (0 : Int32)), .val (.ref m0), .val (.ref sa4), .val (.ref s0)] [(.ref s0), (.ref s0)])) _
        refine st9.trans ?_
        show Steps p.tables e below (T9.setTop (mkF m 85 #[.val (.int p0), .val (.ref br1), .val (.int (0 : Int32)), .val (.ref m0), .val (.ref sa4), .val (.ref s0)] [(.int (1 : Int32))])) _
        refine XS.ifNo X9.here hx rfl (hb hby at_85) rfl ((if0 _ _).trans (feq ((by decide) : ¬ ((1 : Int32) = (0 : Int32)))).1) ?_
        show Steps p.tables e below (T9.setTop (mkF m 88 #[.val (.int p0), .val (.ref br1), .val (.int (0 : Int32)), .val (.ref m0), .val (.ref sa4), .val (.ref s0)] [])) _
        refine XS.aload X9.here hx rfl (hb hby at_88) rfl rfl ?_
        show Steps p.tables e below (T9.setTop (mkF m 90 #[.val (.int p0), .val (.ref br1), .val (.int (0 : Int32)), .val (.ref m0), .val (.ref sa4), .val (.ref s0)] [(.ref s0)])) _
        refine st10 _ ?_
        show Steps p.tables e below (T10.setTop (mkF m 93 #[.val (.int p0), .val (.ref br1), .val (.int (0 : Int32)), .val (.ref m0), .val (.ref sa4), .val (.ref s0)] [(.ref m0)])) _
        refine XS.aloadN X10.here hx rfl (hb hby at_93) rfl rfl ?_
        show Steps p.tables e below (T10.setTop (mkF m 94 #[.val (.int p0), .val (.ref br1), .val (.int (0 : Int32)), .val (.ref m0), .val (.ref sa4), .val (.ref s0)] [(.ref m0), (.ref m0)])) _
        refine Jvm.RoadKit.acmp (g := (mkF m 94 #[.val (.int p0), .val (.ref br1), .val (.int (0 : Int32)), .val (.ref m0), .val (.ref sa4), .val (.ref s0)] [(.ref m0), (.ref m0)])) X10 hx rfl rfl rfl (pc0 := 94) (pc' := 97) (same := true) rfl (hb hby at_94) rfl (decide_eq_true rfl) (by decide) (by decide) ?_
        show Steps p.tables e below (T10.setTop (mkF m 97 #[.val (.int p0), .val (.ref br1), .val (.int (0 : Int32)), .val (.ref m0), .val (.ref sa4), .val (.ref s0)] [])) _
        refine XS.iconst X10.here hx rfl (hb hby at_97) ?_
        show Steps p.tables e below (T10.setTop (mkF m 98 #[.val (.int p0), .val (.ref br1), .val (.int (0 : Int32)), .val (.ref m0), .val (.ref sa4), .val (.ref s0)] [(.int (1 : Int32))])) _
        refine XS.goto X10.here hx rfl (pc0 := 98) (pc' := 102) rfl (hb hby at_98) (by decide) (by decide) ?_
        show Steps p.tables e below (T10.setTop (mkF m 102 #[.val (.int p0), .val (.ref br1), .val (.int (0 : Int32)), .val (.ref m0), .val (.ref sa4), .val (.ref s0)] [(.int (1 : Int32))])) _
        exact retN X10 hx (t := .boolean) Bd.returns (by simp) (hb hby at_102) hr
      · show own_Q0 n0 _ T10.heap _
        exact ⟨rfl, N10⟩
    · obtain ⟨cq11, kq11, q11a, q11b, q11c⟩ := isOf hZ e6 E_s0_4
      obtain ⟨_, _, ⟨T11, L11, k11, n11⟩, -, X11, ⟨Lc11, hQ11, l11, y11, z11⟩, st11⟩ := X6.virtualBack hx (y := (⟨"java/lang/String", "equals", "(Ljava/lang/Object;)Z"⟩ : MethodName)) (z := (⟨"java/lang/String", "equals", "(Ljava/lang/Object;)Z"⟩ : MethodName)) hown (mvT hZ (hw _ (List.mem_of_getElem? (i := 121) rfl))) (mvT hZ (hw _ (List.mem_of_getElem? (i := 122) rfl))) (notFace_of_selects (args := #[]) (mvT hZ (hw _ (List.mem_of_getElem? (i := 124) rfl)))) (mvT hZ (hw _ (List.mem_of_getElem? (i := 124) rfl))) (mvT hZ (hw _ (List.mem_of_getElem? (i := 123) rfl))) (by decide) (backOf (W := 0) (own_rmEq00 l Z a0 hw [] s0 sa4 v0 sb4 kv0 kb4 cs h4 n0 Z4 E_s0_4 F_s0_coder_4 F_s0_value_4 V_v0_4 Ea4 Fc4 Fv4 Va4 S_String_COMPACT_STRINGS_4 hcs h_lit) hZ (hw _ (List.mem_of_getElem? (i := 125) rfl)) (hw _ (List.mem_of_getElem? (i := 91) rfl)) (by decide) (by decide)) q11a q11c (g := (mkF m 70 #[.val (.int p0), .val (.ref br1), .val (.int (0 : Int32)), .val (.ref m0), .val (.ref sa4), .val (.ref s0)] [(.ref sa4), (.ref s0)])) rfl (by rw [hml]; rfl) (Steps.refl _) (argsL := [(.ref sa4)]) (rest := []) (lenOf own_pd6 rfl) rfl (by show 2 * 0 + _ ≤ _; exact Nat.le_of_eq rfl) (hb hby at_70) (fun _ _ => ⟨rfl, e6, (by decide : 5 + 0 ≤ _), (by decide : 59 + 0 ≤ _)⟩)
      dsimp only [Pt.U, Pt.locs, Pt.cells, Pt.slots] at X11 l11 y11 z11 st11 hQ11
      subst l11 y11 z11
      obtain ⟨rfl, N11q, e11⟩ := hQ11
      have N11 := Fr.app N5 N11q
      obtain ⟨cq12, kq12, q12a, q12b, q12c⟩ := isOf hZ e11 E_m0_4
      obtain ⟨_, _, ⟨T12, L12, k12, n12⟩, -, X12, ⟨Lc12, hQ12, l12, y12, z12⟩, st12⟩ := X11.virtualBack hx (y := (⟨"com/example/corollary/corollary/EstimateMethod", "toString", "()Ljava/lang/String;"⟩ : MethodName)) (z := (⟨"com/example/corollary/corollary/EstimateMethod", "toString", "()Ljava/lang/String;"⟩ : MethodName)) hown (mvT hZ (hw _ (List.mem_of_getElem? (i := 134) rfl))) (mvT hZ (hw _ (List.mem_of_getElem? (i := 135) rfl))) (notFace_of_selects (args := #[]) (mvT hZ (hw _ (List.mem_of_getElem? (i := 137) rfl)))) (mvT hZ (hw _ (List.mem_of_getElem? (i := 137) rfl))) (mvT hZ (hw _ (List.mem_of_getElem? (i := 136) rfl))) (by decide) (backOf (W := 1) (own_rmTs l Z a0 hw [] m0 s0 h4 n0 Z4 F_m0_optionName_4) hZ (hw _ (List.mem_of_getElem? (i := 138) rfl)) (hw _ (List.mem_of_getElem? (i := 2) rfl)) (by decide) (by decide)) q12a q12c (g := (mkF m 79 #[.val (.int p0), .val (.ref br1), .val (.int (0 : Int32)), .val (.ref m0), .val (.ref sa4), .val (.ref s0)] [(.ref m0), (.ref s0)])) rfl (by rw [hml]; rfl) (Steps.refl _) (argsL := []) (rest := [(.ref s0)]) (lenOf own_pd12 rfl) rfl (by show 2 * 0 + _ ≤ _; exact Nat.le_of_eq rfl) (hb hby at_79) (fun _ _ => ⟨rfl, e11, (by decide : 5 + 0 ≤ _), (by decide : 59 + 0 ≤ _)⟩)
      dsimp only [Pt.U, Pt.locs, Pt.cells, Pt.slots] at X12 l12 y12 z12 st12 hQ12
      subst l12 y12 z12
      obtain ⟨rfl, N12q, e12⟩ := hQ12
      have N12 := Fr.app N11 N12q
      obtain ⟨cq13, kq13, q13a, q13b, q13c⟩ := isOf hZ e12 E_s0_4
      obtain ⟨_, _, ⟨T13, L13, k13, n13⟩, -, X13, ⟨Lc13, hQ13, l13, y13, z13⟩, st13⟩ := X12.virtualBack hx (y := (⟨"java/lang/String", "equals", "(Ljava/lang/Object;)Z"⟩ : MethodName)) (z := (⟨"java/lang/String", "equals", "(Ljava/lang/Object;)Z"⟩ : MethodName)) hown (mvT hZ (hw _ (List.mem_of_getElem? (i := 121) rfl))) (mvT hZ (hw _ (List.mem_of_getElem? (i := 122) rfl))) (notFace_of_selects (args := #[]) (mvT hZ (hw _ (List.mem_of_getElem? (i := 124) rfl)))) (mvT hZ (hw _ (List.mem_of_getElem? (i := 124) rfl))) (mvT hZ (hw _ (List.mem_of_getElem? (i := 123) rfl))) (by decide) (backOf (W := 0) (own_rmEqS l Z a0 hw [] s0 s0  h4 n0 Z4 rfl) hZ (hw _ (List.mem_of_getElem? (i := 125) rfl)) (hw _ (List.mem_of_getElem? (i := 91) rfl)) (by decide) (by decide)) q13a q13c (g := (mkF m 82 #[.val (.int p0), .val (.ref br1), .val (.int (0 : Int32)), .val (.ref m0), .val (.ref sa4), .val (.ref s0)] [(.ref s0), (.ref s0)])) rfl (by rw [hml]; rfl) (Steps.refl _) (argsL := [(.ref s0)]) (rest := []) (lenOf own_pd6 rfl) rfl (by show 2 * 0 + _ ≤ _; exact Nat.le_of_eq rfl) (hb hby at_82) (fun _ _ => ⟨rfl, e12, (by decide : 5 + 0 ≤ _), (by decide : 59 + 0 ≤ _)⟩)
      dsimp only [Pt.U, Pt.locs, Pt.cells, Pt.slots] at X13 l13 y13 z13 st13 hQ13
      subst l13 y13 z13
      obtain ⟨rfl, N13q, e13⟩ := hQ13
      have N13 := Fr.app N12 N13q
      obtain ⟨_, _, ⟨T14, L14, k14, n14⟩, -, X14, ⟨Lc14, hQ14, l14, y14, z14⟩, st14⟩ := Jvm.LawKit.callS X13 hx (y := (⟨"com/example/corollary/corollary/EstimateMethod", "named", "(Ljava/lang/String;)Lcom/example/corollary/corollary/EstimateMethod;"⟩ : MethodName)) hown (mvT hZ (hw _ (List.mem_of_getElem? (i := 139) rfl))) (mvT hZ (hw _ (List.mem_of_getElem? (i := 140) rfl))) (mvT hZ (hw _ (List.mem_of_getElem? (i := 2) rfl))) (mvT hZ (hw _ (List.mem_of_getElem? (i := 141) rfl))) (by decide) (backOf (W := 0) (own_rmNm0 l Z a0 hw [] s0 bA m0 m1 s1 v0 v1 kA kv0 kv1 cs h4 n0 Z4 S_EstimateMethod__VALUES_4 V_bA_4 E_bA_4 E_m0_4 F_m0_optionName_4 E_s0_4 E_m1_4 F_m1_optionName_4 E_s1_4 F_s0_coder_4 F_s0_value_4 V_v0_4 F_s1_coder_4 F_s1_value_4 V_v1_4 S_String_COMPACT_STRINGS_4 hcs h01) hZ (hw _ (List.mem_of_getElem? (i := 141) rfl)) (hw _ (List.mem_of_getElem? (i := 2) rfl)) (by decide) (by decide)) (g := (mkF m 90 #[.val (.int p0), .val (.ref br1), .val (.int (0 : Int32)), .val (.ref m0), .val (.ref sa4), .val (.ref s0)] [(.ref s0)])) rfl (by rw [hml]; rfl) (argsL := [(.ref s0)]) (rest := []) (lenOf own_pd13 rfl) rfl (by show 2 * 0 + _ ≤ _; exact Nat.le_of_eq rfl) (hb hby at_90) (fun _ _ => ⟨rfl, e13, (by decide : 5 + 1 ≤ _), (by decide : 59 + 2 ≤ _)⟩)
      dsimp only [Pt.U, Pt.locs, Pt.cells, Pt.slots] at X14 l14 y14 z14 st14 hQ14
      subst l14 y14 z14
      obtain ⟨rfl, N14q, K14q⟩ := hQ14
      have S_EstimateMethod__VALUES_14 := own_staKeep0 S_EstimateMethod__VALUES_4 K14q
      have V_bA_14 := V_bA_4.keep K14q List.not_mem_nil
      have E_bA_14 := E_bA_4.keep K14q
      have S_ArrayList_DEFAULTCAPACITY_EMPTY_ELEMENTDATA_14 := own_staKeep0 S_ArrayList_DEFAULTCAPACITY_EMPTY_ELEMENTDATA_4 K14q
      have V_dE_14 := V_dE_4.keep K14q List.not_mem_nil
      have E_m0_14 := E_m0_4.keep K14q
      have F_m0_optionName_14 := F_m0_optionName_4.keep K14q List.not_mem_nil
      have E_s0_14 := E_s0_4.keep K14q
      have E_m1_14 := E_m1_4.keep K14q
      have F_m1_optionName_14 := F_m1_optionName_4.keep K14q List.not_mem_nil
      have E_s1_14 := E_s1_4.keep K14q
      have F_s0_coder_14 := F_s0_coder_4.keep K14q List.not_mem_nil
      have F_s0_value_14 := F_s0_value_4.keep K14q List.not_mem_nil
      have V_v0_14 := V_v0_4.keep K14q List.not_mem_nil
      have F_s1_coder_14 := F_s1_coder_4.keep K14q List.not_mem_nil
      have F_s1_value_14 := F_s1_value_4.keep K14q List.not_mem_nil
      have V_v1_14 := V_v1_4.keep K14q List.not_mem_nil
      have S_String_COMPACT_STRINGS_14 := own_staKeep0 S_String_COMPACT_STRINGS_4 K14q
      have S_EstimateMethod_SEQUENTIAL_14 := own_staKeep0 S_EstimateMethod_SEQUENTIAL_4 K14q
      have S_EstimateMethod_REFERENCE_14 := own_staKeep0 S_EstimateMethod_REFERENCE_4 K14q
      have E_br1_14 := E_br1_4.keep K14q
      have F_br1_size_14 := F_br1_size_4.keep K14q List.not_mem_nil
      have F_br1_elementData_14 := F_br1_elementData_4.keep K14q List.not_mem_nil
      have V_be1_14 := V_be1_4.keep K14q List.not_mem_nil
      have E_sa4_14 := Ea4.keep K14q
      have F_sa4_coder_14 := Fc4.keep K14q List.not_mem_nil
      have F_sa4_value_14 := Fv4.keep K14q List.not_mem_nil
      have V_sb4_14 := Va4.keep K14q List.not_mem_nil
      have N14 := Fr.app N13 N14q
      have Z14 := Nat.le_trans Z4 K14q.1
      have hk14 := Nat.le_trans hk4_ K14q.1
      have K14 := K4.trans K14q (fun x hx => nomatch hx)
      obtain ⟨fs, hr, hrun, hended, hRE⟩ := Jvm.Stand.leaveW (s := s) X14 hS4 (by show _ ≤ T14.heap.size; exact hk14) (v := some (.int (1 : Int32))) (fun h => by rw [Bd.returns] at h; cases h)
      refine ⟨_, _, ?_, hrun, hended, _, _, rfl, ?_, hRE.1, hRE.2.1, hRE.2.2.1, hRE.2.2.2.mono (by decide) (by decide)⟩
      · show Steps p.tables e below (T6.setTop (mkF m 70 #[.val (.int p0), .val (.ref br1), .val (.int (0 : Int32)), .val (.ref m0), .val (.ref sa4), .val (.ref s0)] [(.ref sa4), (.ref s0)])) _
        refine st11.trans ?_
        show Steps p.tables e below (T11.setTop (mkF m 73 #[.val (.int p0), .val (.ref br1), .val (.int (0 : Int32)), .val (.ref m0), .val (.ref sa4), .val (.ref s0)] [(.int (1 : Int32))])) _
        refine XS.ifNo X11.here hx rfl (hb hby at_73) rfl ((if0 _ _).trans (feq ((by decide) : ¬ ((1 : Int32) = (0 : Int32)))).1) ?_
        show Steps p.tables e below (T11.setTop (mkF m 76 #[.val (.int p0), .val (.ref br1), .val (.int (0 : Int32)), .val (.ref m0), .val (.ref sa4), .val (.ref s0)] [])) _
        refine XS.aload X11.here hx rfl (hb hby at_76) rfl rfl ?_
        show Steps p.tables e below (T11.setTop (mkF m 78 #[.val (.int p0), .val (.ref br1), .val (.int (0 : Int32)), .val (.ref m0), .val (.ref sa4), .val (.ref s0)] [(.ref s0)])) _
        refine XS.aloadN X11.here hx rfl (hb hby at_78) rfl rfl ?_
        show Steps p.tables e below (T11.setTop (mkF m 79 #[.val (.int p0), .val (.ref br1), .val (.int (0 : Int32)), .val (.ref m0), .val (.ref sa4), .val (.ref s0)] [(.ref m0), (.ref s0)])) _
        refine st12.trans ?_
        show Steps p.tables e below (T12.setTop (mkF m 82 #[.val (.int p0), .val (.ref br1), .val (.int (0 : Int32)), .val (.ref m0), .val (.ref sa4), .val (.ref s0)] [(.ref s0), (.ref s0)])) _
        refine st13.trans ?_
        show Steps p.tables e below (T13.setTop (mkF m 85 #[.val (.int p0), .val (.ref br1), .val (.int (0 : Int32)), .val (.ref m0), .val (.ref sa4), .val (.ref s0)] [(.int (1 : Int32))])) _
        refine XS.ifNo X13.here hx rfl (hb hby at_85) rfl ((if0 _ _).trans (feq ((by decide) : ¬ ((1 : Int32) = (0 : Int32)))).1) ?_
        show Steps p.tables e below (T13.setTop (mkF m 88 #[.val (.int p0), .val (.ref br1), .val (.int (0 : Int32)), .val (.ref m0), .val (.ref sa4), .val (.ref s0)] [])) _
        refine XS.aload X13.here hx rfl (hb hby at_88) rfl rfl ?_
        show Steps p.tables e below (T13.setTop (mkF m 90 #[.val (.int p0), .val (.ref br1), .val (.int (0 : Int32)), .val (.ref m0), .val (.ref sa4), .val (.ref s0)] [(.ref s0)])) _
        refine st14 _ ?_
        show Steps p.tables e below (T14.setTop (mkF m 93 #[.val (.int p0), .val (.ref br1), .val (.int (0 : Int32)), .val (.ref m0), .val (.ref sa4), .val (.ref s0)] [(.ref m0)])) _
        refine XS.aloadN X14.here hx rfl (hb hby at_93) rfl rfl ?_
        show Steps p.tables e below (T14.setTop (mkF m 94 #[.val (.int p0), .val (.ref br1), .val (.int (0 : Int32)), .val (.ref m0), .val (.ref sa4), .val (.ref s0)] [(.ref m0), (.ref m0)])) _
        refine Jvm.RoadKit.acmp (g := (mkF m 94 #[.val (.int p0), .val (.ref br1), .val (.int (0 : Int32)), .val (.ref m0), .val (.ref sa4), .val (.ref s0)] [(.ref m0), (.ref m0)])) X14 hx rfl rfl rfl (pc0 := 94) (pc' := 97) (same := true) rfl (hb hby at_94) rfl (decide_eq_true rfl) (by decide) (by decide) ?_
        show Steps p.tables e below (T14.setTop (mkF m 97 #[.val (.int p0), .val (.ref br1), .val (.int (0 : Int32)), .val (.ref m0), .val (.ref sa4), .val (.ref s0)] [])) _
        refine XS.iconst X14.here hx rfl (hb hby at_97) ?_
        show Steps p.tables e below (T14.setTop (mkF m 98 #[.val (.int p0), .val (.ref br1), .val (.int (0 : Int32)), .val (.ref m0), .val (.ref sa4), .val (.ref s0)] [(.int (1 : Int32))])) _
        refine XS.goto X14.here hx rfl (pc0 := 98) (pc' := 102) rfl (hb hby at_98) (by decide) (by decide) ?_
        show Steps p.tables e below (T14.setTop (mkF m 102 #[.val (.int p0), .val (.ref br1), .val (.int (0 : Int32)), .val (.ref m0), .val (.ref sa4), .val (.ref s0)] [(.int (1 : Int32))])) _
        exact retN X14 hx (t := .boolean) Bd.returns (by simp) (hb hby at_102) hr
      · show own_Q0 n0 _ T14.heap _
        exact ⟨rfl, N14⟩
  · obtain ⟨T15, X15, e15, st15⟩ := getS2 X2 hx hZ hown (host := "") (Or.inl (hw _ (List.mem_of_getElem? (i := 143) rfl))) Via.refl e2 S_EstimateMethod_REFERENCE_1 (g := (mkF m 30 #[.val (.int p0), .val (.ref br1), .val (.int (1 : Int32)), .unset, .unset, .unset] [])) rfl (hb hby at_30)
    obtain ⟨sa16, T16, h16, kk16, sb16, kb16, X16, e16, E16, hS16, hk16_, hZ, hown, Ea16, Fc16, Fv16, Va16, -, -, -, st16⟩ := ldcSV (s := s) (show Stand p l e room_1 (s.setVm s.vm) m _ below meth c _ _ _ _ from X15) hx hZ hown (hw _ (List.mem_of_getElem? (i := 145) rfl)) (own_atoms hw) e15 ((State.WarmedH.refl s).since 0) (Nat.zero_le _) (by rw [hh, ← hn0]; exact N2) (by rw [hUZ]; exact fun _ _ q => q) (show IB Z s.vm [] by rw [hUZ]; exact IB.start) (List.not_mem_nil) hC28 hcw (vs := [(.int (114 : Int32)), (.int (101 : Int32)), (.int (102 : Int32)), (.int (101 : Int32)), (.int (114 : Int32)), (.int (101 : Int32)), (.int (110 : Int32)), (.int (99 : Int32)), (.int (101 : Int32))]) (z := (9 : Int32)) (by decide +kernel) (by decide) (by decide +kernel) (g := (mkF m 43 #[.val (.int p0), .val (.ref br1), .val (.int (1 : Int32)), .val (.ref m1), .unset, .unset] [])) rfl (hb hby at_43) (n := 36) (by decide +kernel) (by decide) (by decide) (by decide)
    have S_EstimateMethod__VALUES_16 := S_EstimateMethod__VALUES_1.ext E16
    have V_bA_16 := V_bA_1.ext E16
    have E_bA_16 := E_bA_1.ext E16
    have S_ArrayList_DEFAULTCAPACITY_EMPTY_ELEMENTDATA_16 := S_ArrayList_DEFAULTCAPACITY_EMPTY_ELEMENTDATA_1.ext E16
    have V_dE_16 := V_dE_1.ext E16
    have E_m0_16 := E_m0_1.ext E16
    have F_m0_optionName_16 := F_m0_optionName_1.ext E16
    have E_s0_16 := E_s0_1.ext E16
    have E_m1_16 := E_m1_1.ext E16
    have F_m1_optionName_16 := F_m1_optionName_1.ext E16
    have E_s1_16 := E_s1_1.ext E16
    have F_s0_coder_16 := F_s0_coder_1.ext E16
    have F_s0_value_16 := F_s0_value_1.ext E16
    have V_v0_16 := V_v0_1.ext E16
    have F_s1_coder_16 := F_s1_coder_1.ext E16
    have F_s1_value_16 := F_s1_value_1.ext E16
    have V_v1_16 := V_v1_1.ext E16
    have S_String_COMPACT_STRINGS_16 := S_String_COMPACT_STRINGS_1.ext E16
    have S_EstimateMethod_SEQUENTIAL_16 := S_EstimateMethod_SEQUENTIAL_1.ext E16
    have S_EstimateMethod_REFERENCE_16 := S_EstimateMethod_REFERENCE_1.ext E16
    have E_br1_16 := B1_0.ext E16
    have F_br1_size_16 := B1_1.ext E16
    have F_br1_elementData_16 := B1_2.ext E16
    have V_be1_16 := B1_3.ext E16
    have Z16 := Nat.le_trans Z1 E16.1
    have K16 := K1.ext E16
    obtain ⟨cq17, kq17, q17a, q17b, q17c⟩ := isOf hZ e16 E_br1_16
    obtain ⟨_, _, ⟨T17, L17, k17, n17⟩, -, X17, ⟨Lc17, hQ17, l17, y17, z17⟩, st17⟩ := X16.interfaceBack hx (xi := (⟨"java/util/List", "get", "(I)Ljava/lang/Object;"⟩ : MethodName)) (y := (⟨"java/util/ArrayList", "get", "(I)Ljava/lang/Object;"⟩ : MethodName)) hown (mvT hZ (hw _ (List.mem_of_getElem? (i := 98) rfl))) (mvT hZ (hw _ (List.mem_of_getElem? (i := 99) rfl))) (mvT hZ (hw _ (List.mem_of_getElem? (i := 100) rfl))) (mvT hZ (hw _ (List.mem_of_getElem? (i := 101) rfl))) (mvT hZ (hw _ (List.mem_of_getElem? (i := 102) rfl))) (mvT hZ (hw _ (List.mem_of_getElem? (i := 103) rfl))) (mvT hZ (hw _ (List.mem_of_getElem? (i := 104) rfl))) (mvT hZ (hw _ (List.mem_of_getElem? (i := 86) rfl))) (by decide) (backOf (W := 0) (own_rmGet1 l Z a0 hw [] br1 be1 s0 s1 ke1 h16 n0 Z16 F_br1_elementData_16 V_be1_16 E_br1_16 F_br1_size_16) hZ (hw _ (List.mem_of_getElem? (i := 105) rfl)) (hw _ (List.mem_of_getElem? (i := 6) rfl)) (by decide) (by decide)) q17a q17b q17c (g := (mkF m 49 #[.val (.int p0), .val (.ref br1), .val (.int (1 : Int32)), .val (.ref m1), .val (.ref sa16), .unset] [(.int (1 : Int32)), (.ref br1)])) rfl (by rw [hml]; rfl) (Steps.refl _) (argsL := [(.int (1 : Int32))]) (rest := []) (lenOf own_pd8 rfl) rfl (by show 2 * 0 + _ ≤ _; exact Nat.le_of_eq rfl) (hb hby at_49) (fun _ _ => ⟨rfl, e16, (by decide : 5 + 0 ≤ _), (by decide : 55 + 0 ≤ _)⟩)
    dsimp only [Pt.U, Pt.locs, Pt.cells, Pt.slots] at X17 l17 y17 z17 st17 hQ17
    subst l17 y17 z17
    obtain ⟨rfl, N17q, e17⟩ := hQ17
    have N17 := Fr.app N2 N17q
    obtain ⟨T18, X18, e18, st18⟩ := castY X17 hx hZ hown (hw _ (List.mem_of_getElem? (i := 119) rfl)) e17 (Ins.self E_s1_16) (g := (mkF m 54 #[.val (.int p0), .val (.ref br1), .val (.int (1 : Int32)), .val (.ref m1), .val (.ref sa16), .unset] [(.ref s1)])) rfl rfl (hb hby at_54)
    refine own_go (b := T18.setTop (mkF m 70 #[.val (.int p0), .val (.ref br1), .val (.int (1 : Int32)), .val (.ref m1), .val (.ref sa16), .val (.ref s1)] [(.ref sa16), (.ref s1)])) (fun t k => ?_) ?_
    · show Steps p.tables e below (T2.setTop (mkF m 19 #[.val (.int p0), .val (.ref br1), .unset, .unset, .unset, .unset] [(.int (1 : Int32))])) _
      refine XS.istoreN X2.here hx rfl (hb hby at_19) rfl (l' := #[.val (.int p0), .val (.ref br1), .val (.int (1 : Int32)), .unset, .unset, .unset]) rfl ?_
      show Steps p.tables e below (T2.setTop (mkF m 20 #[.val (.int p0), .val (.ref br1), .val (.int (1 : Int32)), .unset, .unset, .unset] [])) _
      refine XS.iloadN X2.here hx rfl (hb hby at_20) rfl ?_
      show Steps p.tables e below (T2.setTop (mkF m 21 #[.val (.int p0), .val (.ref br1), .val (.int (1 : Int32)), .unset, .unset, .unset] [(.int (1 : Int32))])) _
      refine XS.ifYes X2.here hx rfl (pc0 := 21) (pc' := 30) rfl (hb hby at_21) rfl ((if0 _ _).trans (feq ((by decide) : ¬ ((1 : Int32) = (0 : Int32)))).2) (by decide) (by decide) ?_
      show Steps p.tables e below (T2.setTop (mkF m 30 #[.val (.int p0), .val (.ref br1), .val (.int (1 : Int32)), .unset, .unset, .unset] [])) _
      refine st15 _ ?_
      show Steps p.tables e below (T15.setTop (mkF m 33 #[.val (.int p0), .val (.ref br1), .val (.int (1 : Int32)), .unset, .unset, .unset] [(.ref m1)])) _
      refine XS.astoreN X15.here hx rfl (hb hby at_33) rfl rfl (l' := #[.val (.int p0), .val (.ref br1), .val (.int (1 : Int32)), .val (.ref m1), .unset, .unset]) rfl ?_
      show Steps p.tables e below (T15.setTop (mkF m 34 #[.val (.int p0), .val (.ref br1), .val (.int (1 : Int32)), .val (.ref m1), .unset, .unset] [])) _
      refine XS.iloadN X15.here hx rfl (hb hby at_34) rfl ?_
      show Steps p.tables e below (T15.setTop (mkF m 35 #[.val (.int p0), .val (.ref br1), .val (.int (1 : Int32)), .val (.ref m1), .unset, .unset] [(.int (1 : Int32))])) _
      refine XS.ifYes X15.here hx rfl (pc0 := 35) (pc' := 43) rfl (hb hby at_35) rfl ((if0 _ _).trans (feq ((by decide) : ¬ ((1 : Int32) = (0 : Int32)))).2) (by decide) (by decide) ?_
      show Steps p.tables e below (T15.setTop (mkF m 43 #[.val (.int p0), .val (.ref br1), .val (.int (1 : Int32)), .val (.ref m1), .unset, .unset] [])) _
      refine st16 _ ?_
      show Steps p.tables e below (T16.setTop (mkF m 45 #[.val (.int p0), .val (.ref br1), .val (.int (1 : Int32)), .val (.ref m1), .unset, .unset] [(.ref sa16)])) _
      refine XS.astore X16.here hx rfl (hb hby at_45) rfl rfl (l' := #[.val (.int p0), .val (.ref br1), .val (.int (1 : Int32)), .val (.ref m1), .val (.ref sa16), .unset]) rfl ?_
      show Steps p.tables e below (T16.setTop (mkF m 47 #[.val (.int p0), .val (.ref br1), .val (.int (1 : Int32)), .val (.ref m1), .val (.ref sa16), .unset] [])) _
      refine XS.aloadN X16.here hx rfl (hb hby at_47) rfl rfl ?_
      show Steps p.tables e below (T16.setTop (mkF m 48 #[.val (.int p0), .val (.ref br1), .val (.int (1 : Int32)), .val (.ref m1), .val (.ref sa16), .unset] [(.ref br1)])) _
      refine XS.iloadN X16.here hx rfl (hb hby at_48) rfl ?_
      show Steps p.tables e below (T16.setTop (mkF m 49 #[.val (.int p0), .val (.ref br1), .val (.int (1 : Int32)), .val (.ref m1), .val (.ref sa16), .unset] [(.int (1 : Int32)), (.ref br1)])) _
      refine st17.trans ?_
      show Steps p.tables e below (T17.setTop (mkF m 54 #[.val (.int p0), .val (.ref br1), .val (.int (1 : Int32)), .val (.ref m1), .val (.ref sa16), .unset] [(.ref s1)])) _
      refine st18 _ ?_
      show Steps p.tables e below (T18.setTop (mkF m 57 #[.val (.int p0), .val (.ref br1), .val (.int (1 : Int32)), .val (.ref m1), .val (.ref sa16), .unset] [(.ref s1)])) _
      refine XS.astore X18.here hx rfl (hb hby at_57) rfl rfl (l' := #[.val (.int p0), .val (.ref br1), .val (.int (1 : Int32)), .val (.ref m1), .val (.ref sa16), .val (.ref s1)]) rfl ?_
      show Steps p.tables e below (T18.setTop (mkF m 59 #[.val (.int p0), .val (.ref br1), .val (.int (1 : Int32)), .val (.ref m1), .val (.ref sa16), .val (.ref s1)] [])) _
      refine XS.aload X18.here hx rfl (hb hby at_59) rfl rfl ?_
      show Steps p.tables e below (T18.setTop (mkF m 61 #[.val (.int p0), .val (.ref br1), .val (.int (1 : Int32)), .val (.ref m1), .val (.ref sa16), .val (.ref s1)] [(.ref s1)])) _
      refine XS.ifnonnullYes X18.here hx rfl (pc0 := 61) (pc' := 66) rfl (hb hby at_61) rfl (by decide) (by decide) ?_
      show Steps p.tables e below (T18.setTop (mkF m 66 #[.val (.int p0), .val (.ref br1), .val (.int (1 : Int32)), .val (.ref m1), .val (.ref sa16), .val (.ref s1)] [])) _
      refine XS.aload X18.here hx rfl (hb hby at_66) rfl rfl ?_
      show Steps p.tables e below (T18.setTop (mkF m 68 #[.val (.int p0), .val (.ref br1), .val (.int (1 : Int32)), .val (.ref m1), .val (.ref sa16), .val (.ref s1)] [(.ref s1)])) _
      refine XS.aload X18.here hx rfl (hb hby at_68) rfl rfl ?_
      show Steps p.tables e below (T18.setTop (mkF m 70 #[.val (.int p0), .val (.ref br1), .val (.int (1 : Int32)), .val (.ref m1), .val (.ref sa16), .val (.ref s1)] [(.ref sa16), (.ref s1)])) t
      exact k
    by_cases h_lit : s1 = sa16
    · obtain ⟨cq19, kq19, q19a, q19b, q19c⟩ := isOf hZ e18 E_s1_16
      obtain ⟨_, _, ⟨T19, L19, k19, n19⟩, -, X19, ⟨Lc19, hQ19, l19, y19, z19⟩, st19⟩ := X18.virtualBack hx (y := (⟨"java/lang/String", "equals", "(Ljava/lang/Object;)Z"⟩ : MethodName)) (z := (⟨"java/lang/String", "equals", "(Ljava/lang/Object;)Z"⟩ : MethodName)) hown (mvT hZ (hw _ (List.mem_of_getElem? (i := 121) rfl))) (mvT hZ (hw _ (List.mem_of_getElem? (i := 122) rfl))) (notFace_of_selects (args := #[]) (mvT hZ (hw _ (List.mem_of_getElem? (i := 124) rfl)))) (mvT hZ (hw _ (List.mem_of_getElem? (i := 124) rfl))) (mvT hZ (hw _ (List.mem_of_getElem? (i := 123) rfl))) (by decide) (backOf (W := 0) (own_rmEqS l Z a0 hw [] s1 sa16  h16 n0 Z16 h_lit) hZ (hw _ (List.mem_of_getElem? (i := 125) rfl)) (hw _ (List.mem_of_getElem? (i := 91) rfl)) (by decide) (by decide)) q19a q19c (g := (mkF m 70 #[.val (.int p0), .val (.ref br1), .val (.int (1 : Int32)), .val (.ref m1), .val (.ref sa16), .val (.ref s1)] [(.ref sa16), (.ref s1)])) rfl (by rw [hml]; rfl) (Steps.refl _) (argsL := [(.ref sa16)]) (rest := []) (lenOf own_pd6 rfl) rfl (by show 2 * 0 + _ ≤ _; exact Nat.le_of_eq rfl) (hb hby at_70) (fun _ _ => ⟨rfl, e18, (by decide : 5 + 0 ≤ _), (by decide : 55 + 0 ≤ _)⟩)
      dsimp only [Pt.U, Pt.locs, Pt.cells, Pt.slots] at X19 l19 y19 z19 st19 hQ19
      subst l19 y19 z19
      obtain ⟨rfl, N19q, e19⟩ := hQ19
      have N19 := Fr.app N17 N19q
      obtain ⟨cq20, kq20, q20a, q20b, q20c⟩ := isOf hZ e19 E_m1_16
      obtain ⟨_, _, ⟨T20, L20, k20, n20⟩, -, X20, ⟨Lc20, hQ20, l20, y20, z20⟩, st20⟩ := X19.virtualBack hx (y := (⟨"com/example/corollary/corollary/EstimateMethod", "toString", "()Ljava/lang/String;"⟩ : MethodName)) (z := (⟨"com/example/corollary/corollary/EstimateMethod", "toString", "()Ljava/lang/String;"⟩ : MethodName)) hown (mvT hZ (hw _ (List.mem_of_getElem? (i := 134) rfl))) (mvT hZ (hw _ (List.mem_of_getElem? (i := 135) rfl))) (notFace_of_selects (args := #[]) (mvT hZ (hw _ (List.mem_of_getElem? (i := 146) rfl)))) (mvT hZ (hw _ (List.mem_of_getElem? (i := 146) rfl))) (mvT hZ (hw _ (List.mem_of_getElem? (i := 136) rfl))) (by decide) (backOf (W := 1) (own_rmTs l Z a0 hw [] m1 s1 h16 n0 Z16 F_m1_optionName_16) hZ (hw _ (List.mem_of_getElem? (i := 138) rfl)) (hw _ (List.mem_of_getElem? (i := 2) rfl)) (by decide) (by decide)) q20a q20c (g := (mkF m 79 #[.val (.int p0), .val (.ref br1), .val (.int (1 : Int32)), .val (.ref m1), .val (.ref sa16), .val (.ref s1)] [(.ref m1), (.ref s1)])) rfl (by rw [hml]; rfl) (Steps.refl _) (argsL := []) (rest := [(.ref s1)]) (lenOf own_pd12 rfl) rfl (by show 2 * 0 + _ ≤ _; exact Nat.le_of_eq rfl) (hb hby at_79) (fun _ _ => ⟨rfl, e19, (by decide : 5 + 0 ≤ _), (by decide : 55 + 0 ≤ _)⟩)
      dsimp only [Pt.U, Pt.locs, Pt.cells, Pt.slots] at X20 l20 y20 z20 st20 hQ20
      subst l20 y20 z20
      obtain ⟨rfl, N20q, e20⟩ := hQ20
      have N20 := Fr.app N19 N20q
      obtain ⟨cq21, kq21, q21a, q21b, q21c⟩ := isOf hZ e20 E_s1_16
      obtain ⟨_, _, ⟨T21, L21, k21, n21⟩, -, X21, ⟨Lc21, hQ21, l21, y21, z21⟩, st21⟩ := X20.virtualBack hx (y := (⟨"java/lang/String", "equals", "(Ljava/lang/Object;)Z"⟩ : MethodName)) (z := (⟨"java/lang/String", "equals", "(Ljava/lang/Object;)Z"⟩ : MethodName)) hown (mvT hZ (hw _ (List.mem_of_getElem? (i := 121) rfl))) (mvT hZ (hw _ (List.mem_of_getElem? (i := 122) rfl))) (notFace_of_selects (args := #[]) (mvT hZ (hw _ (List.mem_of_getElem? (i := 124) rfl)))) (mvT hZ (hw _ (List.mem_of_getElem? (i := 124) rfl))) (mvT hZ (hw _ (List.mem_of_getElem? (i := 123) rfl))) (by decide) (backOf (W := 0) (own_rmEqS l Z a0 hw [] s1 s1  h16 n0 Z16 rfl) hZ (hw _ (List.mem_of_getElem? (i := 125) rfl)) (hw _ (List.mem_of_getElem? (i := 91) rfl)) (by decide) (by decide)) q21a q21c (g := (mkF m 82 #[.val (.int p0), .val (.ref br1), .val (.int (1 : Int32)), .val (.ref m1), .val (.ref sa16), .val (.ref s1)] [(.ref s1), (.ref s1)])) rfl (by rw [hml]; rfl) (Steps.refl _) (argsL := [(.ref s1)]) (rest := []) (lenOf own_pd6 rfl) rfl (by show 2 * 0 + _ ≤ _; exact Nat.le_of_eq rfl) (hb hby at_82) (fun _ _ => ⟨rfl, e20, (by decide : 5 + 0 ≤ _), (by decide : 55 + 0 ≤ _)⟩)
      dsimp only [Pt.U, Pt.locs, Pt.cells, Pt.slots] at X21 l21 y21 z21 st21 hQ21
      subst l21 y21 z21
      obtain ⟨rfl, N21q, e21⟩ := hQ21
      have N21 := Fr.app N20 N21q
      obtain ⟨_, _, ⟨T22, L22, k22, n22⟩, -, X22, ⟨Lc22, hQ22, l22, y22, z22⟩, st22⟩ := Jvm.LawKit.callS X21 hx (y := (⟨"com/example/corollary/corollary/EstimateMethod", "named", "(Ljava/lang/String;)Lcom/example/corollary/corollary/EstimateMethod;"⟩ : MethodName)) hown (mvT hZ (hw _ (List.mem_of_getElem? (i := 139) rfl))) (mvT hZ (hw _ (List.mem_of_getElem? (i := 140) rfl))) (mvT hZ (hw _ (List.mem_of_getElem? (i := 2) rfl))) (mvT hZ (hw _ (List.mem_of_getElem? (i := 141) rfl))) (by decide) (backOf (W := 0) (own_rmNm1 l Z a0 hw [] s1 bA m0 m1 s0 v0 v1 kA kv0 kv1 cs h16 n0 Z16 S_EstimateMethod__VALUES_16 V_bA_16 E_bA_16 E_m0_16 F_m0_optionName_16 E_s0_16 E_m1_16 F_m1_optionName_16 E_s1_16 F_s0_coder_16 F_s0_value_16 V_v0_16 F_s1_coder_16 F_s1_value_16 V_v1_16 S_String_COMPACT_STRINGS_16 hcs h01) hZ (hw _ (List.mem_of_getElem? (i := 141) rfl)) (hw _ (List.mem_of_getElem? (i := 2) rfl)) (by decide) (by decide)) (g := (mkF m 90 #[.val (.int p0), .val (.ref br1), .val (.int (1 : Int32)), .val (.ref m1), .val (.ref sa16), .val (.ref s1)] [(.ref s1)])) rfl (by rw [hml]; rfl) (argsL := [(.ref s1)]) (rest := []) (lenOf own_pd13 rfl) rfl (by show 2 * 0 + _ ≤ _; exact Nat.le_of_eq rfl) (hb hby at_90) (fun _ _ => ⟨rfl, e21, (by decide : 5 + 1 ≤ _), (by decide : 55 + 2 ≤ _)⟩)
      dsimp only [Pt.U, Pt.locs, Pt.cells, Pt.slots] at X22 l22 y22 z22 st22 hQ22
      subst l22 y22 z22
      obtain ⟨rfl, N22q, K22q⟩ := hQ22
      have S_EstimateMethod__VALUES_22 := own_staKeep0 S_EstimateMethod__VALUES_16 K22q
      have V_bA_22 := V_bA_16.keep K22q List.not_mem_nil
      have E_bA_22 := E_bA_16.keep K22q
      have S_ArrayList_DEFAULTCAPACITY_EMPTY_ELEMENTDATA_22 := own_staKeep0 S_ArrayList_DEFAULTCAPACITY_EMPTY_ELEMENTDATA_16 K22q
      have V_dE_22 := V_dE_16.keep K22q List.not_mem_nil
      have E_m0_22 := E_m0_16.keep K22q
      have F_m0_optionName_22 := F_m0_optionName_16.keep K22q List.not_mem_nil
      have E_s0_22 := E_s0_16.keep K22q
      have E_m1_22 := E_m1_16.keep K22q
      have F_m1_optionName_22 := F_m1_optionName_16.keep K22q List.not_mem_nil
      have E_s1_22 := E_s1_16.keep K22q
      have F_s0_coder_22 := F_s0_coder_16.keep K22q List.not_mem_nil
      have F_s0_value_22 := F_s0_value_16.keep K22q List.not_mem_nil
      have V_v0_22 := V_v0_16.keep K22q List.not_mem_nil
      have F_s1_coder_22 := F_s1_coder_16.keep K22q List.not_mem_nil
      have F_s1_value_22 := F_s1_value_16.keep K22q List.not_mem_nil
      have V_v1_22 := V_v1_16.keep K22q List.not_mem_nil
      have S_String_COMPACT_STRINGS_22 := own_staKeep0 S_String_COMPACT_STRINGS_16 K22q
      have S_EstimateMethod_SEQUENTIAL_22 := own_staKeep0 S_EstimateMethod_SEQUENTIAL_16 K22q
      have S_EstimateMethod_REFERENCE_22 := own_staKeep0 S_EstimateMethod_REFERENCE_16 K22q
      have E_br1_22 := E_br1_16.keep K22q
      have F_br1_size_22 := F_br1_size_16.keep K22q List.not_mem_nil
      have F_br1_elementData_22 := F_br1_elementData_16.keep K22q List.not_mem_nil
      have V_be1_22 := V_be1_16.keep K22q List.not_mem_nil
      have E_sa16_22 := Ea16.keep K22q
      have F_sa16_coder_22 := Fc16.keep K22q List.not_mem_nil
      have F_sa16_value_22 := Fv16.keep K22q List.not_mem_nil
      have V_sb16_22 := Va16.keep K22q List.not_mem_nil
      have N22 := Fr.app N21 N22q
      have Z22 := Nat.le_trans Z16 K22q.1
      have hk22 := Nat.le_trans hk16_ K22q.1
      have K22 := K16.trans K22q (fun x hx => nomatch hx)
      obtain ⟨fs, hr, hrun, hended, hRE⟩ := Jvm.Stand.leaveW (s := s) X22 hS16 (by show _ ≤ T22.heap.size; exact hk22) (v := some (.int (1 : Int32))) (fun h => by rw [Bd.returns] at h; cases h)
      refine ⟨_, _, ?_, hrun, hended, _, _, rfl, ?_, hRE.1, hRE.2.1, hRE.2.2.1, hRE.2.2.2.mono (by decide) (by decide)⟩
      · show Steps p.tables e below (T18.setTop (mkF m 70 #[.val (.int p0), .val (.ref br1), .val (.int (1 : Int32)), .val (.ref m1), .val (.ref sa16), .val (.ref s1)] [(.ref sa16), (.ref s1)])) _
        refine st19.trans ?_
        show Steps p.tables e below (T19.setTop (mkF m 73 #[.val (.int p0), .val (.ref br1), .val (.int (1 : Int32)), .val (.ref m1), .val (.ref sa16), .val (.ref s1)] [(.int (1 : Int32))])) _
        refine XS.ifNo X19.here hx rfl (hb hby at_73) rfl ((if0 _ _).trans (feq ((by decide) : ¬ ((1 : Int32) = (0 : Int32)))).1) ?_
        show Steps p.tables e below (T19.setTop (mkF m 76 #[.val (.int p0), .val (.ref br1), .val (.int (1 : Int32)), .val (.ref m1), .val (.ref sa16), .val (.ref s1)] [])) _
        refine XS.aload X19.here hx rfl (hb hby at_76) rfl rfl ?_
        show Steps p.tables e below (T19.setTop (mkF m 78 #[.val (.int p0), .val (.ref br1), .val (.int (1 : Int32)), .val (.ref m1), .val (.ref sa16), .val (.ref s1)] [(.ref s1)])) _
        refine XS.aloadN X19.here hx rfl (hb hby at_78) rfl rfl ?_
        show Steps p.tables e below (T19.setTop (mkF m 79 #[.val (.int p0), .val (.ref br1), .val (.int (1 : Int32)), .val (.ref m1), .val (.ref sa16), .val (.ref s1)] [(.ref m1), (.ref s1)])) _
        refine st20.trans ?_
        show Steps p.tables e below (T20.setTop (mkF m 82 #[.val (.int p0), .val (.ref br1), .val (.int (1 : Int32)), .val (.ref m1), .val (.ref sa16), .val (.ref s1)] [(.ref s1), (.ref s1)])) _
        refine st21.trans ?_
        show Steps p.tables e below (T21.setTop (mkF m 85 #[.val (.int p0), .val (.ref br1), .val (.int (1 : Int32)), .val (.ref m1), .val (.ref sa16), .val (.ref s1)] [(.int (1 : Int32))])) _
        refine XS.ifNo X21.here hx rfl (hb hby at_85) rfl ((if0 _ _).trans (feq ((by decide) : ¬ ((1 : Int32) = (0 : Int32)))).1) ?_
        show Steps p.tables e below (T21.setTop (mkF m 88 #[.val (.int p0), .val (.ref br1), .val (.int (1 : Int32)), .val (.ref m1), .val (.ref sa16), .val (.ref s1)] [])) _
        refine XS.aload X21.here hx rfl (hb hby at_88) rfl rfl ?_
        show Steps p.tables e below (T21.setTop (mkF m 90 #[.val (.int p0), .val (.ref br1), .val (.int (1 : Int32)), .val (.ref m1), .val (.ref sa16), .val (.ref s1)] [(.ref s1)])) _
        refine st22 _ ?_
        show Steps p.tables e below (T22.setTop (mkF m 93 #[.val (.int p0), .val (.ref br1), .val (.int (1 : Int32)), .val (.ref m1), .val (.ref sa16), .val (.ref s1)] [(.ref m1)])) _
        refine XS.aloadN X22.here hx rfl (hb hby at_93) rfl rfl ?_
        show Steps p.tables e below (T22.setTop (mkF m 94 #[.val (.int p0), .val (.ref br1), .val (.int (1 : Int32)), .val (.ref m1), .val (.ref sa16), .val (.ref s1)] [(.ref m1), (.ref m1)])) _
        refine Jvm.RoadKit.acmp (g := (mkF m 94 #[.val (.int p0), .val (.ref br1), .val (.int (1 : Int32)), .val (.ref m1), .val (.ref sa16), .val (.ref s1)] [(.ref m1), (.ref m1)])) X22 hx rfl rfl rfl (pc0 := 94) (pc' := 97) (same := true) rfl (hb hby at_94) rfl (decide_eq_true rfl) (by decide) (by decide) ?_
        show Steps p.tables e below (T22.setTop (mkF m 97 #[.val (.int p0), .val (.ref br1), .val (.int (1 : Int32)), .val (.ref m1), .val (.ref sa16), .val (.ref s1)] [])) _
        refine XS.iconst X22.here hx rfl (hb hby at_97) ?_
        show Steps p.tables e below (T22.setTop (mkF m 98 #[.val (.int p0), .val (.ref br1), .val (.int (1 : Int32)), .val (.ref m1), .val (.ref sa16), .val (.ref s1)] [(.int (1 : Int32))])) _
        refine XS.goto X22.here hx rfl (pc0 := 98) (pc' := 102) rfl (hb hby at_98) (by decide) (by decide) ?_
        show Steps p.tables e below (T22.setTop (mkF m 102 #[.val (.int p0), .val (.ref br1), .val (.int (1 : Int32)), .val (.ref m1), .val (.ref sa16), .val (.ref s1)] [(.int (1 : Int32))])) _
        exact retN X22 hx (t := .boolean) Bd.returns (by simp) (hb hby at_102) hr
      · show own_Q0 n0 _ T22.heap _
        exact ⟨rfl, N22⟩
    · obtain ⟨cq23, kq23, q23a, q23b, q23c⟩ := isOf hZ e18 E_s1_16
      obtain ⟨_, _, ⟨T23, L23, k23, n23⟩, -, X23, ⟨Lc23, hQ23, l23, y23, z23⟩, st23⟩ := X18.virtualBack hx (y := (⟨"java/lang/String", "equals", "(Ljava/lang/Object;)Z"⟩ : MethodName)) (z := (⟨"java/lang/String", "equals", "(Ljava/lang/Object;)Z"⟩ : MethodName)) hown (mvT hZ (hw _ (List.mem_of_getElem? (i := 121) rfl))) (mvT hZ (hw _ (List.mem_of_getElem? (i := 122) rfl))) (notFace_of_selects (args := #[]) (mvT hZ (hw _ (List.mem_of_getElem? (i := 124) rfl)))) (mvT hZ (hw _ (List.mem_of_getElem? (i := 124) rfl))) (mvT hZ (hw _ (List.mem_of_getElem? (i := 123) rfl))) (by decide) (backOf (W := 0) (own_rmEq11 l Z a0 hw [] s1 sa16 v1 sb16 kv1 kb16 cs h16 n0 Z16 E_s1_16 F_s1_coder_16 F_s1_value_16 V_v1_16 Ea16 Fc16 Fv16 Va16 S_String_COMPACT_STRINGS_16 hcs h_lit) hZ (hw _ (List.mem_of_getElem? (i := 125) rfl)) (hw _ (List.mem_of_getElem? (i := 91) rfl)) (by decide) (by decide)) q23a q23c (g := (mkF m 70 #[.val (.int p0), .val (.ref br1), .val (.int (1 : Int32)), .val (.ref m1), .val (.ref sa16), .val (.ref s1)] [(.ref sa16), (.ref s1)])) rfl (by rw [hml]; rfl) (Steps.refl _) (argsL := [(.ref sa16)]) (rest := []) (lenOf own_pd6 rfl) rfl (by show 2 * 0 + _ ≤ _; exact Nat.le_of_eq rfl) (hb hby at_70) (fun _ _ => ⟨rfl, e18, (by decide : 5 + 0 ≤ _), (by decide : 55 + 0 ≤ _)⟩)
      dsimp only [Pt.U, Pt.locs, Pt.cells, Pt.slots] at X23 l23 y23 z23 st23 hQ23
      subst l23 y23 z23
      obtain ⟨rfl, N23q, e23⟩ := hQ23
      have N23 := Fr.app N17 N23q
      obtain ⟨cq24, kq24, q24a, q24b, q24c⟩ := isOf hZ e23 E_m1_16
      obtain ⟨_, _, ⟨T24, L24, k24, n24⟩, -, X24, ⟨Lc24, hQ24, l24, y24, z24⟩, st24⟩ := X23.virtualBack hx (y := (⟨"com/example/corollary/corollary/EstimateMethod", "toString", "()Ljava/lang/String;"⟩ : MethodName)) (z := (⟨"com/example/corollary/corollary/EstimateMethod", "toString", "()Ljava/lang/String;"⟩ : MethodName)) hown (mvT hZ (hw _ (List.mem_of_getElem? (i := 134) rfl))) (mvT hZ (hw _ (List.mem_of_getElem? (i := 135) rfl))) (notFace_of_selects (args := #[]) (mvT hZ (hw _ (List.mem_of_getElem? (i := 146) rfl)))) (mvT hZ (hw _ (List.mem_of_getElem? (i := 146) rfl))) (mvT hZ (hw _ (List.mem_of_getElem? (i := 136) rfl))) (by decide) (backOf (W := 1) (own_rmTs l Z a0 hw [] m1 s1 h16 n0 Z16 F_m1_optionName_16) hZ (hw _ (List.mem_of_getElem? (i := 138) rfl)) (hw _ (List.mem_of_getElem? (i := 2) rfl)) (by decide) (by decide)) q24a q24c (g := (mkF m 79 #[.val (.int p0), .val (.ref br1), .val (.int (1 : Int32)), .val (.ref m1), .val (.ref sa16), .val (.ref s1)] [(.ref m1), (.ref s1)])) rfl (by rw [hml]; rfl) (Steps.refl _) (argsL := []) (rest := [(.ref s1)]) (lenOf own_pd12 rfl) rfl (by show 2 * 0 + _ ≤ _; exact Nat.le_of_eq rfl) (hb hby at_79) (fun _ _ => ⟨rfl, e23, (by decide : 5 + 0 ≤ _), (by decide : 55 + 0 ≤ _)⟩)
      dsimp only [Pt.U, Pt.locs, Pt.cells, Pt.slots] at X24 l24 y24 z24 st24 hQ24
      subst l24 y24 z24
      obtain ⟨rfl, N24q, e24⟩ := hQ24
      have N24 := Fr.app N23 N24q
      obtain ⟨cq25, kq25, q25a, q25b, q25c⟩ := isOf hZ e24 E_s1_16
      obtain ⟨_, _, ⟨T25, L25, k25, n25⟩, -, X25, ⟨Lc25, hQ25, l25, y25, z25⟩, st25⟩ := X24.virtualBack hx (y := (⟨"java/lang/String", "equals", "(Ljava/lang/Object;)Z"⟩ : MethodName)) (z := (⟨"java/lang/String", "equals", "(Ljava/lang/Object;)Z"⟩ : MethodName)) hown (mvT hZ (hw _ (List.mem_of_getElem? (i := 121) rfl))) (mvT hZ (hw _ (List.mem_of_getElem? (i := 122) rfl))) (notFace_of_selects (args := #[]) (mvT hZ (hw _ (List.mem_of_getElem? (i := 124) rfl)))) (mvT hZ (hw _ (List.mem_of_getElem? (i := 124) rfl))) (mvT hZ (hw _ (List.mem_of_getElem? (i := 123) rfl))) (by decide) (backOf (W := 0) (own_rmEqS l Z a0 hw [] s1 s1  h16 n0 Z16 rfl) hZ (hw _ (List.mem_of_getElem? (i := 125) rfl)) (hw _ (List.mem_of_getElem? (i := 91) rfl)) (by decide) (by decide)) q25a q25c (g := (mkF m 82 #[.val (.int p0), .val (.ref br1), .val (.int (1 : Int32)), .val (.ref m1), .val (.ref sa16), .val (.ref s1)] [(.ref s1), (.ref s1)])) rfl (by rw [hml]; rfl) (Steps.refl _) (argsL := [(.ref s1)]) (rest := []) (lenOf own_pd6 rfl) rfl (by show 2 * 0 + _ ≤ _; exact Nat.le_of_eq rfl) (hb hby at_82) (fun _ _ => ⟨rfl, e24, (by decide : 5 + 0 ≤ _), (by decide : 55 + 0 ≤ _)⟩)
      dsimp only [Pt.U, Pt.locs, Pt.cells, Pt.slots] at X25 l25 y25 z25 st25 hQ25
      subst l25 y25 z25
      obtain ⟨rfl, N25q, e25⟩ := hQ25
      have N25 := Fr.app N24 N25q
      obtain ⟨_, _, ⟨T26, L26, k26, n26⟩, -, X26, ⟨Lc26, hQ26, l26, y26, z26⟩, st26⟩ := Jvm.LawKit.callS X25 hx (y := (⟨"com/example/corollary/corollary/EstimateMethod", "named", "(Ljava/lang/String;)Lcom/example/corollary/corollary/EstimateMethod;"⟩ : MethodName)) hown (mvT hZ (hw _ (List.mem_of_getElem? (i := 139) rfl))) (mvT hZ (hw _ (List.mem_of_getElem? (i := 140) rfl))) (mvT hZ (hw _ (List.mem_of_getElem? (i := 2) rfl))) (mvT hZ (hw _ (List.mem_of_getElem? (i := 141) rfl))) (by decide) (backOf (W := 0) (own_rmNm1 l Z a0 hw [] s1 bA m0 m1 s0 v0 v1 kA kv0 kv1 cs h16 n0 Z16 S_EstimateMethod__VALUES_16 V_bA_16 E_bA_16 E_m0_16 F_m0_optionName_16 E_s0_16 E_m1_16 F_m1_optionName_16 E_s1_16 F_s0_coder_16 F_s0_value_16 V_v0_16 F_s1_coder_16 F_s1_value_16 V_v1_16 S_String_COMPACT_STRINGS_16 hcs h01) hZ (hw _ (List.mem_of_getElem? (i := 141) rfl)) (hw _ (List.mem_of_getElem? (i := 2) rfl)) (by decide) (by decide)) (g := (mkF m 90 #[.val (.int p0), .val (.ref br1), .val (.int (1 : Int32)), .val (.ref m1), .val (.ref sa16), .val (.ref s1)] [(.ref s1)])) rfl (by rw [hml]; rfl) (argsL := [(.ref s1)]) (rest := []) (lenOf own_pd13 rfl) rfl (by show 2 * 0 + _ ≤ _; exact Nat.le_of_eq rfl) (hb hby at_90) (fun _ _ => ⟨rfl, e25, (by decide : 5 + 1 ≤ _), (by decide : 55 + 2 ≤ _)⟩)
      dsimp only [Pt.U, Pt.locs, Pt.cells, Pt.slots] at X26 l26 y26 z26 st26 hQ26
      subst l26 y26 z26
      obtain ⟨rfl, N26q, K26q⟩ := hQ26
      have S_EstimateMethod__VALUES_26 := own_staKeep0 S_EstimateMethod__VALUES_16 K26q
      have V_bA_26 := V_bA_16.keep K26q List.not_mem_nil
      have E_bA_26 := E_bA_16.keep K26q
      have S_ArrayList_DEFAULTCAPACITY_EMPTY_ELEMENTDATA_26 := own_staKeep0 S_ArrayList_DEFAULTCAPACITY_EMPTY_ELEMENTDATA_16 K26q
      have V_dE_26 := V_dE_16.keep K26q List.not_mem_nil
      have E_m0_26 := E_m0_16.keep K26q
      have F_m0_optionName_26 := F_m0_optionName_16.keep K26q List.not_mem_nil
      have E_s0_26 := E_s0_16.keep K26q
      have E_m1_26 := E_m1_16.keep K26q
      have F_m1_optionName_26 := F_m1_optionName_16.keep K26q List.not_mem_nil
      have E_s1_26 := E_s1_16.keep K26q
      have F_s0_coder_26 := F_s0_coder_16.keep K26q List.not_mem_nil
      have F_s0_value_26 := F_s0_value_16.keep K26q List.not_mem_nil
      have V_v0_26 := V_v0_16.keep K26q List.not_mem_nil
      have F_s1_coder_26 := F_s1_coder_16.keep K26q List.not_mem_nil
      have F_s1_value_26 := F_s1_value_16.keep K26q List.not_mem_nil
      have V_v1_26 := V_v1_16.keep K26q List.not_mem_nil
      have S_String_COMPACT_STRINGS_26 := own_staKeep0 S_String_COMPACT_STRINGS_16 K26q
      have S_EstimateMethod_SEQUENTIAL_26 := own_staKeep0 S_EstimateMethod_SEQUENTIAL_16 K26q
      have S_EstimateMethod_REFERENCE_26 := own_staKeep0 S_EstimateMethod_REFERENCE_16 K26q
      have E_br1_26 := E_br1_16.keep K26q
      have F_br1_size_26 := F_br1_size_16.keep K26q List.not_mem_nil
      have F_br1_elementData_26 := F_br1_elementData_16.keep K26q List.not_mem_nil
      have V_be1_26 := V_be1_16.keep K26q List.not_mem_nil
      have E_sa16_26 := Ea16.keep K26q
      have F_sa16_coder_26 := Fc16.keep K26q List.not_mem_nil
      have F_sa16_value_26 := Fv16.keep K26q List.not_mem_nil
      have V_sb16_26 := Va16.keep K26q List.not_mem_nil
      have N26 := Fr.app N25 N26q
      have Z26 := Nat.le_trans Z16 K26q.1
      have hk26 := Nat.le_trans hk16_ K26q.1
      have K26 := K16.trans K26q (fun x hx => nomatch hx)
      obtain ⟨fs, hr, hrun, hended, hRE⟩ := Jvm.Stand.leaveW (s := s) X26 hS16 (by show _ ≤ T26.heap.size; exact hk26) (v := some (.int (1 : Int32))) (fun h => by rw [Bd.returns] at h; cases h)
      refine ⟨_, _, ?_, hrun, hended, _, _, rfl, ?_, hRE.1, hRE.2.1, hRE.2.2.1, hRE.2.2.2.mono (by decide) (by decide)⟩
      · show Steps p.tables e below (T18.setTop (mkF m 70 #[.val (.int p0), .val (.ref br1), .val (.int (1 : Int32)), .val (.ref m1), .val (.ref sa16), .val (.ref s1)] [(.ref sa16), (.ref s1)])) _
        refine st23.trans ?_
        show Steps p.tables e below (T23.setTop (mkF m 73 #[.val (.int p0), .val (.ref br1), .val (.int (1 : Int32)), .val (.ref m1), .val (.ref sa16), .val (.ref s1)] [(.int (1 : Int32))])) _
        refine XS.ifNo X23.here hx rfl (hb hby at_73) rfl ((if0 _ _).trans (feq ((by decide) : ¬ ((1 : Int32) = (0 : Int32)))).1) ?_
        show Steps p.tables e below (T23.setTop (mkF m 76 #[.val (.int p0), .val (.ref br1), .val (.int (1 : Int32)), .val (.ref m1), .val (.ref sa16), .val (.ref s1)] [])) _
        refine XS.aload X23.here hx rfl (hb hby at_76) rfl rfl ?_
        show Steps p.tables e below (T23.setTop (mkF m 78 #[.val (.int p0), .val (.ref br1), .val (.int (1 : Int32)), .val (.ref m1), .val (.ref sa16), .val (.ref s1)] [(.ref s1)])) _
        refine XS.aloadN X23.here hx rfl (hb hby at_78) rfl rfl ?_
        show Steps p.tables e below (T23.setTop (mkF m 79 #[.val (.int p0), .val (.ref br1), .val (.int (1 : Int32)), .val (.ref m1), .val (.ref sa16), .val (.ref s1)] [(.ref m1), (.ref s1)])) _
        refine st24.trans ?_
        show Steps p.tables e below (T24.setTop (mkF m 82 #[.val (.int p0), .val (.ref br1), .val (.int (1 : Int32)), .val (.ref m1), .val (.ref sa16), .val (.ref s1)] [(.ref s1), (.ref s1)])) _
        refine st25.trans ?_
        show Steps p.tables e below (T25.setTop (mkF m 85 #[.val (.int p0), .val (.ref br1), .val (.int (1 : Int32)), .val (.ref m1), .val (.ref sa16), .val (.ref s1)] [(.int (1 : Int32))])) _
        refine XS.ifNo X25.here hx rfl (hb hby at_85) rfl ((if0 _ _).trans (feq ((by decide) : ¬ ((1 : Int32) = (0 : Int32)))).1) ?_
        show Steps p.tables e below (T25.setTop (mkF m 88 #[.val (.int p0), .val (.ref br1), .val (.int (1 : Int32)), .val (.ref m1), .val (.ref sa16), .val (.ref s1)] [])) _
        refine XS.aload X25.here hx rfl (hb hby at_88) rfl rfl ?_
        show Steps p.tables e below (T25.setTop (mkF m 90 #[.val (.int p0), .val (.ref br1), .val (.int (1 : Int32)), .val (.ref m1), .val (.ref sa16), .val (.ref s1)] [(.ref s1)])) _
        refine st26 _ ?_
        show Steps p.tables e below (T26.setTop (mkF m 93 #[.val (.int p0), .val (.ref br1), .val (.int (1 : Int32)), .val (.ref m1), .val (.ref sa16), .val (.ref s1)] [(.ref m1)])) _
        refine XS.aloadN X26.here hx rfl (hb hby at_93) rfl rfl ?_
        show Steps p.tables e below (T26.setTop (mkF m 94 #[.val (.int p0), .val (.ref br1), .val (.int (1 : Int32)), .val (.ref m1), .val (.ref sa16), .val (.ref s1)] [(.ref m1), (.ref m1)])) _
        refine Jvm.RoadKit.acmp (g := (mkF m 94 #[.val (.int p0), .val (.ref br1), .val (.int (1 : Int32)), .val (.ref m1), .val (.ref sa16), .val (.ref s1)] [(.ref m1), (.ref m1)])) X26 hx rfl rfl rfl (pc0 := 94) (pc' := 97) (same := true) rfl (hb hby at_94) rfl (decide_eq_true rfl) (by decide) (by decide) ?_
        show Steps p.tables e below (T26.setTop (mkF m 97 #[.val (.int p0), .val (.ref br1), .val (.int (1 : Int32)), .val (.ref m1), .val (.ref sa16), .val (.ref s1)] [])) _
        refine XS.iconst X26.here hx rfl (hb hby at_97) ?_
        show Steps p.tables e below (T26.setTop (mkF m 98 #[.val (.int p0), .val (.ref br1), .val (.int (1 : Int32)), .val (.ref m1), .val (.ref sa16), .val (.ref s1)] [(.int (1 : Int32))])) _
        refine XS.goto X26.here hx rfl (pc0 := 98) (pc' := 102) rfl (hb hby at_98) (by decide) (by decide) ?_
        show Steps p.tables e below (T26.setTop (mkF m 102 #[.val (.int p0), .val (.ref br1), .val (.int (1 : Int32)), .val (.ref m1), .val (.ref sa16), .val (.ref s1)] [(.int (1 : Int32))])) _
        exact retN X26 hx (t := .boolean) Bd.returns (by simp) (hb hby at_102) hr
      · show own_Q0 n0 _ T26.heap _
        exact ⟨rfl, N26⟩
set_option maxRecDepth 65536 in
set_option maxHeartbeats 40000000 in
theorem comes_1 {Post : Tables → Env → Array Value → State → Outcome → State → Prop} (hpost : ∀ tb e args s v u, (limb_1_1.after args s (.returned v) u = true ∧ limb_1_2.after args s (.returned v) u = true ∧ True) → ReturnedEndW s (.returned v) u (Jvm.fieldLocs frame_1_writes args s ++ Jvm.arrayLocs frame_1_arrays args s ++ Jvm.staticLocs frame_1_statics s) 24 2176 → Post tb e args s (.returned v) u) :
    ArmFor flags0 classFile x code maxLocals ret World_1 tables_1 room_1 Calls_1 rest_1 Pre_1 Post := by
  intro l hfl _ _ p e ha hc hk s m args below hf hA hF happ hP
  obtain ⟨hcalls, hrest, hpre⟩ := hP
  obtain ⟨-, -, -, hnamed, -, -, -, hat⟩ := (Spec.applies_iff hf).mp happ
  obtain ⟨hg, hn⟩ := and_e (Cond.before_iff.mp (show (Jvm.Cond.and given_1 narrow_1).before args s = true from hpre))
  obtain ⟨gc0, gr0⟩ := and_e hg
  obtain ⟨w0, rfl⟩ : ∃ w0 : Value, args = #[w0] := by
    have hs : args.size = 1 := by simpa [Cond.value, given_1] using gc0
    obtain ⟨L⟩ := args
    match L, hs with
    | [w0], _ => exact ⟨w0, rfl⟩
  have hw := fun d (hd : d ∈ tables_1) => atoms_spec (ws := Jvm.Cond.code x code maxLocals ret :: tables_1) hat d (List.mem_cons_of_mem _ hd)
  obtain ⟨i0, ei0⟩ := is_v gr0
  obtain rfl : w0 = (.int i0) := Option.some.inj ei0
  have hfit : Fit s := fun {y c} hc i hi => by
    obtain ⟨ha, rfl⟩ := Array.getElem?_eq_some_iff.mp hc
    have q := List.all_eq_true.mp ((Array.all_eq_true_iff_forall_mem.mp hF) _ (Array.getElem_mem ha)) i (List.mem_range.mpr hi)
    simpa [Array.getElem?_eq_getElem hi] using q
  obtain ⟨na0, nb0⟩ := and_e hn
  obtain ⟨na1, nb1⟩ := and_e nb0
  obtain ⟨na2, nb2⟩ := and_e nb1
  obtain ⟨na3, nb3⟩ := and_e nb2
  obtain ⟨na4, nb4⟩ := and_e nb3
  obtain ⟨na5, nb5⟩ := and_e nb4
  obtain ⟨na6, nb6⟩ := and_e nb5
  obtain ⟨na7, nb7⟩ := and_e nb6
  obtain ⟨na8, nb8⟩ := and_e nb7
  obtain ⟨na9, nb9⟩ := and_e nb8
  obtain ⟨na10, nb10⟩ := and_e nb9
  obtain ⟨na11, nb11⟩ := and_e nb10
  obtain ⟨na12, nb12⟩ := and_e nb11
  obtain ⟨na13, nb13⟩ := and_e nb12
  obtain ⟨na14, nb14⟩ := and_e nb13
  obtain ⟨na15, nb15⟩ := and_e nb14
  obtain ⟨na16, nb16⟩ := and_e nb15
  obtain ⟨na17, nb17⟩ := and_e nb16
  obtain ⟨na18, nb18⟩ := and_e nb17
  obtain ⟨na19, nb19⟩ := and_e nb18
  obtain ⟨na20, nb20⟩ := and_e nb19
  obtain ⟨na21, nb21⟩ := and_e nb20
  obtain ⟨na22, nb22⟩ := and_e nb21
  obtain ⟨na23, nb23⟩ := and_e nb22
  obtain ⟨na24, nb24⟩ := and_e nb23
  obtain ⟨na25, nb25⟩ := and_e nb24
  obtain ⟨na26, nb26⟩ := and_e nb25
  obtain ⟨na27, nb27⟩ := and_e nb26
  obtain ⟨na28, nb28⟩ := and_e nb27
  obtain ⟨na29, nb29⟩ := and_e nb28
  obtain ⟨na30, nb30⟩ := and_e nb29
  obtain ⟨na31, nb31⟩ := and_e nb30
  obtain ⟨na32, nb32⟩ := and_e nb31
  obtain ⟨na33, nb33⟩ := and_e nb32
  obtain ⟨bA, evA⟩ := arr_v na0
  obtain ⟨cA, A_A⟩ := Arr.start evA na0
  have E_A := Exa.start evA na1
  have S_A := Sta.start evA (Or.inr ⟨(hw _ (List.mem_of_getElem? (i := 2) rfl)), (hw _ (List.mem_of_getElem? (i := 34) rfl))⟩)
  obtain ⟨qsA, qlA⟩ := own_len evA A_A na2
  obtain ⟨m0, evm0⟩ := exa_v na3
  have E_m0 := Exa.start evm0 na3
  obtain ⟨s0, evs0⟩ := exa_v na5
  have E_s0 := Exa.start evs0 na5
  have F_o0 := Fld.start ((fld_at evm0).symm.trans evs0)
  have F_cs0 := Fld.start ((fld_at evs0).symm.trans (eqv_i (Term.int_eval 0) na8))
  obtain ⟨v0, evv0⟩ := arr_v na9
  obtain ⟨cv0, A_v0⟩ := Arr.start evv0 na9
  have F_vs0 := Fld.start ((fld_at evs0).symm.trans evv0)
  obtain ⟨qsv0, qlv0⟩ := own_len evv0 A_v0 na10
  have V_v0 : Arv s s.heap v0 cv0.cls .byte (10 : Int32) [(.int (115 : Int32)), (.int (101 : Int32)), (.int (113 : Int32)), (.int (117 : Int32)), (.int (101 : Int32)), (.int (110 : Int32)), (.int (116 : Int32)), (.int (105 : Int32)), (.int (97 : Int32)), (.int (108 : Int32))] (.int (0 : Int32)) := Arv.start hfit A_v0 qsv0 qlv0 (by decide) rfl ⟨own_elem (u := .null) (j := (0 : Int32)) evv0 A_v0 (by decide) (eqv_i (Term.int_eval 115) na16), own_elem (u := .null) (j := (1 : Int32)) evv0 A_v0 (by decide) (eqv_i (Term.int_eval 101) na17), own_elem (u := .null) (j := (2 : Int32)) evv0 A_v0 (by decide) (eqv_i (Term.int_eval 113) na18), own_elem (u := .null) (j := (3 : Int32)) evv0 A_v0 (by decide) (eqv_i (Term.int_eval 117) na19), own_elem (u := .null) (j := (4 : Int32)) evv0 A_v0 (by decide) (eqv_i (Term.int_eval 101) na20), own_elem (u := .null) (j := (5 : Int32)) evv0 A_v0 (by decide) (eqv_i (Term.int_eval 110) na21), own_elem (u := .null) (j := (6 : Int32)) evv0 A_v0 (by decide) (eqv_i (Term.int_eval 116) na22), own_elem (u := .null) (j := (7 : Int32)) evv0 A_v0 (by decide) (eqv_i (Term.int_eval 105) na23), own_elem (u := .null) (j := (8 : Int32)) evv0 A_v0 (by decide) (eqv_i (Term.int_eval 97) na24), own_elem (u := .null) (j := (9 : Int32)) evv0 A_v0 (by decide) (eqv_i (Term.int_eval 108) na25), trivial⟩
  obtain ⟨m1, evm1⟩ := exa_v na4
  have E_m1 := Exa.start evm1 na4
  obtain ⟨s1, evs1⟩ := exa_v na6
  have E_s1 := Exa.start evs1 na6
  have F_o1 := Fld.start ((fld_at evm1).symm.trans evs1)
  have F_cs1 := Fld.start ((fld_at evs1).symm.trans (eqv_i (Term.int_eval 0) na12))
  obtain ⟨v1, evv1⟩ := arr_v na13
  obtain ⟨cv1, A_v1⟩ := Arr.start evv1 na13
  have F_vs1 := Fld.start ((fld_at evs1).symm.trans evv1)
  obtain ⟨qsv1, qlv1⟩ := own_len evv1 A_v1 na14
  have V_v1 : Arv s s.heap v1 cv1.cls .byte (9 : Int32) [(.int (114 : Int32)), (.int (101 : Int32)), (.int (102 : Int32)), (.int (101 : Int32)), (.int (114 : Int32)), (.int (101 : Int32)), (.int (110 : Int32)), (.int (99 : Int32)), (.int (101 : Int32))] (.int (0 : Int32)) := Arv.start hfit A_v1 qsv1 qlv1 (by decide) rfl ⟨own_elem (u := .null) (j := (0 : Int32)) evv1 A_v1 (by decide) (eqv_i (Term.int_eval 114) na26), own_elem (u := .null) (j := (1 : Int32)) evv1 A_v1 (by decide) (eqv_i (Term.int_eval 101) na27), own_elem (u := .null) (j := (2 : Int32)) evv1 A_v1 (by decide) (eqv_i (Term.int_eval 102) na28), own_elem (u := .null) (j := (3 : Int32)) evv1 A_v1 (by decide) (eqv_i (Term.int_eval 101) na29), own_elem (u := .null) (j := (4 : Int32)) evv1 A_v1 (by decide) (eqv_i (Term.int_eval 114) na30), own_elem (u := .null) (j := (5 : Int32)) evv1 A_v1 (by decide) (eqv_i (Term.int_eval 101) na31), own_elem (u := .null) (j := (6 : Int32)) evv1 A_v1 (by decide) (eqv_i (Term.int_eval 110) na32), own_elem (u := .null) (j := (7 : Int32)) evv1 A_v1 (by decide) (eqv_i (Term.int_eval 99) na33), own_elem (u := .null) (j := (8 : Int32)) evv1 A_v1 (by decide) (eqv_i (Term.int_eval 101) nb33), trivial⟩
  have V_A : Arv s s.heap bA cA.cls (.object "com/example/corollary/corollary/EstimateMethod") (2 : Int32) [(.ref m0), (.ref m1)] .null := Arv.start hfit A_A qsA qlA (by decide) rfl ⟨own_elem (u := .null) (j := (0 : Int32)) evA A_A (by decide) evm0, own_elem (u := .null) (j := (1 : Int32)) evA A_A (by decide) evm1, trivial⟩
  have evS := own_refs evm0 na7
  have S_S := Sta.start evS (Or.inr ⟨(hw _ (List.mem_of_getElem? (i := 2) rfl)), (hw _ (List.mem_of_getElem? (i := 89) rfl))⟩)
  have evR := own_refs evm1 na11
  have S_R := Sta.start evR (Or.inr ⟨(hw _ (List.mem_of_getElem? (i := 2) rfl)), (hw _ (List.mem_of_getElem? (i := 144) rfl))⟩)
  have h01 : ¬ s0 = s1 := fun q => gotF (eq_R evs0 evs1 rfl rfl) (not_v na15) (by rw [q])
  obtain ⟨hsets, hown0⟩ := atoms_of _ (rest_1_c_eq ▸ (show rest_1_c.before _ s = true from hrest))
  have j6 := Cond.before_iff.mp (hsets _ (List.mem_of_getElem? (i := 6) rfl))
  have j8 := Cond.before_iff.mp (hsets _ (List.mem_of_getElem? (i := 8) rfl))
  have j10 := Cond.before_iff.mp (hsets _ (List.mem_of_getElem? (i := 10) rfl))
  have j11 := Cond.before_iff.mp (hsets _ (List.mem_of_getElem? (i := 11) rfl))
  obtain ⟨dE, evD⟩ := arr_v j6
  obtain ⟨cD, A_D⟩ := Arr.start evD j6
  have S_D := Sta.start evD (Or.inr ⟨(hw _ (List.mem_of_getElem? (i := 6) rfl)), hsets _ (List.mem_of_getElem? (i := 2) rfl)⟩)
  obtain ⟨qsD, qlD⟩ := own_len evD A_D j8
  have V_D : Arv s s.heap dE cD.cls (.object "java/lang/Object") (0 : Int32) [] .null := Arv.start hfit A_D qsD qlD (by decide) rfl trivial
  obtain ⟨cs, evcs⟩ := is_v j10
  have S_cs := Sta.start evcs (Or.inl (hsets _ (List.mem_of_getElem? (i := 9) rfl)))
  have hcs : ¬ cs = (0 : Int32) := gotF (Cond.eq_ints evcs (Term.int_eval 0)) (not_v j11)
  have hC : Jvm.Lit.constsHeld consts_1 s := hcalls.1
  obtain ⟨n, o, h1, h2, h3, _, L, rfl, ⟨rfl, N⟩, hq⟩ := own_rm0 l s _ hw tables_1 i0 bA m0 m1 s0 s1 v0 v1 dE cA.cls cD.cls cv0.cls cv1.cls cs s.heap s.heap.size (Nat.le_refl _) S_A V_A E_A S_D V_D E_m0 F_o0 E_s0 E_m1 F_o1 E_s1 F_cs0 F_vs0 V_v0 F_cs1 F_vs1 V_v1 S_cs hcs h01 S_S S_R rfl (hC _ (List.mem_of_getElem? (i := 0) rfl)) (hC _ (List.mem_of_getElem? (i := 1) rfl)) (hsets _ (List.mem_of_getElem? (i := 11) rfl)) p e ha hc hk s m _ below hf ((Spec.applies_iff_loose hf).mp happ).1 ⟨rfl, rfl, rfl⟩ trivial
  refine ⟨n, _, h1, h2, h3, hpost _ _ _ _ _ _ ⟨Cond.after_iff.mpr rfl, Cond.after_iff.mpr (eq_i res_at (Term.int_eval (1)) rfl), trivial⟩ ⟨hq.1, hq.2.1, hq.2.2.1, (hq.2.2.2.sift fun y hy => Or.inr (N y hy)).mono (by decide) (by decide)⟩⟩
theorem main_1_1 : Claimed_1_1 := comes_1 fun _ _ _ _ _ _ h hF => ⟨h.1, hF⟩
theorem main_1_2 : Claimed_1_2 := comes_1 fun _ _ _ _ _ _ h hF => ⟨h.2.1, hF⟩
end Jvm.Pilot.@@N@@
namespace Jvm.Pilot.@@N@@
open Jvm Jvm.ClassFile Sem Op Lib Jvm.Free Jvm.Stand Jvm.Pilot.@@N@@.Jvm.D
/-! MADE BY PROGRAM (witnessworld.py) out of the Statement's table words and the real class files: 32 classes; the members and pool entries that the words name. The judged class is class 1, her method 1. -/
namespace start1
open Jvm.ClassFile
def u (s : String) : CpInfo := .utf8 (stringToUtf16 s)
/-- a pool by its gaps: so many unusable entries, then the entry; so many at the end -/
def gap : Nat → List CpInfo → List CpInfo
  | 0, r => r
  | n + 1, r => .unusable :: gap n r
def poolList (es : List (Nat × CpInfo)) (last : Nat) : List CpInfo := es.foldr (fun e r => gap e.1 (e.2 :: r)) (gap last [])
def pool (es : List (Nat × CpInfo)) (last : Nat) : Array CpInfo := ⟨poolList es last⟩
def fileOf (pool : Array CpInfo) (this : Nat) (attrs : Array Attribute := #[]) (ms : Array MethodInfo := #[]) (fl : Nat := 33) (sup : Nat := 0) (ifs : Array Nat := #[]) (fds : Array FieldInfo := #[]) : ClassFile where
  minorVersion := 0
  majorVersion := 65
  constantPool := pool
  accessFlags := fl
  thisClass := this
  superClass := sup
  interfaces := ifs
  fields := fds
  methods := ms
  attributes := attrs
def plain (name : String) (sup : Option ClassId) : Class where
  name := name
  kind := .ordinary
  loader := none
  accessFlags := 33
  super := sup
  interfaces := #[]
  cf := none
  fields := #[]
  methods := #[]
  instanceTypes := #[]
  staticTypes := #[]
  resolved := #[]
  callSites := []
  init := .initialized
  statics := none
  mirror := none

def pool0 : Array CpInfo := pool [(5, u "<init>"), (0, u "()V"), (1, .class_ 10), (1, u "java/lang/Object"), (85, u "clone"), (0, u "()Ljava/lang/Object;")] 26

def k0c0 : Code := { maxStack := 0, maxLocals := 1, code := object_method_1_code, exceptionTable := #[], attributes := #[] }
def k0m0 : Method := { name := "<init>", desc := "()V", sig := { parameters := [], returnType := none }, accessFlags := 1, code := some k0c0 }
def k0m1 : Method := { name := "clone", desc := "()Ljava/lang/Object;", sig := { parameters := [], returnType := some (.object "java/lang/Object") }, accessFlags := 260, code := none }
/-- java/lang/Object -/
def k0 : Class := { plain "java/lang/Object" none with
  accessFlags := 33
  interfaces := #[]
  cf := some (fileOf pool0 8 #[] #[{ accessFlags := 1, nameIndex := 5, descriptorIndex := 6, attributes := #[] }, { accessFlags := 260, nameIndex := 96, descriptorIndex := 97, attributes := #[] }] 33 0 #[] #[])
  fields := #[]
  methods := #[k0m0, k0m1]
  instanceTypes := #[]
  staticTypes := #[]
  resolved := Array.replicate 124 none
  statics := none }

def pool1 : Array CpInfo := pool [(2, .class_ 4), (1, u "java/lang/Object"), (0, u "<init>"), (0, u "()V"), (0, .methodref 8 9), (0, .class_ 10), (0, .nameAndType 11 12), (0, u "com/example/corollary/corollary/EstimateMethod"), (0, u "names"), (0, u "()Ljava/util/List;"), (0, .interfaceMethodref 14 15), (0, .class_ 16), (0, .nameAndType 17 18), (0, u "java/util/List"), (0, u "size"), (0, u "()I"), (0, .fieldref 8 20), (0, .nameAndType 21 22), (0, u "SEQUENTIAL"), (0, u "Lcom/example/corollary/corollary/EstimateMethod;"), (0, .fieldref 8 24), (0, .nameAndType 25 22), (0, u "REFERENCE"), (0, .string 27), (0, u "sequential"), (0, .string 29), (0, u "reference"), (0, .interfaceMethodref 14 31), (0, .nameAndType 32 33), (0, u "get"), (0, u "(I)Ljava/lang/Object;"), (0, .class_ 35), (0, u "java/lang/String"), (0, .methodref 34 37), (0, .nameAndType 38 39), (0, u "equals"), (0, u "(Ljava/lang/Object;)Z"), (0, .methodref 8 41), (0, .nameAndType 42 43), (0, u "toString"), (0, u "()Ljava/lang/String;"), (0, .methodref 8 45), (0, .nameAndType 46 47), (0, u "named"), (0, u "(Ljava/lang/String;)Lcom/example/corollary/corollary/EstimateMethod;"), (0, .class_ 49), (0, u "com/example/corollary/corollary/EstimateMethodNamesPinLaw"), (2, u "law"), (0, u "(I)Z")] 3

def k1m0 : Method := { name := "<init>", desc := "()V", sig := { parameters := [], returnType := none }, accessFlags := 1, code := none }
def k1c1 : Code := { maxStack := 2, maxLocals := 6, code := code, exceptionTable := #[], attributes := #[] }
def k1m1 : Method := { name := "law", desc := "(I)Z", sig := { parameters := [.int], returnType := some .boolean }, accessFlags := 9, code := some k1c1 }
/-- com/example/corollary/corollary/EstimateMethodNamesPinLaw -/
def k1 : Class := { plain "com/example/corollary/corollary/EstimateMethodNamesPinLaw" (some 0) with
  accessFlags := 49
  interfaces := #[]
  cf := some (fileOf pool1 48 #[] #[{ accessFlags := 1, nameIndex := 5, descriptorIndex := 6, attributes := #[] }, { accessFlags := 9, nameIndex := 52, descriptorIndex := 53, attributes := #[] }] 49 2 #[] #[])
  fields := #[]
  methods := #[k1m0, k1m1]
  instanceTypes := #[]
  staticTypes := #[]
  resolved := Array.replicate 57 none
  statics := none }

def pool2 : Array CpInfo := pool [(1, .class_ 2), (0, u "java/lang/constant/Constable"), (0, .class_ 4), (0, u "java/lang/Object")] 6

/-- java/lang/constant/Constable -/
def k2 : Class := { plain "java/lang/constant/Constable" (some 0) with
  accessFlags := 1537
  interfaces := #[]
  cf := some (fileOf pool2 1 #[] #[] 1537 3 #[] #[])
  fields := #[]
  methods := #[]
  instanceTypes := #[]
  staticTypes := #[]
  resolved := Array.replicate 11 none
  statics := none }

def pool3 : Array CpInfo := pool [(1, .class_ 2), (0, u "java/lang/Comparable"), (0, .class_ 4), (0, u "java/lang/Object")] 7

/-- java/lang/Comparable -/
def k3 : Class := { plain "java/lang/Comparable" (some 0) with
  accessFlags := 1537
  interfaces := #[]
  cf := some (fileOf pool3 1 #[] #[] 1537 3 #[] #[])
  fields := #[]
  methods := #[]
  instanceTypes := #[]
  staticTypes := #[]
  resolved := Array.replicate 12 none
  statics := none }

def pool4 : Array CpInfo := pool [(1, .class_ 2), (0, u "java/io/Serializable"), (0, .class_ 4), (0, u "java/lang/Object")] 2

/-- java/io/Serializable -/
def k4 : Class := { plain "java/io/Serializable" (some 0) with
  accessFlags := 1537
  interfaces := #[]
  cf := some (fileOf pool4 1 #[] #[] 1537 3 #[] #[])
  fields := #[]
  methods := #[]
  instanceTypes := #[]
  staticTypes := #[]
  resolved := Array.replicate 7 none
  statics := none }

def pool5 : Array CpInfo := pool [(2, .class_ 4), (1, u "java/lang/Enum"), (0, u "name"), (0, u "Ljava/lang/String;"), (2, u "ordinal"), (0, u "I"), (1, .class_ 14), (1, u "java/lang/Object"), (4, u "hash"), (86, .class_ 108), (1, u "java/lang/Enum$EnumDesc"), (2, .class_ 112), (0, u "java/lang/constant/Constable"), (0, .class_ 114), (0, u "java/lang/Comparable"), (0, .class_ 116), (0, u "java/io/Serializable")] 87

/-- java/lang/Enum -/
def k5 : Class := { plain "java/lang/Enum" (some 0) with
  accessFlags := 1057
  interfaces := #[2, 3, 4]
  cf := some (fileOf pool5 2 #[.nestMembers #[106]] #[] 1057 12 #[111, 113, 115] #[{ accessFlags := 18, nameIndex := 5, descriptorIndex := 6, attributes := #[] }, { accessFlags := 18, nameIndex := 9, descriptorIndex := 10, attributes := #[] }, { accessFlags := 2, nameIndex := 19, descriptorIndex := 10, attributes := #[] }])
  fields := #[{ name := "name", type := (.object "java/lang/String"), accessFlags := 18, slot := 0, constantValue := 0 }, { name := "ordinal", type := .int, accessFlags := 18, slot := 1, constantValue := 0 }, { name := "hash", type := .int, accessFlags := 2, slot := 2, constantValue := 0 }]
  methods := #[]
  instanceTypes := #[(.object "java/lang/String"), .int, .int]
  staticTypes := #[]
  resolved := Array.replicate 204 none
  statics := none }

def pool6 : Array CpInfo := pool [(1, .class_ 2), (0, u "com/example/corollary/corollary/EstimateMethod"), (2, u "SEQUENTIAL"), (0, u "Lcom/example/corollary/corollary/EstimateMethod;"), (2, u "REFERENCE"), (0, .fieldref 1 11), (0, .nameAndType 12 13), (0, u "$VALUES"), (0, u "[Lcom/example/corollary/corollary/EstimateMethod;"), (0, .methodref 15 16), (0, .class_ 13), (0, .nameAndType 17 18), (0, u "clone"), (0, u "()Ljava/lang/Object;"), (1, .class_ 22), (1, u "java/lang/Enum"), (4, u "<init>"), (1, .fieldref 1 30), (0, .nameAndType 31 32), (0, u "optionName"), (0, u "Ljava/lang/String;"), (0, .methodref 1 34), (0, .nameAndType 35 36), (0, u "values"), (0, u "()[Lcom/example/corollary/corollary/EstimateMethod;"), (0, .methodref 38 39), (0, .class_ 40), (0, .nameAndType 41 42), (0, u "java/lang/String"), (0, u "equals"), (0, u "(Ljava/lang/Object;)Z"), (0, .class_ 44), (0, u "java/util/ArrayList"), (0, .methodref 43 46), (0, .nameAndType 27 47), (0, u "()V"), (0, .methodref 43 49), (0, .nameAndType 50 42), (0, u "add"), (0, .class_ 52), (0, u "com/example/corollary/corollary/EstimateMethod$1"), (6, .class_ 60), (0, u "com/example/corollary/corollary/EstimateMethod$2"), (9, u "DEFAULT"), (2, u "(Ljava/lang/String;)Lcom/example/corollary/corollary/EstimateMethod;"), (8, u "toString"), (0, u "()Ljava/lang/String;"), (0, u "named"), (1, u "names"), (0, u "()Ljava/util/List;")] 8

def k6c0 : Code := { maxStack := 1, maxLocals := 0, code := prog_11_method_1_code, exceptionTable := #[], attributes := #[] }
def k6m0 : Method := { name := "values", desc := "()[Lcom/example/corollary/corollary/EstimateMethod;", sig := { parameters := [], returnType := some (.array (.object "com/example/corollary/corollary/EstimateMethod")) }, accessFlags := 9, code := some k6c0 }
def k6c1 : Code := { maxStack := 1, maxLocals := 1, code := prog_11_method_5_code, exceptionTable := #[], attributes := #[] }
def k6m1 : Method := { name := "toString", desc := "()Ljava/lang/String;", sig := { parameters := [], returnType := some (.object "java/lang/String") }, accessFlags := 1, code := some k6c1 }
def k6c2 : Code := { maxStack := 2, maxLocals := 5, code := prog_11_method_6_code, exceptionTable := #[], attributes := #[] }
def k6m2 : Method := { name := "named", desc := "(Ljava/lang/String;)Lcom/example/corollary/corollary/EstimateMethod;", sig := { parameters := [(.object "java/lang/String")], returnType := some (.object "com/example/corollary/corollary/EstimateMethod") }, accessFlags := 8, code := some k6c2 }
def k6c3 : Code := { maxStack := 2, maxLocals := 5, code := prog_11_method_7_code, exceptionTable := #[], attributes := #[] }
def k6m3 : Method := { name := "names", desc := "()Ljava/util/List;", sig := { parameters := [], returnType := some (.object "java/util/List") }, accessFlags := 8, code := some k6c3 }
/-- com/example/corollary/corollary/EstimateMethod -/
def k6 : Class := { plain "com/example/corollary/corollary/EstimateMethod" (some 5) with
  accessFlags := 17441
  interfaces := #[]
  cf := some (fileOf pool6 1 #[.nestMembers #[59, 51]] #[{ accessFlags := 9, nameIndex := 35, descriptorIndex := 36, attributes := #[] }, { accessFlags := 1, nameIndex := 82, descriptorIndex := 83, attributes := #[] }, { accessFlags := 8, nameIndex := 84, descriptorIndex := 73, attributes := #[] }, { accessFlags := 8, nameIndex := 86, descriptorIndex := 87, attributes := #[] }] 17441 20 #[] #[{ accessFlags := 16409, nameIndex := 5, descriptorIndex := 6, attributes := #[] }, { accessFlags := 16409, nameIndex := 9, descriptorIndex := 6, attributes := #[] }, { accessFlags := 24, nameIndex := 70, descriptorIndex := 6, attributes := #[] }, { accessFlags := 18, nameIndex := 31, descriptorIndex := 32, attributes := #[] }, { accessFlags := 4122, nameIndex := 12, descriptorIndex := 13, attributes := #[] }])
  fields := #[{ name := "SEQUENTIAL", type := (.object "com/example/corollary/corollary/EstimateMethod"), accessFlags := 16409, slot := 0, constantValue := 0 }, { name := "REFERENCE", type := (.object "com/example/corollary/corollary/EstimateMethod"), accessFlags := 16409, slot := 1, constantValue := 0 }, { name := "DEFAULT", type := (.object "com/example/corollary/corollary/EstimateMethod"), accessFlags := 24, slot := 2, constantValue := 0 }, { name := "optionName", type := (.object "java/lang/String"), accessFlags := 18, slot := 3, constantValue := 0 }, { name := "$VALUES", type := (.array (.object "com/example/corollary/corollary/EstimateMethod")), accessFlags := 4122, slot := 3, constantValue := 0 }]
  methods := #[k6m0, k6m1, k6m2, k6m3]
  instanceTypes := #[(.object "java/lang/String"), .int, .int, (.object "java/lang/String")]
  staticTypes := #[(.object "com/example/corollary/corollary/EstimateMethod"), (.object "com/example/corollary/corollary/EstimateMethod"), (.object "com/example/corollary/corollary/EstimateMethod"), (.array (.object "com/example/corollary/corollary/EstimateMethod"))]
  resolved := Array.replicate 96 none
  statics := some 0 }

def pool7 : Array CpInfo := pool [(8, .class_ 10), (1, u "java/lang/Iterable"), (24, .class_ 36), (0, u "java/lang/Object")] 25

/-- java/lang/Iterable -/
def k7 : Class := { plain "java/lang/Iterable" (some 0) with
  accessFlags := 1537
  interfaces := #[]
  cf := some (fileOf pool7 8 #[] #[] 1537 35 #[] #[])
  fields := #[]
  methods := #[]
  instanceTypes := #[]
  staticTypes := #[]
  resolved := Array.replicate 62 none
  statics := none }

def pool8 : Array CpInfo := pool [(10, .class_ 12), (1, u "java/util/Collection"), (47, .class_ 61), (0, u "java/lang/Object"), (0, .class_ 63), (0, u "java/lang/Iterable")] 51

/-- java/util/Collection -/
def k8 : Class := { plain "java/util/Collection" (some 0) with
  accessFlags := 1537
  interfaces := #[7]
  cf := some (fileOf pool8 10 #[] #[] 1537 60 #[62] #[])
  fields := #[]
  methods := #[]
  instanceTypes := #[]
  staticTypes := #[]
  resolved := Array.replicate 115 none
  statics := none }

def pool9 : Array CpInfo := pool [(1, .methodref 2 3), (0, .class_ 4), (0, .nameAndType 5 6), (0, u "java/lang/Object"), (0, u "<init>"), (0, u "()V"), (1, .class_ 10), (1, u "java/util/AbstractCollection"), (66, .class_ 78), (0, u "java/util/Collection")] 81

def k9c0 : Code := { maxStack := 1, maxLocals := 1, code := jdk_22_method_1_code, exceptionTable := #[], attributes := #[] }
def k9m0 : Method := { name := "<init>", desc := "()V", sig := { parameters := [], returnType := none }, accessFlags := 4, code := some k9c0 }
/-- java/util/AbstractCollection -/
def k9 : Class := { plain "java/util/AbstractCollection" (some 0) with
  accessFlags := 1057
  interfaces := #[8]
  cf := some (fileOf pool9 8 #[] #[{ accessFlags := 4, nameIndex := 5, descriptorIndex := 6, attributes := #[] }] 1057 2 #[77] #[])
  fields := #[]
  methods := #[k9m0]
  instanceTypes := #[]
  staticTypes := #[]
  resolved := Array.replicate 160 none
  statics := none }

def pool10 : Array CpInfo := pool [(8, .class_ 10), (1, u "java/util/SequencedCollection"), (15, .class_ 27), (0, u "java/lang/Object"), (0, .class_ 29), (0, u "java/util/Collection")] 27

/-- java/util/SequencedCollection -/
def k10 : Class := { plain "java/util/SequencedCollection" (some 0) with
  accessFlags := 1537
  interfaces := #[8]
  cf := some (fileOf pool10 8 #[] #[] 1537 26 #[28] #[])
  fields := #[]
  methods := #[]
  instanceTypes := #[]
  staticTypes := #[]
  resolved := Array.replicate 57 none
  statics := none }

def pool11 : Array CpInfo := pool [(8, .class_ 10), (1, u "java/util/List"), (64, u "get"), (0, u "(I)Ljava/lang/Object;"), (2, u "size"), (0, u "()I"), (22, .class_ 104), (0, u "java/lang/Object"), (15, .class_ 121), (0, u "java/util/SequencedCollection")] 129

def k11m0 : Method := { name := "size", desc := "()I", sig := { parameters := [], returnType := some .int }, accessFlags := 1025, code := none }
def k11m1 : Method := { name := "get", desc := "(I)Ljava/lang/Object;", sig := { parameters := [.int], returnType := some (.object "java/lang/Object") }, accessFlags := 1025, code := none }
/-- java/util/List -/
def k11 : Class := { plain "java/util/List" (some 0) with
  accessFlags := 1537
  interfaces := #[10]
  cf := some (fileOf pool11 8 #[] #[{ accessFlags := 1025, nameIndex := 79, descriptorIndex := 80, attributes := #[] }, { accessFlags := 1025, nameIndex := 75, descriptorIndex := 76, attributes := #[] }] 1537 103 #[120] #[])
  fields := #[]
  methods := #[k11m0, k11m1]
  instanceTypes := #[]
  staticTypes := #[]
  resolved := Array.replicate 251 none
  statics := none }

def pool12 : Array CpInfo := pool [(1, .methodref 2 3), (0, .class_ 4), (0, .nameAndType 5 6), (0, u "java/util/AbstractCollection"), (0, u "<init>"), (0, u "()V"), (0, .fieldref 8 9), (0, .class_ 10), (0, .nameAndType 11 12), (0, u "java/util/AbstractList"), (0, u "modCount"), (0, u "I"), (64, .class_ 78), (0, u "java/util/AbstractList$Itr"), (3, .class_ 83), (0, u "java/util/AbstractList$ListItr"), (9, .class_ 94), (0, u "java/util/AbstractList$RandomAccessSubList"), (3, .class_ 99), (0, u "java/util/AbstractList$SubList"), (33, .class_ 134), (0, u "java/util/List"), (73, .class_ 209), (0, u "java/util/AbstractList$SubList$1"), (0, .class_ 211), (0, u "java/util/AbstractList$RandomAccessSpliterator")] 6

def k12c0 : Code := { maxStack := 2, maxLocals := 1, code := jdk_39_method_1_code, exceptionTable := #[], attributes := #[] }
def k12m0 : Method := { name := "<init>", desc := "()V", sig := { parameters := [], returnType := none }, accessFlags := 4, code := some k12c0 }
/-- java/util/AbstractList -/
def k12 : Class := { plain "java/util/AbstractList" (some 9) with
  accessFlags := 1057
  interfaces := #[11]
  cf := some (fileOf pool12 8 #[.nestMembers #[93, 98, 208, 210, 82, 77]] #[{ accessFlags := 4, nameIndex := 5, descriptorIndex := 6, attributes := #[] }] 1057 2 #[133] #[{ accessFlags := 132, nameIndex := 11, descriptorIndex := 12, attributes := #[] }])
  fields := #[{ name := "modCount", type := .int, accessFlags := 132, slot := 0, constantValue := 0 }]
  methods := #[k12m0]
  instanceTypes := #[.int]
  staticTypes := #[]
  resolved := Array.replicate 218 none
  statics := none }

def pool13 : Array CpInfo := pool [(1, .class_ 2), (0, u "java/util/RandomAccess"), (0, .class_ 4), (0, u "java/lang/Object")] 2

/-- java/util/RandomAccess -/
def k13 : Class := { plain "java/util/RandomAccess" (some 0) with
  accessFlags := 1537
  interfaces := #[]
  cf := some (fileOf pool13 1 #[] #[] 1537 3 #[] #[])
  fields := #[]
  methods := #[]
  instanceTypes := #[]
  staticTypes := #[]
  resolved := Array.replicate 7 none
  statics := none }

def pool14 : Array CpInfo := pool [(1, .class_ 2), (0, u "java/lang/Cloneable"), (0, .class_ 4), (0, u "java/lang/Object")] 2

/-- java/lang/Cloneable -/
def k14 : Class := { plain "java/lang/Cloneable" (some 0) with
  accessFlags := 1537
  interfaces := #[]
  cf := some (fileOf pool14 1 #[] #[] 1537 3 #[] #[])
  fields := #[]
  methods := #[]
  instanceTypes := #[]
  staticTypes := #[]
  resolved := Array.replicate 7 none
  statics := none }

def pool15 : Array CpInfo := pool [(1, .methodref 2 3), (0, .class_ 4), (0, .nameAndType 5 6), (0, u "java/util/AbstractList"), (0, u "<init>"), (0, u "()V"), (0, .class_ 8), (0, u "java/lang/Object"), (0, .fieldref 10 11), (0, .class_ 12), (0, .nameAndType 13 14), (0, u "java/util/ArrayList"), (0, u "elementData"), (0, u "[Ljava/lang/Object;"), (2, u "EMPTY_ELEMENTDATA"), (21, .fieldref 10 40), (0, .nameAndType 41 14), (0, u "DEFAULTCAPACITY_EMPTY_ELEMENTDATA"), (5, u "()[Ljava/lang/Object;"), (0, .fieldref 10 49), (0, .nameAndType 50 51), (0, u "size"), (0, u "I"), (11, .fieldref 10 64), (0, .nameAndType 65 51), (0, u "modCount"), (3, .methodref 10 70), (0, .nameAndType 71 72), (0, u "grow"), (0, u "(I)[Ljava/lang/Object;"), (6, .methodref 80 81), (0, .class_ 82), (0, .nameAndType 83 84), (0, u "java/lang/Math"), (0, u "max"), (0, u "(II)I"), (11, u "(Ljava/lang/Object;)Z"), (21, .methodref 119 120), (0, .class_ 121), (0, .nameAndType 122 84), (0, u "java/util/Objects"), (0, u "checkIndex"), (0, .methodref 10 124), (0, .nameAndType 13 125), (0, u "(I)Ljava/lang/Object;"), (3, .methodref 10 130), (0, .nameAndType 71 47), (0, .methodref 10 132), (0, .nameAndType 133 134), (0, u "add"), (0, u "(Ljava/lang/Object;[Ljava/lang/Object;I)V"), (13, .class_ 149), (0, u "java/util/List"), (36, u "()I"), (75, .class_ 263), (0, u "java/util/ArrayList$ListItr"), (3, .class_ 268), (0, u "java/util/ArrayList$Itr"), (7, .class_ 277), (0, u "java/util/ArrayList$SubList"), (12, .class_ 291), (0, u "java/util/ArrayList$ArrayListSpliterator"), (37, .class_ 330), (0, u "java/util/RandomAccess"), (0, .class_ 332), (0, u "java/lang/Cloneable"), (0, .class_ 334), (0, u "java/io/Serializable"), (0, u "serialVersionUID"), (0, u "J"), (3, u "DEFAULT_CAPACITY"), (40, u "get"), (118, .class_ 501), (0, u "java/util/ArrayList$SubList$2"), (0, .class_ 503), (0, u "java/util/ArrayList$SubList$1")] 5

def k15c0 : Code := { maxStack := 2, maxLocals := 1, code := jdk_38_method_2_code, exceptionTable := #[], attributes := #[] }
def k15m0 : Method := { name := "<init>", desc := "()V", sig := { parameters := [], returnType := none }, accessFlags := 1, code := some k15c0 }
def k15c1 : Code := { maxStack := 4, maxLocals := 4, code := jdk_38_method_6_code, exceptionTable := #[], attributes := #[] }
def k15m1 : Method := { name := "grow", desc := "(I)[Ljava/lang/Object;", sig := { parameters := [.int], returnType := some (.array (.object "java/lang/Object")) }, accessFlags := 2, code := some k15c1 }
def k15c2 : Code := { maxStack := 3, maxLocals := 1, code := jdk_38_method_7_code, exceptionTable := #[], attributes := #[] }
def k15m2 : Method := { name := "grow", desc := "()[Ljava/lang/Object;", sig := { parameters := [], returnType := some (.array (.object "java/lang/Object")) }, accessFlags := 2, code := some k15c2 }
def k15c3 : Code := { maxStack := 1, maxLocals := 1, code := jdk_38_method_8_code, exceptionTable := #[], attributes := #[] }
def k15m3 : Method := { name := "size", desc := "()I", sig := { parameters := [], returnType := some .int }, accessFlags := 1, code := some k15c3 }
def k15c4 : Code := { maxStack := 2, maxLocals := 2, code := jdk_38_method_18_code, exceptionTable := #[], attributes := #[] }
def k15m4 : Method := { name := "elementData", desc := "(I)Ljava/lang/Object;", sig := { parameters := [.int], returnType := some (.object "java/lang/Object") }, accessFlags := 0, code := some k15c4 }
def k15c5 : Code := { maxStack := 2, maxLocals := 2, code := jdk_38_method_20_code, exceptionTable := #[], attributes := #[] }
def k15m5 : Method := { name := "get", desc := "(I)Ljava/lang/Object;", sig := { parameters := [.int], returnType := some (.object "java/lang/Object") }, accessFlags := 1, code := some k15c5 }
def k15c6 : Code := { maxStack := 3, maxLocals := 4, code := jdk_38_method_24_code, exceptionTable := #[], attributes := #[] }
def k15m6 : Method := { name := "add", desc := "(Ljava/lang/Object;[Ljava/lang/Object;I)V", sig := { parameters := [(.object "java/lang/Object"), (.array (.object "java/lang/Object")), .int], returnType := none }, accessFlags := 2, code := some k15c6 }
def k15c7 : Code := { maxStack := 4, maxLocals := 2, code := jdk_38_method_25_code, exceptionTable := #[], attributes := #[] }
def k15m7 : Method := { name := "add", desc := "(Ljava/lang/Object;)Z", sig := { parameters := [(.object "java/lang/Object")], returnType := some .boolean }, accessFlags := 1, code := some k15c7 }
/-- java/util/ArrayList -/
def k15 : Class := { plain "java/util/ArrayList" (some 12) with
  accessFlags := 33
  interfaces := #[11, 13, 14, 4]
  cf := some (fileOf pool15 10 #[.nestMembers #[290, 276, 500, 502, 262, 267]] #[{ accessFlags := 1, nameIndex := 5, descriptorIndex := 6, attributes := #[] }, { accessFlags := 2, nameIndex := 71, descriptorIndex := 72, attributes := #[] }, { accessFlags := 2, nameIndex := 71, descriptorIndex := 47, attributes := #[] }, { accessFlags := 1, nameIndex := 50, descriptorIndex := 186, attributes := #[] }, { accessFlags := 0, nameIndex := 13, descriptorIndex := 125, attributes := #[] }, { accessFlags := 1, nameIndex := 381, descriptorIndex := 125, attributes := #[] }, { accessFlags := 2, nameIndex := 133, descriptorIndex := 134, attributes := #[] }, { accessFlags := 1, nameIndex := 133, descriptorIndex := 96, attributes := #[] }] 33 2 #[148, 329, 331, 333] #[{ accessFlags := 26, nameIndex := 335, descriptorIndex := 336, attributes := #[] }, { accessFlags := 26, nameIndex := 340, descriptorIndex := 51, attributes := #[] }, { accessFlags := 26, nameIndex := 17, descriptorIndex := 14, attributes := #[] }, { accessFlags := 26, nameIndex := 41, descriptorIndex := 14, attributes := #[] }, { accessFlags := 128, nameIndex := 13, descriptorIndex := 14, attributes := #[] }, { accessFlags := 2, nameIndex := 50, descriptorIndex := 51, attributes := #[] }])
  fields := #[{ name := "serialVersionUID", type := .long, accessFlags := 26, slot := 0, constantValue := 0 }, { name := "DEFAULT_CAPACITY", type := .int, accessFlags := 26, slot := 1, constantValue := 0 }, { name := "EMPTY_ELEMENTDATA", type := (.array (.object "java/lang/Object")), accessFlags := 26, slot := 2, constantValue := 0 }, { name := "DEFAULTCAPACITY_EMPTY_ELEMENTDATA", type := (.array (.object "java/lang/Object")), accessFlags := 26, slot := 3, constantValue := 0 }, { name := "elementData", type := (.array (.object "java/lang/Object")), accessFlags := 128, slot := 1, constantValue := 0 }, { name := "size", type := .int, accessFlags := 2, slot := 2, constantValue := 0 }]
  methods := #[k15m0, k15m1, k15m2, k15m3, k15m4, k15m5, k15m6, k15m7]
  instanceTypes := #[.int, (.array (.object "java/lang/Object")), .int]
  staticTypes := #[.long, .int, (.array (.object "java/lang/Object")), (.array (.object "java/lang/Object"))]
  resolved := Array.replicate 509 none
  statics := some 1 }

def pool16 : Array CpInfo := pool [(2, .class_ 4), (1, u "com/example/corollary/corollary/EstimateMethod"), (8, .class_ 14), (0, u "com/example/corollary/corollary/EstimateMethod$1")] 11

/-- com/example/corollary/corollary/EstimateMethod$1 -/
def k16 : Class := { plain "com/example/corollary/corollary/EstimateMethod$1" (some 6) with
  accessFlags := 16432
  interfaces := #[]
  cf := some (fileOf pool16 13 #[.nestHost 2] #[] 16432 2 #[] #[])
  fields := #[]
  methods := #[]
  instanceTypes := #[(.object "java/lang/String"), .int, .int, (.object "java/lang/String")]
  staticTypes := #[]
  resolved := Array.replicate 26 none
  statics := none }

def pool17 : Array CpInfo := pool [(1, .class_ 2), (0, u "java/lang/Math"), (1, .class_ 6), (1, u "java/lang/Object"), (0, u "<init>"), (0, u "()V"), (89, .class_ 100), (1, u "java/lang/Math$RandomNumberGeneratorHolder"), (71, u "negativeZeroFloatBits"), (0, u "J"), (2, u "negativeZeroDoubleBits"), (21, u "max"), (46, u "$assertionsDisabled"), (0, u "Z"), (88, u "(II)I"), (2, u "twoToTheDoubleScaleDown"), (0, u "D"), (4, u "twoToTheDoubleScaleUp"), (9, u "E"), (3, u "PI"), (2, u "TAU"), (2, u "DEGREES_TO_RADIANS"), (0, u "RADIANS_TO_DEGREES")] 94

def k17m0 : Method := { name := "<init>", desc := "()V", sig := { parameters := [], returnType := none }, accessFlags := 2, code := none }
def k17c1 : Code := { maxStack := 2, maxLocals := 2, code := jdk_29_method_65_code, exceptionTable := #[], attributes := #[] }
def k17m1 : Method := { name := "max", desc := "(II)I", sig := { parameters := [.int, .int], returnType := some .int }, accessFlags := 9, code := some k17c1 }
/-- java/lang/Math -/
def k17 : Class := { plain "java/lang/Math" (some 0) with
  accessFlags := 49
  interfaces := #[]
  cf := some (fileOf pool17 1 #[.nestMembers #[98]] #[{ accessFlags := 2, nameIndex := 7, descriptorIndex := 8, attributes := #[] }, { accessFlags := 9, nameIndex := 198, descriptorIndex := 335, attributes := #[] }] 49 4 #[] #[{ accessFlags := 25, nameIndex := 354, descriptorIndex := 339, attributes := #[] }, { accessFlags := 25, nameIndex := 358, descriptorIndex := 339, attributes := #[] }, { accessFlags := 25, nameIndex := 361, descriptorIndex := 339, attributes := #[] }, { accessFlags := 26, nameIndex := 364, descriptorIndex := 339, attributes := #[] }, { accessFlags := 26, nameIndex := 365, descriptorIndex := 339, attributes := #[] }, { accessFlags := 26, nameIndex := 172, descriptorIndex := 173, attributes := #[] }, { accessFlags := 26, nameIndex := 176, descriptorIndex := 173, attributes := #[] }, { accessFlags := 8, nameIndex := 344, descriptorIndex := 339, attributes := #[] }, { accessFlags := 8, nameIndex := 338, descriptorIndex := 339, attributes := #[] }, { accessFlags := 4120, nameIndex := 245, descriptorIndex := 246, attributes := #[] }])
  fields := #[{ name := "E", type := .double, accessFlags := 25, slot := 0, constantValue := 0 }, { name := "PI", type := .double, accessFlags := 25, slot := 1, constantValue := 0 }, { name := "TAU", type := .double, accessFlags := 25, slot := 2, constantValue := 0 }, { name := "DEGREES_TO_RADIANS", type := .double, accessFlags := 26, slot := 3, constantValue := 0 }, { name := "RADIANS_TO_DEGREES", type := .double, accessFlags := 26, slot := 4, constantValue := 0 }, { name := "negativeZeroFloatBits", type := .long, accessFlags := 26, slot := 5, constantValue := 0 }, { name := "negativeZeroDoubleBits", type := .long, accessFlags := 26, slot := 6, constantValue := 0 }, { name := "twoToTheDoubleScaleUp", type := .double, accessFlags := 8, slot := 7, constantValue := 0 }, { name := "twoToTheDoubleScaleDown", type := .double, accessFlags := 8, slot := 8, constantValue := 0 }, { name := "$assertionsDisabled", type := .boolean, accessFlags := 4120, slot := 9, constantValue := 0 }]
  methods := #[k17m0, k17m1]
  instanceTypes := #[]
  staticTypes := #[.double, .double, .double, .double, .double, .long, .long, .double, .double, .boolean]
  resolved := Array.replicate 460 none
  statics := none }

def pool18 : Array CpInfo := pool [(2, .class_ 4), (1, u "java/lang/CharSequence"), (42, .class_ 48), (0, u "java/lang/CharSequence$1CodePointIterator"), (10, .class_ 60), (0, u "java/lang/CharSequence$1CharIterator"), (5, .class_ 67), (0, u "java/lang/Object")] 63

/-- java/lang/CharSequence -/
def k18 : Class := { plain "java/lang/CharSequence" (some 0) with
  accessFlags := 1537
  interfaces := #[]
  cf := some (fileOf pool18 2 #[.nestMembers #[47, 59]] #[] 1537 66 #[] #[])
  fields := #[]
  methods := #[]
  instanceTypes := #[]
  staticTypes := #[]
  resolved := Array.replicate 131 none
  statics := none }

def pool19 : Array CpInfo := pool [(1, .class_ 2), (0, u "java/lang/constant/ConstantDesc"), (0, .class_ 4), (0, u "java/lang/Object")] 32

/-- java/lang/constant/ConstantDesc -/
def k19 : Class := { plain "java/lang/constant/ConstantDesc" (some 0) with
  accessFlags := 1537
  interfaces := #[]
  cf := some (fileOf pool19 1 #[] #[] 1537 3 #[] #[])
  fields := #[]
  methods := #[]
  instanceTypes := #[]
  staticTypes := #[]
  resolved := Array.replicate 37 none
  statics := none }

def pool20 : Array CpInfo := pool [(2, .class_ 4), (1, u "java/lang/Object"), (0, u "<init>"), (0, u "()V"), (2, .fieldref 10 11), (0, .class_ 12), (0, .nameAndType 13 14), (0, u "java/lang/String"), (0, u "value"), (0, u "[B"), (0, .fieldref 10 16), (0, .nameAndType 17 18), (0, u "coder"), (0, u "B"), (2, u "hash"), (0, u "I"), (2, u "hashIsZero"), (0, u "Z"), (11, .fieldref 10 39), (0, .nameAndType 40 26), (0, u "COMPACT_STRINGS"), (66, .class_ 109), (1, u "java/lang/StringLatin1"), (431, .methodref 107 542), (0, .nameAndType 543 544), (0, u "equals"), (0, u "([B[B)Z"), (28, u "(Ljava/lang/Object;)Z"), (1, .class_ 576), (0, u "java/lang/CharSequence"), (22, u "CASE_INSENSITIVE_ORDER"), (0, u "Ljava/util/Comparator;"), (500, u "serialPersistentFields"), (0, u "[Ljava/io/ObjectStreamField;"), (0, .class_ 1104), (0, u "java/lang/String$CaseInsensitiveComparator"), (1, .class_ 1107), (0, u "java/io/Serializable"), (0, .class_ 1109), (0, u "java/lang/Comparable"), (0, .class_ 1111), (0, u "java/lang/constant/Constable"), (0, .class_ 1113), (0, u "java/lang/constant/ConstantDesc"), (2, u "serialVersionUID"), (0, u "J"), (3, u "REPL"), (0, u "C"), (2, u "LATIN1"), (1, u "UTF16")] 323

def k20m0 : Method := { name := "<init>", desc := "()V", sig := { parameters := [], returnType := none }, accessFlags := 1, code := none }
def k20c1 : Code := { maxStack := 2, maxLocals := 3, code := jdk_42_method_66_code, exceptionTable := #[], attributes := #[] }
def k20m1 : Method := { name := "equals", desc := "(Ljava/lang/Object;)Z", sig := { parameters := [(.object "java/lang/Object")], returnType := some .boolean }, accessFlags := 1, code := some k20c1 }
/-- java/lang/String -/
def k20 : Class := { plain "java/lang/String" (some 0) with
  accessFlags := 49
  interfaces := #[4, 3, 18, 2, 19]
  cf := some (fileOf pool20 10 #[.nestMembers #[1103]] #[{ accessFlags := 1, nameIndex := 5, descriptorIndex := 6, attributes := #[] }, { accessFlags := 1, nameIndex := 543, descriptorIndex := 573, attributes := #[] }] 49 2 #[1106, 1108, 575, 1110, 1112] #[{ accessFlags := 18, nameIndex := 13, descriptorIndex := 14, attributes := #[] }, { accessFlags := 18, nameIndex := 17, descriptorIndex := 18, attributes := #[] }, { accessFlags := 2, nameIndex := 21, descriptorIndex := 22, attributes := #[] }, { accessFlags := 2, nameIndex := 25, descriptorIndex := 26, attributes := #[] }, { accessFlags := 26, nameIndex := 1116, descriptorIndex := 1117, attributes := #[] }, { accessFlags := 24, nameIndex := 40, descriptorIndex := 26, attributes := #[] }, { accessFlags := 26, nameIndex := 1101, descriptorIndex := 1102, attributes := #[] }, { accessFlags := 26, nameIndex := 1121, descriptorIndex := 1122, attributes := #[] }, { accessFlags := 25, nameIndex := 599, descriptorIndex := 600, attributes := #[] }, { accessFlags := 24, nameIndex := 1125, descriptorIndex := 18, attributes := #[] }, { accessFlags := 24, nameIndex := 1127, descriptorIndex := 18, attributes := #[] }])
  fields := #[{ name := "value", type := (.array .byte), accessFlags := 18, slot := 0, constantValue := 0 }, { name := "coder", type := .byte, accessFlags := 18, slot := 1, constantValue := 0 }, { name := "hash", type := .int, accessFlags := 2, slot := 2, constantValue := 0 }, { name := "hashIsZero", type := .boolean, accessFlags := 2, slot := 3, constantValue := 0 }, { name := "serialVersionUID", type := .long, accessFlags := 26, slot := 0, constantValue := 0 }, { name := "COMPACT_STRINGS", type := .boolean, accessFlags := 24, slot := 1, constantValue := 0 }, { name := "serialPersistentFields", type := (.array (.object "java/io/ObjectStreamField")), accessFlags := 26, slot := 2, constantValue := 0 }, { name := "REPL", type := .char, accessFlags := 26, slot := 3, constantValue := 0 }, { name := "CASE_INSENSITIVE_ORDER", type := (.object "java/util/Comparator"), accessFlags := 25, slot := 4, constantValue := 0 }, { name := "LATIN1", type := .byte, accessFlags := 24, slot := 5, constantValue := 0 }, { name := "UTF16", type := .byte, accessFlags := 24, slot := 6, constantValue := 0 }]
  methods := #[k20m0, k20m1]
  instanceTypes := #[(.array .byte), .byte, .int, .boolean]
  staticTypes := #[.long, .boolean, (.array (.object "java/io/ObjectStreamField")), .char, (.object "java/util/Comparator"), .byte, .byte]
  resolved := Array.replicate 1451 none
  statics := some 2 }

def pool21 : Array CpInfo := pool [(2, .class_ 4), (1, u "com/example/corollary/corollary/EstimateMethod"), (8, .class_ 14), (0, u "com/example/corollary/corollary/EstimateMethod$2")] 11

/-- com/example/corollary/corollary/EstimateMethod$2 -/
def k21 : Class := { plain "com/example/corollary/corollary/EstimateMethod$2" (some 6) with
  accessFlags := 16432
  interfaces := #[]
  cf := some (fileOf pool21 13 #[.nestHost 2] #[] 16432 2 #[] #[])
  fields := #[]
  methods := #[]
  instanceTypes := #[(.object "java/lang/String"), .int, .int, (.object "java/lang/String")]
  staticTypes := #[]
  resolved := Array.replicate 26 none
  statics := none }

def pool22 : Array CpInfo := pool [(2, .class_ 4), (1, u "java/lang/Object"), (0, u "<init>"), (0, u "()V"), (35, .class_ 44), (1, u "java/util/Objects"), (60, .methodref 106 107), (0, .class_ 108), (0, .nameAndType 109 110), (0, u "jdk/internal/util/Preconditions"), (0, u "checkIndex"), (0, u "(IILjava/util/function/BiFunction;)I"), (60, u "(II)I")] 12

def k22m0 : Method := { name := "<init>", desc := "()V", sig := { parameters := [], returnType := none }, accessFlags := 2, code := none }
def k22c1 : Code := { maxStack := 3, maxLocals := 2, code := jdk_31_method_17_code, exceptionTable := #[], attributes := #[] }
def k22m1 : Method := { name := "checkIndex", desc := "(II)I", sig := { parameters := [.int, .int], returnType := some .int }, accessFlags := 9, code := some k22c1 }
/-- java/util/Objects -/
def k22 : Class := { plain "java/util/Objects" (some 0) with
  accessFlags := 49
  interfaces := #[]
  cf := some (fileOf pool22 42 #[] #[{ accessFlags := 2, nameIndex := 5, descriptorIndex := 6, attributes := #[] }, { accessFlags := 9, nameIndex := 109, descriptorIndex := 171, attributes := #[] }] 49 2 #[] #[])
  fields := #[]
  methods := #[k22m0, k22m1]
  instanceTypes := #[]
  staticTypes := #[]
  resolved := Array.replicate 184 none
  statics := none }

def pool23 : Array CpInfo := pool [(2, .class_ 4), (1, u "java/lang/Object"), (0, u "<init>"), (0, u "()V"), (17, .class_ 26), (1, u "jdk/internal/util/Preconditions"), (6, u "checkIndex"), (21, .class_ 56), (0, u "jdk/internal/util/Preconditions$4"), (57, .class_ 115), (0, u "jdk/internal/util/Preconditions$1"), (7, u "SIOOBE_FORMATTER"), (0, u "Ljava/util/function/BiFunction;"), (0, .class_ 126), (0, u "jdk/internal/util/Preconditions$2"), (3, u "AIOOBE_FORMATTER"), (0, .class_ 132), (0, u "jdk/internal/util/Preconditions$3"), (3, u "IOOBE_FORMATTER"), (41, u "(IILjava/util/function/BiFunction;)I")] 15

def k23m0 : Method := { name := "<init>", desc := "()V", sig := { parameters := [], returnType := none }, accessFlags := 1, code := none }
def k23c1 : Code := { maxStack := 3, maxLocals := 3, code := jdk_41_method_11_code, exceptionTable := #[], attributes := #[] }
def k23m1 : Method := { name := "checkIndex", desc := "(IILjava/util/function/BiFunction;)I", sig := { parameters := [.int, .int, (.object "java/util/function/BiFunction")], returnType := some .int }, accessFlags := 9, code := some k23c1 }
/-- jdk/internal/util/Preconditions -/
def k23 : Class := { plain "jdk/internal/util/Preconditions" (some 0) with
  accessFlags := 33
  interfaces := #[]
  cf := some (fileOf pool23 24 #[.nestMembers #[55, 131, 125, 114]] #[{ accessFlags := 1, nameIndex := 5, descriptorIndex := 6, attributes := #[] }, { accessFlags := 9, nameIndex := 33, descriptorIndex := 178, attributes := #[] }] 33 2 #[] #[{ accessFlags := 25, nameIndex := 123, descriptorIndex := 124, attributes := #[] }, { accessFlags := 25, nameIndex := 130, descriptorIndex := 124, attributes := #[] }, { accessFlags := 25, nameIndex := 136, descriptorIndex := 124, attributes := #[] }])
  fields := #[{ name := "SIOOBE_FORMATTER", type := (.object "java/util/function/BiFunction"), accessFlags := 25, slot := 0, constantValue := 0 }, { name := "AIOOBE_FORMATTER", type := (.object "java/util/function/BiFunction"), accessFlags := 25, slot := 1, constantValue := 0 }, { name := "IOOBE_FORMATTER", type := (.object "java/util/function/BiFunction"), accessFlags := 25, slot := 2, constantValue := 0 }]
  methods := #[k23m0, k23m1]
  instanceTypes := #[]
  staticTypes := #[(.object "java/util/function/BiFunction"), (.object "java/util/function/BiFunction"), (.object "java/util/function/BiFunction")]
  resolved := Array.replicate 194 none
  statics := some 3 }

def pool24 : Array CpInfo := pool [(4, .class_ 6), (1, u "java/lang/Object"), (0, u "<init>"), (0, u "()V"), (5, .class_ 16), (1, u "java/lang/StringLatin1"), (104, u "$assertionsDisabled"), (0, u "Z"), (98, .class_ 223), (1, u "java/lang/StringLatin1$LinesSpliterator"), (57, u "equals"), (0, u "([B[B)Z"), (107, .class_ 391), (0, u "java/lang/StringLatin1$CharsSpliterator")] 3

def k24m0 : Method := { name := "<init>", desc := "()V", sig := { parameters := [], returnType := none }, accessFlags := 0, code := none }
def k24c1 : Code := { maxStack := 3, maxLocals := 3, code := jdk_43_method_13_code, exceptionTable := #[], attributes := #[] }
def k24m1 : Method := { name := "equals", desc := "([B[B)Z", sig := { parameters := [(.array .byte), (.array .byte)], returnType := some .boolean }, accessFlags := 9, code := some k24c1 }
/-- java/lang/StringLatin1 -/
def k24 : Class := { plain "java/lang/StringLatin1" (some 0) with
  accessFlags := 48
  interfaces := #[]
  cf := some (fileOf pool24 14 #[.nestMembers #[390, 221]] #[{ accessFlags := 0, nameIndex := 7, descriptorIndex := 8, attributes := #[] }, { accessFlags := 9, nameIndex := 281, descriptorIndex := 282, attributes := #[] }] 48 4 #[] #[{ accessFlags := 4120, nameIndex := 121, descriptorIndex := 122, attributes := #[] }])
  fields := #[{ name := "$assertionsDisabled", type := .boolean, accessFlags := 4120, slot := 0, constantValue := 0 }]
  methods := #[k24m0, k24m1]
  instanceTypes := #[]
  staticTypes := #[.boolean]
  resolved := Array.replicate 395 none
  statics := none }

def pool25 : Array CpInfo := pool [(9, u "<init>"), (6, .class_ 18), (1, u "java/lang/Object"), (0, u "()V"), (1, .class_ 23), (1, u "jdk/internal/util/ArraysSupport"), (0, u "LOG2_ARRAY_LONG_INDEX_SCALE"), (0, u "I"), (2, u "U"), (0, u "Ljdk/internal/misc/Unsafe;"), (8, u "BIG_ENDIAN"), (0, u "Z"), (8, u "LOG2_BYTE_BIT_SIZE"), (4, u "LOG2_ARRAY_INT_INDEX_SCALE"), (54, u "JLA"), (0, u "Ljdk/internal/access/JavaLangAccess;"), (11, u "LOG2_ARRAY_BOOLEAN_INDEX_SCALE"), (9, u "LOG2_ARRAY_BYTE_INDEX_SCALE"), (5, u "LOG2_ARRAY_CHAR_INDEX_SCALE"), (5, u "LOG2_ARRAY_SHORT_INDEX_SCALE"), (18, u "LOG2_ARRAY_FLOAT_INDEX_SCALE"), (24, u "LOG2_ARRAY_DOUBLE_INDEX_SCALE"), (89, u "T_BOOLEAN"), (2, u "T_CHAR"), (1, u "T_FLOAT"), (1, u "T_DOUBLE"), (1, u "T_BYTE"), (1, u "T_SHORT"), (1, u "T_INT"), (1, u "T_LONG"), (1, u "SOFT_MAX_ARRAY_LENGTH")] 83

def k25m0 : Method := { name := "<init>", desc := "()V", sig := { parameters := [], returnType := none }, accessFlags := 2, code := none }
/-- jdk/internal/util/ArraysSupport -/
def k25 : Class := { plain "jdk/internal/util/ArraysSupport" (some 0) with
  accessFlags := 33
  interfaces := #[]
  cf := some (fileOf pool25 21 #[] #[{ accessFlags := 2, nameIndex := 9, descriptorIndex := 19, attributes := #[] }] 33 16 #[] #[{ accessFlags := 24, nameIndex := 28, descriptorIndex := 29, attributes := #[] }, { accessFlags := 26, nameIndex := 38, descriptorIndex := 39, attributes := #[] }, { accessFlags := 25, nameIndex := 121, descriptorIndex := 25, attributes := #[] }, { accessFlags := 25, nameIndex := 131, descriptorIndex := 25, attributes := #[] }, { accessFlags := 25, nameIndex := 137, descriptorIndex := 25, attributes := #[] }, { accessFlags := 25, nameIndex := 143, descriptorIndex := 25, attributes := #[] }, { accessFlags := 25, nameIndex := 53, descriptorIndex := 25, attributes := #[] }, { accessFlags := 25, nameIndex := 24, descriptorIndex := 25, attributes := #[] }, { accessFlags := 25, nameIndex := 162, descriptorIndex := 25, attributes := #[] }, { accessFlags := 25, nameIndex := 187, descriptorIndex := 25, attributes := #[] }, { accessFlags := 26, nameIndex := 48, descriptorIndex := 25, attributes := #[] }, { accessFlags := 25, nameIndex := 277, descriptorIndex := 25, attributes := #[] }, { accessFlags := 25, nameIndex := 280, descriptorIndex := 25, attributes := #[] }, { accessFlags := 25, nameIndex := 282, descriptorIndex := 25, attributes := #[] }, { accessFlags := 25, nameIndex := 284, descriptorIndex := 25, attributes := #[] }, { accessFlags := 25, nameIndex := 286, descriptorIndex := 25, attributes := #[] }, { accessFlags := 25, nameIndex := 288, descriptorIndex := 25, attributes := #[] }, { accessFlags := 25, nameIndex := 290, descriptorIndex := 25, attributes := #[] }, { accessFlags := 25, nameIndex := 292, descriptorIndex := 25, attributes := #[] }, { accessFlags := 26, nameIndex := 108, descriptorIndex := 109, attributes := #[] }, { accessFlags := 25, nameIndex := 294, descriptorIndex := 25, attributes := #[] }])
  fields := #[{ name := "U", type := (.object "jdk/internal/misc/Unsafe"), accessFlags := 24, slot := 0, constantValue := 0 }, { name := "BIG_ENDIAN", type := .boolean, accessFlags := 26, slot := 1, constantValue := 0 }, { name := "LOG2_ARRAY_BOOLEAN_INDEX_SCALE", type := .int, accessFlags := 25, slot := 2, constantValue := 0 }, { name := "LOG2_ARRAY_BYTE_INDEX_SCALE", type := .int, accessFlags := 25, slot := 3, constantValue := 0 }, { name := "LOG2_ARRAY_CHAR_INDEX_SCALE", type := .int, accessFlags := 25, slot := 4, constantValue := 0 }, { name := "LOG2_ARRAY_SHORT_INDEX_SCALE", type := .int, accessFlags := 25, slot := 5, constantValue := 0 }, { name := "LOG2_ARRAY_INT_INDEX_SCALE", type := .int, accessFlags := 25, slot := 6, constantValue := 0 }, { name := "LOG2_ARRAY_LONG_INDEX_SCALE", type := .int, accessFlags := 25, slot := 7, constantValue := 0 }, { name := "LOG2_ARRAY_FLOAT_INDEX_SCALE", type := .int, accessFlags := 25, slot := 8, constantValue := 0 }, { name := "LOG2_ARRAY_DOUBLE_INDEX_SCALE", type := .int, accessFlags := 25, slot := 9, constantValue := 0 }, { name := "LOG2_BYTE_BIT_SIZE", type := .int, accessFlags := 26, slot := 10, constantValue := 0 }, { name := "T_BOOLEAN", type := .int, accessFlags := 25, slot := 11, constantValue := 0 }, { name := "T_CHAR", type := .int, accessFlags := 25, slot := 12, constantValue := 0 }, { name := "T_FLOAT", type := .int, accessFlags := 25, slot := 13, constantValue := 0 }, { name := "T_DOUBLE", type := .int, accessFlags := 25, slot := 14, constantValue := 0 }, { name := "T_BYTE", type := .int, accessFlags := 25, slot := 15, constantValue := 0 }, { name := "T_SHORT", type := .int, accessFlags := 25, slot := 16, constantValue := 0 }, { name := "T_INT", type := .int, accessFlags := 25, slot := 17, constantValue := 0 }, { name := "T_LONG", type := .int, accessFlags := 25, slot := 18, constantValue := 0 }, { name := "JLA", type := (.object "jdk/internal/access/JavaLangAccess"), accessFlags := 26, slot := 19, constantValue := 0 }, { name := "SOFT_MAX_ARRAY_LENGTH", type := .int, accessFlags := 25, slot := 20, constantValue := 0 }]
  methods := #[k25m0]
  instanceTypes := #[]
  staticTypes := #[(.object "jdk/internal/misc/Unsafe"), .boolean, .int, .int, .int, .int, .int, .int, .int, .int, .int, .int, .int, .int, .int, .int, .int, .int, .int, (.object "jdk/internal/access/JavaLangAccess"), .int]
  resolved := Array.replicate 378 none
  statics := none }

/-- the primitive byte -/
def k26 : Class := { plain "byte" none with kind := .primitive 'B', accessFlags := 0x411 }
/-- [B -/
def k27 : Class := { plain "[B" (some 0) with kind := .array 26 .byte, interfaces := #[14, 4], accessFlags := 1041 }

/-- the primitive int -/
def k28 : Class := { plain "int" none with kind := .primitive 'I', accessFlags := 0x411 }
/-- [I -/
def k29 : Class := { plain "[I" (some 0) with kind := .array 28 .int, interfaces := #[14, 4], accessFlags := 1041 }

/-- [Lcom/example/corollary/corollary/EstimateMethod; -/
def k30 : Class := { plain "[Lcom/example/corollary/corollary/EstimateMethod;" (some 0) with kind := .array 6 (.object "com/example/corollary/corollary/EstimateMethod"), interfaces := #[14, 4], accessFlags := 1041 }

/-- [Ljava/lang/Object; -/
def k31 : Class := { plain "[Ljava/lang/Object;" (some 0) with kind := .array 0 (.object "java/lang/Object"), interfaces := #[14, 4], accessFlags := 1041 }

def heap : Heap := #[{ cls := 6, slots := #[.ref 5, .ref 6, .null, .ref 4], vm := .statics 6 },
  { cls := 15, slots := #[.long 0, .int 0, .ref 11, .ref 12], vm := .statics 15 },
  { cls := 20, slots := #[.long 0, .int 1, .null, .int 0, .null, .int 0, .int 0], vm := .statics 20 },
  { cls := 23, slots := #[.null, .null, .null], vm := .statics 23 },
  { cls := 30, slots := #[.ref 5, .ref 6], vm := .none },
  { cls := 16, slots := #[.null, .int 0, .int 0, .ref 7], vm := .none },
  { cls := 21, slots := #[.null, .int 1, .int 0, .ref 8], vm := .none },
  { cls := 20, slots := #[.ref 9, .int 0, .int 0, .int 0], vm := .none },
  { cls := 20, slots := #[.ref 10, .int 0, .int 0, .int 0], vm := .none },
  { cls := 27, slots := #[.int 115, .int 101, .int 113, .int 117, .int 101, .int 110, .int 116, .int 105, .int 97, .int 108], vm := .none },
  { cls := 27, slots := #[.int 114, .int 101, .int 102, .int 101, .int 114, .int 101, .int 110, .int 99, .int 101], vm := .none },
  { cls := 31, slots := #[], vm := .none },
  { cls := 31, slots := #[], vm := .none }]
def classes : Array Class := #[k0, k1, k2, k3, k4, k5, k6, k7, k8, k9, k10, k11, k12, k13, k14, k15, k16, k17, k18, k19, k20, k21, k22, k23, k24, k25, k26, k27, k28, k29, k30, k31]
def interned : List (Array UInt16 × Addr) := []
def slotsUsed : Nat := 55
def theMethod : MethodId := ⟨1, 1⟩
def args0 : Array Value := #[.int 5]
def aboutOver (below : List Frame) : State where
  vm := { classes := classes, interned := interned.toArray }
  heap := heap
  slotsUsed := slotsUsed
  threads := #[{ frames := .invoking theMethod args0 :: below }]
def below0 : List Frame := [.native { method := ⟨0, 0⟩, args := #[] }]
def about1 : State := aboutOver below0
def p0 : Program := .bare "" "" ""
def e0 : Env := launch0.env 0 0 0
theorem w_frames : about1.frames = Frame.invoking theMethod args0 :: below0 := rfl
set_option maxRecDepth 65536 in
theorem w_args : argsFit about1.vm theMethod args0 = true := by decide +kernel
set_option maxRecDepth 65536 in
theorem w_heap : heapFits about1 = true := by decide +kernel
set_option maxRecDepth 65536 in
theorem w_runnable : about1.curStatus? = some .runnable := by decide +kernel
set_option maxRecDepth 65536 in
theorem w_alone : about1.alone = true := by decide +kernel
set_option maxRecDepth 65536 in
theorem w_named : about1.methodNamed? x = some theMethod := by decide +kernel
set_option maxRecDepth 65536 in
theorem w_hears : about1.hears theMethod below0 = true := by decide +kernel
set_option maxRecDepth 65536 in
theorem w_ripe : about1.ripe theMethod args0 below0 = true := by decide +kernel
theorem w_running : about1.status = .running := rfl
set_option maxRecDepth 65536 in
theorem w_room : about1.hasRoom e0.platform room_1 = true :=
  launch0.hasRoom_least _ room_1 (by decide +kernel) (by decide +kernel) (by decide +kernel) (by decide +kernel) (by decide +kernel) (by decide +kernel)
theorem allAtoms_all (ts : List Jvm.Cond) (a : Array Jvm.Value) (st : Jvm.State) : (allAtoms ts).before a st = ts.all (fun c => c.before a st) := by
  induction ts with
  | nil => rfl
  | cons c t ih =>
    show (Jvm.Cond.and c (allAtoms t)).before a st = _
    rw [Jvm.Cond.before_and, ih, List.all_cons]
def words1 : List Jvm.Cond := Jvm.Cond.code x code maxLocals ret :: tables_1
/-- a 'code' word, met by the world's own term for the bytes: nothing is compared byte by byte -/
theorem code_word {y : MethodName} {bytes : ByteArray} {mx : Nat} {rt : Option FieldType} {a : Array Value} {s : State} {m : MethodId} {meth : Method} {c : Code} (h1 : s.methodNamed? y = some m) (h2 : s.vm.method? m = some meth) (h3 : meth.code = some c) (h4 : c.code = bytes)
    (h5 : (c.maxLocals == mx && c.exceptionTable.isEmpty && decide (c.maxStack ≤ mostOperands) && decide (meth.sig.returnType = rt) && !meth.locks && decide (parseMethodDescriptor y.desc = some meth.sig)) = true) : (Jvm.Cond.code y bytes mx rt).before a s = true := by
  simp only [Bool.and_eq_true, beq_iff_eq, Bool.not_eq_true', decide_eq_true_eq] at h5
  obtain ⟨⟨⟨⟨⟨g1, g2⟩, g3⟩, g4⟩, g5⟩, g6⟩ := h5
  simp [Cond.before, Cond.holds, Cond.value, h1, h2, h3, h4, g1, g2, g3, g4, g5, g6]
def isCode : Jvm.Cond → Bool
  | .code _ _ _ _ => true
  | _ => false
theorem all_split {L : List Jvm.Cond} {P : Jvm.Cond → Bool} (h1 : L.all (fun c => isCode c || P c) = true) (h2 : ∀ c ∈ L.filter isCode, P c = true) : L.all P = true := by
  refine List.all_eq_true.mpr fun c hc => ?_
  have h := List.all_eq_true.mp h1 c hc
  rcases Bool.eq_false_or_eq_true (isCode c) with hi | hi
  · exact h2 c (List.mem_filter.mpr ⟨hc, hi⟩)
  · simpa [hi] using h
set_option maxRecDepth 65536 in
theorem w_c0 : (Jvm.Cond.code x code maxLocals ret).before args0 about1 = true := code_word (m := ⟨1, 1⟩) (meth := k1m1) (c := k1c1) (by decide +kernel) rfl rfl rfl (by decide +kernel)
set_option maxRecDepth 65536 in
theorem w_c1 : (Jvm.Cond.code ({ cls := "com/example/corollary/corollary/EstimateMethod", name := "names", desc := "()Ljava/util/List;" } : Jvm.MethodName) prog_11_method_7_code (5 : Nat) (Option.some (Jvm.ClassFile.FieldType.object "java/util/List"))).before args0 about1 = true := code_word (m := ⟨6, 3⟩) (meth := k6m3) (c := k6c3) (by decide +kernel) rfl rfl rfl (by decide +kernel)
set_option maxRecDepth 65536 in
theorem w_c2 : (Jvm.Cond.code ({ cls := "java/util/ArrayList", name := "<init>", desc := "()V" } : Jvm.MethodName) jdk_38_method_2_code (1 : Nat) (Option.none : Option Jvm.ClassFile.FieldType)).before args0 about1 = true := code_word (m := ⟨15, 0⟩) (meth := k15m0) (c := k15c0) (by decide +kernel) rfl rfl rfl (by decide +kernel)
set_option maxRecDepth 65536 in
theorem w_c3 : (Jvm.Cond.code ({ cls := "java/util/AbstractList", name := "<init>", desc := "()V" } : Jvm.MethodName) jdk_39_method_1_code (1 : Nat) (Option.none : Option Jvm.ClassFile.FieldType)).before args0 about1 = true := code_word (m := ⟨12, 0⟩) (meth := k12m0) (c := k12c0) (by decide +kernel) rfl rfl rfl (by decide +kernel)
set_option maxRecDepth 65536 in
theorem w_c4 : (Jvm.Cond.code ({ cls := "java/util/AbstractCollection", name := "<init>", desc := "()V" } : Jvm.MethodName) jdk_22_method_1_code (1 : Nat) (Option.none : Option Jvm.ClassFile.FieldType)).before args0 about1 = true := code_word (m := ⟨9, 0⟩) (meth := k9m0) (c := k9c0) (by decide +kernel) rfl rfl rfl (by decide +kernel)
set_option maxRecDepth 65536 in
theorem w_c5 : (Jvm.Cond.code ({ cls := "java/lang/Object", name := "<init>", desc := "()V" } : Jvm.MethodName) object_method_1_code (1 : Nat) (Option.none : Option Jvm.ClassFile.FieldType)).before args0 about1 = true := code_word (m := ⟨0, 0⟩) (meth := k0m0) (c := k0c0) (by decide +kernel) rfl rfl rfl (by decide +kernel)
set_option maxRecDepth 65536 in
theorem w_c6 : (Jvm.Cond.code ({ cls := "com/example/corollary/corollary/EstimateMethod", name := "values", desc := "()[Lcom/example/corollary/corollary/EstimateMethod;" } : Jvm.MethodName) prog_11_method_1_code (0 : Nat) (Option.some (Jvm.ClassFile.FieldType.array (Jvm.ClassFile.FieldType.object "com/example/corollary/corollary/EstimateMethod")))).before args0 about1 = true := code_word (m := ⟨6, 0⟩) (meth := k6m0) (c := k6c0) (by decide +kernel) rfl rfl rfl (by decide +kernel)
set_option maxRecDepth 65536 in
theorem w_c7 : (Jvm.Cond.code ({ cls := "java/util/ArrayList", name := "add", desc := "(Ljava/lang/Object;)Z" } : Jvm.MethodName) jdk_38_method_25_code (2 : Nat) (Option.some Jvm.ClassFile.FieldType.boolean)).before args0 about1 = true := code_word (m := ⟨15, 7⟩) (meth := k15m7) (c := k15c7) (by decide +kernel) rfl rfl rfl (by decide +kernel)
set_option maxRecDepth 65536 in
theorem w_c8 : (Jvm.Cond.code ({ cls := "java/util/ArrayList", name := "add", desc := "(Ljava/lang/Object;[Ljava/lang/Object;I)V" } : Jvm.MethodName) jdk_38_method_24_code (4 : Nat) (Option.none : Option Jvm.ClassFile.FieldType)).before args0 about1 = true := code_word (m := ⟨15, 6⟩) (meth := k15m6) (c := k15c6) (by decide +kernel) rfl rfl rfl (by decide +kernel)
set_option maxRecDepth 65536 in
theorem w_c9 : (Jvm.Cond.code ({ cls := "java/util/ArrayList", name := "grow", desc := "()[Ljava/lang/Object;" } : Jvm.MethodName) jdk_38_method_7_code (1 : Nat) (Option.some (Jvm.ClassFile.FieldType.array (Jvm.ClassFile.FieldType.object "java/lang/Object")))).before args0 about1 = true := code_word (m := ⟨15, 2⟩) (meth := k15m2) (c := k15c2) (by decide +kernel) rfl rfl rfl (by decide +kernel)
set_option maxRecDepth 65536 in
theorem w_c10 : (Jvm.Cond.code ({ cls := "java/util/ArrayList", name := "grow", desc := "(I)[Ljava/lang/Object;" } : Jvm.MethodName) jdk_38_method_6_code (4 : Nat) (Option.some (Jvm.ClassFile.FieldType.array (Jvm.ClassFile.FieldType.object "java/lang/Object")))).before args0 about1 = true := code_word (m := ⟨15, 1⟩) (meth := k15m1) (c := k15c1) (by decide +kernel) rfl rfl rfl (by decide +kernel)
set_option maxRecDepth 65536 in
theorem w_c11 : (Jvm.Cond.code ({ cls := "java/lang/Math", name := "max", desc := "(II)I" } : Jvm.MethodName) jdk_29_method_65_code (2 : Nat) (Option.some Jvm.ClassFile.FieldType.int)).before args0 about1 = true := code_word (m := ⟨17, 1⟩) (meth := k17m1) (c := k17c1) (by decide +kernel) rfl rfl rfl (by decide +kernel)
set_option maxRecDepth 65536 in
theorem w_c12 : (Jvm.Cond.code ({ cls := "java/util/ArrayList", name := "size", desc := "()I" } : Jvm.MethodName) jdk_38_method_8_code (1 : Nat) (Option.some Jvm.ClassFile.FieldType.int)).before args0 about1 = true := code_word (m := ⟨15, 3⟩) (meth := k15m3) (c := k15c3) (by decide +kernel) rfl rfl rfl (by decide +kernel)
set_option maxRecDepth 65536 in
theorem w_c13 : (Jvm.Cond.code ({ cls := "java/util/ArrayList", name := "get", desc := "(I)Ljava/lang/Object;" } : Jvm.MethodName) jdk_38_method_20_code (2 : Nat) (Option.some (Jvm.ClassFile.FieldType.object "java/lang/Object"))).before args0 about1 = true := code_word (m := ⟨15, 5⟩) (meth := k15m5) (c := k15c5) (by decide +kernel) rfl rfl rfl (by decide +kernel)
set_option maxRecDepth 65536 in
theorem w_c14 : (Jvm.Cond.code ({ cls := "java/util/Objects", name := "checkIndex", desc := "(II)I" } : Jvm.MethodName) jdk_31_method_17_code (2 : Nat) (Option.some Jvm.ClassFile.FieldType.int)).before args0 about1 = true := code_word (m := ⟨22, 1⟩) (meth := k22m1) (c := k22c1) (by decide +kernel) rfl rfl rfl (by decide +kernel)
set_option maxRecDepth 65536 in
theorem w_c15 : (Jvm.Cond.code ({ cls := "jdk/internal/util/Preconditions", name := "checkIndex", desc := "(IILjava/util/function/BiFunction;)I" } : Jvm.MethodName) jdk_41_method_11_code (3 : Nat) (Option.some Jvm.ClassFile.FieldType.int)).before args0 about1 = true := code_word (m := ⟨23, 1⟩) (meth := k23m1) (c := k23c1) (by decide +kernel) rfl rfl rfl (by decide +kernel)
set_option maxRecDepth 65536 in
theorem w_c16 : (Jvm.Cond.code ({ cls := "java/util/ArrayList", name := "elementData", desc := "(I)Ljava/lang/Object;" } : Jvm.MethodName) jdk_38_method_18_code (2 : Nat) (Option.some (Jvm.ClassFile.FieldType.object "java/lang/Object"))).before args0 about1 = true := code_word (m := ⟨15, 4⟩) (meth := k15m4) (c := k15c4) (by decide +kernel) rfl rfl rfl (by decide +kernel)
set_option maxRecDepth 65536 in
theorem w_c17 : (Jvm.Cond.code ({ cls := "java/lang/String", name := "equals", desc := "(Ljava/lang/Object;)Z" } : Jvm.MethodName) jdk_42_method_66_code (3 : Nat) (Option.some Jvm.ClassFile.FieldType.boolean)).before args0 about1 = true := code_word (m := ⟨20, 1⟩) (meth := k20m1) (c := k20c1) (by decide +kernel) rfl rfl rfl (by decide +kernel)
set_option maxRecDepth 65536 in
theorem w_c18 : (Jvm.Cond.code ({ cls := "java/lang/StringLatin1", name := "equals", desc := "([B[B)Z" } : Jvm.MethodName) jdk_43_method_13_code (3 : Nat) (Option.some Jvm.ClassFile.FieldType.boolean)).before args0 about1 = true := code_word (m := ⟨24, 1⟩) (meth := k24m1) (c := k24c1) (by decide +kernel) rfl rfl rfl (by decide +kernel)
set_option maxRecDepth 65536 in
theorem w_c19 : (Jvm.Cond.code ({ cls := "com/example/corollary/corollary/EstimateMethod", name := "toString", desc := "()Ljava/lang/String;" } : Jvm.MethodName) prog_11_method_5_code (1 : Nat) (Option.some (Jvm.ClassFile.FieldType.object "java/lang/String"))).before args0 about1 = true := code_word (m := ⟨6, 1⟩) (meth := k6m1) (c := k6c1) (by decide +kernel) rfl rfl rfl (by decide +kernel)
set_option maxRecDepth 65536 in
theorem w_c20 : (Jvm.Cond.code ({ cls := "com/example/corollary/corollary/EstimateMethod", name := "named", desc := "(Ljava/lang/String;)Lcom/example/corollary/corollary/EstimateMethod;" } : Jvm.MethodName) prog_11_method_6_code (5 : Nat) (Option.some (Jvm.ClassFile.FieldType.object "com/example/corollary/corollary/EstimateMethod"))).before args0 about1 = true := code_word (m := ⟨6, 2⟩) (meth := k6m2) (c := k6c2) (by decide +kernel) rfl rfl rfl (by decide +kernel)
def codes1 : List Jvm.Cond := [Jvm.Cond.code x code maxLocals ret, Jvm.Cond.code ({ cls := "com/example/corollary/corollary/EstimateMethod", name := "names", desc := "()Ljava/util/List;" } : Jvm.MethodName) prog_11_method_7_code (5 : Nat) (Option.some (Jvm.ClassFile.FieldType.object "java/util/List")), Jvm.Cond.code ({ cls := "java/util/ArrayList", name := "<init>", desc := "()V" } : Jvm.MethodName) jdk_38_method_2_code (1 : Nat) (Option.none : Option Jvm.ClassFile.FieldType), Jvm.Cond.code ({ cls := "java/util/AbstractList", name := "<init>", desc := "()V" } : Jvm.MethodName) jdk_39_method_1_code (1 : Nat) (Option.none : Option Jvm.ClassFile.FieldType), Jvm.Cond.code ({ cls := "java/util/AbstractCollection", name := "<init>", desc := "()V" } : Jvm.MethodName) jdk_22_method_1_code (1 : Nat) (Option.none : Option Jvm.ClassFile.FieldType), Jvm.Cond.code ({ cls := "java/lang/Object", name := "<init>", desc := "()V" } : Jvm.MethodName) object_method_1_code (1 : Nat) (Option.none : Option Jvm.ClassFile.FieldType), Jvm.Cond.code ({ cls := "com/example/corollary/corollary/EstimateMethod", name := "values", desc := "()[Lcom/example/corollary/corollary/EstimateMethod;" } : Jvm.MethodName) prog_11_method_1_code (0 : Nat) (Option.some (Jvm.ClassFile.FieldType.array (Jvm.ClassFile.FieldType.object "com/example/corollary/corollary/EstimateMethod"))), Jvm.Cond.code ({ cls := "java/util/ArrayList", name := "add", desc := "(Ljava/lang/Object;)Z" } : Jvm.MethodName) jdk_38_method_25_code (2 : Nat) (Option.some Jvm.ClassFile.FieldType.boolean), Jvm.Cond.code ({ cls := "java/util/ArrayList", name := "add", desc := "(Ljava/lang/Object;[Ljava/lang/Object;I)V" } : Jvm.MethodName) jdk_38_method_24_code (4 : Nat) (Option.none : Option Jvm.ClassFile.FieldType), Jvm.Cond.code ({ cls := "java/util/ArrayList", name := "grow", desc := "()[Ljava/lang/Object;" } : Jvm.MethodName) jdk_38_method_7_code (1 : Nat) (Option.some (Jvm.ClassFile.FieldType.array (Jvm.ClassFile.FieldType.object "java/lang/Object"))), Jvm.Cond.code ({ cls := "java/util/ArrayList", name := "grow", desc := "(I)[Ljava/lang/Object;" } : Jvm.MethodName) jdk_38_method_6_code (4 : Nat) (Option.some (Jvm.ClassFile.FieldType.array (Jvm.ClassFile.FieldType.object "java/lang/Object"))), Jvm.Cond.code ({ cls := "java/lang/Math", name := "max", desc := "(II)I" } : Jvm.MethodName) jdk_29_method_65_code (2 : Nat) (Option.some Jvm.ClassFile.FieldType.int), Jvm.Cond.code ({ cls := "java/util/ArrayList", name := "size", desc := "()I" } : Jvm.MethodName) jdk_38_method_8_code (1 : Nat) (Option.some Jvm.ClassFile.FieldType.int), Jvm.Cond.code ({ cls := "java/util/ArrayList", name := "get", desc := "(I)Ljava/lang/Object;" } : Jvm.MethodName) jdk_38_method_20_code (2 : Nat) (Option.some (Jvm.ClassFile.FieldType.object "java/lang/Object")), Jvm.Cond.code ({ cls := "java/util/Objects", name := "checkIndex", desc := "(II)I" } : Jvm.MethodName) jdk_31_method_17_code (2 : Nat) (Option.some Jvm.ClassFile.FieldType.int), Jvm.Cond.code ({ cls := "jdk/internal/util/Preconditions", name := "checkIndex", desc := "(IILjava/util/function/BiFunction;)I" } : Jvm.MethodName) jdk_41_method_11_code (3 : Nat) (Option.some Jvm.ClassFile.FieldType.int), Jvm.Cond.code ({ cls := "java/util/ArrayList", name := "elementData", desc := "(I)Ljava/lang/Object;" } : Jvm.MethodName) jdk_38_method_18_code (2 : Nat) (Option.some (Jvm.ClassFile.FieldType.object "java/lang/Object")), Jvm.Cond.code ({ cls := "java/lang/String", name := "equals", desc := "(Ljava/lang/Object;)Z" } : Jvm.MethodName) jdk_42_method_66_code (3 : Nat) (Option.some Jvm.ClassFile.FieldType.boolean), Jvm.Cond.code ({ cls := "java/lang/StringLatin1", name := "equals", desc := "([B[B)Z" } : Jvm.MethodName) jdk_43_method_13_code (3 : Nat) (Option.some Jvm.ClassFile.FieldType.boolean), Jvm.Cond.code ({ cls := "com/example/corollary/corollary/EstimateMethod", name := "toString", desc := "()Ljava/lang/String;" } : Jvm.MethodName) prog_11_method_5_code (1 : Nat) (Option.some (Jvm.ClassFile.FieldType.object "java/lang/String")), Jvm.Cond.code ({ cls := "com/example/corollary/corollary/EstimateMethod", name := "named", desc := "(Ljava/lang/String;)Lcom/example/corollary/corollary/EstimateMethod;" } : Jvm.MethodName) prog_11_method_6_code (5 : Nat) (Option.some (Jvm.ClassFile.FieldType.object "com/example/corollary/corollary/EstimateMethod"))]
set_option maxRecDepth 65536 in
theorem codes_eq : words1.filter isCode = codes1 := rfl
theorem w_codes : ∀ c ∈ words1.filter isCode, c.before args0 about1 = true := by
  rw [codes_eq]
  intro c hc
  simp only [codes1, List.mem_cons, List.not_mem_nil, or_false] at hc
  rcases hc with rfl | rfl | rfl | rfl | rfl | rfl | rfl | rfl | rfl | rfl | rfl | rfl | rfl | rfl | rfl | rfl | rfl | rfl | rfl | rfl | rfl
  · exact w_c0
  · exact w_c1
  · exact w_c2
  · exact w_c3
  · exact w_c4
  · exact w_c5
  · exact w_c6
  · exact w_c7
  · exact w_c8
  · exact w_c9
  · exact w_c10
  · exact w_c11
  · exact w_c12
  · exact w_c13
  · exact w_c14
  · exact w_c15
  · exact w_c16
  · exact w_c17
  · exact w_c18
  · exact w_c19
  · exact w_c20
set_option maxRecDepth 65536 in
theorem w_t1 : (words1.take 24).all (fun c => isCode c || c.before args0 about1) = true := by decide +kernel
set_option maxRecDepth 65536 in
theorem w_t2 : ((words1.drop 24).take 24).all (fun c => isCode c || c.before args0 about1) = true := by decide +kernel
set_option maxRecDepth 65536 in
theorem w_t3 : (((words1.drop 24).drop 24).take 24).all (fun c => isCode c || c.before args0 about1) = true := by decide +kernel
set_option maxRecDepth 65536 in
theorem w_t4 : ((((words1.drop 24).drop 24).drop 24).take 24).all (fun c => isCode c || c.before args0 about1) = true := by decide +kernel
set_option maxRecDepth 65536 in
theorem w_t5 : (((((words1.drop 24).drop 24).drop 24).drop 24).take 24).all (fun c => isCode c || c.before args0 about1) = true := by decide +kernel
set_option maxRecDepth 65536 in
theorem w_t6 : ((((((words1.drop 24).drop 24).drop 24).drop 24).drop 24).take 24).all (fun c => isCode c || c.before args0 about1) = true := by decide +kernel
set_option maxRecDepth 65536 in
theorem w_t7 : ((((((words1.drop 24).drop 24).drop 24).drop 24).drop 24).drop 24).all (fun c => isCode c || c.before args0 about1) = true := by decide +kernel
theorem w_tables : (allAtoms (Jvm.Cond.code x code maxLocals ret :: tables_1)).before args0 about1 = true := by
  rw [allAtoms_all]
  show words1.all (fun c => c.before args0 about1) = true
  refine all_split ?_ w_codes
  rw [← List.take_append_drop 24 words1, List.all_append, w_t1, ← List.take_append_drop 24 (words1.drop 24), List.all_append, w_t2, ← List.take_append_drop 24 ((words1.drop 24).drop 24), List.all_append, w_t3, ← List.take_append_drop 24 (((words1.drop 24).drop 24).drop 24), List.all_append, w_t4, ← List.take_append_drop 24 ((((words1.drop 24).drop 24).drop 24).drop 24), List.all_append, w_t5, ← List.take_append_drop 24 (((((words1.drop 24).drop 24).drop 24).drop 24).drop 24), List.all_append, w_t6, w_t7]
  rfl
set_option maxRecDepth 65536 in
theorem w_rest : rest_1_c.before args0 about1 = true := by decide +kernel
set_option maxRecDepth 65536 in
theorem w_case : (Jvm.Cond.and given_1 narrow_1).before args0 about1 = true := by decide +kernel
set_option maxRecDepth 65536 in
theorem w_consts : constsHeld consts_1 about1 := Jvm.Lit.constsHeldB_iff.mp (by decide +kernel)
theorem w_applies : (headSpec (Jvm.Cond.code x code maxLocals ret :: tables_1) room_1).applies x e0.platform about1 = true :=
  (Spec.applies_iff w_frames).mpr ⟨w_running, w_runnable, w_alone, w_named, w_hears, w_ripe, w_room, w_tables⟩
theorem atStart : AtStart classFile x code maxLocals ret World_1 tables_1 room_1 Calls_1 rest_1 Pre_1 launch0 p0 e0 about1 theMethod args0 below0 :=
  ⟨lists_1, trivial, launch0.admits_env _ _ _, launch0.least_env, fairChoices_fair.cas, fairChoices_fair.clock, w_frames, w_args, w_heap, w_applies, ⟨w_consts, trivial⟩, w_rest, w_case⟩
end start1
theorem witness_1 : WitnessClaimed_1 := ⟨start1.p0, start1.e0, start1.about1, start1.theMethod, start1.args0, start1.below0, start1.atStart⟩
end Jvm.Pilot.@@N@@
