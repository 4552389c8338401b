import JvmDerived
import JvmDerived.Pilot.@@N@@Statement
import JvmDerived.Pilot.@@N@@Code
set_option linter.unusedVariables false
set_option linter.unusedSimpArgs false
@@BLOCK:NumsL.lean.txt@@
namespace Jvm.RoadKit
open Sem ClassFile Op Lib Jvm.Stand Jvm.Free Jvm.LawKit
section New
variable {p : Program} {l : Launch} {e : Env} {R : Room} {s : State} {m : MethodId} {args : Array Value} {below : List Frame} {meth : Method} {c : Code} {T : State} {locs : List Loc} {cells slots : Nat}
theorem retI (X : Stand p l e R s m args below meth c T locs cells slots) (hx : p.tables.exec = Jvm.exec) {pc : Nat} {Ls : Array Slot} {z : Int32} {rest : List Value} (hret : meth.sig.returnType = some .int) (hd : decode c.code pc = .ok (.ireturn, 1)) {fs : List Frame}
    (hl : ∀ (f : JFrame) (acts : List Action), f.method = m → f.locked = none → f.entered = [] → (doReturn e (T.setTop f) acts (some (.int z))).1 = T.setFrames fs) : Steps p.tables e below (T.setTop (mkF m pc Ls (.int z :: rest))) (T.setFrames fs) := by
  have hm' : T.vm.method? m = some meth := X.method'
  have hn : narrow .int (.int z) = .int z := rfl
  show Steps p.tables e below (T.setTop { method := m, pc := pc, locals := Ls, stack := _ :: rest, locked := none }) _
  jvm_step X.here [X.here.top, hx, hd, hm', hret, hn]
  first | (intro acts; rw [hl _ acts rfl rfl rfl]) | rw [hl _ _ rfl rfl rfl]
  exact Steps.refl _
end New
end Jvm.RoadKit
namespace Jvm.Pilot.@@N@@
open Jvm Jvm.ClassFile Sem Op Lib Jvm.Free Jvm.Stand Jvm.LawKit Jvm.RoadKit Bundle Jvm.Pilot.@@N@@.Jvm.D
/-- a step ahead of a run that ends -/
theorem own_go {p : Program} {e : Env} {below : List Frame} {P : State → Outcome → Prop} {a b : State} (h : ∀ t, Steps p.tables e below b t → Steps p.tables e below a t) (k : ∃ s₂ o, Steps p.tables e below b s₂ ∧ P s₂ o) : ∃ s₂ o, Steps p.tables e below a s₂ ∧ P s₂ o := by
  obtain ⟨t, o, h1, h2⟩ := k; exact ⟨t, o, h t h1, h2⟩
theorem own_min (q : Int64) : (if (9223372036854775775 : Int64) < q then (9223372036854775775 : Int64) else q).toInt ≤ 9223372036854775775 := by
  have e : (9223372036854775775 : Int64).toInt = 9223372036854775775 := rfl
  split
  · rw [e]; exact Int.le_refl _
  · rename_i h
    rw [Int64.lt_iff_toInt_lt, e] at h
    omega
theorem own_mk (x m : Int32) {k : Nat} (hk : k < 32) (hm : m.toBitVec.toNat = 2 ^ k - 1) : ((x &&& m).toInt64).toInt = x.toInt % 2 ^ k := by
  rw [Int32.toInt_toInt64]; exact Jvm.Kit.i32_mask x m hk hm
theorem own_add (o : Int64) (x : Int32) (h : o.toInt ≤ 9223372036854775795) : o.toInt ≤ (o + ((x &&& (3 : Int32)).toInt64)).toInt ∧ (o + ((x &&& (3 : Int32)).toInt64)).toInt ≤ o.toInt + 3 := by
  have e := own_mk x 3 (k := 2) (by decide) (by decide)
  have b := o.le_toInt
  have s : (o + ((x &&& (3 : Int32)).toInt64)).toInt = o.toInt + ((x &&& (3 : Int32)).toInt64).toInt := Jvm.Kit.i64_add (by omega) (by omega)
  omega
theorem own_q (o : Int64) (z : Int32) (h : o.toInt ≤ 9223372036854775775) : o.toInt ≤ (if (z &&& (16 : Int32)) = (0 : Int32) then (o + ((z &&& (15 : Int32)).toInt64)) else (9223372036854775807 : Int64)).toInt := by
  split
  · have e := own_mk z 15 (k := 4) (by decide) (by decide)
    have b := o.le_toInt
    have s : (o + ((z &&& (15 : Int32)).toInt64)).toInt = o.toInt + ((z &&& (15 : Int32)).toInt64).toInt := Jvm.Kit.i64_add (by omega) (by omega)
    omega
  · have e : (9223372036854775807 : Int64).toInt = 9223372036854775807 := rfl
    omega
theorem own_ge {o q : Int64} (h : o.toInt ≤ q.toInt) : ¬ q < o := by
  rw [Int64.lt_iff_toInt_lt]; omega
theorem own_fldJ {args : Array Value} {s : State} {t : Term} {C n d : String} {k : Int64} {x : Addr} (h : (Jvm.Cond.eq (Jvm.Term.field t C n d) (Jvm.Term.long k)).value args s none s [] = some true) (e : t.eval args s none [] s = some (.ref x)) : Fld s s.heap x C n d (.long k) :=
  Fld.start ((fld_at e).symm.trans (eqv_l (F := Jvm.Term.long k) rfl h))
theorem own_staKeep {Z : State} {h h' : Heap} {C n d K : String} {w : Value} {a : Addr} (F : Sta Z h C n d w) (E : Exa Z h a K) (Kp : Keep h h' [a]) : Sta Z h' C n d w := by
  obtain ⟨cf, i, k, f, st, cell, h1, h2, h3, h4, h5, h6, h7⟩ := F
  refine ⟨cf, i, k, f, st, cell, h1, h2, h3, h4, Kp.2.1 st cell h5 ?_, h6, h7⟩
  intro q
  cases List.mem_singleton.mp q
  obtain ⟨c2, k2, e1, -, -, e4, -⟩ := E
  cases h5.symm.trans e1
  rw [h6] at e4
  cases e4
theorem own_selPriv {s : State} {args : Array Value} {y z : MethodName} (hcls : z.cls = y.cls) (hi : (Cond.instanceMethod y).before args s = true) (hpriv : s.PrivateAt y) (hz : (Cond.selects z.cls z z).before args s = true) (hy : y.cls ≠ "java/lang/invoke/MethodHandle" ∧ y.cls ≠ "java/lang/invoke/VarHandle") : (Cond.selects y.cls y y).before args s = true := by
  obtain ⟨c2, r2, m2, z1, -, z3, -, kP, hkP, hkPi⟩ := Cond.selects_spec hz
  have hcz := findClass_of_methodNamed z3
  rw [hcls] at hcz
  exact selects_self_of_private hcz hkP hkPi hpriv hi hy
section Refs
variable {p : Program} {l : Launch} {e : Env} {R : Room} {s : State} {m : MethodId} {args : Array Value} {below : List Frame} {meth : Method} {c : Code} {T : State} {locs : List Loc} {cells slots : Nat} {Z : State} {a0 : Array Value} {h : Heap}
/-- getfield of an entry that has been resolved -/
theorem own_getRef (X : Stand p l e R s m args below meth c T locs cells slots) (hx : p.tables.exec = Jvm.exec) (hZ : Z.Warmed39 s.vm) {own R0 n d : String} {index : Nat} (hown : s.vm.findClass own = some m.cls) (w : (Cond.fieldRef own index R0 n d).before a0 Z = true) (eT : T.heap = h) {a : Addr} {v : Value} (F : Fld Z h a R0 n d v) {g : JFrame} (hg : g.method = m) {rest : List Value} (hs : g.stack = .ref a :: rest) (hd : decode c.code g.pc = .ok (.getfield index, 3)) :
    ∀ target, Steps p.tables e below (T.setTop { g with pc := g.pc + 3, stack := v :: rest }) target → Steps p.tables e below (T.setTop g) target := by
  obtain ⟨cell, cf, k, i, f, h1, h2, h3, h4, -, -, h7⟩ := F
  have hT : Z.Warmed39 T.vm := wtrans hZ X.warmed
  have w' : (Cond.fieldRef own index R0 n d).before a0 (Z.setVm T.vm) = true := Cond.fieldRef_warmed39 hT w
  have hc : (Z.setVm T.vm).vm.findClass own = some m.cls := by
    show T.vm.findClass own = _
    rw [X.warmed.alike.findClass]; exact hown
  obtain ⟨c', k', i', f', q1, q2⟩ := Cond.fieldRef_spec hc w'
  obtain ⟨k2, e1, -⟩ := State.fieldFound?_setVm (s := Z) hT.alike h2
  cases q1.symm.trans e1
  intro target hr
  subst hg
  jvm_step X.here [hx, hd, getfield.wp_ready (e := e) (s := T) (f := g) X.here.top q2 h3 hs (by rw [eT]; exact h1) h4 h7]
  exact hr
/-- a constructor by its contract, its entry resolved -/
theorem own_specialRef (X : Stand p l e R s m args below meth c T locs cells slots) (hx : p.tables.exec = Jvm.exec) (hZ : Z.Warmed39 s.vm) {own : String} {index : Nat} {y : MethodName} (hy1 : y.name = "<init>") (hown : s.vm.findClass own = some m.cls) (w : (Cond.methodRef own index y).before a0 Z = true) (hinst : (Cond.instanceMethod y).before args s = true)
    {bytes : ByteArray} {maxL : Nat} (hcode : (Cond.code y bytes maxL none).before args s = true) (hy : y.cls ≠ "java/lang/invoke/MethodHandle" ∧ y.cls ≠ "java/lang/invoke/VarHandle")
    {W : Nat} {Pre : Pt → Array Value → Prop} {Post : Pt → Array Value → Option Value → Pt → Prop} (hK : Back l R p e below s args y 3 W Pre Post)
    {g : JFrame} (hg : g.method = m) (hsize : g.locals.size = c.maxLocals) {a : Addr} {argsL rest : List Value}
    (hlen : ∀ sig, parseMethodDescriptor y.desc = some sig → argsL.length = sig.parameters.length) (hstack : g.stack = argsL.reverse ++ .ref a :: rest) (hW : 2 * g.monitorRoom + (rest.map fun v => v.category).sum ≤ W)
    (hdg : decode c.code g.pc = .ok (.invokespecial index, 3)) (hpre : ∀ vm₁, s.WarmedH vm₁ → Pre ⟨T.setVm vm₁, locs, cells, slots⟩ (.ref a :: argsL).toArray) :
    ∃ (v : Option Value) (vm₁ : Vm) (B : Pt), s.WarmedH vm₁ ∧ Stand p l e R s m args below meth c B.U B.locs B.cells B.slots ∧ Post ⟨T.setVm vm₁, locs, cells, slots⟩ (.ref a :: argsL).toArray v B ∧
      Steps p.tables e below (T.setTop g) (B.U.setTop { g with pc := g.pc + 3, stack := v.toList ++ rest }) := by
  obtain ⟨mk, methM, hnamed, hmethM, hst, hab⟩ := Cond.instanceMethod_spec hinst
  obtain ⟨methM', cM, hmethM', -, -, -, -, -, -, hsigM⟩ := Cond.code_spec hnamed hcode
  cases hmethM.symm.trans hmethM'
  obtain ⟨hnameM, hdescM⟩ := name_of_methodNamed hnamed hmethM
  obtain ⟨kM, hkM, -⟩ := className_of_methodNamed hnamed
  have hT : Z.Warmed39 T.vm := wtrans hZ X.warmed
  have hnZ : Z.methodNamed? y = some mk := (State.methodNamed?_setVm (s := Z) hZ.alike y).symm.trans hnamed
  have hnT : (Z.setVm T.vm).methodNamed? y = some mk := (State.methodNamed?_setVm (s := Z) hT.alike y).trans hnZ
  have w' := Cond.methodRef_warmed39 hT hnZ hy w
  have hc : (Z.setVm T.vm).vm.findClass own = some m.cls := by
    show T.vm.findClass own = _
    rw [X.warmed.alike.findClass]; exact hown
  obtain ⟨m1, c1, hf, hready, hfind, hres⟩ := Cond.methodRef_named e hc w'
  cases hf.symm.trans (State.methodFound?_of_named hnT hy)
  cases hfind.symm.trans (findClass_of_methodNamed hnT)
  obtain ⟨kT, hkT, -⟩ := X.warmed.alike.2.2 _ _ hkM
  have hmT : T.vm.method? mk = some methM := by rw [X.warmed.alike.method?]; exact hmethM
  have hfound : lookupSpecial T.vm mk.cls "<init>" methM.desc = .method mk := by
    rw [X.warmed.alike.lookupSpecial, hdescM, ← hy1]; exact lookupSpecial_of_named hnamed hmethM hst
  have X₁ : Stand p l e R s m args below meth c (T.setVm T.vm) locs cells slots := X
  obtain ⟨v, B, X', hpost, hsteps⟩ := hK m meth c ⟨T.setVm T.vm, locs, cells, slots⟩ { g with stack := rest } (.invokespecial index) mk (.ref a :: argsL).toArray X₁ hg hsize hdg hW (X₁.named hnamed) (hpre T.vm X.warmed)
  refine ⟨v, T.vm, B, X.warmed, X', hpost, Steps.trans ?_ hsteps⟩
  subst hg
  jvm_step X.here [hx, hdg, invokespecial.wp_init (e := e) (s := T) (k := kT) (meth := methM) (m := mk) (a := a) (args := argsL) (rest := rest) (f := g) X.here.top hres hready hkT hmT (by rw [hnameM]; exact hy1) hst hab hfound (hlen _ hsigM) hstack]
  intro acts
  rw [doInvoke_state]
  exact Steps.refl _
end Refs
theorem own_pd0 : parseMethodDescriptor "(JJLcom/example/tandem_ledger/tandemledger/Reserve;Lcom/example/tandem_ledger/tandemledger/Chain;Lcom/example/tandem_ledger/tandemledger/Account$Version;)V" = some ⟨[.long, .long, (.object "com/example/tandem_ledger/tandemledger/Reserve"), (.object "com/example/tandem_ledger/tandemledger/Chain"), (.object "com/example/tandem_ledger/tandemledger/Account$Version")], none⟩ := by decide +kernel
theorem own_pd1 : parseMethodDescriptor "(Ljava/lang/String;ZJJJLcom/example/tandem_ledger/tandemledger/Reserve;Lcom/example/tandem_ledger/tandemledger/Chain;)V" = some ⟨[(.object "java/lang/String"), .boolean, .long, .long, .long, (.object "com/example/tandem_ledger/tandemledger/Reserve"), (.object "com/example/tandem_ledger/tandemledger/Chain")], none⟩ := by decide +kernel
theorem own_pd2 : parseMethodDescriptor "()J" = some ⟨[], some .long⟩ := by decide +kernel
theorem own_pd3 : parseMethodDescriptor "(JJLcom/example/tandem_ledger/tandemledger/Reserve;Lcom/example/tandem_ledger/tandemledger/Chain;Ljava/util/function/LongSupplier;)V" = some ⟨[.long, .long, (.object "com/example/tandem_ledger/tandemledger/Reserve"), (.object "com/example/tandem_ledger/tandemledger/Chain"), (.object "java/util/function/LongSupplier")], none⟩ := by decide +kernel
theorem own_pd4 : parseMethodDescriptor "(JJ)J" = some ⟨[.long, .long], some .long⟩ := by decide +kernel
theorem own_pd5 : parseMethodDescriptor "(Ljava/lang/String;ZJJ)V" = some ⟨[(.object "java/lang/String"), .boolean, .long, .long], none⟩ := by decide +kernel
theorem own_pd6 : parseMethodDescriptor "(JJJZLjava/util/function/LongSupplier;)V" = some ⟨[.long, .long, .long, .boolean, (.object "java/util/function/LongSupplier")], none⟩ := by decide +kernel
theorem own_pd7 : parseMethodDescriptor "(J)Lcom/example/tandem_ledger/tandemledger/Account$Version;" = some ⟨[.long], some (.object "com/example/tandem_ledger/tandemledger/Account$Version")⟩ := by decide +kernel
theorem own_pn0 : plainName "com/example/tandem_ledger/tandemledger/Account$Version" = true := by first | (simp [plainName, overriddenIn]; done) | decide +kernel
theorem own_pn1 : plainName "com/example/tandem_ledger/tandemledger/Account" = true := by first | (simp [plainName, overriddenIn]; done) | decide +kernel
theorem own_pn2 : plainName "com/example/tandem_ledger/tandemledger/Chain" = true := by first | (simp [plainName, overriddenIn]; done) | decide +kernel
theorem own_pn3 : plainName "com/example/tandem_ledger/tandemledger/AccountAtPinLaw" = true := by first | (simp [plainName, overriddenIn]; done) | decide +kernel
theorem own_atoms {Z : State} {a0 : Array Value} (hw : ∀ d ∈ tables_1, d.before a0 Z = true) : ∀ a ∈ Bundle.stringAtoms, a.before a0 Z = true := by
  intro d hd
  simp only [Bundle.stringAtoms, Bundle.sN, List.mem_cons, List.not_mem_nil, or_false] at hd
  rcases hd with rfl | rfl | rfl | rfl | rfl | rfl | rfl
  · exact (hw _ (List.mem_of_getElem? (i := 9) rfl))
  · exact (hw _ (List.mem_of_getElem? (i := 10) rfl))
  · exact (hw _ (List.mem_of_getElem? (i := 11) rfl))
  · exact (hw _ (List.mem_of_getElem? (i := 12) rfl))
  · exact (hw _ (List.mem_of_getElem? (i := 13) rfl))
  · exact (hw _ (List.mem_of_getElem? (i := 14) rfl))
  · exact (hw _ (List.mem_of_getElem? (i := 15) rfl))
def own_QJ (r : Int64) (h0 : Heap) (n0 : Nat) (v : Option Value) (h : Heap) (L : List Loc) : Prop := v = some (.long r) ∧ Fr n0 L ∧ h = h0
def own_QR (r : Addr) (h0 : Heap) (n0 : Nat) (v : Option Value) (h : Heap) (L : List Loc) : Prop := v = some (.ref r) ∧ Fr n0 L ∧ h = h0
theorem d_own_rmMin_0 : decode jdk_29_method_70_code 0 = .ok (.lload_n 0, 1) := by decide +kernel
theorem d_own_rmMin_1 : decode jdk_29_method_70_code 1 = .ok (.lload_n 2, 1) := by decide +kernel
theorem d_own_rmMin_2 : decode jdk_29_method_70_code 2 = .ok (.lcmp, 1) := by decide +kernel
theorem d_own_rmMin_3 : decode jdk_29_method_70_code 3 = .ok (.ifCond .gt 7, 3) := by decide +kernel
theorem d_own_rmMin_6 : decode jdk_29_method_70_code 6 = .ok (.lload_n 0, 1) := by decide +kernel
theorem d_own_rmMin_7 : decode jdk_29_method_70_code 7 = .ok (.goto 4, 3) := by decide +kernel
theorem d_own_rmMin_10 : decode jdk_29_method_70_code 10 = .ok (.lload_n 2, 1) := by decide +kernel
theorem d_own_rmMin_11 : decode jdk_29_method_70_code 11 = .ok (.lreturn, 1) := by decide +kernel
theorem ef_own_rmMin (m : MethodId) (x0 : Int64) (x1 : Int64) : entryFrame m #[(.long x0), (.long x1)] 4 = mkF m 0 #[.val (.long x0), .second, .val (.long x1), .second] [] := by first | (simp [entryFrame, mkF, argsToLocals, Value.category]; done) | rfl
set_option maxRecDepth 65536 in
set_option maxHeartbeats 40000000 in
theorem own_rmMin (l : Launch) (Z : State) (a0 : Array Value) (hw : ∀ d ∈ tables_1, d.before a0 Z = true) (ws : List Jvm.Cond) (q0 : Int64) (q1 : Int64)  (h0 : Heap) (n0 : Nat) (Z0 : n0 ≤ h0.size)  :
    MetFree l (⟨"java/lang/Math", "min", "(JJ)J"⟩ : MethodName) (head1 (Jvm.Cond.code (⟨"java/lang/Math", "min", "(JJ)J"⟩ : MethodName) jdk_29_method_70_code 4 (some .long) :: ws) ({ frames := 0, cells := 0, slots := 0, locals := 0 } : Room)) (fun a U => a = #[(.long q0), (.long q1)] ∧ Z.Warmed39 U.vm ∧ U.heap = h0) (fun _ _ _ _ _ => True) (fun _ U o U' => ∃ v L, o = .returned v ∧ own_QJ (if q1 < q0 then q1 else q0) h0 n0 v U'.heap L ∧ FrameEnd U o U' L ({ frames := 0, cells := 0, slots := 0, locals := 0 } : Room).cells ({ frames := 0, cells := 0, slots := 0, locals := 0 } : Room).slots) := by
  refine MetFree.of_bodySF (Jvm.Free.JP.mathPlain rfl (by decide +kernel)) hisR ?_
  intro p e s m args below meth c s₁ Bd hml0 hP hK
  obtain ⟨rfl, hZ, hh⟩ := hP
  have hx := Bd.exec
  have hby := Bd.bytes
  have hml : c.maxLocals = 4 := hml0
  have hown : s.vm.findClass "java/lang/Math" = some m.cls := findClass_of_methodNamed Bd.named
  have hnm := (name_of_methodNamed Bd.named Bd.method).1
  have X0 : Stand p l e ({ frames := 0, cells := 0, slots := 0, locals := 0 } : Room) s m #[(.long q0), (.long q1)] below meth c s₁ [] 0 0 := Stand.of_body Bd
  have e0 : s₁.heap = h0 := by rw [← hh, Bd.state]; rfl
  have N0 := Fr.nil n0
  refine own_go (b := s₁.setTop (mkF m 0 #[.val (.long q0), .second, .val (.long q1), .second] [])) (fun t k => castTop (ef_own_rmMin m q0 q1) k) ?_
  refine own_go (b := s₁.setTop (mkF m 3 #[.val (.long q0), .second, .val (.long q1), .second] [(.int (lcmpW q0 q1))])) (fun t k => ?_) ?_
  · show Steps p.tables e below (s₁.setTop (mkF m 0 #[.val (.long q0), .second, .val (.long q1), .second] [])) _
    refine XS.lloadN X0.here hx rfl (hb hby d_own_rmMin_0) rfl ?_
    show Steps p.tables e below (s₁.setTop (mkF m 1 #[.val (.long q0), .second, .val (.long q1), .second] [(.long q0)])) _
    refine XS.lloadN X0.here hx rfl (hb hby d_own_rmMin_1) rfl ?_
    show Steps p.tables e below (s₁.setTop (mkF m 2 #[.val (.long q0), .second, .val (.long q1), .second] [(.long q1), (.long q0)])) _
    refine XS.lcmp X0.here hx rfl (hb hby d_own_rmMin_2) rfl ?_
    show Steps p.tables e below (s₁.setTop (mkF m 3 #[.val (.long q0), .second, .val (.long q1), .second] [(.int (lcmpW q0 q1))])) t
    exact k
  by_cases hc3_1 : q1 < q0
  · obtain ⟨fs, hr, hrun, hended, hW, hsame⟩ := X0.leave (v := some (.long q1)) (fun h => by rw [Bd.returns] at h; cases h)
    refine ⟨_, _, ?_, hrun, hended, _, _, rfl, ?_, ⟨_, rfl⟩, hW, hsame.mono (by decide) (by decide)⟩
    · show Steps p.tables e below (s₁.setTop (mkF m 3 #[.val (.long q0), .second, .val (.long q1), .second] [(.int (lcmpW q0 q1))])) _
      refine XS.ifYes X0.here hx rfl (pc0 := 3) (pc' := 10) rfl (hb hby d_own_rmMin_3) rfl ((if0 _ _).trans (tlt ((lw_gt _ _).mpr hc3_1)).2.2.1) (by decide) (by decide) ?_
      show Steps p.tables e below (s₁.setTop (mkF m 10 #[.val (.long q0), .second, .val (.long q1), .second] [])) _
      refine XS.lloadN X0.here hx rfl (hb hby d_own_rmMin_10) rfl ?_
      show Steps p.tables e below (s₁.setTop (mkF m 11 #[.val (.long q0), .second, .val (.long q1), .second] [(.long q1)])) _
      jvm_step X0.here [X0.here.top, hx, (hb hby d_own_rmMin_11), X0.method', Bd.returns, narrow]
      first | (intro acts; rw [hr _ acts rfl rfl rfl]) | rw [hr _ _ rfl rfl rfl]
      exact Steps.refl _
    · show own_QJ (if q1 < q0 then q1 else q0) h0 n0 _ s₁.heap _
      rw [e0]
      exact ⟨by rw [if_pos hc3_1], N0, rfl⟩
  · obtain ⟨fs, hr, hrun, hended, hW, hsame⟩ := X0.leave (v := some (.long q0)) (fun h => by rw [Bd.returns] at h; cases h)
    refine ⟨_, _, ?_, hrun, hended, _, _, rfl, ?_, ⟨_, rfl⟩, hW, hsame.mono (by decide) (by decide)⟩
    · show Steps p.tables e below (s₁.setTop (mkF m 3 #[.val (.long q0), .second, .val (.long q1), .second] [(.int (lcmpW q0 q1))])) _
      refine XS.ifNo X0.here hx rfl (hb hby d_own_rmMin_3) rfl ((if0 _ _).trans (flt (mt (lw_gt _ _).mp hc3_1)).2.2.1) ?_
      show Steps p.tables e below (s₁.setTop (mkF m 6 #[.val (.long q0), .second, .val (.long q1), .second] [])) _
      refine XS.lloadN X0.here hx rfl (hb hby d_own_rmMin_6) rfl ?_
      show Steps p.tables e below (s₁.setTop (mkF m 7 #[.val (.long q0), .second, .val (.long q1), .second] [(.long q0)])) _
      refine XS.goto X0.here hx rfl (pc0 := 7) (pc' := 11) rfl (hb hby d_own_rmMin_7) (by decide) (by decide) ?_
      show Steps p.tables e below (s₁.setTop (mkF m 11 #[.val (.long q0), .second, .val (.long q1), .second] [(.long q0)])) _
      jvm_step X0.here [X0.here.top, hx, (hb hby d_own_rmMin_11), X0.method', Bd.returns, narrow]
      first | (intro acts; rw [hr _ acts rfl rfl rfl]) | rw [hr _ _ rfl rfl rfl]
      exact Steps.refl _
    · show own_QJ (if q1 < q0 then q1 else q0) h0 n0 _ s₁.heap _
      rw [e0]
      exact ⟨by rw [if_neg hc3_1], N0, rfl⟩
def own_QV (Z : State) (a : Addr) (q1 q2 : Int64) (b3 b4 : Addr) (ev : Value) (h0 : Heap) (n0 : Nat) (v : Option Value) (h : Heap) (L : List Loc) : Prop := v = none ∧ Fr n0 L ∧ Keep h0 h [a] ∧ Fld Z h a "com/example/tandem_ledger/tandemledger/Account$Version" "commit" "J" (.long q1) ∧ Fld Z h a "com/example/tandem_ledger/tandemledger/Account$Version" "balance" "J" (.long q2) ∧ Fld Z h a "com/example/tandem_ledger/tandemledger/Account$Version" "reserve" "Lcom/example/tandem_ledger/tandemledger/Reserve;" (.ref b3) ∧ Fld Z h a "com/example/tandem_ledger/tandemledger/Account$Version" "chain" "Lcom/example/tandem_ledger/tandemledger/Chain;" (.ref b4) ∧ Fld Z h a "com/example/tandem_ledger/tandemledger/Account$Version" "earlier" "Lcom/example/tandem_ledger/tandemledger/Account$Version;" ev
theorem d_own_rmVn_0 : decode prog_2_method_1_code 0 = .ok (.aload_n 0, 1) := by decide +kernel
theorem d_own_rmVn_1 : decode prog_2_method_1_code 1 = .ok (.invokespecial 1, 3) := by decide +kernel
theorem d_own_rmVn_4 : decode prog_2_method_1_code 4 = .ok (.aload_n 0, 1) := by decide +kernel
theorem d_own_rmVn_5 : decode prog_2_method_1_code 5 = .ok (.lload_n 1, 1) := by decide +kernel
theorem d_own_rmVn_6 : decode prog_2_method_1_code 6 = .ok (.putfield 7, 3) := by decide +kernel
theorem d_own_rmVn_9 : decode prog_2_method_1_code 9 = .ok (.aload_n 0, 1) := by decide +kernel
theorem d_own_rmVn_10 : decode prog_2_method_1_code 10 = .ok (.lload_n 3, 1) := by decide +kernel
theorem d_own_rmVn_11 : decode prog_2_method_1_code 11 = .ok (.putfield 13, 3) := by decide +kernel
theorem d_own_rmVn_14 : decode prog_2_method_1_code 14 = .ok (.aload_n 0, 1) := by decide +kernel
theorem d_own_rmVn_15 : decode prog_2_method_1_code 15 = .ok (.aload 5, 2) := by decide +kernel
theorem d_own_rmVn_17 : decode prog_2_method_1_code 17 = .ok (.putfield 16, 3) := by decide +kernel
theorem d_own_rmVn_20 : decode prog_2_method_1_code 20 = .ok (.aload_n 0, 1) := by decide +kernel
theorem d_own_rmVn_21 : decode prog_2_method_1_code 21 = .ok (.aload 6, 2) := by decide +kernel
theorem d_own_rmVn_23 : decode prog_2_method_1_code 23 = .ok (.putfield 20, 3) := by decide +kernel
theorem d_own_rmVn_26 : decode prog_2_method_1_code 26 = .ok (.aload_n 0, 1) := by decide +kernel
theorem d_own_rmVn_27 : decode prog_2_method_1_code 27 = .ok (.aload 7, 2) := by decide +kernel
theorem d_own_rmVn_29 : decode prog_2_method_1_code 29 = .ok (.putfield 24, 3) := by decide +kernel
theorem d_own_rmVn_32 : decode prog_2_method_1_code 32 = .ok (.return_, 1) := by decide +kernel
theorem ef_own_rmVn (m : MethodId) (x0 : Addr) (x1 : Int64) (x2 : Int64) (x3 : Addr) (x4 : Addr) : entryFrame m #[(.ref x0), (.long x1), (.long x2), (.ref x3), (.ref x4), .null] 8 = mkF m 0 #[.val (.ref x0), .val (.long x1), .second, .val (.long x2), .second, .val (.ref x3), .val (.ref x4), .val .null] [] := by first | (simp [entryFrame, mkF, argsToLocals, Value.category]; done) | rfl
set_option maxRecDepth 65536 in
set_option maxHeartbeats 40000000 in
theorem own_rmVn (l : Launch) (Z : State) (a0 : Array Value) (hw : ∀ d ∈ tables_1, d.before a0 Z = true) (ws : List Jvm.Cond) (b0 : Addr) (q1 : Int64) (q2 : Int64) (b3 : Addr) (b4 : Addr)  (h0 : Heap) (n0 : Nat) (Z0 : n0 ≤ h0.size) (E_0 : Exa Z h0 b0 "com/example/tandem_ledger/tandemledger/Account$Version") (F_commit : Fld Z h0 b0 "com/example/tandem_ledger/tandemledger/Account$Version" "commit" "J" (.long (0 : Int64))) (F_balance : Fld Z h0 b0 "com/example/tandem_ledger/tandemledger/Account$Version" "balance" "J" (.long (0 : Int64))) (F_reserve : Fld Z h0 b0 "com/example/tandem_ledger/tandemledger/Account$Version" "reserve" "Lcom/example/tandem_ledger/tandemledger/Reserve;" .null) (F_chain : Fld Z h0 b0 "com/example/tandem_ledger/tandemledger/Account$Version" "chain" "Lcom/example/tandem_ledger/tandemledger/Chain;" .null) (F_earlier : Fld Z h0 b0 "com/example/tandem_ledger/tandemledger/Account$Version" "earlier" "Lcom/example/tandem_ledger/tandemledger/Account$Version;" .null) (g_0 : n0 ≤ b0) :
    MetFree l (⟨"com/example/tandem_ledger/tandemledger/Account$Version", "<init>", "(JJLcom/example/tandem_ledger/tandemledger/Reserve;Lcom/example/tandem_ledger/tandemledger/Chain;Lcom/example/tandem_ledger/tandemledger/Account$Version;)V"⟩ : MethodName) (head1 (Jvm.Cond.code (⟨"com/example/tandem_ledger/tandemledger/Account$Version", "<init>", "(JJLcom/example/tandem_ledger/tandemledger/Reserve;Lcom/example/tandem_ledger/tandemledger/Chain;Lcom/example/tandem_ledger/tandemledger/Account$Version;)V"⟩ : MethodName) prog_2_method_1_code 8 none :: ws) ({ frames := 1, cells := 0, slots := 0, locals := 12 } : Room)) (fun a U => a = #[(.ref b0), (.long q1), (.long q2), (.ref b3), (.ref b4), .null] ∧ Z.Warmed39 U.vm ∧ U.heap = h0) (fun _ _ _ _ _ => True) (fun _ U o U' => ∃ v L, o = .returned v ∧ own_QV Z b0 q1 q2 b3 b4 .null h0 n0 v U'.heap L ∧ FrameEnd U o U' L ({ frames := 1, cells := 0, slots := 0, locals := 12 } : Room).cells ({ frames := 1, cells := 0, slots := 0, locals := 12 } : Room).slots) := by
  refine MetFree.of_bodySF (plainFor_of_name own_pn0) hisR ?_
  intro p e s m args below meth c s₁ Bd hml0 hP hK
  obtain ⟨rfl, hZ, hh⟩ := hP
  have hx := Bd.exec
  have hby := Bd.bytes
  have hml : c.maxLocals = 8 := hml0
  have hown : s.vm.findClass "com/example/tandem_ledger/tandemledger/Account$Version" = some m.cls := findClass_of_methodNamed Bd.named
  have hnm := (name_of_methodNamed Bd.named Bd.method).1
  have X0 : Stand p l e ({ frames := 1, cells := 0, slots := 0, locals := 12 } : Room) s m #[(.ref b0), (.long q1), (.long q2), (.ref b3), (.ref b4), .null] below meth c s₁ [] 0 0 := Stand.of_body Bd
  have e0 : s₁.heap = h0 := by rw [← hh, Bd.state]; rfl
  have N0 := Fr.nil n0
  refine own_go (b := s₁.setTop (mkF m 0 #[.val (.ref b0), .val (.long q1), .second, .val (.long q2), .second, .val (.ref b3), .val (.ref b4), .val .null] [])) (fun t k => castTop (ef_own_rmVn m b0 q1 q2 b3 b4) k) ?_
  obtain ⟨T1, X1, e1, st1⟩ := initO X0 hx hZ hown (hw _ (List.mem_of_getElem? (i := 49) rfl)) (hw _ (List.mem_of_getElem? (i := 29) rfl)) (hw _ (List.mem_of_getElem? (i := 30) rfl)) e0 (g := (mkF m 1 #[.val (.ref b0), .val (.long q1), .second, .val (.long q2), .second, .val (.ref b3), .val (.ref b4), .val .null] [(.ref b0)])) rfl (by rw [hml]; rfl) rfl (hb hby d_own_rmVn_1) (by decide) (W := 0) (by show 2 * 0 + _ ≤ _; exact Nat.le_of_eq rfl) (by decide)
  obtain ⟨T2, h2, X2, e2, W2, st2⟩ := putF X1 hx hZ hown (host := "") (Or.inl (hw _ (List.mem_of_getElem? (i := 50) rfl))) Via.refl e1 F_commit E_0 (Or.inr ⟨(hw _ (List.mem_of_getElem? (i := 51) rfl)), rfl, hnm⟩) (hw _ (List.mem_of_getElem? (i := 44) rfl)) (ty := .long) (by decide) rfl rfl (g := (mkF m 6 #[.val (.ref b0), .val (.long q1), .second, .val (.long q2), .second, .val (.ref b3), .val (.ref b4), .val .null] [(.long q1), (.ref b0)])) rfl rfl (hb hby d_own_rmVn_6)
  have E_b0_2 := E_0.wr W2
  have F_b0_balance_2 := F_balance.other W2 (Or.inr (slot_ne (Or.inr (hw _ (List.mem_of_getElem? (i := 53) rfl))) (Or.inr (hw _ (List.mem_of_getElem? (i := 51) rfl))) (by decide) (t := .long) (t' := .long) (by decide) (by decide)))
  have F_b0_reserve_2 := F_reserve.other W2 (Or.inr (slot_ne (Or.inr (hw _ (List.mem_of_getElem? (i := 55) rfl))) (Or.inr (hw _ (List.mem_of_getElem? (i := 51) rfl))) (by decide) (t := (.object "com/example/tandem_ledger/tandemledger/Reserve")) (t' := .long) (by decide) (by decide)))
  have F_b0_chain_2 := F_chain.other W2 (Or.inr (slot_ne (Or.inr (hw _ (List.mem_of_getElem? (i := 57) rfl))) (Or.inr (hw _ (List.mem_of_getElem? (i := 51) rfl))) (by decide) (t := (.object "com/example/tandem_ledger/tandemledger/Chain")) (t' := .long) (by decide) (by decide)))
  have F_b0_earlier_2 := F_earlier.other W2 (Or.inr (slot_ne (Or.inl (hw _ (List.mem_of_getElem? (i := 59) rfl))) (Or.inr (hw _ (List.mem_of_getElem? (i := 51) rfl))) (by decide) (t := (.object "com/example/tandem_ledger/tandemledger/Account$Version")) (t' := .long) (by decide) (by decide)))
  have Z2 := Nat.le_trans Z0 (Keep.of_wr W2).1
  have K2 := (Keep.refl h0 [b0]).wr W2 (Or.inl (List.mem_of_getElem? (i := 0) rfl))
  have N2 := Fr.snoc X2 N0 g_0
  have F_b0_commit_2 := F_commit.same W2
  obtain ⟨T3, h3, X3, e3, W3, st3⟩ := putF X2 hx hZ hown (host := "") (Or.inl (hw _ (List.mem_of_getElem? (i := 52) rfl))) Via.refl e2 F_b0_balance_2 E_b0_2 (Or.inr ⟨(hw _ (List.mem_of_getElem? (i := 53) rfl)), rfl, hnm⟩) (hw _ (List.mem_of_getElem? (i := 44) rfl)) (ty := .long) (by decide) rfl rfl (g := (mkF m 11 #[.val (.ref b0), .val (.long q1), .second, .val (.long q2), .second, .val (.ref b3), .val (.ref b4), .val .null] [(.long q2), (.ref b0)])) rfl rfl (hb hby d_own_rmVn_11)
  have E_b0_3 := E_b0_2.wr W3
  have F_b0_reserve_3 := F_b0_reserve_2.other W3 (Or.inr (slot_ne (Or.inr (hw _ (List.mem_of_getElem? (i := 55) rfl))) (Or.inr (hw _ (List.mem_of_getElem? (i := 53) rfl))) (by decide) (t := (.object "com/example/tandem_ledger/tandemledger/Reserve")) (t' := .long) (by decide) (by decide)))
  have F_b0_chain_3 := F_b0_chain_2.other W3 (Or.inr (slot_ne (Or.inr (hw _ (List.mem_of_getElem? (i := 57) rfl))) (Or.inr (hw _ (List.mem_of_getElem? (i := 53) rfl))) (by decide) (t := (.object "com/example/tandem_ledger/tandemledger/Chain")) (t' := .long) (by decide) (by decide)))
  have F_b0_earlier_3 := F_b0_earlier_2.other W3 (Or.inr (slot_ne (Or.inl (hw _ (List.mem_of_getElem? (i := 59) rfl))) (Or.inr (hw _ (List.mem_of_getElem? (i := 53) rfl))) (by decide) (t := (.object "com/example/tandem_ledger/tandemledger/Account$Version")) (t' := .long) (by decide) (by decide)))
  have F_b0_commit_3 := F_b0_commit_2.other W3 (Or.inr (slot_ne (Or.inr (hw _ (List.mem_of_getElem? (i := 51) rfl))) (Or.inr (hw _ (List.mem_of_getElem? (i := 53) rfl))) (by decide) (t := .long) (t' := .long) (by decide) (by decide)))
  have Z3 := Nat.le_trans Z2 (Keep.of_wr W3).1
  have K3 := K2.wr W3 (Or.inl (List.mem_of_getElem? (i := 0) rfl))
  have N3 := Fr.snoc X3 N2 g_0
  have F_b0_balance_3 := F_b0_balance_2.same W3
  obtain ⟨T4, h4, X4, e4, W4, st4⟩ := putF X3 hx hZ hown (host := "") (Or.inl (hw _ (List.mem_of_getElem? (i := 54) rfl))) Via.refl e3 F_b0_reserve_3 E_b0_3 (Or.inr ⟨(hw _ (List.mem_of_getElem? (i := 55) rfl)), rfl, hnm⟩) (hw _ (List.mem_of_getElem? (i := 44) rfl)) (ty := (.object "com/example/tandem_ledger/tandemledger/Reserve")) (by decide) rfl rfl (g := (mkF m 17 #[.val (.ref b0), .val (.long q1), .second, .val (.long q2), .second, .val (.ref b3), .val (.ref b4), .val .null] [(.ref b3), (.ref b0)])) rfl rfl (hb hby d_own_rmVn_17)
  have E_b0_4 := E_b0_3.wr W4
  have F_b0_chain_4 := F_b0_chain_3.other W4 (Or.inr (slot_ne (Or.inr (hw _ (List.mem_of_getElem? (i := 57) rfl))) (Or.inr (hw _ (List.mem_of_getElem? (i := 55) rfl))) (by decide) (t := (.object "com/example/tandem_ledger/tandemledger/Chain")) (t' := (.object "com/example/tandem_ledger/tandemledger/Reserve")) (by decide) (by decide)))
  have F_b0_earlier_4 := F_b0_earlier_3.other W4 (Or.inr (slot_ne (Or.inl (hw _ (List.mem_of_getElem? (i := 59) rfl))) (Or.inr (hw _ (List.mem_of_getElem? (i := 55) rfl))) (by decide) (t := (.object "com/example/tandem_ledger/tandemledger/Account$Version")) (t' := (.object "com/example/tandem_ledger/tandemledger/Reserve")) (by decide) (by decide)))
  have F_b0_commit_4 := F_b0_commit_3.other W4 (Or.inr (slot_ne (Or.inr (hw _ (List.mem_of_getElem? (i := 51) rfl))) (Or.inr (hw _ (List.mem_of_getElem? (i := 55) rfl))) (by decide) (t := .long) (t' := (.object "com/example/tandem_ledger/tandemledger/Reserve")) (by decide) (by decide)))
  have F_b0_balance_4 := F_b0_balance_3.other W4 (Or.inr (slot_ne (Or.inr (hw _ (List.mem_of_getElem? (i := 53) rfl))) (Or.inr (hw _ (List.mem_of_getElem? (i := 55) rfl))) (by decide) (t := .long) (t' := (.object "com/example/tandem_ledger/tandemledger/Reserve")) (by decide) (by decide)))
  have Z4 := Nat.le_trans Z3 (Keep.of_wr W4).1
  have K4 := K3.wr W4 (Or.inl (List.mem_of_getElem? (i := 0) rfl))
  have N4 := Fr.snoc X4 N3 g_0
  have F_b0_reserve_4 := F_b0_reserve_3.same W4
  obtain ⟨T5, h5, X5, e5, W5, st5⟩ := putF X4 hx hZ hown (host := "") (Or.inl (hw _ (List.mem_of_getElem? (i := 56) rfl))) Via.refl e4 F_b0_chain_4 E_b0_4 (Or.inr ⟨(hw _ (List.mem_of_getElem? (i := 57) rfl)), rfl, hnm⟩) (hw _ (List.mem_of_getElem? (i := 44) rfl)) (ty := (.object "com/example/tandem_ledger/tandemledger/Chain")) (by decide) rfl rfl (g := (mkF m 23 #[.val (.ref b0), .val (.long q1), .second, .val (.long q2), .second, .val (.ref b3), .val (.ref b4), .val .null] [(.ref b4), (.ref b0)])) rfl rfl (hb hby d_own_rmVn_23)
  have E_b0_5 := E_b0_4.wr W5
  have F_b0_earlier_5 := F_b0_earlier_4.other W5 (Or.inr (slot_ne (Or.inl (hw _ (List.mem_of_getElem? (i := 59) rfl))) (Or.inr (hw _ (List.mem_of_getElem? (i := 57) rfl))) (by decide) (t := (.object "com/example/tandem_ledger/tandemledger/Account$Version")) (t' := (.object "com/example/tandem_ledger/tandemledger/Chain")) (by decide) (by decide)))
  have F_b0_commit_5 := F_b0_commit_4.other W5 (Or.inr (slot_ne (Or.inr (hw _ (List.mem_of_getElem? (i := 51) rfl))) (Or.inr (hw _ (List.mem_of_getElem? (i := 57) rfl))) (by decide) (t := .long) (t' := (.object "com/example/tandem_ledger/tandemledger/Chain")) (by decide) (by decide)))
  have F_b0_balance_5 := F_b0_balance_4.other W5 (Or.inr (slot_ne (Or.inr (hw _ (List.mem_of_getElem? (i := 53) rfl))) (Or.inr (hw _ (List.mem_of_getElem? (i := 57) rfl))) (by decide) (t := .long) (t' := (.object "com/example/tandem_ledger/tandemledger/Chain")) (by decide) (by decide)))
  have F_b0_reserve_5 := F_b0_reserve_4.other W5 (Or.inr (slot_ne (Or.inr (hw _ (List.mem_of_getElem? (i := 55) rfl))) (Or.inr (hw _ (List.mem_of_getElem? (i := 57) rfl))) (by decide) (t := (.object "com/example/tandem_ledger/tandemledger/Reserve")) (t' := (.object "com/example/tandem_ledger/tandemledger/Chain")) (by decide) (by decide)))
  have Z5 := Nat.le_trans Z4 (Keep.of_wr W5).1
  have K5 := K4.wr W5 (Or.inl (List.mem_of_getElem? (i := 0) rfl))
  have N5 := Fr.snoc X5 N4 g_0
  have F_b0_chain_5 := F_b0_chain_4.same W5
  obtain ⟨T6, h6, X6, e6, W6, st6⟩ := putF X5 hx hZ hown (host := "") (Or.inl (hw _ (List.mem_of_getElem? (i := 58) rfl))) Via.refl e5 F_b0_earlier_5 E_b0_5 (Or.inl (hw _ (List.mem_of_getElem? (i := 59) rfl))) (hw _ (List.mem_of_getElem? (i := 44) rfl)) (ty := (.object "com/example/tandem_ledger/tandemledger/Account$Version")) (by decide) rfl rfl (g := (mkF m 29 #[.val (.ref b0), .val (.long q1), .second, .val (.long q2), .second, .val (.ref b3), .val (.ref b4), .val .null] [.null, (.ref b0)])) rfl rfl (hb hby d_own_rmVn_29)
  have E_b0_6 := E_b0_5.wr W6
  have F_b0_commit_6 := F_b0_commit_5.other W6 (Or.inr (slot_ne (Or.inr (hw _ (List.mem_of_getElem? (i := 51) rfl))) (Or.inl (hw _ (List.mem_of_getElem? (i := 59) rfl))) (by decide) (t := .long) (t' := (.object "com/example/tandem_ledger/tandemledger/Account$Version")) (by decide) (by decide)))
  have F_b0_balance_6 := F_b0_balance_5.other W6 (Or.inr (slot_ne (Or.inr (hw _ (List.mem_of_getElem? (i := 53) rfl))) (Or.inl (hw _ (List.mem_of_getElem? (i := 59) rfl))) (by decide) (t := .long) (t' := (.object "com/example/tandem_ledger/tandemledger/Account$Version")) (by decide) (by decide)))
  have F_b0_reserve_6 := F_b0_reserve_5.other W6 (Or.inr (slot_ne (Or.inr (hw _ (List.mem_of_getElem? (i := 55) rfl))) (Or.inl (hw _ (List.mem_of_getElem? (i := 59) rfl))) (by decide) (t := (.object "com/example/tandem_ledger/tandemledger/Reserve")) (t' := (.object "com/example/tandem_ledger/tandemledger/Account$Version")) (by decide) (by decide)))
  have F_b0_chain_6 := F_b0_chain_5.other W6 (Or.inr (slot_ne (Or.inr (hw _ (List.mem_of_getElem? (i := 57) rfl))) (Or.inl (hw _ (List.mem_of_getElem? (i := 59) rfl))) (by decide) (t := (.object "com/example/tandem_ledger/tandemledger/Chain")) (t' := (.object "com/example/tandem_ledger/tandemledger/Account$Version")) (by decide) (by decide)))
  have Z6 := Nat.le_trans Z5 (Keep.of_wr W6).1
  have K6 := K5.wr W6 (Or.inl (List.mem_of_getElem? (i := 0) rfl))
  have N6 := Fr.snoc X6 N5 g_0
  have F_b0_earlier_6 := F_b0_earlier_5.same W6
  obtain ⟨fs, hr, hrun, hended, hW, hsame⟩ := X6.leave (v := none) (fun _ => rfl)
  refine ⟨_, _, ?_, hrun, hended, _, _, rfl, ?_, ⟨_, rfl⟩, hW, hsame.mono (by decide) (by decide)⟩
  · show Steps p.tables e below (s₁.setTop (mkF m 0 #[.val (.ref b0), .val (.long q1), .second, .val (.long q2), .second, .val (.ref b3), .val (.ref b4), .val .null] [])) _
    refine XS.aloadN X0.here hx rfl (hb hby d_own_rmVn_0) rfl rfl ?_
    show Steps p.tables e below (s₁.setTop (mkF m 1 #[.val (.ref b0), .val (.long q1), .second, .val (.long q2), .second, .val (.ref b3), .val (.ref b4), .val .null] [(.ref b0)])) _
    refine st1 _ ?_
    show Steps p.tables e below (T1.setTop (mkF m 4 #[.val (.ref b0), .val (.long q1), .second, .val (.long q2), .second, .val (.ref b3), .val (.ref b4), .val .null] [])) _
    refine XS.aloadN X1.here hx rfl (hb hby d_own_rmVn_4) rfl rfl ?_
    show Steps p.tables e below (T1.setTop (mkF m 5 #[.val (.ref b0), .val (.long q1), .second, .val (.long q2), .second, .val (.ref b3), .val (.ref b4), .val .null] [(.ref b0)])) _
    refine XS.lloadN X1.here hx rfl (hb hby d_own_rmVn_5) rfl ?_
    show Steps p.tables e below (T1.setTop (mkF m 6 #[.val (.ref b0), .val (.long q1), .second, .val (.long q2), .second, .val (.ref b3), .val (.ref b4), .val .null] [(.long q1), (.ref b0)])) _
    refine st2 _ ?_
    show Steps p.tables e below (T2.setTop (mkF m 9 #[.val (.ref b0), .val (.long q1), .second, .val (.long q2), .second, .val (.ref b3), .val (.ref b4), .val .null] [])) _
    refine XS.aloadN X2.here hx rfl (hb hby d_own_rmVn_9) rfl rfl ?_
    show Steps p.tables e below (T2.setTop (mkF m 10 #[.val (.ref b0), .val (.long q1), .second, .val (.long q2), .second, .val (.ref b3), .val (.ref b4), .val .null] [(.ref b0)])) _
    refine XS.lloadN X2.here hx rfl (hb hby d_own_rmVn_10) rfl ?_
    show Steps p.tables e below (T2.setTop (mkF m 11 #[.val (.ref b0), .val (.long q1), .second, .val (.long q2), .second, .val (.ref b3), .val (.ref b4), .val .null] [(.long q2), (.ref b0)])) _
    refine st3 _ ?_
    show Steps p.tables e below (T3.setTop (mkF m 14 #[.val (.ref b0), .val (.long q1), .second, .val (.long q2), .second, .val (.ref b3), .val (.ref b4), .val .null] [])) _
    refine XS.aloadN X3.here hx rfl (hb hby d_own_rmVn_14) rfl rfl ?_
    show Steps p.tables e below (T3.setTop (mkF m 15 #[.val (.ref b0), .val (.long q1), .second, .val (.long q2), .second, .val (.ref b3), .val (.ref b4), .val .null] [(.ref b0)])) _
    refine XS.aload X3.here hx rfl (hb hby d_own_rmVn_15) rfl rfl ?_
    show Steps p.tables e below (T3.setTop (mkF m 17 #[.val (.ref b0), .val (.long q1), .second, .val (.long q2), .second, .val (.ref b3), .val (.ref b4), .val .null] [(.ref b3), (.ref b0)])) _
    refine st4 _ ?_
    show Steps p.tables e below (T4.setTop (mkF m 20 #[.val (.ref b0), .val (.long q1), .second, .val (.long q2), .second, .val (.ref b3), .val (.ref b4), .val .null] [])) _
    refine XS.aloadN X4.here hx rfl (hb hby d_own_rmVn_20) rfl rfl ?_
    show Steps p.tables e below (T4.setTop (mkF m 21 #[.val (.ref b0), .val (.long q1), .second, .val (.long q2), .second, .val (.ref b3), .val (.ref b4), .val .null] [(.ref b0)])) _
    refine XS.aload X4.here hx rfl (hb hby d_own_rmVn_21) rfl rfl ?_
    show Steps p.tables e below (T4.setTop (mkF m 23 #[.val (.ref b0), .val (.long q1), .second, .val (.long q2), .second, .val (.ref b3), .val (.ref b4), .val .null] [(.ref b4), (.ref b0)])) _
    refine st5 _ ?_
    show Steps p.tables e below (T5.setTop (mkF m 26 #[.val (.ref b0), .val (.long q1), .second, .val (.long q2), .second, .val (.ref b3), .val (.ref b4), .val .null] [])) _
    refine XS.aloadN X5.here hx rfl (hb hby d_own_rmVn_26) rfl rfl ?_
    show Steps p.tables e below (T5.setTop (mkF m 27 #[.val (.ref b0), .val (.long q1), .second, .val (.long q2), .second, .val (.ref b3), .val (.ref b4), .val .null] [(.ref b0)])) _
    refine XS.aload X5.here hx rfl (hb hby d_own_rmVn_27) rfl rfl ?_
    show Steps p.tables e below (T5.setTop (mkF m 29 #[.val (.ref b0), .val (.long q1), .second, .val (.long q2), .second, .val (.ref b3), .val (.ref b4), .val .null] [.null, (.ref b0)])) _
    refine st6 _ ?_
    show Steps p.tables e below (T6.setTop (mkF m 32 #[.val (.ref b0), .val (.long q1), .second, .val (.long q2), .second, .val (.ref b3), .val (.ref b4), .val .null] [])) _
    exact X6.returnOut hx Bd.returns (hb hby d_own_rmVn_32) hr
  · show own_QV Z b0 q1 q2 b3 b4 .null h0 n0 _ T6.heap _
    rw [e6]
    exact ⟨rfl, N6, K6, F_b0_commit_6, F_b0_balance_6, F_b0_reserve_6, F_b0_chain_6, F_b0_earlier_6⟩
theorem d_own_rmVr_0 : decode prog_2_method_1_code 0 = .ok (.aload_n 0, 1) := by decide +kernel
theorem d_own_rmVr_1 : decode prog_2_method_1_code 1 = .ok (.invokespecial 1, 3) := by decide +kernel
theorem d_own_rmVr_4 : decode prog_2_method_1_code 4 = .ok (.aload_n 0, 1) := by decide +kernel
theorem d_own_rmVr_5 : decode prog_2_method_1_code 5 = .ok (.lload_n 1, 1) := by decide +kernel
theorem d_own_rmVr_6 : decode prog_2_method_1_code 6 = .ok (.putfield 7, 3) := by decide +kernel
theorem d_own_rmVr_9 : decode prog_2_method_1_code 9 = .ok (.aload_n 0, 1) := by decide +kernel
theorem d_own_rmVr_10 : decode prog_2_method_1_code 10 = .ok (.lload_n 3, 1) := by decide +kernel
theorem d_own_rmVr_11 : decode prog_2_method_1_code 11 = .ok (.putfield 13, 3) := by decide +kernel
theorem d_own_rmVr_14 : decode prog_2_method_1_code 14 = .ok (.aload_n 0, 1) := by decide +kernel
theorem d_own_rmVr_15 : decode prog_2_method_1_code 15 = .ok (.aload 5, 2) := by decide +kernel
theorem d_own_rmVr_17 : decode prog_2_method_1_code 17 = .ok (.putfield 16, 3) := by decide +kernel
theorem d_own_rmVr_20 : decode prog_2_method_1_code 20 = .ok (.aload_n 0, 1) := by decide +kernel
theorem d_own_rmVr_21 : decode prog_2_method_1_code 21 = .ok (.aload 6, 2) := by decide +kernel
theorem d_own_rmVr_23 : decode prog_2_method_1_code 23 = .ok (.putfield 20, 3) := by decide +kernel
theorem d_own_rmVr_26 : decode prog_2_method_1_code 26 = .ok (.aload_n 0, 1) := by decide +kernel
theorem d_own_rmVr_27 : decode prog_2_method_1_code 27 = .ok (.aload 7, 2) := by decide +kernel
theorem d_own_rmVr_29 : decode prog_2_method_1_code 29 = .ok (.putfield 24, 3) := by decide +kernel
theorem d_own_rmVr_32 : decode prog_2_method_1_code 32 = .ok (.return_, 1) := by decide +kernel
theorem ef_own_rmVr (m : MethodId) (x0 : Addr) (x1 : Int64) (x2 : Int64) (x3 : Addr) (x4 : Addr) (x5 : Addr) : entryFrame m #[(.ref x0), (.long x1), (.long x2), (.ref x3), (.ref x4), (.ref x5)] 8 = mkF m 0 #[.val (.ref x0), .val (.long x1), .second, .val (.long x2), .second, .val (.ref x3), .val (.ref x4), .val (.ref x5)] [] := by first | (simp [entryFrame, mkF, argsToLocals, Value.category]; done) | rfl
set_option maxRecDepth 65536 in
set_option maxHeartbeats 40000000 in
theorem own_rmVr (l : Launch) (Z : State) (a0 : Array Value) (hw : ∀ d ∈ tables_1, d.before a0 Z = true) (ws : List Jvm.Cond) (b0 : Addr) (q1 : Int64) (q2 : Int64) (b3 : Addr) (b4 : Addr) (b5 : Addr)  (h0 : Heap) (n0 : Nat) (Z0 : n0 ≤ h0.size) (E_0 : Exa Z h0 b0 "com/example/tandem_ledger/tandemledger/Account$Version") (F_commit : Fld Z h0 b0 "com/example/tandem_ledger/tandemledger/Account$Version" "commit" "J" (.long (0 : Int64))) (F_balance : Fld Z h0 b0 "com/example/tandem_ledger/tandemledger/Account$Version" "balance" "J" (.long (0 : Int64))) (F_reserve : Fld Z h0 b0 "com/example/tandem_ledger/tandemledger/Account$Version" "reserve" "Lcom/example/tandem_ledger/tandemledger/Reserve;" .null) (F_chain : Fld Z h0 b0 "com/example/tandem_ledger/tandemledger/Account$Version" "chain" "Lcom/example/tandem_ledger/tandemledger/Chain;" .null) (F_earlier : Fld Z h0 b0 "com/example/tandem_ledger/tandemledger/Account$Version" "earlier" "Lcom/example/tandem_ledger/tandemledger/Account$Version;" .null) (g_0 : n0 ≤ b0) :
    MetFree l (⟨"com/example/tandem_ledger/tandemledger/Account$Version", "<init>", "(JJLcom/example/tandem_ledger/tandemledger/Reserve;Lcom/example/tandem_ledger/tandemledger/Chain;Lcom/example/tandem_ledger/tandemledger/Account$Version;)V"⟩ : MethodName) (head1 (Jvm.Cond.code (⟨"com/example/tandem_ledger/tandemledger/Account$Version", "<init>", "(JJLcom/example/tandem_ledger/tandemledger/Reserve;Lcom/example/tandem_ledger/tandemledger/Chain;Lcom/example/tandem_ledger/tandemledger/Account$Version;)V"⟩ : MethodName) prog_2_method_1_code 8 none :: ws) ({ frames := 1, cells := 0, slots := 0, locals := 12 } : Room)) (fun a U => a = #[(.ref b0), (.long q1), (.long q2), (.ref b3), (.ref b4), (.ref b5)] ∧ Z.Warmed39 U.vm ∧ U.heap = h0) (fun _ _ _ _ _ => True) (fun _ U o U' => ∃ v L, o = .returned v ∧ own_QV Z b0 q1 q2 b3 b4 (.ref b5) h0 n0 v U'.heap L ∧ FrameEnd U o U' L ({ frames := 1, cells := 0, slots := 0, locals := 12 } : Room).cells ({ frames := 1, cells := 0, slots := 0, locals := 12 } : Room).slots) := by
  refine MetFree.of_bodySF (plainFor_of_name own_pn0) hisR ?_
  intro p e s m args below meth c s₁ Bd hml0 hP hK
  obtain ⟨rfl, hZ, hh⟩ := hP
  have hx := Bd.exec
  have hby := Bd.bytes
  have hml : c.maxLocals = 8 := hml0
  have hown : s.vm.findClass "com/example/tandem_ledger/tandemledger/Account$Version" = some m.cls := findClass_of_methodNamed Bd.named
  have hnm := (name_of_methodNamed Bd.named Bd.method).1
  have X0 : Stand p l e ({ frames := 1, cells := 0, slots := 0, locals := 12 } : Room) s m #[(.ref b0), (.long q1), (.long q2), (.ref b3), (.ref b4), (.ref b5)] below meth c s₁ [] 0 0 := Stand.of_body Bd
  have e0 : s₁.heap = h0 := by rw [← hh, Bd.state]; rfl
  have N0 := Fr.nil n0
  refine own_go (b := s₁.setTop (mkF m 0 #[.val (.ref b0), .val (.long q1), .second, .val (.long q2), .second, .val (.ref b3), .val (.ref b4), .val (.ref b5)] [])) (fun t k => castTop (ef_own_rmVr m b0 q1 q2 b3 b4 b5) k) ?_
  obtain ⟨T1, X1, e1, st1⟩ := initO X0 hx hZ hown (hw _ (List.mem_of_getElem? (i := 49) rfl)) (hw _ (List.mem_of_getElem? (i := 29) rfl)) (hw _ (List.mem_of_getElem? (i := 30) rfl)) e0 (g := (mkF m 1 #[.val (.ref b0), .val (.long q1), .second, .val (.long q2), .second, .val (.ref b3), .val (.ref b4), .val (.ref b5)] [(.ref b0)])) rfl (by rw [hml]; rfl) rfl (hb hby d_own_rmVr_1) (by decide) (W := 0) (by show 2 * 0 + _ ≤ _; exact Nat.le_of_eq rfl) (by decide)
  obtain ⟨T2, h2, X2, e2, W2, st2⟩ := putF X1 hx hZ hown (host := "") (Or.inl (hw _ (List.mem_of_getElem? (i := 50) rfl))) Via.refl e1 F_commit E_0 (Or.inr ⟨(hw _ (List.mem_of_getElem? (i := 51) rfl)), rfl, hnm⟩) (hw _ (List.mem_of_getElem? (i := 44) rfl)) (ty := .long) (by decide) rfl rfl (g := (mkF m 6 #[.val (.ref b0), .val (.long q1), .second, .val (.long q2), .second, .val (.ref b3), .val (.ref b4), .val (.ref b5)] [(.long q1), (.ref b0)])) rfl rfl (hb hby d_own_rmVr_6)
  have E_b0_2 := E_0.wr W2
  have F_b0_balance_2 := F_balance.other W2 (Or.inr (slot_ne (Or.inr (hw _ (List.mem_of_getElem? (i := 53) rfl))) (Or.inr (hw _ (List.mem_of_getElem? (i := 51) rfl))) (by decide) (t := .long) (t' := .long) (by decide) (by decide)))
  have F_b0_reserve_2 := F_reserve.other W2 (Or.inr (slot_ne (Or.inr (hw _ (List.mem_of_getElem? (i := 55) rfl))) (Or.inr (hw _ (List.mem_of_getElem? (i := 51) rfl))) (by decide) (t := (.object "com/example/tandem_ledger/tandemledger/Reserve")) (t' := .long) (by decide) (by decide)))
  have F_b0_chain_2 := F_chain.other W2 (Or.inr (slot_ne (Or.inr (hw _ (List.mem_of_getElem? (i := 57) rfl))) (Or.inr (hw _ (List.mem_of_getElem? (i := 51) rfl))) (by decide) (t := (.object "com/example/tandem_ledger/tandemledger/Chain")) (t' := .long) (by decide) (by decide)))
  have F_b0_earlier_2 := F_earlier.other W2 (Or.inr (slot_ne (Or.inl (hw _ (List.mem_of_getElem? (i := 59) rfl))) (Or.inr (hw _ (List.mem_of_getElem? (i := 51) rfl))) (by decide) (t := (.object "com/example/tandem_ledger/tandemledger/Account$Version")) (t' := .long) (by decide) (by decide)))
  have Z2 := Nat.le_trans Z0 (Keep.of_wr W2).1
  have K2 := (Keep.refl h0 [b0]).wr W2 (Or.inl (List.mem_of_getElem? (i := 0) rfl))
  have N2 := Fr.snoc X2 N0 g_0
  have F_b0_commit_2 := F_commit.same W2
  obtain ⟨T3, h3, X3, e3, W3, st3⟩ := putF X2 hx hZ hown (host := "") (Or.inl (hw _ (List.mem_of_getElem? (i := 52) rfl))) Via.refl e2 F_b0_balance_2 E_b0_2 (Or.inr ⟨(hw _ (List.mem_of_getElem? (i := 53) rfl)), rfl, hnm⟩) (hw _ (List.mem_of_getElem? (i := 44) rfl)) (ty := .long) (by decide) rfl rfl (g := (mkF m 11 #[.val (.ref b0), .val (.long q1), .second, .val (.long q2), .second, .val (.ref b3), .val (.ref b4), .val (.ref b5)] [(.long q2), (.ref b0)])) rfl rfl (hb hby d_own_rmVr_11)
  have E_b0_3 := E_b0_2.wr W3
  have F_b0_reserve_3 := F_b0_reserve_2.other W3 (Or.inr (slot_ne (Or.inr (hw _ (List.mem_of_getElem? (i := 55) rfl))) (Or.inr (hw _ (List.mem_of_getElem? (i := 53) rfl))) (by decide) (t := (.object "com/example/tandem_ledger/tandemledger/Reserve")) (t' := .long) (by decide) (by decide)))
  have F_b0_chain_3 := F_b0_chain_2.other W3 (Or.inr (slot_ne (Or.inr (hw _ (List.mem_of_getElem? (i := 57) rfl))) (Or.inr (hw _ (List.mem_of_getElem? (i := 53) rfl))) (by decide) (t := (.object "com/example/tandem_ledger/tandemledger/Chain")) (t' := .long) (by decide) (by decide)))
  have F_b0_earlier_3 := F_b0_earlier_2.other W3 (Or.inr (slot_ne (Or.inl (hw _ (List.mem_of_getElem? (i := 59) rfl))) (Or.inr (hw _ (List.mem_of_getElem? (i := 53) rfl))) (by decide) (t := (.object "com/example/tandem_ledger/tandemledger/Account$Version")) (t' := .long) (by decide) (by decide)))
  have F_b0_commit_3 := F_b0_commit_2.other W3 (Or.inr (slot_ne (Or.inr (hw _ (List.mem_of_getElem? (i := 51) rfl))) (Or.inr (hw _ (List.mem_of_getElem? (i := 53) rfl))) (by decide) (t := .long) (t' := .long) (by decide) (by decide)))
  have Z3 := Nat.le_trans Z2 (Keep.of_wr W3).1
  have K3 := K2.wr W3 (Or.inl (List.mem_of_getElem? (i := 0) rfl))
  have N3 := Fr.snoc X3 N2 g_0
  have F_b0_balance_3 := F_b0_balance_2.same W3
  obtain ⟨T4, h4, X4, e4, W4, st4⟩ := putF X3 hx hZ hown (host := "") (Or.inl (hw _ (List.mem_of_getElem? (i := 54) rfl))) Via.refl e3 F_b0_reserve_3 E_b0_3 (Or.inr ⟨(hw _ (List.mem_of_getElem? (i := 55) rfl)), rfl, hnm⟩) (hw _ (List.mem_of_getElem? (i := 44) rfl)) (ty := (.object "com/example/tandem_ledger/tandemledger/Reserve")) (by decide) rfl rfl (g := (mkF m 17 #[.val (.ref b0), .val (.long q1), .second, .val (.long q2), .second, .val (.ref b3), .val (.ref b4), .val (.ref b5)] [(.ref b3), (.ref b0)])) rfl rfl (hb hby d_own_rmVr_17)
  have E_b0_4 := E_b0_3.wr W4
  have F_b0_chain_4 := F_b0_chain_3.other W4 (Or.inr (slot_ne (Or.inr (hw _ (List.mem_of_getElem? (i := 57) rfl))) (Or.inr (hw _ (List.mem_of_getElem? (i := 55) rfl))) (by decide) (t := (.object "com/example/tandem_ledger/tandemledger/Chain")) (t' := (.object "com/example/tandem_ledger/tandemledger/Reserve")) (by decide) (by decide)))
  have F_b0_earlier_4 := F_b0_earlier_3.other W4 (Or.inr (slot_ne (Or.inl (hw _ (List.mem_of_getElem? (i := 59) rfl))) (Or.inr (hw _ (List.mem_of_getElem? (i := 55) rfl))) (by decide) (t := (.object "com/example/tandem_ledger/tandemledger/Account$Version")) (t' := (.object "com/example/tandem_ledger/tandemledger/Reserve")) (by decide) (by decide)))
  have F_b0_commit_4 := F_b0_commit_3.other W4 (Or.inr (slot_ne (Or.inr (hw _ (List.mem_of_getElem? (i := 51) rfl))) (Or.inr (hw _ (List.mem_of_getElem? (i := 55) rfl))) (by decide) (t := .long) (t' := (.object "com/example/tandem_ledger/tandemledger/Reserve")) (by decide) (by decide)))
  have F_b0_balance_4 := F_b0_balance_3.other W4 (Or.inr (slot_ne (Or.inr (hw _ (List.mem_of_getElem? (i := 53) rfl))) (Or.inr (hw _ (List.mem_of_getElem? (i := 55) rfl))) (by decide) (t := .long) (t' := (.object "com/example/tandem_ledger/tandemledger/Reserve")) (by decide) (by decide)))
  have Z4 := Nat.le_trans Z3 (Keep.of_wr W4).1
  have K4 := K3.wr W4 (Or.inl (List.mem_of_getElem? (i := 0) rfl))
  have N4 := Fr.snoc X4 N3 g_0
  have F_b0_reserve_4 := F_b0_reserve_3.same W4
  obtain ⟨T5, h5, X5, e5, W5, st5⟩ := putF X4 hx hZ hown (host := "") (Or.inl (hw _ (List.mem_of_getElem? (i := 56) rfl))) Via.refl e4 F_b0_chain_4 E_b0_4 (Or.inr ⟨(hw _ (List.mem_of_getElem? (i := 57) rfl)), rfl, hnm⟩) (hw _ (List.mem_of_getElem? (i := 44) rfl)) (ty := (.object "com/example/tandem_ledger/tandemledger/Chain")) (by decide) rfl rfl (g := (mkF m 23 #[.val (.ref b0), .val (.long q1), .second, .val (.long q2), .second, .val (.ref b3), .val (.ref b4), .val (.ref b5)] [(.ref b4), (.ref b0)])) rfl rfl (hb hby d_own_rmVr_23)
  have E_b0_5 := E_b0_4.wr W5
  have F_b0_earlier_5 := F_b0_earlier_4.other W5 (Or.inr (slot_ne (Or.inl (hw _ (List.mem_of_getElem? (i := 59) rfl))) (Or.inr (hw _ (List.mem_of_getElem? (i := 57) rfl))) (by decide) (t := (.object "com/example/tandem_ledger/tandemledger/Account$Version")) (t' := (.object "com/example/tandem_ledger/tandemledger/Chain")) (by decide) (by decide)))
  have F_b0_commit_5 := F_b0_commit_4.other W5 (Or.inr (slot_ne (Or.inr (hw _ (List.mem_of_getElem? (i := 51) rfl))) (Or.inr (hw _ (List.mem_of_getElem? (i := 57) rfl))) (by decide) (t := .long) (t' := (.object "com/example/tandem_ledger/tandemledger/Chain")) (by decide) (by decide)))
  have F_b0_balance_5 := F_b0_balance_4.other W5 (Or.inr (slot_ne (Or.inr (hw _ (List.mem_of_getElem? (i := 53) rfl))) (Or.inr (hw _ (List.mem_of_getElem? (i := 57) rfl))) (by decide) (t := .long) (t' := (.object "com/example/tandem_ledger/tandemledger/Chain")) (by decide) (by decide)))
  have F_b0_reserve_5 := F_b0_reserve_4.other W5 (Or.inr (slot_ne (Or.inr (hw _ (List.mem_of_getElem? (i := 55) rfl))) (Or.inr (hw _ (List.mem_of_getElem? (i := 57) rfl))) (by decide) (t := (.object "com/example/tandem_ledger/tandemledger/Reserve")) (t' := (.object "com/example/tandem_ledger/tandemledger/Chain")) (by decide) (by decide)))
  have Z5 := Nat.le_trans Z4 (Keep.of_wr W5).1
  have K5 := K4.wr W5 (Or.inl (List.mem_of_getElem? (i := 0) rfl))
  have N5 := Fr.snoc X5 N4 g_0
  have F_b0_chain_5 := F_b0_chain_4.same W5
  obtain ⟨T6, h6, X6, e6, W6, st6⟩ := putF X5 hx hZ hown (host := "") (Or.inl (hw _ (List.mem_of_getElem? (i := 58) rfl))) Via.refl e5 F_b0_earlier_5 E_b0_5 (Or.inl (hw _ (List.mem_of_getElem? (i := 59) rfl))) (hw _ (List.mem_of_getElem? (i := 44) rfl)) (ty := (.object "com/example/tandem_ledger/tandemledger/Account$Version")) (by decide) rfl rfl (g := (mkF m 29 #[.val (.ref b0), .val (.long q1), .second, .val (.long q2), .second, .val (.ref b3), .val (.ref b4), .val (.ref b5)] [(.ref b5), (.ref b0)])) rfl rfl (hb hby d_own_rmVr_29)
  have E_b0_6 := E_b0_5.wr W6
  have F_b0_commit_6 := F_b0_commit_5.other W6 (Or.inr (slot_ne (Or.inr (hw _ (List.mem_of_getElem? (i := 51) rfl))) (Or.inl (hw _ (List.mem_of_getElem? (i := 59) rfl))) (by decide) (t := .long) (t' := (.object "com/example/tandem_ledger/tandemledger/Account$Version")) (by decide) (by decide)))
  have F_b0_balance_6 := F_b0_balance_5.other W6 (Or.inr (slot_ne (Or.inr (hw _ (List.mem_of_getElem? (i := 53) rfl))) (Or.inl (hw _ (List.mem_of_getElem? (i := 59) rfl))) (by decide) (t := .long) (t' := (.object "com/example/tandem_ledger/tandemledger/Account$Version")) (by decide) (by decide)))
  have F_b0_reserve_6 := F_b0_reserve_5.other W6 (Or.inr (slot_ne (Or.inr (hw _ (List.mem_of_getElem? (i := 55) rfl))) (Or.inl (hw _ (List.mem_of_getElem? (i := 59) rfl))) (by decide) (t := (.object "com/example/tandem_ledger/tandemledger/Reserve")) (t' := (.object "com/example/tandem_ledger/tandemledger/Account$Version")) (by decide) (by decide)))
  have F_b0_chain_6 := F_b0_chain_5.other W6 (Or.inr (slot_ne (Or.inr (hw _ (List.mem_of_getElem? (i := 57) rfl))) (Or.inl (hw _ (List.mem_of_getElem? (i := 59) rfl))) (by decide) (t := (.object "com/example/tandem_ledger/tandemledger/Chain")) (t' := (.object "com/example/tandem_ledger/tandemledger/Account$Version")) (by decide) (by decide)))
  have Z6 := Nat.le_trans Z5 (Keep.of_wr W6).1
  have K6 := K5.wr W6 (Or.inl (List.mem_of_getElem? (i := 0) rfl))
  have N6 := Fr.snoc X6 N5 g_0
  have F_b0_earlier_6 := F_b0_earlier_5.same W6
  obtain ⟨fs, hr, hrun, hended, hW, hsame⟩ := X6.leave (v := none) (fun _ => rfl)
  refine ⟨_, _, ?_, hrun, hended, _, _, rfl, ?_, ⟨_, rfl⟩, hW, hsame.mono (by decide) (by decide)⟩
  · show Steps p.tables e below (s₁.setTop (mkF m 0 #[.val (.ref b0), .val (.long q1), .second, .val (.long q2), .second, .val (.ref b3), .val (.ref b4), .val (.ref b5)] [])) _
    refine XS.aloadN X0.here hx rfl (hb hby d_own_rmVr_0) rfl rfl ?_
    show Steps p.tables e below (s₁.setTop (mkF m 1 #[.val (.ref b0), .val (.long q1), .second, .val (.long q2), .second, .val (.ref b3), .val (.ref b4), .val (.ref b5)] [(.ref b0)])) _
    refine st1 _ ?_
    show Steps p.tables e below (T1.setTop (mkF m 4 #[.val (.ref b0), .val (.long q1), .second, .val (.long q2), .second, .val (.ref b3), .val (.ref b4), .val (.ref b5)] [])) _
    refine XS.aloadN X1.here hx rfl (hb hby d_own_rmVr_4) rfl rfl ?_
    show Steps p.tables e below (T1.setTop (mkF m 5 #[.val (.ref b0), .val (.long q1), .second, .val (.long q2), .second, .val (.ref b3), .val (.ref b4), .val (.ref b5)] [(.ref b0)])) _
    refine XS.lloadN X1.here hx rfl (hb hby d_own_rmVr_5) rfl ?_
    show Steps p.tables e below (T1.setTop (mkF m 6 #[.val (.ref b0), .val (.long q1), .second, .val (.long q2), .second, .val (.ref b3), .val (.ref b4), .val (.ref b5)] [(.long q1), (.ref b0)])) _
    refine st2 _ ?_
    show Steps p.tables e below (T2.setTop (mkF m 9 #[.val (.ref b0), .val (.long q1), .second, .val (.long q2), .second, .val (.ref b3), .val (.ref b4), .val (.ref b5)] [])) _
    refine XS.aloadN X2.here hx rfl (hb hby d_own_rmVr_9) rfl rfl ?_
    show Steps p.tables e below (T2.setTop (mkF m 10 #[.val (.ref b0), .val (.long q1), .second, .val (.long q2), .second, .val (.ref b3), .val (.ref b4), .val (.ref b5)] [(.ref b0)])) _
    refine XS.lloadN X2.here hx rfl (hb hby d_own_rmVr_10) rfl ?_
    show Steps p.tables e below (T2.setTop (mkF m 11 #[.val (.ref b0), .val (.long q1), .second, .val (.long q2), .second, .val (.ref b3), .val (.ref b4), .val (.ref b5)] [(.long q2), (.ref b0)])) _
    refine st3 _ ?_
    show Steps p.tables e below (T3.setTop (mkF m 14 #[.val (.ref b0), .val (.long q1), .second, .val (.long q2), .second, .val (.ref b3), .val (.ref b4), .val (.ref b5)] [])) _
    refine XS.aloadN X3.here hx rfl (hb hby d_own_rmVr_14) rfl rfl ?_
    show Steps p.tables e below (T3.setTop (mkF m 15 #[.val (.ref b0), .val (.long q1), .second, .val (.long q2), .second, .val (.ref b3), .val (.ref b4), .val (.ref b5)] [(.ref b0)])) _
    refine XS.aload X3.here hx rfl (hb hby d_own_rmVr_15) rfl rfl ?_
    show Steps p.tables e below (T3.setTop (mkF m 17 #[.val (.ref b0), .val (.long q1), .second, .val (.long q2), .second, .val (.ref b3), .val (.ref b4), .val (.ref b5)] [(.ref b3), (.ref b0)])) _
    refine st4 _ ?_
    show Steps p.tables e below (T4.setTop (mkF m 20 #[.val (.ref b0), .val (.long q1), .second, .val (.long q2), .second, .val (.ref b3), .val (.ref b4), .val (.ref b5)] [])) _
    refine XS.aloadN X4.here hx rfl (hb hby d_own_rmVr_20) rfl rfl ?_
    show Steps p.tables e below (T4.setTop (mkF m 21 #[.val (.ref b0), .val (.long q1), .second, .val (.long q2), .second, .val (.ref b3), .val (.ref b4), .val (.ref b5)] [(.ref b0)])) _
    refine XS.aload X4.here hx rfl (hb hby d_own_rmVr_21) rfl rfl ?_
    show Steps p.tables e below (T4.setTop (mkF m 23 #[.val (.ref b0), .val (.long q1), .second, .val (.long q2), .second, .val (.ref b3), .val (.ref b4), .val (.ref b5)] [(.ref b4), (.ref b0)])) _
    refine st5 _ ?_
    show Steps p.tables e below (T5.setTop (mkF m 26 #[.val (.ref b0), .val (.long q1), .second, .val (.long q2), .second, .val (.ref b3), .val (.ref b4), .val (.ref b5)] [])) _
    refine XS.aloadN X5.here hx rfl (hb hby d_own_rmVr_26) rfl rfl ?_
    show Steps p.tables e below (T5.setTop (mkF m 27 #[.val (.ref b0), .val (.long q1), .second, .val (.long q2), .second, .val (.ref b3), .val (.ref b4), .val (.ref b5)] [(.ref b0)])) _
    refine XS.aload X5.here hx rfl (hb hby d_own_rmVr_27) rfl rfl ?_
    show Steps p.tables e below (T5.setTop (mkF m 29 #[.val (.ref b0), .val (.long q1), .second, .val (.long q2), .second, .val (.ref b3), .val (.ref b4), .val (.ref b5)] [(.ref b5), (.ref b0)])) _
    refine st6 _ ?_
    show Steps p.tables e below (T6.setTop (mkF m 32 #[.val (.ref b0), .val (.long q1), .second, .val (.long q2), .second, .val (.ref b3), .val (.ref b4), .val (.ref b5)] [])) _
    exact X6.returnOut hx Bd.returns (hb hby d_own_rmVr_32) hr
  · show own_QV Z b0 q1 q2 b3 b4 (.ref b5) h0 n0 _ T6.heap _
    rw [e6]
    exact ⟨rfl, N6, K6, F_b0_commit_6, F_b0_balance_6, F_b0_reserve_6, F_b0_chain_6, F_b0_earlier_6⟩
def own_QP (Z : State) (a : Addr) (k : Int32) (q1 q2 : Int64) (b3 b4 : Addr) (ev : Value) (h0 : Heap) (n0 : Nat) (v : Option Value) (h : Heap) (L : List Loc) : Prop :=
  v = none ∧ Fr n0 L ∧ Keep h0 h [a] ∧ ∃ b : Addr, b ≠ a ∧ h0.size ≤ b ∧ Fld Z h a "com/example/tandem_ledger/tandemledger/Account" "latest" "Lcom/example/tandem_ledger/tandemledger/Account$Version;" (.ref b) ∧ Fld Z h a "com/example/tandem_ledger/tandemledger/Account" "kept" "I" (.int k) ∧ Fld Z h a "com/example/tandem_ledger/tandemledger/Account" "keptAfterLettingGo" "I" (.int (1 : Int32)) ∧ Exa Z h b "com/example/tandem_ledger/tandemledger/Account$Version" ∧ Fld Z h b "com/example/tandem_ledger/tandemledger/Account$Version" "commit" "J" (.long q1) ∧ Fld Z h b "com/example/tandem_ledger/tandemledger/Account$Version" "balance" "J" (.long q2) ∧ Fld Z h b "com/example/tandem_ledger/tandemledger/Account$Version" "reserve" "Lcom/example/tandem_ledger/tandemledger/Reserve;" (.ref b3) ∧ Fld Z h b "com/example/tandem_ledger/tandemledger/Account$Version" "chain" "Lcom/example/tandem_ledger/tandemledger/Chain;" (.ref b4) ∧ Fld Z h b "com/example/tandem_ledger/tandemledger/Account$Version" "earlier" "Lcom/example/tandem_ledger/tandemledger/Account$Version;" ev
theorem d_own_rmA2_0 : decode prog_1_method_2_code 0 = .ok (.aload_n 0, 1) := by decide +kernel
theorem d_own_rmA2_1 : decode prog_1_method_2_code 1 = .ok (.invokespecial 18, 3) := by decide +kernel
theorem d_own_rmA2_4 : decode prog_1_method_2_code 4 = .ok (.aload_n 0, 1) := by decide +kernel
theorem d_own_rmA2_5 : decode prog_1_method_2_code 5 = .ok (.iconst 1, 1) := by decide +kernel
theorem d_own_rmA2_6 : decode prog_1_method_2_code 6 = .ok (.putfield 23, 3) := by decide +kernel
theorem d_own_rmA2_9 : decode prog_1_method_2_code 9 = .ok (.aload_n 0, 1) := by decide +kernel
theorem d_own_rmA2_10 : decode prog_1_method_2_code 10 = .ok (.iconst 1, 1) := by decide +kernel
theorem d_own_rmA2_11 : decode prog_1_method_2_code 11 = .ok (.putfield 27, 3) := by decide +kernel
theorem d_own_rmA2_14 : decode prog_1_method_2_code 14 = .ok (.aload_n 0, 1) := by decide +kernel
theorem d_own_rmA2_15 : decode prog_1_method_2_code 15 = .ok (.aload_n 1, 1) := by decide +kernel
theorem d_own_rmA2_16 : decode prog_1_method_2_code 16 = .ok (.putfield 30, 3) := by decide +kernel
theorem d_own_rmA2_19 : decode prog_1_method_2_code 19 = .ok (.aload_n 0, 1) := by decide +kernel
theorem d_own_rmA2_20 : decode prog_1_method_2_code 20 = .ok (.iload_n 2, 1) := by decide +kernel
theorem d_own_rmA2_21 : decode prog_1_method_2_code 21 = .ok (.putfield 34, 3) := by decide +kernel
theorem d_own_rmA2_24 : decode prog_1_method_2_code 24 = .ok (.aload_n 0, 1) := by decide +kernel
theorem d_own_rmA2_25 : decode prog_1_method_2_code 25 = .ok (.lload_n 3, 1) := by decide +kernel
theorem d_own_rmA2_26 : decode prog_1_method_2_code 26 = .ok (.putfield 38, 3) := by decide +kernel
theorem d_own_rmA2_29 : decode prog_1_method_2_code 29 = .ok (.aload_n 0, 1) := by decide +kernel
theorem d_own_rmA2_30 : decode prog_1_method_2_code 30 = .ok (.lload 5, 2) := by decide +kernel
theorem d_own_rmA2_32 : decode prog_1_method_2_code 32 = .ok (.putfield 42, 3) := by decide +kernel
theorem d_own_rmA2_35 : decode prog_1_method_2_code 35 = .ok (.aload_n 0, 1) := by decide +kernel
theorem d_own_rmA2_36 : decode prog_1_method_2_code 36 = .ok (.new 45, 3) := by decide +kernel
theorem d_own_rmA2_39 : decode prog_1_method_2_code 39 = .ok (.dup, 1) := by decide +kernel
theorem d_own_rmA2_40 : decode prog_1_method_2_code 40 = .ok (.lload 5, 2) := by decide +kernel
theorem d_own_rmA2_42 : decode prog_1_method_2_code 42 = .ok (.lload 7, 2) := by decide +kernel
theorem d_own_rmA2_44 : decode prog_1_method_2_code 44 = .ok (.aload 9, 2) := by decide +kernel
theorem d_own_rmA2_46 : decode prog_1_method_2_code 46 = .ok (.aload 10, 2) := by decide +kernel
theorem d_own_rmA2_48 : decode prog_1_method_2_code 48 = .ok (.aconst_null, 1) := by decide +kernel
theorem d_own_rmA2_49 : decode prog_1_method_2_code 49 = .ok (.invokespecial 47, 3) := by decide +kernel
theorem d_own_rmA2_52 : decode prog_1_method_2_code 52 = .ok (.putfield 50, 3) := by decide +kernel
theorem d_own_rmA2_55 : decode prog_1_method_2_code 55 = .ok (.return_, 1) := by decide +kernel
theorem ef_own_rmA2 (m : MethodId) (x0 : Addr) (x1 : Addr) (x2 : Int32) (x3 : Int64) (x4 : Int64) (x5 : Int64) (x6 : Addr) (x7 : Addr) : entryFrame m #[(.ref x0), (.ref x1), (.int x2), (.long x3), (.long x4), (.long x5), (.ref x6), (.ref x7)] 11 = mkF m 0 #[.val (.ref x0), .val (.ref x1), .val (.int x2), .val (.long x3), .second, .val (.long x4), .second, .val (.long x5), .second, .val (.ref x6), .val (.ref x7)] [] := by first | (simp [entryFrame, mkF, argsToLocals, Value.category]; done) | rfl
set_option maxRecDepth 65536 in
set_option maxHeartbeats 40000000 in
theorem own_rmA2 (l : Launch) (Z : State) (a0 : Array Value) (hw : ∀ d ∈ tables_1, d.before a0 Z = true) (ws : List Jvm.Cond) (b0 : Addr) (b1 : Addr) (p2 : Int32) (q3 : Int64) (q4 : Int64) (q5 : Int64) (b6 : Addr) (b7 : Addr)  (h0 : Heap) (n0 : Nat) (Z0 : n0 ≤ h0.size) (E_0 : Exa Z h0 b0 "com/example/tandem_ledger/tandemledger/Account") (F_kept : Fld Z h0 b0 "com/example/tandem_ledger/tandemledger/Account" "kept" "I" (.int (0 : Int32))) (F_keptAfterLettingGo : Fld Z h0 b0 "com/example/tandem_ledger/tandemledger/Account" "keptAfterLettingGo" "I" (.int (0 : Int32))) (F_name : Fld Z h0 b0 "com/example/tandem_ledger/tandemledger/Account" "name" "Ljava/lang/String;" .null) (F_hasFloor : Fld Z h0 b0 "com/example/tandem_ledger/tandemledger/Account" "hasFloor" "Z" (.int (0 : Int32))) (F_floor : Fld Z h0 b0 "com/example/tandem_ledger/tandemledger/Account" "floor" "J" (.long (0 : Int64))) (F_opened : Fld Z h0 b0 "com/example/tandem_ledger/tandemledger/Account" "opened" "J" (.long (0 : Int64))) (F_latest : Fld Z h0 b0 "com/example/tandem_ledger/tandemledger/Account" "latest" "Lcom/example/tandem_ledger/tandemledger/Account$Version;" .null) (g_0 : n0 ≤ b0) :
    MetFree l (⟨"com/example/tandem_ledger/tandemledger/Account", "<init>", "(Ljava/lang/String;ZJJJLcom/example/tandem_ledger/tandemledger/Reserve;Lcom/example/tandem_ledger/tandemledger/Chain;)V"⟩ : MethodName) (head1 (Jvm.Cond.code (⟨"com/example/tandem_ledger/tandemledger/Account", "<init>", "(Ljava/lang/String;ZJJJLcom/example/tandem_ledger/tandemledger/Reserve;Lcom/example/tandem_ledger/tandemledger/Chain;)V"⟩ : MethodName) prog_1_method_2_code 11 none :: ws) ({ frames := 2, cells := 1, slots := 5, locals := 33 } : Room)) (fun a U => a = #[(.ref b0), (.ref b1), (.int p2), (.long q3), (.long q4), (.long q5), (.ref b6), (.ref b7)] ∧ Z.Warmed39 U.vm ∧ U.heap = h0) (fun _ _ _ _ _ => True) (fun _ U o U' => ∃ v L, o = .returned v ∧ own_QP Z b0 (1 : Int32) q4 q5 b6 b7 .null h0 n0 v U'.heap L ∧ FrameEnd U o U' L ({ frames := 2, cells := 1, slots := 5, locals := 33 } : Room).cells ({ frames := 2, cells := 1, slots := 5, locals := 33 } : Room).slots) := by
  refine MetFree.of_bodySF (plainFor_of_name own_pn1) hisR ?_
  intro p e s m args below meth c s₁ Bd hml0 hP hK
  obtain ⟨rfl, hZ, hh⟩ := hP
  have hx := Bd.exec
  have hby := Bd.bytes
  have hml : c.maxLocals = 11 := hml0
  have hown : s.vm.findClass "com/example/tandem_ledger/tandemledger/Account" = some m.cls := findClass_of_methodNamed Bd.named
  have hnm := (name_of_methodNamed Bd.named Bd.method).1
  have X0 : Stand p l e ({ frames := 2, cells := 1, slots := 5, locals := 33 } : Room) s m #[(.ref b0), (.ref b1), (.int p2), (.long q3), (.long q4), (.long q5), (.ref b6), (.ref b7)] below meth c s₁ [] 0 0 := Stand.of_body Bd
  have e0 : s₁.heap = h0 := by rw [← hh, Bd.state]; rfl
  have N0 := Fr.nil n0
  refine own_go (b := s₁.setTop (mkF m 0 #[.val (.ref b0), .val (.ref b1), .val (.int p2), .val (.long q3), .second, .val (.long q4), .second, .val (.long q5), .second, .val (.ref b6), .val (.ref b7)] [])) (fun t k => castTop (ef_own_rmA2 m b0 b1 p2 q3 q4 q5 b6 b7) k) ?_
  obtain ⟨T1, X1, e1, st1⟩ := initO X0 hx hZ hown (hw _ (List.mem_of_getElem? (i := 28) rfl)) (hw _ (List.mem_of_getElem? (i := 29) rfl)) (hw _ (List.mem_of_getElem? (i := 30) rfl)) e0 (g := (mkF m 1 #[.val (.ref b0), .val (.ref b1), .val (.int p2), .val (.long q3), .second, .val (.long q4), .second, .val (.long q5), .second, .val (.ref b6), .val (.ref b7)] [(.ref b0)])) rfl (by rw [hml]; rfl) rfl (hb hby d_own_rmA2_1) (by decide) (W := 0) (by show 2 * 0 + _ ≤ _; exact Nat.le_of_eq rfl) (by decide)
  obtain ⟨T2, h2, X2, e2, W2, st2⟩ := putF X1 hx hZ hown (host := "") (Or.inl (hw _ (List.mem_of_getElem? (i := 31) rfl))) Via.refl e1 F_kept E_0 (Or.inl (hw _ (List.mem_of_getElem? (i := 32) rfl))) (hw _ (List.mem_of_getElem? (i := 6) rfl)) (ty := .int) (by decide) rfl rfl (g := (mkF m 6 #[.val (.ref b0), .val (.ref b1), .val (.int p2), .val (.long q3), .second, .val (.long q4), .second, .val (.long q5), .second, .val (.ref b6), .val (.ref b7)] [(.int (1 : Int32)), (.ref b0)])) rfl rfl (hb hby d_own_rmA2_6)
  have E_b0_2 := E_0.wr W2
  have F_b0_keptAfterLettingGo_2 := F_keptAfterLettingGo.other W2 (Or.inr (slot_ne (Or.inl (hw _ (List.mem_of_getElem? (i := 34) rfl))) (Or.inl (hw _ (List.mem_of_getElem? (i := 32) rfl))) (by decide) (t := .int) (t' := .int) (by decide) (by decide)))
  have F_b0_name_2 := F_name.other W2 (Or.inr (slot_ne (Or.inr (hw _ (List.mem_of_getElem? (i := 36) rfl))) (Or.inl (hw _ (List.mem_of_getElem? (i := 32) rfl))) (by decide) (t := (.object "java/lang/String")) (t' := .int) (by decide) (by decide)))
  have F_b0_hasFloor_2 := F_hasFloor.other W2 (Or.inr (slot_ne (Or.inr (hw _ (List.mem_of_getElem? (i := 38) rfl))) (Or.inl (hw _ (List.mem_of_getElem? (i := 32) rfl))) (by decide) (t := .boolean) (t' := .int) (by decide) (by decide)))
  have F_b0_floor_2 := F_floor.other W2 (Or.inr (slot_ne (Or.inr (hw _ (List.mem_of_getElem? (i := 40) rfl))) (Or.inl (hw _ (List.mem_of_getElem? (i := 32) rfl))) (by decide) (t := .long) (t' := .int) (by decide) (by decide)))
  have F_b0_opened_2 := F_opened.other W2 (Or.inr (slot_ne (Or.inr (hw _ (List.mem_of_getElem? (i := 42) rfl))) (Or.inl (hw _ (List.mem_of_getElem? (i := 32) rfl))) (by decide) (t := .long) (t' := .int) (by decide) (by decide)))
  have F_b0_latest_2 := F_latest.other W2 (Or.inr (slot_ne (Or.inl (hw _ (List.mem_of_getElem? (i := 61) rfl))) (Or.inl (hw _ (List.mem_of_getElem? (i := 32) rfl))) (by decide) (t := (.object "com/example/tandem_ledger/tandemledger/Account$Version")) (t' := .int) (by decide) (by decide)))
  have Z2 := Nat.le_trans Z0 (Keep.of_wr W2).1
  have K2 := (Keep.refl h0 [b0]).wr W2 (Or.inl (List.mem_of_getElem? (i := 0) rfl))
  have N2 := Fr.snoc X2 N0 g_0
  have F_b0_kept_2 := F_kept.same W2
  obtain ⟨T3, h3, X3, e3, W3, st3⟩ := putF X2 hx hZ hown (host := "") (Or.inl (hw _ (List.mem_of_getElem? (i := 33) rfl))) Via.refl e2 F_b0_keptAfterLettingGo_2 E_b0_2 (Or.inl (hw _ (List.mem_of_getElem? (i := 34) rfl))) (hw _ (List.mem_of_getElem? (i := 6) rfl)) (ty := .int) (by decide) rfl rfl (g := (mkF m 11 #[.val (.ref b0), .val (.ref b1), .val (.int p2), .val (.long q3), .second, .val (.long q4), .second, .val (.long q5), .second, .val (.ref b6), .val (.ref b7)] [(.int (1 : Int32)), (.ref b0)])) rfl rfl (hb hby d_own_rmA2_11)
  have E_b0_3 := E_b0_2.wr W3
  have F_b0_name_3 := F_b0_name_2.other W3 (Or.inr (slot_ne (Or.inr (hw _ (List.mem_of_getElem? (i := 36) rfl))) (Or.inl (hw _ (List.mem_of_getElem? (i := 34) rfl))) (by decide) (t := (.object "java/lang/String")) (t' := .int) (by decide) (by decide)))
  have F_b0_hasFloor_3 := F_b0_hasFloor_2.other W3 (Or.inr (slot_ne (Or.inr (hw _ (List.mem_of_getElem? (i := 38) rfl))) (Or.inl (hw _ (List.mem_of_getElem? (i := 34) rfl))) (by decide) (t := .boolean) (t' := .int) (by decide) (by decide)))
  have F_b0_floor_3 := F_b0_floor_2.other W3 (Or.inr (slot_ne (Or.inr (hw _ (List.mem_of_getElem? (i := 40) rfl))) (Or.inl (hw _ (List.mem_of_getElem? (i := 34) rfl))) (by decide) (t := .long) (t' := .int) (by decide) (by decide)))
  have F_b0_opened_3 := F_b0_opened_2.other W3 (Or.inr (slot_ne (Or.inr (hw _ (List.mem_of_getElem? (i := 42) rfl))) (Or.inl (hw _ (List.mem_of_getElem? (i := 34) rfl))) (by decide) (t := .long) (t' := .int) (by decide) (by decide)))
  have F_b0_latest_3 := F_b0_latest_2.other W3 (Or.inr (slot_ne (Or.inl (hw _ (List.mem_of_getElem? (i := 61) rfl))) (Or.inl (hw _ (List.mem_of_getElem? (i := 34) rfl))) (by decide) (t := (.object "com/example/tandem_ledger/tandemledger/Account$Version")) (t' := .int) (by decide) (by decide)))
  have F_b0_kept_3 := F_b0_kept_2.other W3 (Or.inr (slot_ne (Or.inl (hw _ (List.mem_of_getElem? (i := 32) rfl))) (Or.inl (hw _ (List.mem_of_getElem? (i := 34) rfl))) (by decide) (t := .int) (t' := .int) (by decide) (by decide)))
  have Z3 := Nat.le_trans Z2 (Keep.of_wr W3).1
  have K3 := K2.wr W3 (Or.inl (List.mem_of_getElem? (i := 0) rfl))
  have N3 := Fr.snoc X3 N2 g_0
  have F_b0_keptAfterLettingGo_3 := F_b0_keptAfterLettingGo_2.same W3
  obtain ⟨T4, h4, X4, e4, W4, st4⟩ := putF X3 hx hZ hown (host := "") (Or.inl (hw _ (List.mem_of_getElem? (i := 35) rfl))) Via.refl e3 F_b0_name_3 E_b0_3 (Or.inr ⟨(hw _ (List.mem_of_getElem? (i := 36) rfl)), rfl, hnm⟩) (hw _ (List.mem_of_getElem? (i := 6) rfl)) (ty := (.object "java/lang/String")) (by decide) rfl rfl (g := (mkF m 16 #[.val (.ref b0), .val (.ref b1), .val (.int p2), .val (.long q3), .second, .val (.long q4), .second, .val (.long q5), .second, .val (.ref b6), .val (.ref b7)] [(.ref b1), (.ref b0)])) rfl rfl (hb hby d_own_rmA2_16)
  have E_b0_4 := E_b0_3.wr W4
  have F_b0_hasFloor_4 := F_b0_hasFloor_3.other W4 (Or.inr (slot_ne (Or.inr (hw _ (List.mem_of_getElem? (i := 38) rfl))) (Or.inr (hw _ (List.mem_of_getElem? (i := 36) rfl))) (by decide) (t := .boolean) (t' := (.object "java/lang/String")) (by decide) (by decide)))
  have F_b0_floor_4 := F_b0_floor_3.other W4 (Or.inr (slot_ne (Or.inr (hw _ (List.mem_of_getElem? (i := 40) rfl))) (Or.inr (hw _ (List.mem_of_getElem? (i := 36) rfl))) (by decide) (t := .long) (t' := (.object "java/lang/String")) (by decide) (by decide)))
  have F_b0_opened_4 := F_b0_opened_3.other W4 (Or.inr (slot_ne (Or.inr (hw _ (List.mem_of_getElem? (i := 42) rfl))) (Or.inr (hw _ (List.mem_of_getElem? (i := 36) rfl))) (by decide) (t := .long) (t' := (.object "java/lang/String")) (by decide) (by decide)))
  have F_b0_latest_4 := F_b0_latest_3.other W4 (Or.inr (slot_ne (Or.inl (hw _ (List.mem_of_getElem? (i := 61) rfl))) (Or.inr (hw _ (List.mem_of_getElem? (i := 36) rfl))) (by decide) (t := (.object "com/example/tandem_ledger/tandemledger/Account$Version")) (t' := (.object "java/lang/String")) (by decide) (by decide)))
  have F_b0_kept_4 := F_b0_kept_3.other W4 (Or.inr (slot_ne (Or.inl (hw _ (List.mem_of_getElem? (i := 32) rfl))) (Or.inr (hw _ (List.mem_of_getElem? (i := 36) rfl))) (by decide) (t := .int) (t' := (.object "java/lang/String")) (by decide) (by decide)))
  have F_b0_keptAfterLettingGo_4 := F_b0_keptAfterLettingGo_3.other W4 (Or.inr (slot_ne (Or.inl (hw _ (List.mem_of_getElem? (i := 34) rfl))) (Or.inr (hw _ (List.mem_of_getElem? (i := 36) rfl))) (by decide) (t := .int) (t' := (.object "java/lang/String")) (by decide) (by decide)))
  have Z4 := Nat.le_trans Z3 (Keep.of_wr W4).1
  have K4 := K3.wr W4 (Or.inl (List.mem_of_getElem? (i := 0) rfl))
  have N4 := Fr.snoc X4 N3 g_0
  have F_b0_name_4 := F_b0_name_3.same W4
  obtain ⟨T5, h5, X5, e5, W5, st5⟩ := putFN X4 hx hZ hown (hw _ (List.mem_of_getElem? (i := 37) rfl)) Via.refl e4 F_b0_hasFloor_4 E_b0_4 (Or.inr ⟨(hw _ (List.mem_of_getElem? (i := 38) rfl)), rfl, hnm⟩) (hw _ (List.mem_of_getElem? (i := 6) rfl)) (ty := .boolean) (v' := (.int (nar .boolean p2))) (by decide) rfl (fits_nar_bool _) (g := (mkF m 21 #[.val (.ref b0), .val (.ref b1), .val (.int p2), .val (.long q3), .second, .val (.long q4), .second, .val (.long q5), .second, .val (.ref b6), .val (.ref b7)] [(.int p2), (.ref b0)])) rfl rfl (hb hby d_own_rmA2_21)
  have E_b0_5 := E_b0_4.wr W5
  have F_b0_floor_5 := F_b0_floor_4.other W5 (Or.inr (slot_ne (Or.inr (hw _ (List.mem_of_getElem? (i := 40) rfl))) (Or.inr (hw _ (List.mem_of_getElem? (i := 38) rfl))) (by decide) (t := .long) (t' := .boolean) (by decide) (by decide)))
  have F_b0_opened_5 := F_b0_opened_4.other W5 (Or.inr (slot_ne (Or.inr (hw _ (List.mem_of_getElem? (i := 42) rfl))) (Or.inr (hw _ (List.mem_of_getElem? (i := 38) rfl))) (by decide) (t := .long) (t' := .boolean) (by decide) (by decide)))
  have F_b0_latest_5 := F_b0_latest_4.other W5 (Or.inr (slot_ne (Or.inl (hw _ (List.mem_of_getElem? (i := 61) rfl))) (Or.inr (hw _ (List.mem_of_getElem? (i := 38) rfl))) (by decide) (t := (.object "com/example/tandem_ledger/tandemledger/Account$Version")) (t' := .boolean) (by decide) (by decide)))
  have F_b0_kept_5 := F_b0_kept_4.other W5 (Or.inr (slot_ne (Or.inl (hw _ (List.mem_of_getElem? (i := 32) rfl))) (Or.inr (hw _ (List.mem_of_getElem? (i := 38) rfl))) (by decide) (t := .int) (t' := .boolean) (by decide) (by decide)))
  have F_b0_keptAfterLettingGo_5 := F_b0_keptAfterLettingGo_4.other W5 (Or.inr (slot_ne (Or.inl (hw _ (List.mem_of_getElem? (i := 34) rfl))) (Or.inr (hw _ (List.mem_of_getElem? (i := 38) rfl))) (by decide) (t := .int) (t' := .boolean) (by decide) (by decide)))
  have F_b0_name_5 := F_b0_name_4.other W5 (Or.inr (slot_ne (Or.inr (hw _ (List.mem_of_getElem? (i := 36) rfl))) (Or.inr (hw _ (List.mem_of_getElem? (i := 38) rfl))) (by decide) (t := (.object "java/lang/String")) (t' := .boolean) (by decide) (by decide)))
  have Z5 := Nat.le_trans Z4 (Keep.of_wr W5).1
  have K5 := K4.wr W5 (Or.inl (List.mem_of_getElem? (i := 0) rfl))
  have N5 := Fr.snoc X5 N4 g_0
  have F_b0_hasFloor_5 := F_b0_hasFloor_4.same W5
  obtain ⟨T6, h6, X6, e6, W6, st6⟩ := putF X5 hx hZ hown (host := "") (Or.inl (hw _ (List.mem_of_getElem? (i := 39) rfl))) Via.refl e5 F_b0_floor_5 E_b0_5 (Or.inr ⟨(hw _ (List.mem_of_getElem? (i := 40) rfl)), rfl, hnm⟩) (hw _ (List.mem_of_getElem? (i := 6) rfl)) (ty := .long) (by decide) rfl rfl (g := (mkF m 26 #[.val (.ref b0), .val (.ref b1), .val (.int p2), .val (.long q3), .second, .val (.long q4), .second, .val (.long q5), .second, .val (.ref b6), .val (.ref b7)] [(.long q3), (.ref b0)])) rfl rfl (hb hby d_own_rmA2_26)
  have E_b0_6 := E_b0_5.wr W6
  have F_b0_opened_6 := F_b0_opened_5.other W6 (Or.inr (slot_ne (Or.inr (hw _ (List.mem_of_getElem? (i := 42) rfl))) (Or.inr (hw _ (List.mem_of_getElem? (i := 40) rfl))) (by decide) (t := .long) (t' := .long) (by decide) (by decide)))
  have F_b0_latest_6 := F_b0_latest_5.other W6 (Or.inr (slot_ne (Or.inl (hw _ (List.mem_of_getElem? (i := 61) rfl))) (Or.inr (hw _ (List.mem_of_getElem? (i := 40) rfl))) (by decide) (t := (.object "com/example/tandem_ledger/tandemledger/Account$Version")) (t' := .long) (by decide) (by decide)))
  have F_b0_kept_6 := F_b0_kept_5.other W6 (Or.inr (slot_ne (Or.inl (hw _ (List.mem_of_getElem? (i := 32) rfl))) (Or.inr (hw _ (List.mem_of_getElem? (i := 40) rfl))) (by decide) (t := .int) (t' := .long) (by decide) (by decide)))
  have F_b0_keptAfterLettingGo_6 := F_b0_keptAfterLettingGo_5.other W6 (Or.inr (slot_ne (Or.inl (hw _ (List.mem_of_getElem? (i := 34) rfl))) (Or.inr (hw _ (List.mem_of_getElem? (i := 40) rfl))) (by decide) (t := .int) (t' := .long) (by decide) (by decide)))
  have F_b0_name_6 := F_b0_name_5.other W6 (Or.inr (slot_ne (Or.inr (hw _ (List.mem_of_getElem? (i := 36) rfl))) (Or.inr (hw _ (List.mem_of_getElem? (i := 40) rfl))) (by decide) (t := (.object "java/lang/String")) (t' := .long) (by decide) (by decide)))
  have F_b0_hasFloor_6 := F_b0_hasFloor_5.other W6 (Or.inr (slot_ne (Or.inr (hw _ (List.mem_of_getElem? (i := 38) rfl))) (Or.inr (hw _ (List.mem_of_getElem? (i := 40) rfl))) (by decide) (t := .boolean) (t' := .long) (by decide) (by decide)))
  have Z6 := Nat.le_trans Z5 (Keep.of_wr W6).1
  have K6 := K5.wr W6 (Or.inl (List.mem_of_getElem? (i := 0) rfl))
  have N6 := Fr.snoc X6 N5 g_0
  have F_b0_floor_6 := F_b0_floor_5.same W6
  obtain ⟨T7, h7, X7, e7, W7, st7⟩ := putF X6 hx hZ hown (host := "") (Or.inl (hw _ (List.mem_of_getElem? (i := 41) rfl))) Via.refl e6 F_b0_opened_6 E_b0_6 (Or.inr ⟨(hw _ (List.mem_of_getElem? (i := 42) rfl)), rfl, hnm⟩) (hw _ (List.mem_of_getElem? (i := 6) rfl)) (ty := .long) (by decide) rfl rfl (g := (mkF m 32 #[.val (.ref b0), .val (.ref b1), .val (.int p2), .val (.long q3), .second, .val (.long q4), .second, .val (.long q5), .second, .val (.ref b6), .val (.ref b7)] [(.long q4), (.ref b0)])) rfl rfl (hb hby d_own_rmA2_32)
  have E_b0_7 := E_b0_6.wr W7
  have F_b0_latest_7 := F_b0_latest_6.other W7 (Or.inr (slot_ne (Or.inl (hw _ (List.mem_of_getElem? (i := 61) rfl))) (Or.inr (hw _ (List.mem_of_getElem? (i := 42) rfl))) (by decide) (t := (.object "com/example/tandem_ledger/tandemledger/Account$Version")) (t' := .long) (by decide) (by decide)))
  have F_b0_kept_7 := F_b0_kept_6.other W7 (Or.inr (slot_ne (Or.inl (hw _ (List.mem_of_getElem? (i := 32) rfl))) (Or.inr (hw _ (List.mem_of_getElem? (i := 42) rfl))) (by decide) (t := .int) (t' := .long) (by decide) (by decide)))
  have F_b0_keptAfterLettingGo_7 := F_b0_keptAfterLettingGo_6.other W7 (Or.inr (slot_ne (Or.inl (hw _ (List.mem_of_getElem? (i := 34) rfl))) (Or.inr (hw _ (List.mem_of_getElem? (i := 42) rfl))) (by decide) (t := .int) (t' := .long) (by decide) (by decide)))
  have F_b0_name_7 := F_b0_name_6.other W7 (Or.inr (slot_ne (Or.inr (hw _ (List.mem_of_getElem? (i := 36) rfl))) (Or.inr (hw _ (List.mem_of_getElem? (i := 42) rfl))) (by decide) (t := (.object "java/lang/String")) (t' := .long) (by decide) (by decide)))
  have F_b0_hasFloor_7 := F_b0_hasFloor_6.other W7 (Or.inr (slot_ne (Or.inr (hw _ (List.mem_of_getElem? (i := 38) rfl))) (Or.inr (hw _ (List.mem_of_getElem? (i := 42) rfl))) (by decide) (t := .boolean) (t' := .long) (by decide) (by decide)))
  have F_b0_floor_7 := F_b0_floor_6.other W7 (Or.inr (slot_ne (Or.inr (hw _ (List.mem_of_getElem? (i := 40) rfl))) (Or.inr (hw _ (List.mem_of_getElem? (i := 42) rfl))) (by decide) (t := .long) (t' := .long) (by decide) (by decide)))
  have Z7 := Nat.le_trans Z6 (Keep.of_wr W7).1
  have K7 := K6.wr W7 (Or.inl (List.mem_of_getElem? (i := 0) rfl))
  have N7 := Fr.snoc X7 N6 g_0
  have F_b0_opened_7 := F_b0_opened_6.same W7
  obtain ⟨T8, h8, X8, e8, E8, A8, D8, -, st8⟩ := newO X7 hx hZ hown (hw _ (List.mem_of_getElem? (i := 43) rfl)) (hw _ (List.mem_of_getElem? (i := 44) rfl)) (hw _ (List.mem_of_getElem? (i := 45) rfl)) e7 (g := (mkF m 36 #[.val (.ref b0), .val (.ref b1), .val (.int p2), .val (.long q3), .second, .val (.long q4), .second, .val (.long q5), .second, .val (.ref b6), .val (.ref b7)] [(.ref b0)])) rfl (hb hby d_own_rmA2_36) (by decide) (by decide)
  obtain ⟨b8, g8⟩ : ∃ z, z = h7.size := ⟨_, rfl⟩
  rw [← g8] at A8 D8 st8
  have ne_b0_b8 : b0 ≠ b8 := Nat.ne_of_lt (Nat.lt_of_lt_of_le E_b0_7.lt (Nat.le_of_eq g8.symm))
  have new_b8 : n0 ≤ b8 := Nat.le_trans Z7 (Nat.le_of_eq g8.symm)
  have sz_b8 : h0.size ≤ b8 := Nat.le_trans K7.1 (Nat.le_of_eq g8.symm)
  have E_b0_8 := E_b0_7.ext E8
  have F_b0_latest_8 := F_b0_latest_7.ext E8
  have F_b0_kept_8 := F_b0_kept_7.ext E8
  have F_b0_keptAfterLettingGo_8 := F_b0_keptAfterLettingGo_7.ext E8
  have F_b0_name_8 := F_b0_name_7.ext E8
  have F_b0_hasFloor_8 := F_b0_hasFloor_7.ext E8
  have F_b0_floor_8 := F_b0_floor_7.ext E8
  have F_b0_opened_8 := F_b0_opened_7.ext E8
  have Z8 := Nat.le_trans Z7 E8.1
  have K8 := K7.ext E8
  have F_b8_commit_8 : Fld Z h8 b8 "com/example/tandem_ledger/tandemledger/Account$Version" "commit" "J" (.long (0 : Int64)) := D8 (Or.inr (hw _ (List.mem_of_getElem? (i := 51) rfl))) (ty := .long) (by decide)
  have F_b8_balance_8 : Fld Z h8 b8 "com/example/tandem_ledger/tandemledger/Account$Version" "balance" "J" (.long (0 : Int64)) := D8 (Or.inr (hw _ (List.mem_of_getElem? (i := 53) rfl))) (ty := .long) (by decide)
  have F_b8_reserve_8 : Fld Z h8 b8 "com/example/tandem_ledger/tandemledger/Account$Version" "reserve" "Lcom/example/tandem_ledger/tandemledger/Reserve;" .null := D8 (Or.inr (hw _ (List.mem_of_getElem? (i := 55) rfl))) (ty := (.object "com/example/tandem_ledger/tandemledger/Reserve")) (by decide)
  have F_b8_chain_8 : Fld Z h8 b8 "com/example/tandem_ledger/tandemledger/Account$Version" "chain" "Lcom/example/tandem_ledger/tandemledger/Chain;" .null := D8 (Or.inr (hw _ (List.mem_of_getElem? (i := 57) rfl))) (ty := (.object "com/example/tandem_ledger/tandemledger/Chain")) (by decide)
  have F_b8_earlier_8 : Fld Z h8 b8 "com/example/tandem_ledger/tandemledger/Account$Version" "earlier" "Lcom/example/tandem_ledger/tandemledger/Account$Version;" .null := D8 (Or.inl (hw _ (List.mem_of_getElem? (i := 59) rfl))) (ty := (.object "com/example/tandem_ledger/tandemledger/Account$Version")) (by decide)
  obtain ⟨_, _, ⟨T9, L9, k9, n9⟩, -, X9, ⟨Lc9, hQ9, l9, y9, z9⟩, st9⟩ := own_specialRef X8 hx hZ (y := (⟨"com/example/tandem_ledger/tandemledger/Account$Version", "<init>", "(JJLcom/example/tandem_ledger/tandemledger/Reserve;Lcom/example/tandem_ledger/tandemledger/Chain;Lcom/example/tandem_ledger/tandemledger/Account$Version;)V"⟩ : MethodName)) rfl hown (hw _ (List.mem_of_getElem? (i := 46) rfl)) (mvT hZ (hw _ (List.mem_of_getElem? (i := 47) rfl))) (mvT hZ (hw _ (List.mem_of_getElem? (i := 48) rfl))) (by decide) (backOf (W := 2) (own_rmVn l Z a0 hw [] b8 q4 q5 b6 b7  h8 n0 Z8 A8 F_b8_commit_8 F_b8_balance_8 F_b8_reserve_8 F_b8_chain_8 F_b8_earlier_8 new_b8) hZ (hw _ (List.mem_of_getElem? (i := 48) rfl)) (hw _ (List.mem_of_getElem? (i := 45) rfl)) (by decide) (by decide)) (g := (mkF m 49 #[.val (.ref b0), .val (.ref b1), .val (.int p2), .val (.long q3), .second, .val (.long q4), .second, .val (.long q5), .second, .val (.ref b6), .val (.ref b7)] [.null, (.ref b7), (.ref b6), (.long q5), (.long q4), (.ref b8), (.ref b8), (.ref b0)])) rfl (by rw [hml]; rfl) (a := b8) (argsL := [(.long q4), (.long q5), (.ref b6), (.ref b7), .null]) (rest := [(.ref b8), (.ref b0)]) (lenOf own_pd0 rfl) rfl (by show 2 * 0 + _ ≤ _; exact Nat.le_of_eq rfl) (hb hby d_own_rmA2_49) (fun _ _ => ⟨rfl, e8, (by decide : 1 + 0 ≤ _), (by decide : 5 + 0 ≤ _)⟩)
  dsimp only [Pt.U, Pt.locs, Pt.cells, Pt.slots] at X9 l9 y9 z9 st9 hQ9
  subst l9 y9 z9
  obtain ⟨rfl, N9q, K9q, B9_0, B9_1, B9_2, B9_3, B9_4⟩ := hQ9
  have E_b0_9 := E_b0_8.keep K9q
  have F_b0_latest_9 := F_b0_latest_8.keep K9q (fun q => ne_b0_b8 (List.mem_singleton.mp q))
  have F_b0_kept_9 := F_b0_kept_8.keep K9q (fun q => ne_b0_b8 (List.mem_singleton.mp q))
  have F_b0_keptAfterLettingGo_9 := F_b0_keptAfterLettingGo_8.keep K9q (fun q => ne_b0_b8 (List.mem_singleton.mp q))
  have F_b0_name_9 := F_b0_name_8.keep K9q (fun q => ne_b0_b8 (List.mem_singleton.mp q))
  have F_b0_hasFloor_9 := F_b0_hasFloor_8.keep K9q (fun q => ne_b0_b8 (List.mem_singleton.mp q))
  have F_b0_floor_9 := F_b0_floor_8.keep K9q (fun q => ne_b0_b8 (List.mem_singleton.mp q))
  have F_b0_opened_9 := F_b0_opened_8.keep K9q (fun q => ne_b0_b8 (List.mem_singleton.mp q))
  have E_b8_9 := A8.keep K9q
  have N9 := Fr.app N7 N9q
  have Z9 := Nat.le_trans Z8 K9q.1
  have K9 := K8.trans K9q (fun x hx => by cases List.mem_singleton.mp hx; exact Or.inr sz_b8)
  obtain ⟨T10, h10, X10, e10, W10, st10⟩ := putF X9 hx hZ hown (host := "") (Or.inl (hw _ (List.mem_of_getElem? (i := 60) rfl))) Via.refl rfl F_b0_latest_9 E_b0_9 (Or.inl (hw _ (List.mem_of_getElem? (i := 61) rfl))) (hw _ (List.mem_of_getElem? (i := 6) rfl)) (ty := (.object "com/example/tandem_ledger/tandemledger/Account$Version")) (by decide) rfl rfl (g := (mkF m 52 #[.val (.ref b0), .val (.ref b1), .val (.int p2), .val (.long q3), .second, .val (.long q4), .second, .val (.long q5), .second, .val (.ref b6), .val (.ref b7)] [(.ref b8), (.ref b0)])) rfl rfl (hb hby d_own_rmA2_52)
  have E_b0_10 := E_b0_9.wr W10
  have F_b0_kept_10 := F_b0_kept_9.other W10 (Or.inr (slot_ne (Or.inl (hw _ (List.mem_of_getElem? (i := 32) rfl))) (Or.inl (hw _ (List.mem_of_getElem? (i := 61) rfl))) (by decide) (t := .int) (t' := (.object "com/example/tandem_ledger/tandemledger/Account$Version")) (by decide) (by decide)))
  have F_b0_keptAfterLettingGo_10 := F_b0_keptAfterLettingGo_9.other W10 (Or.inr (slot_ne (Or.inl (hw _ (List.mem_of_getElem? (i := 34) rfl))) (Or.inl (hw _ (List.mem_of_getElem? (i := 61) rfl))) (by decide) (t := .int) (t' := (.object "com/example/tandem_ledger/tandemledger/Account$Version")) (by decide) (by decide)))
  have F_b0_name_10 := F_b0_name_9.other W10 (Or.inr (slot_ne (Or.inr (hw _ (List.mem_of_getElem? (i := 36) rfl))) (Or.inl (hw _ (List.mem_of_getElem? (i := 61) rfl))) (by decide) (t := (.object "java/lang/String")) (t' := (.object "com/example/tandem_ledger/tandemledger/Account$Version")) (by decide) (by decide)))
  have F_b0_hasFloor_10 := F_b0_hasFloor_9.other W10 (Or.inr (slot_ne (Or.inr (hw _ (List.mem_of_getElem? (i := 38) rfl))) (Or.inl (hw _ (List.mem_of_getElem? (i := 61) rfl))) (by decide) (t := .boolean) (t' := (.object "com/example/tandem_ledger/tandemledger/Account$Version")) (by decide) (by decide)))
  have F_b0_floor_10 := F_b0_floor_9.other W10 (Or.inr (slot_ne (Or.inr (hw _ (List.mem_of_getElem? (i := 40) rfl))) (Or.inl (hw _ (List.mem_of_getElem? (i := 61) rfl))) (by decide) (t := .long) (t' := (.object "com/example/tandem_ledger/tandemledger/Account$Version")) (by decide) (by decide)))
  have F_b0_opened_10 := F_b0_opened_9.other W10 (Or.inr (slot_ne (Or.inr (hw _ (List.mem_of_getElem? (i := 42) rfl))) (Or.inl (hw _ (List.mem_of_getElem? (i := 61) rfl))) (by decide) (t := .long) (t' := (.object "com/example/tandem_ledger/tandemledger/Account$Version")) (by decide) (by decide)))
  have E_b8_10 := E_b8_9.wr W10
  have F_b8_commit_10 := B9_0.other W10 (Or.inl (Ne.symm ne_b0_b8))
  have F_b8_balance_10 := B9_1.other W10 (Or.inl (Ne.symm ne_b0_b8))
  have F_b8_reserve_10 := B9_2.other W10 (Or.inl (Ne.symm ne_b0_b8))
  have F_b8_chain_10 := B9_3.other W10 (Or.inl (Ne.symm ne_b0_b8))
  have F_b8_earlier_10 := B9_4.other W10 (Or.inl (Ne.symm ne_b0_b8))
  have Z10 := Nat.le_trans Z9 (Keep.of_wr W10).1
  have K10 := K9.wr W10 (Or.inl (List.mem_of_getElem? (i := 0) rfl))
  have N10 := Fr.snoc X10 N9 g_0
  have F_b0_latest_10 := F_b0_latest_9.same W10
  obtain ⟨fs, hr, hrun, hended, hW, hsame⟩ := X10.leave (v := none) (fun _ => rfl)
  refine ⟨_, _, ?_, hrun, hended, _, _, rfl, ?_, ⟨_, rfl⟩, hW, hsame.mono (by decide) (by decide)⟩
  · show Steps p.tables e below (s₁.setTop (mkF m 0 #[.val (.ref b0), .val (.ref b1), .val (.int p2), .val (.long q3), .second, .val (.long q4), .second, .val (.long q5), .second, .val (.ref b6), .val (.ref b7)] [])) _
    refine XS.aloadN X0.here hx rfl (hb hby d_own_rmA2_0) rfl rfl ?_
    show Steps p.tables e below (s₁.setTop (mkF m 1 #[.val (.ref b0), .val (.ref b1), .val (.int p2), .val (.long q3), .second, .val (.long q4), .second, .val (.long q5), .second, .val (.ref b6), .val (.ref b7)] [(.ref b0)])) _
    refine st1 _ ?_
    show Steps p.tables e below (T1.setTop (mkF m 4 #[.val (.ref b0), .val (.ref b1), .val (.int p2), .val (.long q3), .second, .val (.long q4), .second, .val (.long q5), .second, .val (.ref b6), .val (.ref b7)] [])) _
    refine XS.aloadN X1.here hx rfl (hb hby d_own_rmA2_4) rfl rfl ?_
    show Steps p.tables e below (T1.setTop (mkF m 5 #[.val (.ref b0), .val (.ref b1), .val (.int p2), .val (.long q3), .second, .val (.long q4), .second, .val (.long q5), .second, .val (.ref b6), .val (.ref b7)] [(.ref b0)])) _
    refine XS.iconst X1.here hx rfl (hb hby d_own_rmA2_5) ?_
    show Steps p.tables e below (T1.setTop (mkF m 6 #[.val (.ref b0), .val (.ref b1), .val (.int p2), .val (.long q3), .second, .val (.long q4), .second, .val (.long q5), .second, .val (.ref b6), .val (.ref b7)] [(.int (1 : Int32)), (.ref b0)])) _
    refine st2 _ ?_
    show Steps p.tables e below (T2.setTop (mkF m 9 #[.val (.ref b0), .val (.ref b1), .val (.int p2), .val (.long q3), .second, .val (.long q4), .second, .val (.long q5), .second, .val (.ref b6), .val (.ref b7)] [])) _
    refine XS.aloadN X2.here hx rfl (hb hby d_own_rmA2_9) rfl rfl ?_
    show Steps p.tables e below (T2.setTop (mkF m 10 #[.val (.ref b0), .val (.ref b1), .val (.int p2), .val (.long q3), .second, .val (.long q4), .second, .val (.long q5), .second, .val (.ref b6), .val (.ref b7)] [(.ref b0)])) _
    refine XS.iconst X2.here hx rfl (hb hby d_own_rmA2_10) ?_
    show Steps p.tables e below (T2.setTop (mkF m 11 #[.val (.ref b0), .val (.ref b1), .val (.int p2), .val (.long q3), .second, .val (.long q4), .second, .val (.long q5), .second, .val (.ref b6), .val (.ref b7)] [(.int (1 : Int32)), (.ref b0)])) _
    refine st3 _ ?_
    show Steps p.tables e below (T3.setTop (mkF m 14 #[.val (.ref b0), .val (.ref b1), .val (.int p2), .val (.long q3), .second, .val (.long q4), .second, .val (.long q5), .second, .val (.ref b6), .val (.ref b7)] [])) _
    refine XS.aloadN X3.here hx rfl (hb hby d_own_rmA2_14) rfl rfl ?_
    show Steps p.tables e below (T3.setTop (mkF m 15 #[.val (.ref b0), .val (.ref b1), .val (.int p2), .val (.long q3), .second, .val (.long q4), .second, .val (.long q5), .second, .val (.ref b6), .val (.ref b7)] [(.ref b0)])) _
    refine XS.aloadN X3.here hx rfl (hb hby d_own_rmA2_15) rfl rfl ?_
    show Steps p.tables e below (T3.setTop (mkF m 16 #[.val (.ref b0), .val (.ref b1), .val (.int p2), .val (.long q3), .second, .val (.long q4), .second, .val (.long q5), .second, .val (.ref b6), .val (.ref b7)] [(.ref b1), (.ref b0)])) _
    refine st4 _ ?_
    show Steps p.tables e below (T4.setTop (mkF m 19 #[.val (.ref b0), .val (.ref b1), .val (.int p2), .val (.long q3), .second, .val (.long q4), .second, .val (.long q5), .second, .val (.ref b6), .val (.ref b7)] [])) _
    refine XS.aloadN X4.here hx rfl (hb hby d_own_rmA2_19) rfl rfl ?_
    show Steps p.tables e below (T4.setTop (mkF m 20 #[.val (.ref b0), .val (.ref b1), .val (.int p2), .val (.long q3), .second, .val (.long q4), .second, .val (.long q5), .second, .val (.ref b6), .val (.ref b7)] [(.ref b0)])) _
    refine XS.iloadN X4.here hx rfl (hb hby d_own_rmA2_20) rfl ?_
    show Steps p.tables e below (T4.setTop (mkF m 21 #[.val (.ref b0), .val (.ref b1), .val (.int p2), .val (.long q3), .second, .val (.long q4), .second, .val (.long q5), .second, .val (.ref b6), .val (.ref b7)] [(.int p2), (.ref b0)])) _
    refine st5 _ ?_
    show Steps p.tables e below (T5.setTop (mkF m 24 #[.val (.ref b0), .val (.ref b1), .val (.int p2), .val (.long q3), .second, .val (.long q4), .second, .val (.long q5), .second, .val (.ref b6), .val (.ref b7)] [])) _
    refine XS.aloadN X5.here hx rfl (hb hby d_own_rmA2_24) rfl rfl ?_
    show Steps p.tables e below (T5.setTop (mkF m 25 #[.val (.ref b0), .val (.ref b1), .val (.int p2), .val (.long q3), .second, .val (.long q4), .second, .val (.long q5), .second, .val (.ref b6), .val (.ref b7)] [(.ref b0)])) _
    refine XS.lloadN X5.here hx rfl (hb hby d_own_rmA2_25) rfl ?_
    show Steps p.tables e below (T5.setTop (mkF m 26 #[.val (.ref b0), .val (.ref b1), .val (.int p2), .val (.long q3), .second, .val (.long q4), .second, .val (.long q5), .second, .val (.ref b6), .val (.ref b7)] [(.long q3), (.ref b0)])) _
    refine st6 _ ?_
    show Steps p.tables e below (T6.setTop (mkF m 29 #[.val (.ref b0), .val (.ref b1), .val (.int p2), .val (.long q3), .second, .val (.long q4), .second, .val (.long q5), .second, .val (.ref b6), .val (.ref b7)] [])) _
    refine XS.aloadN X6.here hx rfl (hb hby d_own_rmA2_29) rfl rfl ?_
    show Steps p.tables e below (T6.setTop (mkF m 30 #[.val (.ref b0), .val (.ref b1), .val (.int p2), .val (.long q3), .second, .val (.long q4), .second, .val (.long q5), .second, .val (.ref b6), .val (.ref b7)] [(.ref b0)])) _
    refine XS.lload X6.here hx rfl (hb hby d_own_rmA2_30) rfl ?_
    show Steps p.tables e below (T6.setTop (mkF m 32 #[.val (.ref b0), .val (.ref b1), .val (.int p2), .val (.long q3), .second, .val (.long q4), .second, .val (.long q5), .second, .val (.ref b6), .val (.ref b7)] [(.long q4), (.ref b0)])) _
    refine st7 _ ?_
    show Steps p.tables e below (T7.setTop (mkF m 35 #[.val (.ref b0), .val (.ref b1), .val (.int p2), .val (.long q3), .second, .val (.long q4), .second, .val (.long q5), .second, .val (.ref b6), .val (.ref b7)] [])) _
    refine XS.aloadN X7.here hx rfl (hb hby d_own_rmA2_35) rfl rfl ?_
    show Steps p.tables e below (T7.setTop (mkF m 36 #[.val (.ref b0), .val (.ref b1), .val (.int p2), .val (.long q3), .second, .val (.long q4), .second, .val (.long q5), .second, .val (.ref b6), .val (.ref b7)] [(.ref b0)])) _
    refine st8 _ ?_
    show Steps p.tables e below (T8.setTop (mkF m 39 #[.val (.ref b0), .val (.ref b1), .val (.int p2), .val (.long q3), .second, .val (.long q4), .second, .val (.long q5), .second, .val (.ref b6), .val (.ref b7)] [(.ref b8), (.ref b0)])) _
    refine XS.dup X8.here hx rfl (hb hby d_own_rmA2_39) rfl rfl ?_
    show Steps p.tables e below (T8.setTop (mkF m 40 #[.val (.ref b0), .val (.ref b1), .val (.int p2), .val (.long q3), .second, .val (.long q4), .second, .val (.long q5), .second, .val (.ref b6), .val (.ref b7)] [(.ref b8), (.ref b8), (.ref b0)])) _
    refine XS.lload X8.here hx rfl (hb hby d_own_rmA2_40) rfl ?_
    show Steps p.tables e below (T8.setTop (mkF m 42 #[.val (.ref b0), .val (.ref b1), .val (.int p2), .val (.long q3), .second, .val (.long q4), .second, .val (.long q5), .second, .val (.ref b6), .val (.ref b7)] [(.long q4), (.ref b8), (.ref b8), (.ref b0)])) _
    refine XS.lload X8.here hx rfl (hb hby d_own_rmA2_42) rfl ?_
    show Steps p.tables e below (T8.setTop (mkF m 44 #[.val (.ref b0), .val (.ref b1), .val (.int p2), .val (.long q3), .second, .val (.long q4), .second, .val (.long q5), .second, .val (.ref b6), .val (.ref b7)] [(.long q5), (.long q4), (.ref b8), (.ref b8), (.ref b0)])) _
    refine XS.aload X8.here hx rfl (hb hby d_own_rmA2_44) rfl rfl ?_
    show Steps p.tables e below (T8.setTop (mkF m 46 #[.val (.ref b0), .val (.ref b1), .val (.int p2), .val (.long q3), .second, .val (.long q4), .second, .val (.long q5), .second, .val (.ref b6), .val (.ref b7)] [(.ref b6), (.long q5), (.long q4), (.ref b8), (.ref b8), (.ref b0)])) _
    refine XS.aload X8.here hx rfl (hb hby d_own_rmA2_46) rfl rfl ?_
    show Steps p.tables e below (T8.setTop (mkF m 48 #[.val (.ref b0), .val (.ref b1), .val (.int p2), .val (.long q3), .second, .val (.long q4), .second, .val (.long q5), .second, .val (.ref b6), .val (.ref b7)] [(.ref b7), (.ref b6), (.long q5), (.long q4), (.ref b8), (.ref b8), (.ref b0)])) _
    refine XS.aconstNull X8.here hx rfl (hb hby d_own_rmA2_48) ?_
    show Steps p.tables e below (T8.setTop (mkF m 49 #[.val (.ref b0), .val (.ref b1), .val (.int p2), .val (.long q3), .second, .val (.long q4), .second, .val (.long q5), .second, .val (.ref b6), .val (.ref b7)] [.null, (.ref b7), (.ref b6), (.long q5), (.long q4), (.ref b8), (.ref b8), (.ref b0)])) _
    refine st9.trans ?_
    show Steps p.tables e below (T9.setTop (mkF m 52 #[.val (.ref b0), .val (.ref b1), .val (.int p2), .val (.long q3), .second, .val (.long q4), .second, .val (.long q5), .second, .val (.ref b6), .val (.ref b7)] [(.ref b8), (.ref b0)])) _
    refine st10 _ ?_
    show Steps p.tables e below (T10.setTop (mkF m 55 #[.val (.ref b0), .val (.ref b1), .val (.int p2), .val (.long q3), .second, .val (.long q4), .second, .val (.long q5), .second, .val (.ref b6), .val (.ref b7)] [])) _
    exact X10.returnOut hx Bd.returns (hb hby d_own_rmA2_55) hr
  · show own_QP Z b0 (1 : Int32) q4 q5 b6 b7 .null h0 n0 _ T10.heap _
    rw [e10]
    exact ⟨rfl, N10, K10, b8, (Ne.symm ne_b0_b8), sz_b8, F_b0_latest_10, F_b0_kept_10, F_b0_keptAfterLettingGo_10, E_b8_10, F_b8_commit_10, F_b8_balance_10, F_b8_reserve_10, F_b8_chain_10, F_b8_earlier_10⟩
theorem d_own_rmA1_0 : decode prog_1_method_1_code 0 = .ok (.aload_n 0, 1) := by decide +kernel
theorem d_own_rmA1_1 : decode prog_1_method_1_code 1 = .ok (.aload_n 1, 1) := by decide +kernel
theorem d_own_rmA1_2 : decode prog_1_method_1_code 2 = .ok (.iload_n 2, 1) := by decide +kernel
theorem d_own_rmA1_3 : decode prog_1_method_1_code 3 = .ok (.lload_n 3, 1) := by decide +kernel
theorem d_own_rmA1_4 : decode prog_1_method_1_code 4 = .ok (.lload 5, 2) := by decide +kernel
theorem d_own_rmA1_6 : decode prog_1_method_1_code 6 = .ok (.lconst 0, 1) := by decide +kernel
theorem d_own_rmA1_7 : decode prog_1_method_1_code 7 = .ok (.getstatic 1, 3) := by decide +kernel
theorem d_own_rmA1_10 : decode prog_1_method_1_code 10 = .ok (.getstatic 7, 3) := by decide +kernel
theorem d_own_rmA1_13 : decode prog_1_method_1_code 13 = .ok (.invokespecial 12, 3) := by decide +kernel
theorem d_own_rmA1_16 : decode prog_1_method_1_code 16 = .ok (.return_, 1) := by decide +kernel
theorem ef_own_rmA1 (m : MethodId) (x0 : Addr) (x1 : Addr) (x2 : Int32) (x3 : Int64) (x4 : Int64) : entryFrame m #[(.ref x0), (.ref x1), (.int x2), (.long x3), (.long x4)] 7 = mkF m 0 #[.val (.ref x0), .val (.ref x1), .val (.int x2), .val (.long x3), .second, .val (.long x4), .second] [] := by first | (simp [entryFrame, mkF, argsToLocals, Value.category]; done) | rfl
set_option maxRecDepth 65536 in
set_option maxHeartbeats 40000000 in
theorem own_rmA1 (l : Launch) (Z : State) (a0 : Array Value) (hw : ∀ d ∈ tables_1, d.before a0 Z = true) (ws : List Jvm.Cond) (b0 : Addr) (b1 : Addr) (p2 : Int32) (q3 : Int64) (q4 : Int64) (bR bC : Addr) (h0 : Heap) (n0 : Nat) (Z0 : n0 ≤ h0.size) (E_0 : Exa Z h0 b0 "com/example/tandem_ledger/tandemledger/Account") (F_kept : Fld Z h0 b0 "com/example/tandem_ledger/tandemledger/Account" "kept" "I" (.int (0 : Int32))) (F_keptAfterLettingGo : Fld Z h0 b0 "com/example/tandem_ledger/tandemledger/Account" "keptAfterLettingGo" "I" (.int (0 : Int32))) (F_name : Fld Z h0 b0 "com/example/tandem_ledger/tandemledger/Account" "name" "Ljava/lang/String;" .null) (F_hasFloor : Fld Z h0 b0 "com/example/tandem_ledger/tandemledger/Account" "hasFloor" "Z" (.int (0 : Int32))) (F_floor : Fld Z h0 b0 "com/example/tandem_ledger/tandemledger/Account" "floor" "J" (.long (0 : Int64))) (F_opened : Fld Z h0 b0 "com/example/tandem_ledger/tandemledger/Account" "opened" "J" (.long (0 : Int64))) (F_latest : Fld Z h0 b0 "com/example/tandem_ledger/tandemledger/Account" "latest" "Lcom/example/tandem_ledger/tandemledger/Account$Version;" .null) (g_0 : n0 ≤ b0) (S_R : Sta Z h0 "com/example/tandem_ledger/tandemledger/Reserve" "NONE" "Lcom/example/tandem_ledger/tandemledger/Reserve;" (.ref bR)) (S_C : Sta Z h0 "com/example/tandem_ledger/tandemledger/Chain" "NONE" "Lcom/example/tandem_ledger/tandemledger/Chain;" (.ref bC)) :
    MetFree l (⟨"com/example/tandem_ledger/tandemledger/Account", "<init>", "(Ljava/lang/String;ZJJ)V"⟩ : MethodName) (head1 (Jvm.Cond.code (⟨"com/example/tandem_ledger/tandemledger/Account", "<init>", "(Ljava/lang/String;ZJJ)V"⟩ : MethodName) prog_1_method_1_code 7 none :: ws) ({ frames := 3, cells := 1, slots := 5, locals := 55 } : Room)) (fun a U => a = #[(.ref b0), (.ref b1), (.int p2), (.long q3), (.long q4)] ∧ Z.Warmed39 U.vm ∧ U.heap = h0) (fun _ _ _ _ _ => True) (fun _ U o U' => ∃ v L, o = .returned v ∧ own_QP Z b0 (1 : Int32) q4 (0 : Int64) bR bC .null h0 n0 v U'.heap L ∧ FrameEnd U o U' L ({ frames := 3, cells := 1, slots := 5, locals := 55 } : Room).cells ({ frames := 3, cells := 1, slots := 5, locals := 55 } : Room).slots) := by
  refine MetFree.of_bodySF (plainFor_of_name own_pn1) hisR ?_
  intro p e s m args below meth c s₁ Bd hml0 hP hK
  obtain ⟨rfl, hZ, hh⟩ := hP
  have hx := Bd.exec
  have hby := Bd.bytes
  have hml : c.maxLocals = 7 := hml0
  have hown : s.vm.findClass "com/example/tandem_ledger/tandemledger/Account" = some m.cls := findClass_of_methodNamed Bd.named
  have hnm := (name_of_methodNamed Bd.named Bd.method).1
  have X0 : Stand p l e ({ frames := 3, cells := 1, slots := 5, locals := 55 } : Room) s m #[(.ref b0), (.ref b1), (.int p2), (.long q3), (.long q4)] below meth c s₁ [] 0 0 := Stand.of_body Bd
  have e0 : s₁.heap = h0 := by rw [← hh, Bd.state]; rfl
  have N0 := Fr.nil n0
  refine own_go (b := s₁.setTop (mkF m 0 #[.val (.ref b0), .val (.ref b1), .val (.int p2), .val (.long q3), .second, .val (.long q4), .second] [])) (fun t k => castTop (ef_own_rmA1 m b0 b1 p2 q3 q4) k) ?_
  obtain ⟨T1, X1, e1, st1⟩ := getS2 X0 hx hZ hown (host := "") (Or.inl (hw _ (List.mem_of_getElem? (i := 19) rfl))) Via.refl e0 S_R (g := (mkF m 7 #[.val (.ref b0), .val (.ref b1), .val (.int p2), .val (.long q3), .second, .val (.long q4), .second] [(.long (0 : Int64)), (.long q4), (.long q3), (.int p2), (.ref b1), (.ref b0)])) rfl (hb hby d_own_rmA1_7)
  obtain ⟨T2, X2, e2, st2⟩ := getS2 X1 hx hZ hown (host := "") (Or.inl (hw _ (List.mem_of_getElem? (i := 22) rfl))) Via.refl e1 S_C (g := (mkF m 10 #[.val (.ref b0), .val (.ref b1), .val (.int p2), .val (.long q3), .second, .val (.long q4), .second] [(.ref bR), (.long (0 : Int64)), (.long q4), (.long q3), (.int p2), (.ref b1), (.ref b0)])) rfl (hb hby d_own_rmA1_10)
  obtain ⟨_, _, ⟨T3, L3, k3, n3⟩, -, X3, ⟨Lc3, hQ3, l3, y3, z3⟩, st3⟩ := X2.specialBack hx (y := (⟨"com/example/tandem_ledger/tandemledger/Account", "<init>", "(Ljava/lang/String;ZJJJLcom/example/tandem_ledger/tandemledger/Reserve;Lcom/example/tandem_ledger/tandemledger/Chain;)V"⟩ : MethodName)) rfl hown (mvT hZ (hw _ (List.mem_of_getElem? (i := 25) rfl))) (mvT hZ (hw _ (List.mem_of_getElem? (i := 26) rfl))) (mvT hZ (hw _ (List.mem_of_getElem? (i := 27) rfl))) (by decide) (backOf (W := 0) (own_rmA2 l Z a0 hw [] b0 b1 p2 q3 q4 (0 : Int64) bR bC  h0 n0 Z0 E_0 F_kept F_keptAfterLettingGo F_name F_hasFloor F_floor F_opened F_latest g_0) hZ (hw _ (List.mem_of_getElem? (i := 27) rfl)) (hw _ (List.mem_of_getElem? (i := 7) rfl)) (by decide) (by decide)) (g := (mkF m 13 #[.val (.ref b0), .val (.ref b1), .val (.int p2), .val (.long q3), .second, .val (.long q4), .second] [(.ref bC), (.ref bR), (.long (0 : Int64)), (.long q4), (.long q3), (.int p2), (.ref b1), (.ref b0)])) rfl (by rw [hml]; rfl) (Steps.refl _) (a := b0) (argsL := [(.ref b1), (.int p2), (.long q3), (.long q4), (.long (0 : Int64)), (.ref bR), (.ref bC)]) (rest := []) (lenOf own_pd1 rfl) rfl (by show 2 * 0 + _ ≤ _; exact Nat.le_of_eq rfl) (hb hby d_own_rmA1_13) (fun _ _ => ⟨rfl, e2, (by decide : 0 + 1 ≤ _), (by decide : 0 + 5 ≤ _)⟩)
  dsimp only [Pt.U, Pt.locs, Pt.cells, Pt.slots] at X3 l3 y3 z3 st3 hQ3
  subst l3 y3 z3
  obtain ⟨rfl, N3q, K3q, bv3, nx3, sx3, Fl3, Fk3, Fg3, Ex3, Fc3, Fb3, Fr3, Fh3, Fe3⟩ := hQ3
  have E_b0_3 := E_0.keep K3q
  have S_Reserve_NONE_3 := own_staKeep S_R E_0 K3q
  have S_Chain_NONE_3 := own_staKeep S_C E_0 K3q
  have ne_b0_bv3 : b0 ≠ bv3 := Nat.ne_of_lt (Nat.lt_of_lt_of_le E_0.lt sx3)
  have N3 := Fr.app N0 N3q
  have Z3 := Nat.le_trans Z0 K3q.1
  have sz_bv3 : h0.size ≤ bv3 := Nat.le_trans (Keep.refl h0 [b0]).1 sx3
  have K3 := (Keep.refl h0 [b0]).trans K3q (fun x hx => by cases List.mem_singleton.mp hx; exact Or.inl (List.mem_of_getElem? (i := 0) rfl))
  obtain ⟨fs, hr, hrun, hended, hW, hsame⟩ := X3.leave (v := none) (fun _ => rfl)
  refine ⟨_, _, ?_, hrun, hended, _, _, rfl, ?_, ⟨_, rfl⟩, hW, hsame.mono (by decide) (by decide)⟩
  · show Steps p.tables e below (s₁.setTop (mkF m 0 #[.val (.ref b0), .val (.ref b1), .val (.int p2), .val (.long q3), .second, .val (.long q4), .second] [])) _
    refine XS.aloadN X0.here hx rfl (hb hby d_own_rmA1_0) rfl rfl ?_
    show Steps p.tables e below (s₁.setTop (mkF m 1 #[.val (.ref b0), .val (.ref b1), .val (.int p2), .val (.long q3), .second, .val (.long q4), .second] [(.ref b0)])) _
    refine XS.aloadN X0.here hx rfl (hb hby d_own_rmA1_1) rfl rfl ?_
    show Steps p.tables e below (s₁.setTop (mkF m 2 #[.val (.ref b0), .val (.ref b1), .val (.int p2), .val (.long q3), .second, .val (.long q4), .second] [(.ref b1), (.ref b0)])) _
    refine XS.iloadN X0.here hx rfl (hb hby d_own_rmA1_2) rfl ?_
    show Steps p.tables e below (s₁.setTop (mkF m 3 #[.val (.ref b0), .val (.ref b1), .val (.int p2), .val (.long q3), .second, .val (.long q4), .second] [(.int p2), (.ref b1), (.ref b0)])) _
    refine XS.lloadN X0.here hx rfl (hb hby d_own_rmA1_3) rfl ?_
    show Steps p.tables e below (s₁.setTop (mkF m 4 #[.val (.ref b0), .val (.ref b1), .val (.int p2), .val (.long q3), .second, .val (.long q4), .second] [(.long q3), (.int p2), (.ref b1), (.ref b0)])) _
    refine XS.lload X0.here hx rfl (hb hby d_own_rmA1_4) rfl ?_
    show Steps p.tables e below (s₁.setTop (mkF m 6 #[.val (.ref b0), .val (.ref b1), .val (.int p2), .val (.long q3), .second, .val (.long q4), .second] [(.long q4), (.long q3), (.int p2), (.ref b1), (.ref b0)])) _
    refine XS.lconst X0.here hx rfl (hb hby d_own_rmA1_6) ?_
    show Steps p.tables e below (s₁.setTop (mkF m 7 #[.val (.ref b0), .val (.ref b1), .val (.int p2), .val (.long q3), .second, .val (.long q4), .second] [(.long (0 : Int64)), (.long q4), (.long q3), (.int p2), (.ref b1), (.ref b0)])) _
    refine st1 _ ?_
    show Steps p.tables e below (T1.setTop (mkF m 10 #[.val (.ref b0), .val (.ref b1), .val (.int p2), .val (.long q3), .second, .val (.long q4), .second] [(.ref bR), (.long (0 : Int64)), (.long q4), (.long q3), (.int p2), (.ref b1), (.ref b0)])) _
    refine st2 _ ?_
    show Steps p.tables e below (T2.setTop (mkF m 13 #[.val (.ref b0), .val (.ref b1), .val (.int p2), .val (.long q3), .second, .val (.long q4), .second] [(.ref bC), (.ref bR), (.long (0 : Int64)), (.long q4), (.long q3), (.int p2), (.ref b1), (.ref b0)])) _
    refine st3.trans ?_
    show Steps p.tables e below (T3.setTop (mkF m 16 #[.val (.ref b0), .val (.ref b1), .val (.int p2), .val (.long q3), .second, .val (.long q4), .second] [])) _
    exact X3.returnOut hx Bd.returns (hb hby d_own_rmA1_16) hr
  · show own_QP Z b0 (1 : Int32) q4 (0 : Int64) bR bC .null h0 n0 _ T3.heap _
    exact ⟨rfl, N3, K3, bv3, (Ne.symm ne_b0_bv3), sz_bv3, Fl3, Fk3, Fg3, Ex3, Fc3, Fb3, Fr3, Fh3, Fe3⟩
theorem d_own_rmRec_0 : decode prog_15_method_4_code 0 = .ok (.aload_n 0, 1) := by decide +kernel
theorem d_own_rmRec_1 : decode prog_15_method_4_code 1 = .ok (.getfield 7, 3) := by decide +kernel
theorem d_own_rmRec_4 : decode prog_15_method_4_code 4 = .ok (.lreturn, 1) := by decide +kernel
theorem ef_own_rmRec (m : MethodId) (x0 : Addr) : entryFrame m #[(.ref x0)] 1 = mkF m 0 #[.val (.ref x0)] [] := by first | (simp [entryFrame, mkF, argsToLocals, Value.category]; done) | rfl
set_option maxRecDepth 65536 in
set_option maxHeartbeats 40000000 in
theorem own_rmRec (l : Launch) (Z : State) (a0 : Array Value) (hw : ∀ d ∈ tables_1, d.before a0 Z = true) (ws : List Jvm.Cond) (b0 : Addr) (u : Int64) (h0 : Heap) (n0 : Nat) (Z0 : n0 ≤ h0.size) (F_r : Fld Z h0 b0 "com/example/tandem_ledger/tandemledger/Chain" "record" "J" (.long u)) :
    MetFree l (⟨"com/example/tandem_ledger/tandemledger/Chain", "record", "()J"⟩ : MethodName) (head1 (Jvm.Cond.code (⟨"com/example/tandem_ledger/tandemledger/Chain", "record", "()J"⟩ : MethodName) prog_15_method_4_code 1 (some .long) :: ws) ({ frames := 0, cells := 0, slots := 0, locals := 0 } : Room)) (fun a U => a = #[(.ref b0)] ∧ Z.Warmed39 U.vm ∧ U.heap = h0) (fun _ _ _ _ _ => True) (fun _ U o U' => ∃ v L, o = .returned v ∧ own_QJ u h0 n0 v U'.heap L ∧ FrameEnd U o U' L ({ frames := 0, cells := 0, slots := 0, locals := 0 } : Room).cells ({ frames := 0, cells := 0, slots := 0, locals := 0 } : Room).slots) := by
  refine MetFree.of_bodySF (plainFor_of_name own_pn2) hisR ?_
  intro p e s m args below meth c s₁ Bd hml0 hP hK
  obtain ⟨rfl, hZ, hh⟩ := hP
  have hx := Bd.exec
  have hby := Bd.bytes
  have hml : c.maxLocals = 1 := hml0
  have hown : s.vm.findClass "com/example/tandem_ledger/tandemledger/Chain" = some m.cls := findClass_of_methodNamed Bd.named
  have hnm := (name_of_methodNamed Bd.named Bd.method).1
  have X0 : Stand p l e ({ frames := 0, cells := 0, slots := 0, locals := 0 } : Room) s m #[(.ref b0)] below meth c s₁ [] 0 0 := Stand.of_body Bd
  have e0 : s₁.heap = h0 := by rw [← hh, Bd.state]; rfl
  have N0 := Fr.nil n0
  refine own_go (b := s₁.setTop (mkF m 0 #[.val (.ref b0)] [])) (fun t k => castTop (ef_own_rmRec m b0) k) ?_
  obtain ⟨T1, X1, e1, st1⟩ := getF X0 hx hZ hown (host := "") (Or.inl (hw _ (List.mem_of_getElem? (i := 73) rfl))) Via.refl e0 F_r (g := (mkF m 1 #[.val (.ref b0)] [(.ref b0)])) rfl rfl (hb hby d_own_rmRec_1)
  obtain ⟨fs, hr, hrun, hended, hW, hsame⟩ := X1.leave (v := some (.long u)) (fun h => by rw [Bd.returns] at h; cases h)
  refine ⟨_, _, ?_, hrun, hended, _, _, rfl, ?_, ⟨_, rfl⟩, hW, hsame.mono (by decide) (by decide)⟩
  · show Steps p.tables e below (s₁.setTop (mkF m 0 #[.val (.ref b0)] [])) _
    refine XS.aloadN X0.here hx rfl (hb hby d_own_rmRec_0) rfl rfl ?_
    show Steps p.tables e below (s₁.setTop (mkF m 1 #[.val (.ref b0)] [(.ref b0)])) _
    refine st1 _ ?_
    show Steps p.tables e below (T1.setTop (mkF m 4 #[.val (.ref b0)] [(.long u)])) _
    jvm_step X1.here [X1.here.top, hx, (hb hby d_own_rmRec_4), X1.method', Bd.returns, narrow]
    first | (intro acts; rw [hr _ acts rfl rfl rfl]) | rw [hr _ _ rfl rfl rfl]
    exact Steps.refl _
  · show own_QJ u h0 n0 _ T1.heap _
    rw [e1]
    exact ⟨rfl, N0, rfl⟩
theorem d_own_rmChAn1_0 : decode prog_1_method_12_code 0 = .ok (.aload_n 0, 1) := by decide +kernel
theorem d_own_rmChAn1_1 : decode prog_1_method_12_code 1 = .ok (.getfield 50, 3) := by decide +kernel
theorem d_own_rmChAn1_4 : decode prog_1_method_12_code 4 = .ok (.astore 8, 2) := by decide +kernel
theorem d_own_rmChAn1_6 : decode prog_1_method_12_code 6 = .ok (.aload 8, 2) := by decide +kernel
theorem d_own_rmChAn1_8 : decode prog_1_method_12_code 8 = .ok (.getfield 121, 3) := by decide +kernel
theorem d_own_rmChAn1_11 : decode prog_1_method_12_code 11 = .ok (.lload_n 1, 1) := by decide +kernel
theorem d_own_rmChAn1_12 : decode prog_1_method_12_code 12 = .ok (.lcmp, 1) := by decide +kernel
theorem d_own_rmChAn1_13 : decode prog_1_method_12_code 13 = .ok (.ifCond .ne 11, 3) := by decide +kernel
theorem d_own_rmChAn1_16 : decode prog_1_method_12_code 16 = .ok (.aload 8, 2) := by decide +kernel
theorem d_own_rmChAn1_18 : decode prog_1_method_12_code 18 = .ok (.getfield 124, 3) := by decide +kernel
theorem d_own_rmChAn1_21 : decode prog_1_method_12_code 21 = .ok (.goto 5, 3) := by decide +kernel
theorem d_own_rmChAn1_26 : decode prog_1_method_12_code 26 = .ok (.astore 9, 2) := by decide +kernel
theorem d_own_rmChAn1_28 : decode prog_1_method_12_code 28 = .ok (.aload_n 0, 1) := by decide +kernel
theorem d_own_rmChAn1_29 : decode prog_1_method_12_code 29 = .ok (.new 45, 3) := by decide +kernel
theorem d_own_rmChAn1_32 : decode prog_1_method_12_code 32 = .ok (.dup, 1) := by decide +kernel
theorem d_own_rmChAn1_33 : decode prog_1_method_12_code 33 = .ok (.lload_n 1, 1) := by decide +kernel
theorem d_own_rmChAn1_34 : decode prog_1_method_12_code 34 = .ok (.lload_n 3, 1) := by decide +kernel
theorem d_own_rmChAn1_35 : decode prog_1_method_12_code 35 = .ok (.aload 5, 2) := by decide +kernel
theorem d_own_rmChAn1_37 : decode prog_1_method_12_code 37 = .ok (.aload 6, 2) := by decide +kernel
theorem d_own_rmChAn1_39 : decode prog_1_method_12_code 39 = .ok (.aload 9, 2) := by decide +kernel
theorem d_own_rmChAn1_41 : decode prog_1_method_12_code 41 = .ok (.invokespecial 47, 3) := by decide +kernel
theorem d_own_rmChAn1_44 : decode prog_1_method_12_code 44 = .ok (.putfield 50, 3) := by decide +kernel
theorem d_own_rmChAn1_47 : decode prog_1_method_12_code 47 = .ok (.aload 9, 2) := by decide +kernel
theorem d_own_rmChAn1_49 : decode prog_1_method_12_code 49 = .ok (.aload 8, 2) := by decide +kernel
theorem d_own_rmChAn1_51 : decode prog_1_method_12_code 51 = .ok (.if_acmp .ne 13, 3) := by decide +kernel
theorem d_own_rmChAn1_64 : decode prog_1_method_12_code 64 = .ok (.aload_n 0, 1) := by decide +kernel
theorem d_own_rmChAn1_65 : decode prog_1_method_12_code 65 = .ok (.getfield 23, 3) := by decide +kernel
theorem d_own_rmChAn1_68 : decode prog_1_method_12_code 68 = .ok (.iconst 2, 1) := by decide +kernel
theorem d_own_rmChAn1_69 : decode prog_1_method_12_code 69 = .ok (.aload_n 0, 1) := by decide +kernel
theorem d_own_rmChAn1_70 : decode prog_1_method_12_code 70 = .ok (.getfield 27, 3) := by decide +kernel
theorem d_own_rmChAn1_73 : decode prog_1_method_12_code 73 = .ok (.imul, 1) := by decide +kernel
theorem d_own_rmChAn1_74 : decode prog_1_method_12_code 74 = .ok (.iconst 1, 1) := by decide +kernel
theorem d_own_rmChAn1_75 : decode prog_1_method_12_code 75 = .ok (.iadd, 1) := by decide +kernel
theorem d_own_rmChAn1_76 : decode prog_1_method_12_code 76 = .ok (.if_icmp .le 14, 3) := by decide +kernel
theorem d_own_rmChAn1_90 : decode prog_1_method_12_code 90 = .ok (.return_, 1) := by decide +kernel
theorem ef_own_rmChAn1 (m : MethodId) (x0 : Addr) (x1 : Int64) (x2 : Int64) (x3 : Addr) (x4 : Addr) : entryFrame m #[(.ref x0), (.long x1), (.long x2), (.ref x3), (.ref x4), .null] 10 = mkF m 0 #[.val (.ref x0), .val (.long x1), .second, .val (.long x2), .second, .val (.ref x3), .val (.ref x4), .val .null, .unset, .unset] [] := by first | (simp [entryFrame, mkF, argsToLocals, Value.category]; done) | rfl
set_option maxRecDepth 65536 in
set_option maxHeartbeats 40000000 in
theorem own_rmChAn1 (l : Launch) (Z : State) (a0 : Array Value) (hw : ∀ d ∈ tables_1, d.before a0 Z = true) (ws : List Jvm.Cond) (b0 : Addr) (q1 : Int64) (q2 : Int64) (b3 : Addr) (b4 : Addr) (bl : Addr) (ql : Int64) (h0 : Heap) (n0 : Nat) (Z0 : n0 ≤ h0.size) (E_0 : Exa Z h0 b0 "com/example/tandem_ledger/tandemledger/Account") (F_latest : Fld Z h0 b0 "com/example/tandem_ledger/tandemledger/Account" "latest" "Lcom/example/tandem_ledger/tandemledger/Account$Version;" (.ref bl)) (F_kept : Fld Z h0 b0 "com/example/tandem_ledger/tandemledger/Account" "kept" "I" (.int (1 : Int32))) (F_ka : Fld Z h0 b0 "com/example/tandem_ledger/tandemledger/Account" "keptAfterLettingGo" "I" (.int (1 : Int32))) (F_c : Fld Z h0 bl "com/example/tandem_ledger/tandemledger/Account$Version" "commit" "J" (.long ql)) (F_e : Fld Z h0 bl "com/example/tandem_ledger/tandemledger/Account$Version" "earlier" "Lcom/example/tandem_ledger/tandemledger/Account$Version;" .null) (hlb : bl ≠ b0) (g_0 : n0 ≤ b0) (hcm : ql = q1) :
    MetFree l (⟨"com/example/tandem_ledger/tandemledger/Account", "change", "(JJLcom/example/tandem_ledger/tandemledger/Reserve;Lcom/example/tandem_ledger/tandemledger/Chain;Ljava/util/function/LongSupplier;)V"⟩ : MethodName) (head1 (Jvm.Cond.code (⟨"com/example/tandem_ledger/tandemledger/Account", "change", "(JJLcom/example/tandem_ledger/tandemledger/Reserve;Lcom/example/tandem_ledger/tandemledger/Chain;Ljava/util/function/LongSupplier;)V"⟩ : MethodName) prog_1_method_12_code 10 none :: ws) ({ frames := 2, cells := 1, slots := 5, locals := 33 } : Room)) (fun a U => a = #[(.ref b0), (.long q1), (.long q2), (.ref b3), (.ref b4), .null] ∧ Z.Warmed39 U.vm ∧ U.heap = h0) (fun _ _ _ _ _ => True) (fun _ U o U' => ∃ v L, o = .returned v ∧ own_QP Z b0 (1 : Int32) q1 q2 b3 b4 .null h0 n0 v U'.heap L ∧ FrameEnd U o U' L ({ frames := 2, cells := 1, slots := 5, locals := 33 } : Room).cells ({ frames := 2, cells := 1, slots := 5, locals := 33 } : Room).slots) := by
  refine MetFree.of_bodySF (plainFor_of_name own_pn1) hisR ?_
  intro p e s m args below meth c s₁ Bd hml0 hP hK
  obtain ⟨rfl, hZ, hh⟩ := hP
  have hx := Bd.exec
  have hby := Bd.bytes
  have hml : c.maxLocals = 10 := hml0
  have hown : s.vm.findClass "com/example/tandem_ledger/tandemledger/Account" = some m.cls := findClass_of_methodNamed Bd.named
  have hnm := (name_of_methodNamed Bd.named Bd.method).1
  have X0 : Stand p l e ({ frames := 2, cells := 1, slots := 5, locals := 33 } : Room) s m #[(.ref b0), (.long q1), (.long q2), (.ref b3), (.ref b4), .null] below meth c s₁ [] 0 0 := Stand.of_body Bd
  have e0 : s₁.heap = h0 := by rw [← hh, Bd.state]; rfl
  have N0 := Fr.nil n0
  refine own_go (b := s₁.setTop (mkF m 0 #[.val (.ref b0), .val (.long q1), .second, .val (.long q2), .second, .val (.ref b3), .val (.ref b4), .val .null, .unset, .unset] [])) (fun t k => castTop (ef_own_rmChAn1 m b0 q1 q2 b3 b4) k) ?_
  obtain ⟨T1, X1, e1, st1⟩ := getF X0 hx hZ hown (host := "") (Or.inl (hw _ (List.mem_of_getElem? (i := 60) rfl))) Via.refl e0 F_latest (g := (mkF m 1 #[.val (.ref b0), .val (.long q1), .second, .val (.long q2), .second, .val (.ref b3), .val (.ref b4), .val .null, .unset, .unset] [(.ref b0)])) rfl rfl (hb hby d_own_rmChAn1_1)
  obtain ⟨T2, h2, X2, e2, E2, A2, D2, -, st2⟩ := newO X1 hx hZ hown (hw _ (List.mem_of_getElem? (i := 43) rfl)) (hw _ (List.mem_of_getElem? (i := 44) rfl)) (hw _ (List.mem_of_getElem? (i := 45) rfl)) e1 (g := (mkF m 29 #[.val (.ref b0), .val (.long q1), .second, .val (.long q2), .second, .val (.ref b3), .val (.ref b4), .val .null, .val (.ref bl), .val .null] [(.ref b0)])) rfl (hb hby d_own_rmChAn1_29) (by decide) (by decide)
  obtain ⟨b2, g2⟩ : ∃ z, z = h0.size := ⟨_, rfl⟩
  rw [← g2] at A2 D2 st2
  have ne_b0_b2 : b0 ≠ b2 := Nat.ne_of_lt (Nat.lt_of_lt_of_le E_0.lt (Nat.le_of_eq g2.symm))
  have ne_bl_b2 : bl ≠ b2 := Nat.ne_of_lt (Nat.lt_of_lt_of_le F_c.lt (Nat.le_of_eq g2.symm))
  have new_b2 : n0 ≤ b2 := Nat.le_trans Z0 (Nat.le_of_eq g2.symm)
  have sz_b2 : h0.size ≤ b2 := Nat.le_trans (Keep.refl h0 [b0]).1 (Nat.le_of_eq g2.symm)
  have E_b0_2 := E_0.ext E2
  have F_b0_latest_2 := F_latest.ext E2
  have F_b0_kept_2 := F_kept.ext E2
  have F_b0_keptAfterLettingGo_2 := F_ka.ext E2
  have F_bl_commit_2 := F_c.ext E2
  have F_bl_earlier_2 := F_e.ext E2
  have Z2 := Nat.le_trans Z0 E2.1
  have K2 := (Keep.refl h0 [b0]).ext E2
  have F_b2_commit_2 : Fld Z h2 b2 "com/example/tandem_ledger/tandemledger/Account$Version" "commit" "J" (.long (0 : Int64)) := D2 (Or.inr (hw _ (List.mem_of_getElem? (i := 51) rfl))) (ty := .long) (by decide)
  have F_b2_balance_2 : Fld Z h2 b2 "com/example/tandem_ledger/tandemledger/Account$Version" "balance" "J" (.long (0 : Int64)) := D2 (Or.inr (hw _ (List.mem_of_getElem? (i := 53) rfl))) (ty := .long) (by decide)
  have F_b2_reserve_2 : Fld Z h2 b2 "com/example/tandem_ledger/tandemledger/Account$Version" "reserve" "Lcom/example/tandem_ledger/tandemledger/Reserve;" .null := D2 (Or.inr (hw _ (List.mem_of_getElem? (i := 55) rfl))) (ty := (.object "com/example/tandem_ledger/tandemledger/Reserve")) (by decide)
  have F_b2_chain_2 : Fld Z h2 b2 "com/example/tandem_ledger/tandemledger/Account$Version" "chain" "Lcom/example/tandem_ledger/tandemledger/Chain;" .null := D2 (Or.inr (hw _ (List.mem_of_getElem? (i := 57) rfl))) (ty := (.object "com/example/tandem_ledger/tandemledger/Chain")) (by decide)
  have F_b2_earlier_2 : Fld Z h2 b2 "com/example/tandem_ledger/tandemledger/Account$Version" "earlier" "Lcom/example/tandem_ledger/tandemledger/Account$Version;" .null := D2 (Or.inl (hw _ (List.mem_of_getElem? (i := 59) rfl))) (ty := (.object "com/example/tandem_ledger/tandemledger/Account$Version")) (by decide)
  obtain ⟨_, _, ⟨T3, L3, k3, n3⟩, -, X3, ⟨Lc3, hQ3, l3, y3, z3⟩, st3⟩ := own_specialRef X2 hx hZ (y := (⟨"com/example/tandem_ledger/tandemledger/Account$Version", "<init>", "(JJLcom/example/tandem_ledger/tandemledger/Reserve;Lcom/example/tandem_ledger/tandemledger/Chain;Lcom/example/tandem_ledger/tandemledger/Account$Version;)V"⟩ : MethodName)) rfl hown (hw _ (List.mem_of_getElem? (i := 46) rfl)) (mvT hZ (hw _ (List.mem_of_getElem? (i := 47) rfl))) (mvT hZ (hw _ (List.mem_of_getElem? (i := 48) rfl))) (by decide) (backOf (W := 2) (own_rmVn l Z a0 hw [] b2 q1 q2 b3 b4  h2 n0 Z2 A2 F_b2_commit_2 F_b2_balance_2 F_b2_reserve_2 F_b2_chain_2 F_b2_earlier_2 new_b2) hZ (hw _ (List.mem_of_getElem? (i := 48) rfl)) (hw _ (List.mem_of_getElem? (i := 45) rfl)) (by decide) (by decide)) (g := (mkF m 41 #[.val (.ref b0), .val (.long q1), .second, .val (.long q2), .second, .val (.ref b3), .val (.ref b4), .val .null, .val (.ref bl), .val .null] [.null, (.ref b4), (.ref b3), (.long q2), (.long q1), (.ref b2), (.ref b2), (.ref b0)])) rfl (by rw [hml]; rfl) (a := b2) (argsL := [(.long q1), (.long q2), (.ref b3), (.ref b4), .null]) (rest := [(.ref b2), (.ref b0)]) (lenOf own_pd0 rfl) rfl (by show 2 * 0 + _ ≤ _; exact Nat.le_of_eq rfl) (hb hby d_own_rmChAn1_41) (fun _ _ => ⟨rfl, e2, (by decide : 1 + 0 ≤ _), (by decide : 5 + 0 ≤ _)⟩)
  dsimp only [Pt.U, Pt.locs, Pt.cells, Pt.slots] at X3 l3 y3 z3 st3 hQ3
  subst l3 y3 z3
  obtain ⟨rfl, N3q, K3q, B3_0, B3_1, B3_2, B3_3, B3_4⟩ := hQ3
  have E_b0_3 := E_b0_2.keep K3q
  have F_b0_latest_3 := F_b0_latest_2.keep K3q (fun q => ne_b0_b2 (List.mem_singleton.mp q))
  have F_b0_kept_3 := F_b0_kept_2.keep K3q (fun q => ne_b0_b2 (List.mem_singleton.mp q))
  have F_b0_keptAfterLettingGo_3 := F_b0_keptAfterLettingGo_2.keep K3q (fun q => ne_b0_b2 (List.mem_singleton.mp q))
  have F_bl_commit_3 := F_bl_commit_2.keep K3q (fun q => ne_bl_b2 (List.mem_singleton.mp q))
  have F_bl_earlier_3 := F_bl_earlier_2.keep K3q (fun q => ne_bl_b2 (List.mem_singleton.mp q))
  have E_b2_3 := A2.keep K3q
  have N3 := Fr.app N0 N3q
  have Z3 := Nat.le_trans Z2 K3q.1
  have K3 := K2.trans K3q (fun x hx => by cases List.mem_singleton.mp hx; exact Or.inr sz_b2)
  obtain ⟨T4, h4, X4, e4, W4, st4⟩ := putF X3 hx hZ hown (host := "") (Or.inl (hw _ (List.mem_of_getElem? (i := 60) rfl))) Via.refl rfl F_b0_latest_3 E_b0_3 (Or.inl (hw _ (List.mem_of_getElem? (i := 61) rfl))) (hw _ (List.mem_of_getElem? (i := 6) rfl)) (ty := (.object "com/example/tandem_ledger/tandemledger/Account$Version")) (by decide) rfl rfl (g := (mkF m 44 #[.val (.ref b0), .val (.long q1), .second, .val (.long q2), .second, .val (.ref b3), .val (.ref b4), .val .null, .val (.ref bl), .val .null] [(.ref b2), (.ref b0)])) rfl rfl (hb hby d_own_rmChAn1_44)
  have E_b0_4 := E_b0_3.wr W4
  have F_b0_kept_4 := F_b0_kept_3.other W4 (Or.inr (slot_ne (Or.inl (hw _ (List.mem_of_getElem? (i := 32) rfl))) (Or.inl (hw _ (List.mem_of_getElem? (i := 61) rfl))) (by decide) (t := .int) (t' := (.object "com/example/tandem_ledger/tandemledger/Account$Version")) (by decide) (by decide)))
  have F_b0_keptAfterLettingGo_4 := F_b0_keptAfterLettingGo_3.other W4 (Or.inr (slot_ne (Or.inl (hw _ (List.mem_of_getElem? (i := 34) rfl))) (Or.inl (hw _ (List.mem_of_getElem? (i := 61) rfl))) (by decide) (t := .int) (t' := (.object "com/example/tandem_ledger/tandemledger/Account$Version")) (by decide) (by decide)))
  have F_bl_commit_4 := F_bl_commit_3.other W4 (Or.inl hlb)
  have F_bl_earlier_4 := F_bl_earlier_3.other W4 (Or.inl hlb)
  have E_b2_4 := E_b2_3.wr W4
  have F_b2_commit_4 := B3_0.other W4 (Or.inl (Ne.symm ne_b0_b2))
  have F_b2_balance_4 := B3_1.other W4 (Or.inl (Ne.symm ne_b0_b2))
  have F_b2_reserve_4 := B3_2.other W4 (Or.inl (Ne.symm ne_b0_b2))
  have F_b2_chain_4 := B3_3.other W4 (Or.inl (Ne.symm ne_b0_b2))
  have F_b2_earlier_4 := B3_4.other W4 (Or.inl (Ne.symm ne_b0_b2))
  have Z4 := Nat.le_trans Z3 (Keep.of_wr W4).1
  have K4 := K3.wr W4 (Or.inl (List.mem_of_getElem? (i := 0) rfl))
  have N4 := Fr.snoc X4 N3 g_0
  have F_b0_latest_4 := F_b0_latest_3.same W4
  obtain ⟨T5, X5, e5, st5⟩ := getF X4 hx hZ hown (host := "") (Or.inl (hw _ (List.mem_of_getElem? (i := 31) rfl))) Via.refl e4 F_b0_kept_4 (g := (mkF m 65 #[.val (.ref b0), .val (.long q1), .second, .val (.long q2), .second, .val (.ref b3), .val (.ref b4), .val .null, .val (.ref bl), .val .null] [(.ref b0)])) rfl rfl (hb hby d_own_rmChAn1_65)
  obtain ⟨T6, X6, e6, st6⟩ := getF X5 hx hZ hown (host := "") (Or.inl (hw _ (List.mem_of_getElem? (i := 33) rfl))) Via.refl e5 F_b0_keptAfterLettingGo_4 (g := (mkF m 70 #[.val (.ref b0), .val (.long q1), .second, .val (.long q2), .second, .val (.ref b3), .val (.ref b4), .val .null, .val (.ref bl), .val .null] [(.ref b0), (.int (2 : Int32)), (.int (1 : Int32))])) rfl rfl (hb hby d_own_rmChAn1_70)
  obtain ⟨fs, hr, hrun, hended, hW, hsame⟩ := X6.leave (v := none) (fun _ => rfl)
  refine ⟨_, _, ?_, hrun, hended, _, _, rfl, ?_, ⟨_, rfl⟩, hW, hsame.mono (by decide) (by decide)⟩
  · show Steps p.tables e below (s₁.setTop (mkF m 0 #[.val (.ref b0), .val (.long q1), .second, .val (.long q2), .second, .val (.ref b3), .val (.ref b4), .val .null, .unset, .unset] [])) _
    refine XS.aloadN X0.here hx rfl (hb hby d_own_rmChAn1_0) rfl rfl ?_
    show Steps p.tables e below (s₁.setTop (mkF m 1 #[.val (.ref b0), .val (.long q1), .second, .val (.long q2), .second, .val (.ref b3), .val (.ref b4), .val .null, .unset, .unset] [(.ref b0)])) _
    refine st1 _ ?_
    show Steps p.tables e below (T1.setTop (mkF m 4 #[.val (.ref b0), .val (.long q1), .second, .val (.long q2), .second, .val (.ref b3), .val (.ref b4), .val .null, .unset, .unset] [(.ref bl)])) _
    refine XS.astore X1.here hx rfl (hb hby d_own_rmChAn1_4) rfl rfl (l' := #[.val (.ref b0), .val (.long q1), .second, .val (.long q2), .second, .val (.ref b3), .val (.ref b4), .val .null, .val (.ref bl), .unset]) rfl ?_
    show Steps p.tables e below (T1.setTop (mkF m 6 #[.val (.ref b0), .val (.long q1), .second, .val (.long q2), .second, .val (.ref b3), .val (.ref b4), .val .null, .val (.ref bl), .unset] [])) _
    refine XS.aload X1.here hx rfl (hb hby d_own_rmChAn1_6) rfl rfl ?_
    show Steps p.tables e below (T1.setTop (mkF m 8 #[.val (.ref b0), .val (.long q1), .second, .val (.long q2), .second, .val (.ref b3), .val (.ref b4), .val .null, .val (.ref bl), .unset] [(.ref bl)])) _
    refine own_getRef X1 hx hZ hown (hw _ (List.mem_of_getElem? (i := 80) rfl)) e1 F_c (g := (mkF m 8 #[.val (.ref b0), .val (.long q1), .second, .val (.long q2), .second, .val (.ref b3), .val (.ref b4), .val .null, .val (.ref bl), .unset] [(.ref bl)])) rfl rfl (hb hby d_own_rmChAn1_8) _ ?_
    show Steps p.tables e below (T1.setTop (mkF m 11 #[.val (.ref b0), .val (.long q1), .second, .val (.long q2), .second, .val (.ref b3), .val (.ref b4), .val .null, .val (.ref bl), .unset] [(.long ql)])) _
    refine XS.lloadN X1.here hx rfl (hb hby d_own_rmChAn1_11) rfl ?_
    show Steps p.tables e below (T1.setTop (mkF m 12 #[.val (.ref b0), .val (.long q1), .second, .val (.long q2), .second, .val (.ref b3), .val (.ref b4), .val .null, .val (.ref bl), .unset] [(.long q1), (.long ql)])) _
    refine XS.lcmp X1.here hx rfl (hb hby d_own_rmChAn1_12) rfl ?_
    show Steps p.tables e below (T1.setTop (mkF m 13 #[.val (.ref b0), .val (.long q1), .second, .val (.long q2), .second, .val (.ref b3), .val (.ref b4), .val .null, .val (.ref bl), .unset] [(.int (lcmpW ql q1))])) _
    refine XS.ifNo X1.here hx rfl (hb hby d_own_rmChAn1_13) rfl ((if0 _ _).trans (teq ((lw_eq _ _).mpr (hcm : ql = q1))).2) ?_
    show Steps p.tables e below (T1.setTop (mkF m 16 #[.val (.ref b0), .val (.long q1), .second, .val (.long q2), .second, .val (.ref b3), .val (.ref b4), .val .null, .val (.ref bl), .unset] [])) _
    refine XS.aload X1.here hx rfl (hb hby d_own_rmChAn1_16) rfl rfl ?_
    show Steps p.tables e below (T1.setTop (mkF m 18 #[.val (.ref b0), .val (.long q1), .second, .val (.long q2), .second, .val (.ref b3), .val (.ref b4), .val .null, .val (.ref bl), .unset] [(.ref bl)])) _
    refine own_getRef X1 hx hZ hown (hw _ (List.mem_of_getElem? (i := 81) rfl)) e1 F_e (g := (mkF m 18 #[.val (.ref b0), .val (.long q1), .second, .val (.long q2), .second, .val (.ref b3), .val (.ref b4), .val .null, .val (.ref bl), .unset] [(.ref bl)])) rfl rfl (hb hby d_own_rmChAn1_18) _ ?_
    show Steps p.tables e below (T1.setTop (mkF m 21 #[.val (.ref b0), .val (.long q1), .second, .val (.long q2), .second, .val (.ref b3), .val (.ref b4), .val .null, .val (.ref bl), .unset] [.null])) _
    refine XS.goto X1.here hx rfl (pc0 := 21) (pc' := 26) rfl (hb hby d_own_rmChAn1_21) (by decide) (by decide) ?_
    show Steps p.tables e below (T1.setTop (mkF m 26 #[.val (.ref b0), .val (.long q1), .second, .val (.long q2), .second, .val (.ref b3), .val (.ref b4), .val .null, .val (.ref bl), .unset] [.null])) _
    refine XS.astore X1.here hx rfl (hb hby d_own_rmChAn1_26) rfl rfl (l' := #[.val (.ref b0), .val (.long q1), .second, .val (.long q2), .second, .val (.ref b3), .val (.ref b4), .val .null, .val (.ref bl), .val .null]) rfl ?_
    show Steps p.tables e below (T1.setTop (mkF m 28 #[.val (.ref b0), .val (.long q1), .second, .val (.long q2), .second, .val (.ref b3), .val (.ref b4), .val .null, .val (.ref bl), .val .null] [])) _
    refine XS.aloadN X1.here hx rfl (hb hby d_own_rmChAn1_28) rfl rfl ?_
    show Steps p.tables e below (T1.setTop (mkF m 29 #[.val (.ref b0), .val (.long q1), .second, .val (.long q2), .second, .val (.ref b3), .val (.ref b4), .val .null, .val (.ref bl), .val .null] [(.ref b0)])) _
    refine st2 _ ?_
    show Steps p.tables e below (T2.setTop (mkF m 32 #[.val (.ref b0), .val (.long q1), .second, .val (.long q2), .second, .val (.ref b3), .val (.ref b4), .val .null, .val (.ref bl), .val .null] [(.ref b2), (.ref b0)])) _
    refine XS.dup X2.here hx rfl (hb hby d_own_rmChAn1_32) rfl rfl ?_
    show Steps p.tables e below (T2.setTop (mkF m 33 #[.val (.ref b0), .val (.long q1), .second, .val (.long q2), .second, .val (.ref b3), .val (.ref b4), .val .null, .val (.ref bl), .val .null] [(.ref b2), (.ref b2), (.ref b0)])) _
    refine XS.lloadN X2.here hx rfl (hb hby d_own_rmChAn1_33) rfl ?_
    show Steps p.tables e below (T2.setTop (mkF m 34 #[.val (.ref b0), .val (.long q1), .second, .val (.long q2), .second, .val (.ref b3), .val (.ref b4), .val .null, .val (.ref bl), .val .null] [(.long q1), (.ref b2), (.ref b2), (.ref b0)])) _
    refine XS.lloadN X2.here hx rfl (hb hby d_own_rmChAn1_34) rfl ?_
    show Steps p.tables e below (T2.setTop (mkF m 35 #[.val (.ref b0), .val (.long q1), .second, .val (.long q2), .second, .val (.ref b3), .val (.ref b4), .val .null, .val (.ref bl), .val .null] [(.long q2), (.long q1), (.ref b2), (.ref b2), (.ref b0)])) _
    refine XS.aload X2.here hx rfl (hb hby d_own_rmChAn1_35) rfl rfl ?_
    show Steps p.tables e below (T2.setTop (mkF m 37 #[.val (.ref b0), .val (.long q1), .second, .val (.long q2), .second, .val (.ref b3), .val (.ref b4), .val .null, .val (.ref bl), .val .null] [(.ref b3), (.long q2), (.long q1), (.ref b2), (.ref b2), (.ref b0)])) _
    refine XS.aload X2.here hx rfl (hb hby d_own_rmChAn1_37) rfl rfl ?_
    show Steps p.tables e below (T2.setTop (mkF m 39 #[.val (.ref b0), .val (.long q1), .second, .val (.long q2), .second, .val (.ref b3), .val (.ref b4), .val .null, .val (.ref bl), .val .null] [(.ref b4), (.ref b3), (.long q2), (.long q1), (.ref b2), (.ref b2), (.ref b0)])) _
    refine XS.aload X2.here hx rfl (hb hby d_own_rmChAn1_39) rfl rfl ?_
    show Steps p.tables e below (T2.setTop (mkF m 41 #[.val (.ref b0), .val (.long q1), .second, .val (.long q2), .second, .val (.ref b3), .val (.ref b4), .val .null, .val (.ref bl), .val .null] [.null, (.ref b4), (.ref b3), (.long q2), (.long q1), (.ref b2), (.ref b2), (.ref b0)])) _
    refine st3.trans ?_
    show Steps p.tables e below (T3.setTop (mkF m 44 #[.val (.ref b0), .val (.long q1), .second, .val (.long q2), .second, .val (.ref b3), .val (.ref b4), .val .null, .val (.ref bl), .val .null] [(.ref b2), (.ref b0)])) _
    refine st4 _ ?_
    show Steps p.tables e below (T4.setTop (mkF m 47 #[.val (.ref b0), .val (.long q1), .second, .val (.long q2), .second, .val (.ref b3), .val (.ref b4), .val .null, .val (.ref bl), .val .null] [])) _
    refine XS.aload X4.here hx rfl (hb hby d_own_rmChAn1_47) rfl rfl ?_
    show Steps p.tables e below (T4.setTop (mkF m 49 #[.val (.ref b0), .val (.long q1), .second, .val (.long q2), .second, .val (.ref b3), .val (.ref b4), .val .null, .val (.ref bl), .val .null] [.null])) _
    refine XS.aload X4.here hx rfl (hb hby d_own_rmChAn1_49) rfl rfl ?_
    show Steps p.tables e below (T4.setTop (mkF m 51 #[.val (.ref b0), .val (.long q1), .second, .val (.long q2), .second, .val (.ref b3), .val (.ref b4), .val .null, .val (.ref bl), .val .null] [(.ref bl), .null])) _
    refine Jvm.RoadKit.acmp (g := (mkF m 51 #[.val (.ref b0), .val (.long q1), .second, .val (.long q2), .second, .val (.ref b3), .val (.ref b4), .val .null, .val (.ref bl), .val .null] [(.ref bl), .null])) X4 hx rfl rfl rfl (pc0 := 51) (pc' := 64) (same := false) rfl (hb hby d_own_rmChAn1_51) rfl (decide_eq_false nofun) (by decide) (by decide) ?_
    show Steps p.tables e below (T4.setTop (mkF m 64 #[.val (.ref b0), .val (.long q1), .second, .val (.long q2), .second, .val (.ref b3), .val (.ref b4), .val .null, .val (.ref bl), .val .null] [])) _
    refine XS.aloadN X4.here hx rfl (hb hby d_own_rmChAn1_64) rfl rfl ?_
    show Steps p.tables e below (T4.setTop (mkF m 65 #[.val (.ref b0), .val (.long q1), .second, .val (.long q2), .second, .val (.ref b3), .val (.ref b4), .val .null, .val (.ref bl), .val .null] [(.ref b0)])) _
    refine st5 _ ?_
    show Steps p.tables e below (T5.setTop (mkF m 68 #[.val (.ref b0), .val (.long q1), .second, .val (.long q2), .second, .val (.ref b3), .val (.ref b4), .val .null, .val (.ref bl), .val .null] [(.int (1 : Int32))])) _
    refine XS.iconst X5.here hx rfl (hb hby d_own_rmChAn1_68) ?_
    show Steps p.tables e below (T5.setTop (mkF m 69 #[.val (.ref b0), .val (.long q1), .second, .val (.long q2), .second, .val (.ref b3), .val (.ref b4), .val .null, .val (.ref bl), .val .null] [(.int (2 : Int32)), (.int (1 : Int32))])) _
    refine XS.aloadN X5.here hx rfl (hb hby d_own_rmChAn1_69) rfl rfl ?_
    show Steps p.tables e below (T5.setTop (mkF m 70 #[.val (.ref b0), .val (.long q1), .second, .val (.long q2), .second, .val (.ref b3), .val (.ref b4), .val .null, .val (.ref bl), .val .null] [(.ref b0), (.int (2 : Int32)), (.int (1 : Int32))])) _
    refine st6 _ ?_
    show Steps p.tables e below (T6.setTop (mkF m 73 #[.val (.ref b0), .val (.long q1), .second, .val (.long q2), .second, .val (.ref b3), .val (.ref b4), .val .null, .val (.ref bl), .val .null] [(.int (1 : Int32)), (.int (2 : Int32)), (.int (1 : Int32))])) _
    refine XS.imul X6.here hx rfl (hb hby d_own_rmChAn1_73) rfl ?_
    show Steps p.tables e below (T6.setTop (mkF m 74 #[.val (.ref b0), .val (.long q1), .second, .val (.long q2), .second, .val (.ref b3), .val (.ref b4), .val .null, .val (.ref bl), .val .null] [(.int (2 : Int32)), (.int (1 : Int32))])) _
    refine XS.iconst X6.here hx rfl (hb hby d_own_rmChAn1_74) ?_
    show Steps p.tables e below (T6.setTop (mkF m 75 #[.val (.ref b0), .val (.long q1), .second, .val (.long q2), .second, .val (.ref b3), .val (.ref b4), .val .null, .val (.ref bl), .val .null] [(.int (1 : Int32)), (.int (2 : Int32)), (.int (1 : Int32))])) _
    refine XS.iadd X6.here hx rfl (hb hby d_own_rmChAn1_75) rfl ?_
    show Steps p.tables e below (T6.setTop (mkF m 76 #[.val (.ref b0), .val (.long q1), .second, .val (.long q2), .second, .val (.ref b3), .val (.ref b4), .val .null, .val (.ref bl), .val .null] [(.int (3 : Int32)), (.int (1 : Int32))])) _
    refine XS.icmpYes X6.here hx rfl (pc0 := 76) (pc' := 90) rfl (hb hby d_own_rmChAn1_76) rfl (flt ((by decide) : ¬ ((3 : Int32) < (1 : Int32)))).2.2.2 (by decide) (by decide) ?_
    show Steps p.tables e below (T6.setTop (mkF m 90 #[.val (.ref b0), .val (.long q1), .second, .val (.long q2), .second, .val (.ref b3), .val (.ref b4), .val .null, .val (.ref bl), .val .null] [])) _
    exact X6.returnOut hx Bd.returns (hb hby d_own_rmChAn1_90) hr
  · show own_QP Z b0 (1 : Int32) q1 q2 b3 b4 .null h0 n0 _ T6.heap _
    rw [e6]
    exact ⟨rfl, N4, K4, b2, (Ne.symm ne_b0_b2), sz_b2, F_b0_latest_4, F_b0_kept_4, F_b0_keptAfterLettingGo_4, E_b2_4, F_b2_commit_4, F_b2_balance_4, F_b2_reserve_4, F_b2_chain_4, F_b2_earlier_4⟩
theorem d_own_rmPAn1_0 : decode prog_1_method_9_code 0 = .ok (.aload_n 0, 1) := by decide +kernel
theorem d_own_rmPAn1_1 : decode prog_1_method_9_code 1 = .ok (.getfield 50, 3) := by decide +kernel
theorem d_own_rmPAn1_4 : decode prog_1_method_9_code 4 = .ok (.astore 9, 2) := by decide +kernel
theorem d_own_rmPAn1_6 : decode prog_1_method_9_code 6 = .ok (.aload 9, 2) := by decide +kernel
theorem d_own_rmPAn1_8 : decode prog_1_method_9_code 8 = .ok (.getfield 97, 3) := by decide +kernel
theorem d_own_rmPAn1_11 : decode prog_1_method_9_code 11 = .ok (.invokevirtual 100, 3) := by decide +kernel
theorem d_own_rmPAn1_14 : decode prog_1_method_9_code 14 = .ok (.lload 5, 2) := by decide +kernel
theorem d_own_rmPAn1_16 : decode prog_1_method_9_code 16 = .ok (.lcmp, 1) := by decide +kernel
theorem d_own_rmPAn1_17 : decode prog_1_method_9_code 17 = .ok (.ifCond .ne 13, 3) := by decide +kernel
theorem d_own_rmPAn1_20 : decode prog_1_method_9_code 20 = .ok (.aload 9, 2) := by decide +kernel
theorem d_own_rmPAn1_22 : decode prog_1_method_9_code 22 = .ok (.getfield 97, 3) := by decide +kernel
theorem d_own_rmPAn1_25 : decode prog_1_method_9_code 25 = .ok (.astore 10, 2) := by decide +kernel
theorem d_own_rmPAn1_27 : decode prog_1_method_9_code 27 = .ok (.goto 28, 3) := by decide +kernel
theorem d_own_rmPAn1_55 : decode prog_1_method_9_code 55 = .ok (.aload_n 0, 1) := by decide +kernel
theorem d_own_rmPAn1_56 : decode prog_1_method_9_code 56 = .ok (.lload_n 1, 1) := by decide +kernel
theorem d_own_rmPAn1_57 : decode prog_1_method_9_code 57 = .ok (.lload_n 3, 1) := by decide +kernel
theorem d_own_rmPAn1_58 : decode prog_1_method_9_code 58 = .ok (.aload 9, 2) := by decide +kernel
theorem d_own_rmPAn1_60 : decode prog_1_method_9_code 60 = .ok (.getfield 111, 3) := by decide +kernel
theorem d_own_rmPAn1_63 : decode prog_1_method_9_code 63 = .ok (.aload 10, 2) := by decide +kernel
theorem d_own_rmPAn1_65 : decode prog_1_method_9_code 65 = .ok (.aload 8, 2) := by decide +kernel
theorem d_own_rmPAn1_67 : decode prog_1_method_9_code 67 = .ok (.invokevirtual 114, 3) := by decide +kernel
theorem d_own_rmPAn1_70 : decode prog_1_method_9_code 70 = .ok (.return_, 1) := by decide +kernel
theorem ef_own_rmPAn1 (m : MethodId) (x0 : Addr) (x1 : Int64) (x2 : Int64) (x3 : Int64) (x4 : Int32) : entryFrame m #[(.ref x0), (.long x1), (.long x2), (.long x3), (.int x4), .null] 11 = mkF m 0 #[.val (.ref x0), .val (.long x1), .second, .val (.long x2), .second, .val (.long x3), .second, .val (.int x4), .val .null, .unset, .unset] [] := by first | (simp [entryFrame, mkF, argsToLocals, Value.category]; done) | rfl
set_option maxRecDepth 65536 in
set_option maxHeartbeats 40000000 in
theorem own_rmPAn1 (l : Launch) (Z : State) (a0 : Array Value) (hw : ∀ d ∈ tables_1, d.before a0 Z = true) (ws : List Jvm.Cond) (b0 : Addr) (q1 : Int64) (q2 : Int64) (q3 : Int64) (p4 : Int32) (bl : Addr) (ql : Int64) (bR bC : Addr) (h0 : Heap) (n0 : Nat) (Z0 : n0 ≤ h0.size) (E_0 : Exa Z h0 b0 "com/example/tandem_ledger/tandemledger/Account") (F_latest : Fld Z h0 b0 "com/example/tandem_ledger/tandemledger/Account" "latest" "Lcom/example/tandem_ledger/tandemledger/Account$Version;" (.ref bl)) (F_kept : Fld Z h0 b0 "com/example/tandem_ledger/tandemledger/Account" "kept" "I" (.int (1 : Int32))) (F_ka : Fld Z h0 b0 "com/example/tandem_ledger/tandemledger/Account" "keptAfterLettingGo" "I" (.int (1 : Int32))) (F_c : Fld Z h0 bl "com/example/tandem_ledger/tandemledger/Account$Version" "commit" "J" (.long ql)) (F_e : Fld Z h0 bl "com/example/tandem_ledger/tandemledger/Account$Version" "earlier" "Lcom/example/tandem_ledger/tandemledger/Account$Version;" .null) (hlb : bl ≠ b0) (g_0 : n0 ≤ b0) (hcm : ql = q1) (F_h : Fld Z h0 bl "com/example/tandem_ledger/tandemledger/Account$Version" "chain" "Lcom/example/tandem_ledger/tandemledger/Chain;" (.ref bC)) (F_s : Fld Z h0 bl "com/example/tandem_ledger/tandemledger/Account$Version" "reserve" "Lcom/example/tandem_ledger/tandemledger/Reserve;" (.ref bR)) (E_C : Exa Z h0 bC "com/example/tandem_ledger/tandemledger/Chain") (F_r : Fld Z h0 bC "com/example/tandem_ledger/tandemledger/Chain" "record" "J" (.long (0 : Int64))) (h3 : (0 : Int64) = q3) :
    MetFree l (⟨"com/example/tandem_ledger/tandemledger/Account", "post", "(JJJZLjava/util/function/LongSupplier;)V"⟩ : MethodName) (head1 (Jvm.Cond.code (⟨"com/example/tandem_ledger/tandemledger/Account", "post", "(JJJZLjava/util/function/LongSupplier;)V"⟩ : MethodName) prog_1_method_9_code 11 none :: ws) ({ frames := 3, cells := 1, slots := 5, locals := 54 } : Room)) (fun a U => a = #[(.ref b0), (.long q1), (.long q2), (.long q3), (.int p4), .null] ∧ Z.Warmed39 U.vm ∧ U.heap = h0) (fun _ _ _ _ _ => True) (fun _ U o U' => ∃ v L, o = .returned v ∧ own_QP Z b0 (1 : Int32) q1 q2 bR bC .null h0 n0 v U'.heap L ∧ FrameEnd U o U' L ({ frames := 3, cells := 1, slots := 5, locals := 54 } : Room).cells ({ frames := 3, cells := 1, slots := 5, locals := 54 } : Room).slots) := by
  refine MetFree.of_bodySF (plainFor_of_name own_pn1) hisR ?_
  intro p e s m args below meth c s₁ Bd hml0 hP hK
  obtain ⟨rfl, hZ, hh⟩ := hP
  have hx := Bd.exec
  have hby := Bd.bytes
  have hml : c.maxLocals = 11 := hml0
  have hown : s.vm.findClass "com/example/tandem_ledger/tandemledger/Account" = some m.cls := findClass_of_methodNamed Bd.named
  have hnm := (name_of_methodNamed Bd.named Bd.method).1
  have X0 : Stand p l e ({ frames := 3, cells := 1, slots := 5, locals := 54 } : Room) s m #[(.ref b0), (.long q1), (.long q2), (.long q3), (.int p4), .null] below meth c s₁ [] 0 0 := Stand.of_body Bd
  have e0 : s₁.heap = h0 := by rw [← hh, Bd.state]; rfl
  have N0 := Fr.nil n0
  refine own_go (b := s₁.setTop (mkF m 0 #[.val (.ref b0), .val (.long q1), .second, .val (.long q2), .second, .val (.long q3), .second, .val (.int p4), .val .null, .unset, .unset] [])) (fun t k => castTop (ef_own_rmPAn1 m b0 q1 q2 q3 p4) k) ?_
  obtain ⟨T1, X1, e1, st1⟩ := getF X0 hx hZ hown (host := "") (Or.inl (hw _ (List.mem_of_getElem? (i := 60) rfl))) Via.refl e0 F_latest (g := (mkF m 1 #[.val (.ref b0), .val (.long q1), .second, .val (.long q2), .second, .val (.long q3), .second, .val (.int p4), .val .null, .unset, .unset] [(.ref b0)])) rfl rfl (hb hby d_own_rmPAn1_1)
  obtain ⟨cq2, kq2, q2a, q2b, q2c⟩ := isOf hZ e1 E_C
  obtain ⟨_, _, ⟨T2, L2, k2, n2⟩, -, X2, ⟨Lc2, hQ2, l2, y2, z2⟩, st2⟩ := X1.virtualBack hx (y := (⟨"com/example/tandem_ledger/tandemledger/Chain", "record", "()J"⟩ : MethodName)) (z := (⟨"com/example/tandem_ledger/tandemledger/Chain", "record", "()J"⟩ : MethodName)) hown (mvT hZ (hw _ (List.mem_of_getElem? (i := 68) rfl))) (mvT hZ (hw _ (List.mem_of_getElem? (i := 69) rfl))) (notFace_of_selects (args := #[]) (mvT hZ (hw _ (List.mem_of_getElem? (i := 71) rfl)))) (mvT hZ (hw _ (List.mem_of_getElem? (i := 71) rfl))) (mvT hZ (hw _ (List.mem_of_getElem? (i := 70) rfl))) (by decide) (backOf (W := 0) (own_rmRec l Z a0 hw [] bC (0 : Int64) h0 n0 Z0 F_r) hZ (hw _ (List.mem_of_getElem? (i := 72) rfl)) (hw _ (List.mem_of_getElem? (i := 23) rfl)) (by decide) (by decide)) q2a q2c (g := (mkF m 11 #[.val (.ref b0), .val (.long q1), .second, .val (.long q2), .second, .val (.long q3), .second, .val (.int p4), .val .null, .val (.ref bl), .unset] [(.ref bC)])) rfl (by rw [hml]; rfl) (Steps.refl _) (argsL := []) (rest := []) (lenOf own_pd2 rfl) rfl (by show 2 * 0 + _ ≤ _; exact Nat.le_of_eq rfl) (hb hby d_own_rmPAn1_11) (fun _ _ => ⟨rfl, e1, (by decide : 0 + 0 ≤ _), (by decide : 0 + 0 ≤ _)⟩)
  dsimp only [Pt.U, Pt.locs, Pt.cells, Pt.slots] at X2 l2 y2 z2 st2 hQ2
  subst l2 y2 z2
  obtain ⟨rfl, N2q, e2⟩ := hQ2
  have N2 := Fr.app N0 N2q
  obtain ⟨cq3, qc3, qc3'⟩ := E_0.cell
  obtain ⟨_, _, ⟨T3, L3, k3, n3⟩, -, X3, ⟨Lc3, hQ3, l3, y3, z3⟩, st3⟩ := X2.privateBack hx (y := (⟨"com/example/tandem_ledger/tandemledger/Account", "change", "(JJLcom/example/tandem_ledger/tandemledger/Reserve;Lcom/example/tandem_ledger/tandemledger/Chain;Ljava/util/function/LongSupplier;)V"⟩ : MethodName)) hown (mvT hZ (hw _ (List.mem_of_getElem? (i := 76) rfl))) (mvT hZ (hw _ (List.mem_of_getElem? (i := 77) rfl))) (own_selPriv (z := (⟨"com/example/tandem_ledger/tandemledger/Account", "post", "(JJJZLjava/util/function/LongSupplier;)V"⟩ : MethodName)) rfl (mvT hZ (hw _ (List.mem_of_getElem? (i := 77) rfl))) (Cond.privateMethod_at (mvP hZ (hw _ (List.mem_of_getElem? (i := 78) rfl)) (args := #[]))) (mvT hZ (hw _ (List.mem_of_getElem? (i := 65) rfl))) (by decide)) (Cond.privateMethod_at (mvP hZ (hw _ (List.mem_of_getElem? (i := 78) rfl)) (args := #[]))) (mvT hZ (hw _ (List.mem_of_getElem? (i := 79) rfl))) (by decide) (backOf (W := 0) (own_rmChAn1 l Z a0 hw [] b0 q1 q2 bR bC bl ql h0 n0 Z0 E_0 F_latest F_kept F_ka F_c F_e hlb g_0 hcm) hZ (hw _ (List.mem_of_getElem? (i := 79) rfl)) (hw _ (List.mem_of_getElem? (i := 7) rfl)) (by decide) (by decide)) (g := (mkF m 67 #[.val (.ref b0), .val (.long q1), .second, .val (.long q2), .second, .val (.long q3), .second, .val (.int p4), .val .null, .val (.ref bl), .val (.ref bC)] [.null, (.ref bC), (.ref bR), (.long q2), (.long q1), (.ref b0)])) rfl (by rw [hml]; rfl) (Steps.refl _) (a := b0) (by rw [e2]; exact qc3) qc3' (argsL := [(.long q1), (.long q2), (.ref bR), (.ref bC), .null]) (rest := []) (lenOf own_pd3 rfl) rfl (by show 2 * 0 + _ ≤ _; exact Nat.le_of_eq rfl) (hb hby d_own_rmPAn1_67) (fun _ _ => ⟨rfl, e2, (by decide : 0 + 1 ≤ _), (by decide : 0 + 5 ≤ _)⟩)
  dsimp only [Pt.U, Pt.locs, Pt.cells, Pt.slots] at X3 l3 y3 z3 st3 hQ3
  subst l3 y3 z3
  obtain ⟨hv3, N3q, rest3⟩ := hQ3
  cases hv3
  have N3 := Fr.app N2 N3q
  obtain ⟨fs, hr, hrun, hended, hW, hsame⟩ := X3.leave (v := none) (fun _ => rfl)
  refine ⟨_, _, ?_, hrun, hended, _, _, rfl, ?_, ⟨_, rfl⟩, hW, hsame.mono (by decide) (by decide)⟩
  · show Steps p.tables e below (s₁.setTop (mkF m 0 #[.val (.ref b0), .val (.long q1), .second, .val (.long q2), .second, .val (.long q3), .second, .val (.int p4), .val .null, .unset, .unset] [])) _
    refine XS.aloadN X0.here hx rfl (hb hby d_own_rmPAn1_0) rfl rfl ?_
    show Steps p.tables e below (s₁.setTop (mkF m 1 #[.val (.ref b0), .val (.long q1), .second, .val (.long q2), .second, .val (.long q3), .second, .val (.int p4), .val .null, .unset, .unset] [(.ref b0)])) _
    refine st1 _ ?_
    show Steps p.tables e below (T1.setTop (mkF m 4 #[.val (.ref b0), .val (.long q1), .second, .val (.long q2), .second, .val (.long q3), .second, .val (.int p4), .val .null, .unset, .unset] [(.ref bl)])) _
    refine XS.astore X1.here hx rfl (hb hby d_own_rmPAn1_4) rfl rfl (l' := #[.val (.ref b0), .val (.long q1), .second, .val (.long q2), .second, .val (.long q3), .second, .val (.int p4), .val .null, .val (.ref bl), .unset]) rfl ?_
    show Steps p.tables e below (T1.setTop (mkF m 6 #[.val (.ref b0), .val (.long q1), .second, .val (.long q2), .second, .val (.long q3), .second, .val (.int p4), .val .null, .val (.ref bl), .unset] [])) _
    refine XS.aload X1.here hx rfl (hb hby d_own_rmPAn1_6) rfl rfl ?_
    show Steps p.tables e below (T1.setTop (mkF m 8 #[.val (.ref b0), .val (.long q1), .second, .val (.long q2), .second, .val (.long q3), .second, .val (.int p4), .val .null, .val (.ref bl), .unset] [(.ref bl)])) _
    refine own_getRef X1 hx hZ hown (hw _ (List.mem_of_getElem? (i := 67) rfl)) e1 F_h (g := (mkF m 8 #[.val (.ref b0), .val (.long q1), .second, .val (.long q2), .second, .val (.long q3), .second, .val (.int p4), .val .null, .val (.ref bl), .unset] [(.ref bl)])) rfl rfl (hb hby d_own_rmPAn1_8) _ ?_
    show Steps p.tables e below (T1.setTop (mkF m 11 #[.val (.ref b0), .val (.long q1), .second, .val (.long q2), .second, .val (.long q3), .second, .val (.int p4), .val .null, .val (.ref bl), .unset] [(.ref bC)])) _
    refine st2.trans ?_
    show Steps p.tables e below (T2.setTop (mkF m 14 #[.val (.ref b0), .val (.long q1), .second, .val (.long q2), .second, .val (.long q3), .second, .val (.int p4), .val .null, .val (.ref bl), .unset] [(.long (0 : Int64))])) _
    refine XS.lload X2.here hx rfl (hb hby d_own_rmPAn1_14) rfl ?_
    show Steps p.tables e below (T2.setTop (mkF m 16 #[.val (.ref b0), .val (.long q1), .second, .val (.long q2), .second, .val (.long q3), .second, .val (.int p4), .val .null, .val (.ref bl), .unset] [(.long q3), (.long (0 : Int64))])) _
    refine XS.lcmp X2.here hx rfl (hb hby d_own_rmPAn1_16) rfl ?_
    show Steps p.tables e below (T2.setTop (mkF m 17 #[.val (.ref b0), .val (.long q1), .second, .val (.long q2), .second, .val (.long q3), .second, .val (.int p4), .val .null, .val (.ref bl), .unset] [(.int (lcmpW (0 : Int64) q3))])) _
    refine XS.ifNo X2.here hx rfl (hb hby d_own_rmPAn1_17) rfl ((if0 _ _).trans (teq ((lw_eq _ _).mpr (h3 : (0 : Int64) = q3))).2) ?_
    show Steps p.tables e below (T2.setTop (mkF m 20 #[.val (.ref b0), .val (.long q1), .second, .val (.long q2), .second, .val (.long q3), .second, .val (.int p4), .val .null, .val (.ref bl), .unset] [])) _
    refine XS.aload X2.here hx rfl (hb hby d_own_rmPAn1_20) rfl rfl ?_
    show Steps p.tables e below (T2.setTop (mkF m 22 #[.val (.ref b0), .val (.long q1), .second, .val (.long q2), .second, .val (.long q3), .second, .val (.int p4), .val .null, .val (.ref bl), .unset] [(.ref bl)])) _
    refine own_getRef X2 hx hZ hown (hw _ (List.mem_of_getElem? (i := 67) rfl)) e2 F_h (g := (mkF m 22 #[.val (.ref b0), .val (.long q1), .second, .val (.long q2), .second, .val (.long q3), .second, .val (.int p4), .val .null, .val (.ref bl), .unset] [(.ref bl)])) rfl rfl (hb hby d_own_rmPAn1_22) _ ?_
    show Steps p.tables e below (T2.setTop (mkF m 25 #[.val (.ref b0), .val (.long q1), .second, .val (.long q2), .second, .val (.long q3), .second, .val (.int p4), .val .null, .val (.ref bl), .unset] [(.ref bC)])) _
    refine XS.astore X2.here hx rfl (hb hby d_own_rmPAn1_25) rfl rfl (l' := #[.val (.ref b0), .val (.long q1), .second, .val (.long q2), .second, .val (.long q3), .second, .val (.int p4), .val .null, .val (.ref bl), .val (.ref bC)]) rfl ?_
    show Steps p.tables e below (T2.setTop (mkF m 27 #[.val (.ref b0), .val (.long q1), .second, .val (.long q2), .second, .val (.long q3), .second, .val (.int p4), .val .null, .val (.ref bl), .val (.ref bC)] [])) _
    refine XS.goto X2.here hx rfl (pc0 := 27) (pc' := 55) rfl (hb hby d_own_rmPAn1_27) (by decide) (by decide) ?_
    show Steps p.tables e below (T2.setTop (mkF m 55 #[.val (.ref b0), .val (.long q1), .second, .val (.long q2), .second, .val (.long q3), .second, .val (.int p4), .val .null, .val (.ref bl), .val (.ref bC)] [])) _
    refine XS.aloadN X2.here hx rfl (hb hby d_own_rmPAn1_55) rfl rfl ?_
    show Steps p.tables e below (T2.setTop (mkF m 56 #[.val (.ref b0), .val (.long q1), .second, .val (.long q2), .second, .val (.long q3), .second, .val (.int p4), .val .null, .val (.ref bl), .val (.ref bC)] [(.ref b0)])) _
    refine XS.lloadN X2.here hx rfl (hb hby d_own_rmPAn1_56) rfl ?_
    show Steps p.tables e below (T2.setTop (mkF m 57 #[.val (.ref b0), .val (.long q1), .second, .val (.long q2), .second, .val (.long q3), .second, .val (.int p4), .val .null, .val (.ref bl), .val (.ref bC)] [(.long q1), (.ref b0)])) _
    refine XS.lloadN X2.here hx rfl (hb hby d_own_rmPAn1_57) rfl ?_
    show Steps p.tables e below (T2.setTop (mkF m 58 #[.val (.ref b0), .val (.long q1), .second, .val (.long q2), .second, .val (.long q3), .second, .val (.int p4), .val .null, .val (.ref bl), .val (.ref bC)] [(.long q2), (.long q1), (.ref b0)])) _
    refine XS.aload X2.here hx rfl (hb hby d_own_rmPAn1_58) rfl rfl ?_
    show Steps p.tables e below (T2.setTop (mkF m 60 #[.val (.ref b0), .val (.long q1), .second, .val (.long q2), .second, .val (.long q3), .second, .val (.int p4), .val .null, .val (.ref bl), .val (.ref bC)] [(.ref bl), (.long q2), (.long q1), (.ref b0)])) _
    refine own_getRef X2 hx hZ hown (hw _ (List.mem_of_getElem? (i := 75) rfl)) e2 F_s (g := (mkF m 60 #[.val (.ref b0), .val (.long q1), .second, .val (.long q2), .second, .val (.long q3), .second, .val (.int p4), .val .null, .val (.ref bl), .val (.ref bC)] [(.ref bl), (.long q2), (.long q1), (.ref b0)])) rfl rfl (hb hby d_own_rmPAn1_60) _ ?_
    show Steps p.tables e below (T2.setTop (mkF m 63 #[.val (.ref b0), .val (.long q1), .second, .val (.long q2), .second, .val (.long q3), .second, .val (.int p4), .val .null, .val (.ref bl), .val (.ref bC)] [(.ref bR), (.long q2), (.long q1), (.ref b0)])) _
    refine XS.aload X2.here hx rfl (hb hby d_own_rmPAn1_63) rfl rfl ?_
    show Steps p.tables e below (T2.setTop (mkF m 65 #[.val (.ref b0), .val (.long q1), .second, .val (.long q2), .second, .val (.long q3), .second, .val (.int p4), .val .null, .val (.ref bl), .val (.ref bC)] [(.ref bC), (.ref bR), (.long q2), (.long q1), (.ref b0)])) _
    refine XS.aload X2.here hx rfl (hb hby d_own_rmPAn1_65) rfl rfl ?_
    show Steps p.tables e below (T2.setTop (mkF m 67 #[.val (.ref b0), .val (.long q1), .second, .val (.long q2), .second, .val (.long q3), .second, .val (.int p4), .val .null, .val (.ref bl), .val (.ref bC)] [.null, (.ref bC), (.ref bR), (.long q2), (.long q1), (.ref b0)])) _
    refine st3.trans ?_
    show Steps p.tables e below (T3.setTop (mkF m 70 #[.val (.ref b0), .val (.long q1), .second, .val (.long q2), .second, .val (.long q3), .second, .val (.int p4), .val .null, .val (.ref bl), .val (.ref bC)] [])) _
    exact X3.returnOut hx Bd.returns (hb hby d_own_rmPAn1_70) hr
  · show own_QP Z b0 (1 : Int32) q1 q2 bR bC .null h0 n0 _ T3.heap _
    exact ⟨rfl, N3, rest3⟩
theorem d_own_rmChC1_0 : decode prog_1_method_12_code 0 = .ok (.aload_n 0, 1) := by decide +kernel
theorem d_own_rmChC1_1 : decode prog_1_method_12_code 1 = .ok (.getfield 50, 3) := by decide +kernel
theorem d_own_rmChC1_4 : decode prog_1_method_12_code 4 = .ok (.astore 8, 2) := by decide +kernel
theorem d_own_rmChC1_6 : decode prog_1_method_12_code 6 = .ok (.aload 8, 2) := by decide +kernel
theorem d_own_rmChC1_8 : decode prog_1_method_12_code 8 = .ok (.getfield 121, 3) := by decide +kernel
theorem d_own_rmChC1_11 : decode prog_1_method_12_code 11 = .ok (.lload_n 1, 1) := by decide +kernel
theorem d_own_rmChC1_12 : decode prog_1_method_12_code 12 = .ok (.lcmp, 1) := by decide +kernel
theorem d_own_rmChC1_13 : decode prog_1_method_12_code 13 = .ok (.ifCond .ne 11, 3) := by decide +kernel
theorem d_own_rmChC1_24 : decode prog_1_method_12_code 24 = .ok (.aload 8, 2) := by decide +kernel
theorem d_own_rmChC1_26 : decode prog_1_method_12_code 26 = .ok (.astore 9, 2) := by decide +kernel
theorem d_own_rmChC1_28 : decode prog_1_method_12_code 28 = .ok (.aload_n 0, 1) := by decide +kernel
theorem d_own_rmChC1_29 : decode prog_1_method_12_code 29 = .ok (.new 45, 3) := by decide +kernel
theorem d_own_rmChC1_32 : decode prog_1_method_12_code 32 = .ok (.dup, 1) := by decide +kernel
theorem d_own_rmChC1_33 : decode prog_1_method_12_code 33 = .ok (.lload_n 1, 1) := by decide +kernel
theorem d_own_rmChC1_34 : decode prog_1_method_12_code 34 = .ok (.lload_n 3, 1) := by decide +kernel
theorem d_own_rmChC1_35 : decode prog_1_method_12_code 35 = .ok (.aload 5, 2) := by decide +kernel
theorem d_own_rmChC1_37 : decode prog_1_method_12_code 37 = .ok (.aload 6, 2) := by decide +kernel
theorem d_own_rmChC1_39 : decode prog_1_method_12_code 39 = .ok (.aload 9, 2) := by decide +kernel
theorem d_own_rmChC1_41 : decode prog_1_method_12_code 41 = .ok (.invokespecial 47, 3) := by decide +kernel
theorem d_own_rmChC1_44 : decode prog_1_method_12_code 44 = .ok (.putfield 50, 3) := by decide +kernel
theorem d_own_rmChC1_47 : decode prog_1_method_12_code 47 = .ok (.aload 9, 2) := by decide +kernel
theorem d_own_rmChC1_49 : decode prog_1_method_12_code 49 = .ok (.aload 8, 2) := by decide +kernel
theorem d_own_rmChC1_51 : decode prog_1_method_12_code 51 = .ok (.if_acmp .ne 13, 3) := by decide +kernel
theorem d_own_rmChC1_54 : decode prog_1_method_12_code 54 = .ok (.aload_n 0, 1) := by decide +kernel
theorem d_own_rmChC1_55 : decode prog_1_method_12_code 55 = .ok (.dup, 1) := by decide +kernel
theorem d_own_rmChC1_56 : decode prog_1_method_12_code 56 = .ok (.getfield 23, 3) := by decide +kernel
theorem d_own_rmChC1_59 : decode prog_1_method_12_code 59 = .ok (.iconst 1, 1) := by decide +kernel
theorem d_own_rmChC1_60 : decode prog_1_method_12_code 60 = .ok (.iadd, 1) := by decide +kernel
theorem d_own_rmChC1_61 : decode prog_1_method_12_code 61 = .ok (.putfield 23, 3) := by decide +kernel
theorem d_own_rmChC1_64 : decode prog_1_method_12_code 64 = .ok (.aload_n 0, 1) := by decide +kernel
theorem d_own_rmChC1_65 : decode prog_1_method_12_code 65 = .ok (.getfield 23, 3) := by decide +kernel
theorem d_own_rmChC1_68 : decode prog_1_method_12_code 68 = .ok (.iconst 2, 1) := by decide +kernel
theorem d_own_rmChC1_69 : decode prog_1_method_12_code 69 = .ok (.aload_n 0, 1) := by decide +kernel
theorem d_own_rmChC1_70 : decode prog_1_method_12_code 70 = .ok (.getfield 27, 3) := by decide +kernel
theorem d_own_rmChC1_73 : decode prog_1_method_12_code 73 = .ok (.imul, 1) := by decide +kernel
theorem d_own_rmChC1_74 : decode prog_1_method_12_code 74 = .ok (.iconst 1, 1) := by decide +kernel
theorem d_own_rmChC1_75 : decode prog_1_method_12_code 75 = .ok (.iadd, 1) := by decide +kernel
theorem d_own_rmChC1_76 : decode prog_1_method_12_code 76 = .ok (.if_icmp .le 14, 3) := by decide +kernel
theorem d_own_rmChC1_90 : decode prog_1_method_12_code 90 = .ok (.return_, 1) := by decide +kernel
theorem ef_own_rmChC1 (m : MethodId) (x0 : Addr) (x1 : Int64) (x2 : Int64) (x3 : Addr) (x4 : Addr) : entryFrame m #[(.ref x0), (.long x1), (.long x2), (.ref x3), (.ref x4), .null] 10 = mkF m 0 #[.val (.ref x0), .val (.long x1), .second, .val (.long x2), .second, .val (.ref x3), .val (.ref x4), .val .null, .unset, .unset] [] := by first | (simp [entryFrame, mkF, argsToLocals, Value.category]; done) | rfl
set_option maxRecDepth 65536 in
set_option maxHeartbeats 40000000 in
theorem own_rmChC1 (l : Launch) (Z : State) (a0 : Array Value) (hw : ∀ d ∈ tables_1, d.before a0 Z = true) (ws : List Jvm.Cond) (b0 : Addr) (q1 : Int64) (q2 : Int64) (b3 : Addr) (b4 : Addr) (bl : Addr) (ql : Int64) (ue : Value) (h0 : Heap) (n0 : Nat) (Z0 : n0 ≤ h0.size) (E_0 : Exa Z h0 b0 "com/example/tandem_ledger/tandemledger/Account") (F_latest : Fld Z h0 b0 "com/example/tandem_ledger/tandemledger/Account" "latest" "Lcom/example/tandem_ledger/tandemledger/Account$Version;" (.ref bl)) (F_kept : Fld Z h0 b0 "com/example/tandem_ledger/tandemledger/Account" "kept" "I" (.int (1 : Int32))) (F_ka : Fld Z h0 b0 "com/example/tandem_ledger/tandemledger/Account" "keptAfterLettingGo" "I" (.int (1 : Int32))) (F_c : Fld Z h0 bl "com/example/tandem_ledger/tandemledger/Account$Version" "commit" "J" (.long ql)) (F_e : Fld Z h0 bl "com/example/tandem_ledger/tandemledger/Account$Version" "earlier" "Lcom/example/tandem_ledger/tandemledger/Account$Version;" ue) (hlb : bl ≠ b0) (g_0 : n0 ≤ b0) (hcm : ¬ ql = q1) :
    MetFree l (⟨"com/example/tandem_ledger/tandemledger/Account", "change", "(JJLcom/example/tandem_ledger/tandemledger/Reserve;Lcom/example/tandem_ledger/tandemledger/Chain;Ljava/util/function/LongSupplier;)V"⟩ : MethodName) (head1 (Jvm.Cond.code (⟨"com/example/tandem_ledger/tandemledger/Account", "change", "(JJLcom/example/tandem_ledger/tandemledger/Reserve;Lcom/example/tandem_ledger/tandemledger/Chain;Ljava/util/function/LongSupplier;)V"⟩ : MethodName) prog_1_method_12_code 10 none :: ws) ({ frames := 2, cells := 1, slots := 5, locals := 33 } : Room)) (fun a U => a = #[(.ref b0), (.long q1), (.long q2), (.ref b3), (.ref b4), .null] ∧ Z.Warmed39 U.vm ∧ U.heap = h0) (fun _ _ _ _ _ => True) (fun _ U o U' => ∃ v L, o = .returned v ∧ own_QP Z b0 (2 : Int32) q1 q2 b3 b4 (.ref bl) h0 n0 v U'.heap L ∧ FrameEnd U o U' L ({ frames := 2, cells := 1, slots := 5, locals := 33 } : Room).cells ({ frames := 2, cells := 1, slots := 5, locals := 33 } : Room).slots) := by
  refine MetFree.of_bodySF (plainFor_of_name own_pn1) hisR ?_
  intro p e s m args below meth c s₁ Bd hml0 hP hK
  obtain ⟨rfl, hZ, hh⟩ := hP
  have hx := Bd.exec
  have hby := Bd.bytes
  have hml : c.maxLocals = 10 := hml0
  have hown : s.vm.findClass "com/example/tandem_ledger/tandemledger/Account" = some m.cls := findClass_of_methodNamed Bd.named
  have hnm := (name_of_methodNamed Bd.named Bd.method).1
  have X0 : Stand p l e ({ frames := 2, cells := 1, slots := 5, locals := 33 } : Room) s m #[(.ref b0), (.long q1), (.long q2), (.ref b3), (.ref b4), .null] below meth c s₁ [] 0 0 := Stand.of_body Bd
  have e0 : s₁.heap = h0 := by rw [← hh, Bd.state]; rfl
  have N0 := Fr.nil n0
  refine own_go (b := s₁.setTop (mkF m 0 #[.val (.ref b0), .val (.long q1), .second, .val (.long q2), .second, .val (.ref b3), .val (.ref b4), .val .null, .unset, .unset] [])) (fun t k => castTop (ef_own_rmChC1 m b0 q1 q2 b3 b4) k) ?_
  obtain ⟨T1, X1, e1, st1⟩ := getF X0 hx hZ hown (host := "") (Or.inl (hw _ (List.mem_of_getElem? (i := 60) rfl))) Via.refl e0 F_latest (g := (mkF m 1 #[.val (.ref b0), .val (.long q1), .second, .val (.long q2), .second, .val (.ref b3), .val (.ref b4), .val .null, .unset, .unset] [(.ref b0)])) rfl rfl (hb hby d_own_rmChC1_1)
  obtain ⟨T2, h2, X2, e2, E2, A2, D2, -, st2⟩ := newO X1 hx hZ hown (hw _ (List.mem_of_getElem? (i := 43) rfl)) (hw _ (List.mem_of_getElem? (i := 44) rfl)) (hw _ (List.mem_of_getElem? (i := 45) rfl)) e1 (g := (mkF m 29 #[.val (.ref b0), .val (.long q1), .second, .val (.long q2), .second, .val (.ref b3), .val (.ref b4), .val .null, .val (.ref bl), .val (.ref bl)] [(.ref b0)])) rfl (hb hby d_own_rmChC1_29) (by decide) (by decide)
  obtain ⟨b2, g2⟩ : ∃ z, z = h0.size := ⟨_, rfl⟩
  rw [← g2] at A2 D2 st2
  have ne_b0_b2 : b0 ≠ b2 := Nat.ne_of_lt (Nat.lt_of_lt_of_le E_0.lt (Nat.le_of_eq g2.symm))
  have ne_bl_b2 : bl ≠ b2 := Nat.ne_of_lt (Nat.lt_of_lt_of_le F_c.lt (Nat.le_of_eq g2.symm))
  have new_b2 : n0 ≤ b2 := Nat.le_trans Z0 (Nat.le_of_eq g2.symm)
  have sz_b2 : h0.size ≤ b2 := Nat.le_trans (Keep.refl h0 [b0]).1 (Nat.le_of_eq g2.symm)
  have E_b0_2 := E_0.ext E2
  have F_b0_latest_2 := F_latest.ext E2
  have F_b0_kept_2 := F_kept.ext E2
  have F_b0_keptAfterLettingGo_2 := F_ka.ext E2
  have F_bl_commit_2 := F_c.ext E2
  have F_bl_earlier_2 := F_e.ext E2
  have Z2 := Nat.le_trans Z0 E2.1
  have K2 := (Keep.refl h0 [b0]).ext E2
  have F_b2_commit_2 : Fld Z h2 b2 "com/example/tandem_ledger/tandemledger/Account$Version" "commit" "J" (.long (0 : Int64)) := D2 (Or.inr (hw _ (List.mem_of_getElem? (i := 51) rfl))) (ty := .long) (by decide)
  have F_b2_balance_2 : Fld Z h2 b2 "com/example/tandem_ledger/tandemledger/Account$Version" "balance" "J" (.long (0 : Int64)) := D2 (Or.inr (hw _ (List.mem_of_getElem? (i := 53) rfl))) (ty := .long) (by decide)
  have F_b2_reserve_2 : Fld Z h2 b2 "com/example/tandem_ledger/tandemledger/Account$Version" "reserve" "Lcom/example/tandem_ledger/tandemledger/Reserve;" .null := D2 (Or.inr (hw _ (List.mem_of_getElem? (i := 55) rfl))) (ty := (.object "com/example/tandem_ledger/tandemledger/Reserve")) (by decide)
  have F_b2_chain_2 : Fld Z h2 b2 "com/example/tandem_ledger/tandemledger/Account$Version" "chain" "Lcom/example/tandem_ledger/tandemledger/Chain;" .null := D2 (Or.inr (hw _ (List.mem_of_getElem? (i := 57) rfl))) (ty := (.object "com/example/tandem_ledger/tandemledger/Chain")) (by decide)
  have F_b2_earlier_2 : Fld Z h2 b2 "com/example/tandem_ledger/tandemledger/Account$Version" "earlier" "Lcom/example/tandem_ledger/tandemledger/Account$Version;" .null := D2 (Or.inl (hw _ (List.mem_of_getElem? (i := 59) rfl))) (ty := (.object "com/example/tandem_ledger/tandemledger/Account$Version")) (by decide)
  obtain ⟨_, _, ⟨T3, L3, k3, n3⟩, -, X3, ⟨Lc3, hQ3, l3, y3, z3⟩, st3⟩ := own_specialRef X2 hx hZ (y := (⟨"com/example/tandem_ledger/tandemledger/Account$Version", "<init>", "(JJLcom/example/tandem_ledger/tandemledger/Reserve;Lcom/example/tandem_ledger/tandemledger/Chain;Lcom/example/tandem_ledger/tandemledger/Account$Version;)V"⟩ : MethodName)) rfl hown (hw _ (List.mem_of_getElem? (i := 46) rfl)) (mvT hZ (hw _ (List.mem_of_getElem? (i := 47) rfl))) (mvT hZ (hw _ (List.mem_of_getElem? (i := 48) rfl))) (by decide) (backOf (W := 2) (own_rmVr l Z a0 hw [] b2 q1 q2 b3 b4 bl  h2 n0 Z2 A2 F_b2_commit_2 F_b2_balance_2 F_b2_reserve_2 F_b2_chain_2 F_b2_earlier_2 new_b2) hZ (hw _ (List.mem_of_getElem? (i := 48) rfl)) (hw _ (List.mem_of_getElem? (i := 45) rfl)) (by decide) (by decide)) (g := (mkF m 41 #[.val (.ref b0), .val (.long q1), .second, .val (.long q2), .second, .val (.ref b3), .val (.ref b4), .val .null, .val (.ref bl), .val (.ref bl)] [(.ref bl), (.ref b4), (.ref b3), (.long q2), (.long q1), (.ref b2), (.ref b2), (.ref b0)])) rfl (by rw [hml]; rfl) (a := b2) (argsL := [(.long q1), (.long q2), (.ref b3), (.ref b4), (.ref bl)]) (rest := [(.ref b2), (.ref b0)]) (lenOf own_pd0 rfl) rfl (by show 2 * 0 + _ ≤ _; exact Nat.le_of_eq rfl) (hb hby d_own_rmChC1_41) (fun _ _ => ⟨rfl, e2, (by decide : 1 + 0 ≤ _), (by decide : 5 + 0 ≤ _)⟩)
  dsimp only [Pt.U, Pt.locs, Pt.cells, Pt.slots] at X3 l3 y3 z3 st3 hQ3
  subst l3 y3 z3
  obtain ⟨rfl, N3q, K3q, B3_0, B3_1, B3_2, B3_3, B3_4⟩ := hQ3
  have E_b0_3 := E_b0_2.keep K3q
  have F_b0_latest_3 := F_b0_latest_2.keep K3q (fun q => ne_b0_b2 (List.mem_singleton.mp q))
  have F_b0_kept_3 := F_b0_kept_2.keep K3q (fun q => ne_b0_b2 (List.mem_singleton.mp q))
  have F_b0_keptAfterLettingGo_3 := F_b0_keptAfterLettingGo_2.keep K3q (fun q => ne_b0_b2 (List.mem_singleton.mp q))
  have F_bl_commit_3 := F_bl_commit_2.keep K3q (fun q => ne_bl_b2 (List.mem_singleton.mp q))
  have F_bl_earlier_3 := F_bl_earlier_2.keep K3q (fun q => ne_bl_b2 (List.mem_singleton.mp q))
  have E_b2_3 := A2.keep K3q
  have N3 := Fr.app N0 N3q
  have Z3 := Nat.le_trans Z2 K3q.1
  have K3 := K2.trans K3q (fun x hx => by cases List.mem_singleton.mp hx; exact Or.inr sz_b2)
  obtain ⟨T4, h4, X4, e4, W4, st4⟩ := putF X3 hx hZ hown (host := "") (Or.inl (hw _ (List.mem_of_getElem? (i := 60) rfl))) Via.refl rfl F_b0_latest_3 E_b0_3 (Or.inl (hw _ (List.mem_of_getElem? (i := 61) rfl))) (hw _ (List.mem_of_getElem? (i := 6) rfl)) (ty := (.object "com/example/tandem_ledger/tandemledger/Account$Version")) (by decide) rfl rfl (g := (mkF m 44 #[.val (.ref b0), .val (.long q1), .second, .val (.long q2), .second, .val (.ref b3), .val (.ref b4), .val .null, .val (.ref bl), .val (.ref bl)] [(.ref b2), (.ref b0)])) rfl rfl (hb hby d_own_rmChC1_44)
  have E_b0_4 := E_b0_3.wr W4
  have F_b0_kept_4 := F_b0_kept_3.other W4 (Or.inr (slot_ne (Or.inl (hw _ (List.mem_of_getElem? (i := 32) rfl))) (Or.inl (hw _ (List.mem_of_getElem? (i := 61) rfl))) (by decide) (t := .int) (t' := (.object "com/example/tandem_ledger/tandemledger/Account$Version")) (by decide) (by decide)))
  have F_b0_keptAfterLettingGo_4 := F_b0_keptAfterLettingGo_3.other W4 (Or.inr (slot_ne (Or.inl (hw _ (List.mem_of_getElem? (i := 34) rfl))) (Or.inl (hw _ (List.mem_of_getElem? (i := 61) rfl))) (by decide) (t := .int) (t' := (.object "com/example/tandem_ledger/tandemledger/Account$Version")) (by decide) (by decide)))
  have F_bl_commit_4 := F_bl_commit_3.other W4 (Or.inl hlb)
  have F_bl_earlier_4 := F_bl_earlier_3.other W4 (Or.inl hlb)
  have E_b2_4 := E_b2_3.wr W4
  have F_b2_commit_4 := B3_0.other W4 (Or.inl (Ne.symm ne_b0_b2))
  have F_b2_balance_4 := B3_1.other W4 (Or.inl (Ne.symm ne_b0_b2))
  have F_b2_reserve_4 := B3_2.other W4 (Or.inl (Ne.symm ne_b0_b2))
  have F_b2_chain_4 := B3_3.other W4 (Or.inl (Ne.symm ne_b0_b2))
  have F_b2_earlier_4 := B3_4.other W4 (Or.inl (Ne.symm ne_b0_b2))
  have Z4 := Nat.le_trans Z3 (Keep.of_wr W4).1
  have K4 := K3.wr W4 (Or.inl (List.mem_of_getElem? (i := 0) rfl))
  have N4 := Fr.snoc X4 N3 g_0
  have F_b0_latest_4 := F_b0_latest_3.same W4
  obtain ⟨T5, X5, e5, st5⟩ := getF X4 hx hZ hown (host := "") (Or.inl (hw _ (List.mem_of_getElem? (i := 31) rfl))) Via.refl e4 F_b0_kept_4 (g := (mkF m 56 #[.val (.ref b0), .val (.long q1), .second, .val (.long q2), .second, .val (.ref b3), .val (.ref b4), .val .null, .val (.ref bl), .val (.ref bl)] [(.ref b0), (.ref b0)])) rfl rfl (hb hby d_own_rmChC1_56)
  obtain ⟨T6, h6, X6, e6, W6, st6⟩ := putF X5 hx hZ hown (host := "") (Or.inl (hw _ (List.mem_of_getElem? (i := 31) rfl))) Via.refl e5 F_b0_kept_4 E_b0_4 (Or.inl (hw _ (List.mem_of_getElem? (i := 32) rfl))) (hw _ (List.mem_of_getElem? (i := 6) rfl)) (ty := .int) (by decide) rfl rfl (g := (mkF m 61 #[.val (.ref b0), .val (.long q1), .second, .val (.long q2), .second, .val (.ref b3), .val (.ref b4), .val .null, .val (.ref bl), .val (.ref bl)] [(.int (2 : Int32)), (.ref b0)])) rfl rfl (hb hby d_own_rmChC1_61)
  have E_b0_6 := E_b0_4.wr W6
  have F_b0_keptAfterLettingGo_6 := F_b0_keptAfterLettingGo_4.other W6 (Or.inr (slot_ne (Or.inl (hw _ (List.mem_of_getElem? (i := 34) rfl))) (Or.inl (hw _ (List.mem_of_getElem? (i := 32) rfl))) (by decide) (t := .int) (t' := .int) (by decide) (by decide)))
  have F_bl_commit_6 := F_bl_commit_4.other W6 (Or.inl hlb)
  have F_bl_earlier_6 := F_bl_earlier_4.other W6 (Or.inl hlb)
  have E_b2_6 := E_b2_4.wr W6
  have F_b2_commit_6 := F_b2_commit_4.other W6 (Or.inl (Ne.symm ne_b0_b2))
  have F_b2_balance_6 := F_b2_balance_4.other W6 (Or.inl (Ne.symm ne_b0_b2))
  have F_b2_reserve_6 := F_b2_reserve_4.other W6 (Or.inl (Ne.symm ne_b0_b2))
  have F_b2_chain_6 := F_b2_chain_4.other W6 (Or.inl (Ne.symm ne_b0_b2))
  have F_b2_earlier_6 := F_b2_earlier_4.other W6 (Or.inl (Ne.symm ne_b0_b2))
  have F_b0_latest_6 := F_b0_latest_4.other W6 (Or.inr (slot_ne (Or.inl (hw _ (List.mem_of_getElem? (i := 61) rfl))) (Or.inl (hw _ (List.mem_of_getElem? (i := 32) rfl))) (by decide) (t := (.object "com/example/tandem_ledger/tandemledger/Account$Version")) (t' := .int) (by decide) (by decide)))
  have Z6 := Nat.le_trans Z4 (Keep.of_wr W6).1
  have K6 := K4.wr W6 (Or.inl (List.mem_of_getElem? (i := 0) rfl))
  have N6 := Fr.snoc X6 N4 g_0
  have F_b0_kept_6 := F_b0_kept_4.same W6
  obtain ⟨T7, X7, e7, st7⟩ := getF X6 hx hZ hown (host := "") (Or.inl (hw _ (List.mem_of_getElem? (i := 31) rfl))) Via.refl e6 F_b0_kept_6 (g := (mkF m 65 #[.val (.ref b0), .val (.long q1), .second, .val (.long q2), .second, .val (.ref b3), .val (.ref b4), .val .null, .val (.ref bl), .val (.ref bl)] [(.ref b0)])) rfl rfl (hb hby d_own_rmChC1_65)
  obtain ⟨T8, X8, e8, st8⟩ := getF X7 hx hZ hown (host := "") (Or.inl (hw _ (List.mem_of_getElem? (i := 33) rfl))) Via.refl e7 F_b0_keptAfterLettingGo_6 (g := (mkF m 70 #[.val (.ref b0), .val (.long q1), .second, .val (.long q2), .second, .val (.ref b3), .val (.ref b4), .val .null, .val (.ref bl), .val (.ref bl)] [(.ref b0), (.int (2 : Int32)), (.int (2 : Int32))])) rfl rfl (hb hby d_own_rmChC1_70)
  obtain ⟨fs, hr, hrun, hended, hW, hsame⟩ := X8.leave (v := none) (fun _ => rfl)
  refine ⟨_, _, ?_, hrun, hended, _, _, rfl, ?_, ⟨_, rfl⟩, hW, hsame.mono (by decide) (by decide)⟩
  · show Steps p.tables e below (s₁.setTop (mkF m 0 #[.val (.ref b0), .val (.long q1), .second, .val (.long q2), .second, .val (.ref b3), .val (.ref b4), .val .null, .unset, .unset] [])) _
    refine XS.aloadN X0.here hx rfl (hb hby d_own_rmChC1_0) rfl rfl ?_
    show Steps p.tables e below (s₁.setTop (mkF m 1 #[.val (.ref b0), .val (.long q1), .second, .val (.long q2), .second, .val (.ref b3), .val (.ref b4), .val .null, .unset, .unset] [(.ref b0)])) _
    refine st1 _ ?_
    show Steps p.tables e below (T1.setTop (mkF m 4 #[.val (.ref b0), .val (.long q1), .second, .val (.long q2), .second, .val (.ref b3), .val (.ref b4), .val .null, .unset, .unset] [(.ref bl)])) _
    refine XS.astore X1.here hx rfl (hb hby d_own_rmChC1_4) rfl rfl (l' := #[.val (.ref b0), .val (.long q1), .second, .val (.long q2), .second, .val (.ref b3), .val (.ref b4), .val .null, .val (.ref bl), .unset]) rfl ?_
    show Steps p.tables e below (T1.setTop (mkF m 6 #[.val (.ref b0), .val (.long q1), .second, .val (.long q2), .second, .val (.ref b3), .val (.ref b4), .val .null, .val (.ref bl), .unset] [])) _
    refine XS.aload X1.here hx rfl (hb hby d_own_rmChC1_6) rfl rfl ?_
    show Steps p.tables e below (T1.setTop (mkF m 8 #[.val (.ref b0), .val (.long q1), .second, .val (.long q2), .second, .val (.ref b3), .val (.ref b4), .val .null, .val (.ref bl), .unset] [(.ref bl)])) _
    refine own_getRef X1 hx hZ hown (hw _ (List.mem_of_getElem? (i := 80) rfl)) e1 F_c (g := (mkF m 8 #[.val (.ref b0), .val (.long q1), .second, .val (.long q2), .second, .val (.ref b3), .val (.ref b4), .val .null, .val (.ref bl), .unset] [(.ref bl)])) rfl rfl (hb hby d_own_rmChC1_8) _ ?_
    show Steps p.tables e below (T1.setTop (mkF m 11 #[.val (.ref b0), .val (.long q1), .second, .val (.long q2), .second, .val (.ref b3), .val (.ref b4), .val .null, .val (.ref bl), .unset] [(.long ql)])) _
    refine XS.lloadN X1.here hx rfl (hb hby d_own_rmChC1_11) rfl ?_
    show Steps p.tables e below (T1.setTop (mkF m 12 #[.val (.ref b0), .val (.long q1), .second, .val (.long q2), .second, .val (.ref b3), .val (.ref b4), .val .null, .val (.ref bl), .unset] [(.long q1), (.long ql)])) _
    refine XS.lcmp X1.here hx rfl (hb hby d_own_rmChC1_12) rfl ?_
    show Steps p.tables e below (T1.setTop (mkF m 13 #[.val (.ref b0), .val (.long q1), .second, .val (.long q2), .second, .val (.ref b3), .val (.ref b4), .val .null, .val (.ref bl), .unset] [(.int (lcmpW ql q1))])) _
    refine XS.ifYes X1.here hx rfl (pc0 := 13) (pc' := 24) rfl (hb hby d_own_rmChC1_13) rfl ((if0 _ _).trans (feq (mt (lw_eq _ _).mp (hcm : ¬ (ql = q1)))).2) (by decide) (by decide) ?_
    show Steps p.tables e below (T1.setTop (mkF m 24 #[.val (.ref b0), .val (.long q1), .second, .val (.long q2), .second, .val (.ref b3), .val (.ref b4), .val .null, .val (.ref bl), .unset] [])) _
    refine XS.aload X1.here hx rfl (hb hby d_own_rmChC1_24) rfl rfl ?_
    show Steps p.tables e below (T1.setTop (mkF m 26 #[.val (.ref b0), .val (.long q1), .second, .val (.long q2), .second, .val (.ref b3), .val (.ref b4), .val .null, .val (.ref bl), .unset] [(.ref bl)])) _
    refine XS.astore X1.here hx rfl (hb hby d_own_rmChC1_26) rfl rfl (l' := #[.val (.ref b0), .val (.long q1), .second, .val (.long q2), .second, .val (.ref b3), .val (.ref b4), .val .null, .val (.ref bl), .val (.ref bl)]) rfl ?_
    show Steps p.tables e below (T1.setTop (mkF m 28 #[.val (.ref b0), .val (.long q1), .second, .val (.long q2), .second, .val (.ref b3), .val (.ref b4), .val .null, .val (.ref bl), .val (.ref bl)] [])) _
    refine XS.aloadN X1.here hx rfl (hb hby d_own_rmChC1_28) rfl rfl ?_
    show Steps p.tables e below (T1.setTop (mkF m 29 #[.val (.ref b0), .val (.long q1), .second, .val (.long q2), .second, .val (.ref b3), .val (.ref b4), .val .null, .val (.ref bl), .val (.ref bl)] [(.ref b0)])) _
    refine st2 _ ?_
    show Steps p.tables e below (T2.setTop (mkF m 32 #[.val (.ref b0), .val (.long q1), .second, .val (.long q2), .second, .val (.ref b3), .val (.ref b4), .val .null, .val (.ref bl), .val (.ref bl)] [(.ref b2), (.ref b0)])) _
    refine XS.dup X2.here hx rfl (hb hby d_own_rmChC1_32) rfl rfl ?_
    show Steps p.tables e below (T2.setTop (mkF m 33 #[.val (.ref b0), .val (.long q1), .second, .val (.long q2), .second, .val (.ref b3), .val (.ref b4), .val .null, .val (.ref bl), .val (.ref bl)] [(.ref b2), (.ref b2), (.ref b0)])) _
    refine XS.lloadN X2.here hx rfl (hb hby d_own_rmChC1_33) rfl ?_
    show Steps p.tables e below (T2.setTop (mkF m 34 #[.val (.ref b0), .val (.long q1), .second, .val (.long q2), .second, .val (.ref b3), .val (.ref b4), .val .null, .val (.ref bl), .val (.ref bl)] [(.long q1), (.ref b2), (.ref b2), (.ref b0)])) _
    refine XS.lloadN X2.here hx rfl (hb hby d_own_rmChC1_34) rfl ?_
    show Steps p.tables e below (T2.setTop (mkF m 35 #[.val (.ref b0), .val (.long q1), .second, .val (.long q2), .second, .val (.ref b3), .val (.ref b4), .val .null, .val (.ref bl), .val (.ref bl)] [(.long q2), (.long q1), (.ref b2), (.ref b2), (.ref b0)])) _
    refine XS.aload X2.here hx rfl (hb hby d_own_rmChC1_35) rfl rfl ?_
    show Steps p.tables e below (T2.setTop (mkF m 37 #[.val (.ref b0), .val (.long q1), .second, .val (.long q2), .second, .val (.ref b3), .val (.ref b4), .val .null, .val (.ref bl), .val (.ref bl)] [(.ref b3), (.long q2), (.long q1), (.ref b2), (.ref b2), (.ref b0)])) _
    refine XS.aload X2.here hx rfl (hb hby d_own_rmChC1_37) rfl rfl ?_
    show Steps p.tables e below (T2.setTop (mkF m 39 #[.val (.ref b0), .val (.long q1), .second, .val (.long q2), .second, .val (.ref b3), .val (.ref b4), .val .null, .val (.ref bl), .val (.ref bl)] [(.ref b4), (.ref b3), (.long q2), (.long q1), (.ref b2), (.ref b2), (.ref b0)])) _
    refine XS.aload X2.here hx rfl (hb hby d_own_rmChC1_39) rfl rfl ?_
    show Steps p.tables e below (T2.setTop (mkF m 41 #[.val (.ref b0), .val (.long q1), .second, .val (.long q2), .second, .val (.ref b3), .val (.ref b4), .val .null, .val (.ref bl), .val (.ref bl)] [(.ref bl), (.ref b4), (.ref b3), (.long q2), (.long q1), (.ref b2), (.ref b2), (.ref b0)])) _
    refine st3.trans ?_
    show Steps p.tables e below (T3.setTop (mkF m 44 #[.val (.ref b0), .val (.long q1), .second, .val (.long q2), .second, .val (.ref b3), .val (.ref b4), .val .null, .val (.ref bl), .val (.ref bl)] [(.ref b2), (.ref b0)])) _
    refine st4 _ ?_
    show Steps p.tables e below (T4.setTop (mkF m 47 #[.val (.ref b0), .val (.long q1), .second, .val (.long q2), .second, .val (.ref b3), .val (.ref b4), .val .null, .val (.ref bl), .val (.ref bl)] [])) _
    refine XS.aload X4.here hx rfl (hb hby d_own_rmChC1_47) rfl rfl ?_
    show Steps p.tables e below (T4.setTop (mkF m 49 #[.val (.ref b0), .val (.long q1), .second, .val (.long q2), .second, .val (.ref b3), .val (.ref b4), .val .null, .val (.ref bl), .val (.ref bl)] [(.ref bl)])) _
    refine XS.aload X4.here hx rfl (hb hby d_own_rmChC1_49) rfl rfl ?_
    show Steps p.tables e below (T4.setTop (mkF m 51 #[.val (.ref b0), .val (.long q1), .second, .val (.long q2), .second, .val (.ref b3), .val (.ref b4), .val .null, .val (.ref bl), .val (.ref bl)] [(.ref bl), (.ref bl)])) _
    refine Jvm.RoadKit.acmp (g := (mkF m 51 #[.val (.ref b0), .val (.long q1), .second, .val (.long q2), .second, .val (.ref b3), .val (.ref b4), .val .null, .val (.ref bl), .val (.ref bl)] [(.ref bl), (.ref bl)])) X4 hx rfl rfl rfl (pc0 := 51) (pc' := 54) (same := true) rfl (hb hby d_own_rmChC1_51) rfl (decide_eq_true rfl) (by decide) (by decide) ?_
    show Steps p.tables e below (T4.setTop (mkF m 54 #[.val (.ref b0), .val (.long q1), .second, .val (.long q2), .second, .val (.ref b3), .val (.ref b4), .val .null, .val (.ref bl), .val (.ref bl)] [])) _
    refine XS.aloadN X4.here hx rfl (hb hby d_own_rmChC1_54) rfl rfl ?_
    show Steps p.tables e below (T4.setTop (mkF m 55 #[.val (.ref b0), .val (.long q1), .second, .val (.long q2), .second, .val (.ref b3), .val (.ref b4), .val .null, .val (.ref bl), .val (.ref bl)] [(.ref b0)])) _
    refine XS.dup X4.here hx rfl (hb hby d_own_rmChC1_55) rfl rfl ?_
    show Steps p.tables e below (T4.setTop (mkF m 56 #[.val (.ref b0), .val (.long q1), .second, .val (.long q2), .second, .val (.ref b3), .val (.ref b4), .val .null, .val (.ref bl), .val (.ref bl)] [(.ref b0), (.ref b0)])) _
    refine st5 _ ?_
    show Steps p.tables e below (T5.setTop (mkF m 59 #[.val (.ref b0), .val (.long q1), .second, .val (.long q2), .second, .val (.ref b3), .val (.ref b4), .val .null, .val (.ref bl), .val (.ref bl)] [(.int (1 : Int32)), (.ref b0)])) _
    refine XS.iconst X5.here hx rfl (hb hby d_own_rmChC1_59) ?_
    show Steps p.tables e below (T5.setTop (mkF m 60 #[.val (.ref b0), .val (.long q1), .second, .val (.long q2), .second, .val (.ref b3), .val (.ref b4), .val .null, .val (.ref bl), .val (.ref bl)] [(.int (1 : Int32)), (.int (1 : Int32)), (.ref b0)])) _
    refine XS.iadd X5.here hx rfl (hb hby d_own_rmChC1_60) rfl ?_
    show Steps p.tables e below (T5.setTop (mkF m 61 #[.val (.ref b0), .val (.long q1), .second, .val (.long q2), .second, .val (.ref b3), .val (.ref b4), .val .null, .val (.ref bl), .val (.ref bl)] [(.int (2 : Int32)), (.ref b0)])) _
    refine st6 _ ?_
    show Steps p.tables e below (T6.setTop (mkF m 64 #[.val (.ref b0), .val (.long q1), .second, .val (.long q2), .second, .val (.ref b3), .val (.ref b4), .val .null, .val (.ref bl), .val (.ref bl)] [])) _
    refine XS.aloadN X6.here hx rfl (hb hby d_own_rmChC1_64) rfl rfl ?_
    show Steps p.tables e below (T6.setTop (mkF m 65 #[.val (.ref b0), .val (.long q1), .second, .val (.long q2), .second, .val (.ref b3), .val (.ref b4), .val .null, .val (.ref bl), .val (.ref bl)] [(.ref b0)])) _
    refine st7 _ ?_
    show Steps p.tables e below (T7.setTop (mkF m 68 #[.val (.ref b0), .val (.long q1), .second, .val (.long q2), .second, .val (.ref b3), .val (.ref b4), .val .null, .val (.ref bl), .val (.ref bl)] [(.int (2 : Int32))])) _
    refine XS.iconst X7.here hx rfl (hb hby d_own_rmChC1_68) ?_
    show Steps p.tables e below (T7.setTop (mkF m 69 #[.val (.ref b0), .val (.long q1), .second, .val (.long q2), .second, .val (.ref b3), .val (.ref b4), .val .null, .val (.ref bl), .val (.ref bl)] [(.int (2 : Int32)), (.int (2 : Int32))])) _
    refine XS.aloadN X7.here hx rfl (hb hby d_own_rmChC1_69) rfl rfl ?_
    show Steps p.tables e below (T7.setTop (mkF m 70 #[.val (.ref b0), .val (.long q1), .second, .val (.long q2), .second, .val (.ref b3), .val (.ref b4), .val .null, .val (.ref bl), .val (.ref bl)] [(.ref b0), (.int (2 : Int32)), (.int (2 : Int32))])) _
    refine st8 _ ?_
    show Steps p.tables e below (T8.setTop (mkF m 73 #[.val (.ref b0), .val (.long q1), .second, .val (.long q2), .second, .val (.ref b3), .val (.ref b4), .val .null, .val (.ref bl), .val (.ref bl)] [(.int (1 : Int32)), (.int (2 : Int32)), (.int (2 : Int32))])) _
    refine XS.imul X8.here hx rfl (hb hby d_own_rmChC1_73) rfl ?_
    show Steps p.tables e below (T8.setTop (mkF m 74 #[.val (.ref b0), .val (.long q1), .second, .val (.long q2), .second, .val (.ref b3), .val (.ref b4), .val .null, .val (.ref bl), .val (.ref bl)] [(.int (2 : Int32)), (.int (2 : Int32))])) _
    refine XS.iconst X8.here hx rfl (hb hby d_own_rmChC1_74) ?_
    show Steps p.tables e below (T8.setTop (mkF m 75 #[.val (.ref b0), .val (.long q1), .second, .val (.long q2), .second, .val (.ref b3), .val (.ref b4), .val .null, .val (.ref bl), .val (.ref bl)] [(.int (1 : Int32)), (.int (2 : Int32)), (.int (2 : Int32))])) _
    refine XS.iadd X8.here hx rfl (hb hby d_own_rmChC1_75) rfl ?_
    show Steps p.tables e below (T8.setTop (mkF m 76 #[.val (.ref b0), .val (.long q1), .second, .val (.long q2), .second, .val (.ref b3), .val (.ref b4), .val .null, .val (.ref bl), .val (.ref bl)] [(.int (3 : Int32)), (.int (2 : Int32))])) _
    refine XS.icmpYes X8.here hx rfl (pc0 := 76) (pc' := 90) rfl (hb hby d_own_rmChC1_76) rfl (flt ((by decide) : ¬ ((3 : Int32) < (2 : Int32)))).2.2.2 (by decide) (by decide) ?_
    show Steps p.tables e below (T8.setTop (mkF m 90 #[.val (.ref b0), .val (.long q1), .second, .val (.long q2), .second, .val (.ref b3), .val (.ref b4), .val .null, .val (.ref bl), .val (.ref bl)] [])) _
    exact X8.returnOut hx Bd.returns (hb hby d_own_rmChC1_90) hr
  · show own_QP Z b0 (2 : Int32) q1 q2 b3 b4 (.ref bl) h0 n0 _ T8.heap _
    rw [e8]
    exact ⟨rfl, N6, K6, b2, (Ne.symm ne_b0_b2), sz_b2, F_b0_latest_6, F_b0_kept_6, F_b0_keptAfterLettingGo_6, E_b2_6, F_b2_commit_6, F_b2_balance_6, F_b2_reserve_6, F_b2_chain_6, F_b2_earlier_6⟩
theorem d_own_rmPC1_0 : decode prog_1_method_9_code 0 = .ok (.aload_n 0, 1) := by decide +kernel
theorem d_own_rmPC1_1 : decode prog_1_method_9_code 1 = .ok (.getfield 50, 3) := by decide +kernel
theorem d_own_rmPC1_4 : decode prog_1_method_9_code 4 = .ok (.astore 9, 2) := by decide +kernel
theorem d_own_rmPC1_6 : decode prog_1_method_9_code 6 = .ok (.aload 9, 2) := by decide +kernel
theorem d_own_rmPC1_8 : decode prog_1_method_9_code 8 = .ok (.getfield 97, 3) := by decide +kernel
theorem d_own_rmPC1_11 : decode prog_1_method_9_code 11 = .ok (.invokevirtual 100, 3) := by decide +kernel
theorem d_own_rmPC1_14 : decode prog_1_method_9_code 14 = .ok (.lload 5, 2) := by decide +kernel
theorem d_own_rmPC1_16 : decode prog_1_method_9_code 16 = .ok (.lcmp, 1) := by decide +kernel
theorem d_own_rmPC1_17 : decode prog_1_method_9_code 17 = .ok (.ifCond .ne 13, 3) := by decide +kernel
theorem d_own_rmPC1_20 : decode prog_1_method_9_code 20 = .ok (.aload 9, 2) := by decide +kernel
theorem d_own_rmPC1_22 : decode prog_1_method_9_code 22 = .ok (.getfield 97, 3) := by decide +kernel
theorem d_own_rmPC1_25 : decode prog_1_method_9_code 25 = .ok (.astore 10, 2) := by decide +kernel
theorem d_own_rmPC1_27 : decode prog_1_method_9_code 27 = .ok (.goto 28, 3) := by decide +kernel
theorem d_own_rmPC1_55 : decode prog_1_method_9_code 55 = .ok (.aload_n 0, 1) := by decide +kernel
theorem d_own_rmPC1_56 : decode prog_1_method_9_code 56 = .ok (.lload_n 1, 1) := by decide +kernel
theorem d_own_rmPC1_57 : decode prog_1_method_9_code 57 = .ok (.lload_n 3, 1) := by decide +kernel
theorem d_own_rmPC1_58 : decode prog_1_method_9_code 58 = .ok (.aload 9, 2) := by decide +kernel
theorem d_own_rmPC1_60 : decode prog_1_method_9_code 60 = .ok (.getfield 111, 3) := by decide +kernel
theorem d_own_rmPC1_63 : decode prog_1_method_9_code 63 = .ok (.aload 10, 2) := by decide +kernel
theorem d_own_rmPC1_65 : decode prog_1_method_9_code 65 = .ok (.aload 8, 2) := by decide +kernel
theorem d_own_rmPC1_67 : decode prog_1_method_9_code 67 = .ok (.invokevirtual 114, 3) := by decide +kernel
theorem d_own_rmPC1_70 : decode prog_1_method_9_code 70 = .ok (.return_, 1) := by decide +kernel
theorem ef_own_rmPC1 (m : MethodId) (x0 : Addr) (x1 : Int64) (x2 : Int64) (x3 : Int64) (x4 : Int32) : entryFrame m #[(.ref x0), (.long x1), (.long x2), (.long x3), (.int x4), .null] 11 = mkF m 0 #[.val (.ref x0), .val (.long x1), .second, .val (.long x2), .second, .val (.long x3), .second, .val (.int x4), .val .null, .unset, .unset] [] := by first | (simp [entryFrame, mkF, argsToLocals, Value.category]; done) | rfl
set_option maxRecDepth 65536 in
set_option maxHeartbeats 40000000 in
theorem own_rmPC1 (l : Launch) (Z : State) (a0 : Array Value) (hw : ∀ d ∈ tables_1, d.before a0 Z = true) (ws : List Jvm.Cond) (b0 : Addr) (q1 : Int64) (q2 : Int64) (q3 : Int64) (p4 : Int32) (bl : Addr) (ql : Int64) (ue : Value) (bR bC : Addr) (h0 : Heap) (n0 : Nat) (Z0 : n0 ≤ h0.size) (E_0 : Exa Z h0 b0 "com/example/tandem_ledger/tandemledger/Account") (F_latest : Fld Z h0 b0 "com/example/tandem_ledger/tandemledger/Account" "latest" "Lcom/example/tandem_ledger/tandemledger/Account$Version;" (.ref bl)) (F_kept : Fld Z h0 b0 "com/example/tandem_ledger/tandemledger/Account" "kept" "I" (.int (1 : Int32))) (F_ka : Fld Z h0 b0 "com/example/tandem_ledger/tandemledger/Account" "keptAfterLettingGo" "I" (.int (1 : Int32))) (F_c : Fld Z h0 bl "com/example/tandem_ledger/tandemledger/Account$Version" "commit" "J" (.long ql)) (F_e : Fld Z h0 bl "com/example/tandem_ledger/tandemledger/Account$Version" "earlier" "Lcom/example/tandem_ledger/tandemledger/Account$Version;" ue) (hlb : bl ≠ b0) (g_0 : n0 ≤ b0) (hcm : ¬ ql = q1) (F_h : Fld Z h0 bl "com/example/tandem_ledger/tandemledger/Account$Version" "chain" "Lcom/example/tandem_ledger/tandemledger/Chain;" (.ref bC)) (F_s : Fld Z h0 bl "com/example/tandem_ledger/tandemledger/Account$Version" "reserve" "Lcom/example/tandem_ledger/tandemledger/Reserve;" (.ref bR)) (E_C : Exa Z h0 bC "com/example/tandem_ledger/tandemledger/Chain") (F_r : Fld Z h0 bC "com/example/tandem_ledger/tandemledger/Chain" "record" "J" (.long (0 : Int64))) (h3 : (0 : Int64) = q3) :
    MetFree l (⟨"com/example/tandem_ledger/tandemledger/Account", "post", "(JJJZLjava/util/function/LongSupplier;)V"⟩ : MethodName) (head1 (Jvm.Cond.code (⟨"com/example/tandem_ledger/tandemledger/Account", "post", "(JJJZLjava/util/function/LongSupplier;)V"⟩ : MethodName) prog_1_method_9_code 11 none :: ws) ({ frames := 3, cells := 1, slots := 5, locals := 54 } : Room)) (fun a U => a = #[(.ref b0), (.long q1), (.long q2), (.long q3), (.int p4), .null] ∧ Z.Warmed39 U.vm ∧ U.heap = h0) (fun _ _ _ _ _ => True) (fun _ U o U' => ∃ v L, o = .returned v ∧ own_QP Z b0 (2 : Int32) q1 q2 bR bC (.ref bl) h0 n0 v U'.heap L ∧ FrameEnd U o U' L ({ frames := 3, cells := 1, slots := 5, locals := 54 } : Room).cells ({ frames := 3, cells := 1, slots := 5, locals := 54 } : Room).slots) := by
  refine MetFree.of_bodySF (plainFor_of_name own_pn1) hisR ?_
  intro p e s m args below meth c s₁ Bd hml0 hP hK
  obtain ⟨rfl, hZ, hh⟩ := hP
  have hx := Bd.exec
  have hby := Bd.bytes
  have hml : c.maxLocals = 11 := hml0
  have hown : s.vm.findClass "com/example/tandem_ledger/tandemledger/Account" = some m.cls := findClass_of_methodNamed Bd.named
  have hnm := (name_of_methodNamed Bd.named Bd.method).1
  have X0 : Stand p l e ({ frames := 3, cells := 1, slots := 5, locals := 54 } : Room) s m #[(.ref b0), (.long q1), (.long q2), (.long q3), (.int p4), .null] below meth c s₁ [] 0 0 := Stand.of_body Bd
  have e0 : s₁.heap = h0 := by rw [← hh, Bd.state]; rfl
  have N0 := Fr.nil n0
  refine own_go (b := s₁.setTop (mkF m 0 #[.val (.ref b0), .val (.long q1), .second, .val (.long q2), .second, .val (.long q3), .second, .val (.int p4), .val .null, .unset, .unset] [])) (fun t k => castTop (ef_own_rmPC1 m b0 q1 q2 q3 p4) k) ?_
  obtain ⟨T1, X1, e1, st1⟩ := getF X0 hx hZ hown (host := "") (Or.inl (hw _ (List.mem_of_getElem? (i := 60) rfl))) Via.refl e0 F_latest (g := (mkF m 1 #[.val (.ref b0), .val (.long q1), .second, .val (.long q2), .second, .val (.long q3), .second, .val (.int p4), .val .null, .unset, .unset] [(.ref b0)])) rfl rfl (hb hby d_own_rmPC1_1)
  obtain ⟨cq2, kq2, q2a, q2b, q2c⟩ := isOf hZ e1 E_C
  obtain ⟨_, _, ⟨T2, L2, k2, n2⟩, -, X2, ⟨Lc2, hQ2, l2, y2, z2⟩, st2⟩ := X1.virtualBack hx (y := (⟨"com/example/tandem_ledger/tandemledger/Chain", "record", "()J"⟩ : MethodName)) (z := (⟨"com/example/tandem_ledger/tandemledger/Chain", "record", "()J"⟩ : MethodName)) hown (mvT hZ (hw _ (List.mem_of_getElem? (i := 68) rfl))) (mvT hZ (hw _ (List.mem_of_getElem? (i := 69) rfl))) (notFace_of_selects (args := #[]) (mvT hZ (hw _ (List.mem_of_getElem? (i := 71) rfl)))) (mvT hZ (hw _ (List.mem_of_getElem? (i := 71) rfl))) (mvT hZ (hw _ (List.mem_of_getElem? (i := 70) rfl))) (by decide) (backOf (W := 0) (own_rmRec l Z a0 hw [] bC (0 : Int64) h0 n0 Z0 F_r) hZ (hw _ (List.mem_of_getElem? (i := 72) rfl)) (hw _ (List.mem_of_getElem? (i := 23) rfl)) (by decide) (by decide)) q2a q2c (g := (mkF m 11 #[.val (.ref b0), .val (.long q1), .second, .val (.long q2), .second, .val (.long q3), .second, .val (.int p4), .val .null, .val (.ref bl), .unset] [(.ref bC)])) rfl (by rw [hml]; rfl) (Steps.refl _) (argsL := []) (rest := []) (lenOf own_pd2 rfl) rfl (by show 2 * 0 + _ ≤ _; exact Nat.le_of_eq rfl) (hb hby d_own_rmPC1_11) (fun _ _ => ⟨rfl, e1, (by decide : 0 + 0 ≤ _), (by decide : 0 + 0 ≤ _)⟩)
  dsimp only [Pt.U, Pt.locs, Pt.cells, Pt.slots] at X2 l2 y2 z2 st2 hQ2
  subst l2 y2 z2
  obtain ⟨rfl, N2q, e2⟩ := hQ2
  have N2 := Fr.app N0 N2q
  obtain ⟨cq3, qc3, qc3'⟩ := E_0.cell
  obtain ⟨_, _, ⟨T3, L3, k3, n3⟩, -, X3, ⟨Lc3, hQ3, l3, y3, z3⟩, st3⟩ := X2.privateBack hx (y := (⟨"com/example/tandem_ledger/tandemledger/Account", "change", "(JJLcom/example/tandem_ledger/tandemledger/Reserve;Lcom/example/tandem_ledger/tandemledger/Chain;Ljava/util/function/LongSupplier;)V"⟩ : MethodName)) hown (mvT hZ (hw _ (List.mem_of_getElem? (i := 76) rfl))) (mvT hZ (hw _ (List.mem_of_getElem? (i := 77) rfl))) (own_selPriv (z := (⟨"com/example/tandem_ledger/tandemledger/Account", "post", "(JJJZLjava/util/function/LongSupplier;)V"⟩ : MethodName)) rfl (mvT hZ (hw _ (List.mem_of_getElem? (i := 77) rfl))) (Cond.privateMethod_at (mvP hZ (hw _ (List.mem_of_getElem? (i := 78) rfl)) (args := #[]))) (mvT hZ (hw _ (List.mem_of_getElem? (i := 65) rfl))) (by decide)) (Cond.privateMethod_at (mvP hZ (hw _ (List.mem_of_getElem? (i := 78) rfl)) (args := #[]))) (mvT hZ (hw _ (List.mem_of_getElem? (i := 79) rfl))) (by decide) (backOf (W := 0) (own_rmChC1 l Z a0 hw [] b0 q1 q2 bR bC bl ql ue h0 n0 Z0 E_0 F_latest F_kept F_ka F_c F_e hlb g_0 hcm) hZ (hw _ (List.mem_of_getElem? (i := 79) rfl)) (hw _ (List.mem_of_getElem? (i := 7) rfl)) (by decide) (by decide)) (g := (mkF m 67 #[.val (.ref b0), .val (.long q1), .second, .val (.long q2), .second, .val (.long q3), .second, .val (.int p4), .val .null, .val (.ref bl), .val (.ref bC)] [.null, (.ref bC), (.ref bR), (.long q2), (.long q1), (.ref b0)])) rfl (by rw [hml]; rfl) (Steps.refl _) (a := b0) (by rw [e2]; exact qc3) qc3' (argsL := [(.long q1), (.long q2), (.ref bR), (.ref bC), .null]) (rest := []) (lenOf own_pd3 rfl) rfl (by show 2 * 0 + _ ≤ _; exact Nat.le_of_eq rfl) (hb hby d_own_rmPC1_67) (fun _ _ => ⟨rfl, e2, (by decide : 0 + 1 ≤ _), (by decide : 0 + 5 ≤ _)⟩)
  dsimp only [Pt.U, Pt.locs, Pt.cells, Pt.slots] at X3 l3 y3 z3 st3 hQ3
  subst l3 y3 z3
  obtain ⟨hv3, N3q, rest3⟩ := hQ3
  cases hv3
  have N3 := Fr.app N2 N3q
  obtain ⟨fs, hr, hrun, hended, hW, hsame⟩ := X3.leave (v := none) (fun _ => rfl)
  refine ⟨_, _, ?_, hrun, hended, _, _, rfl, ?_, ⟨_, rfl⟩, hW, hsame.mono (by decide) (by decide)⟩
  · show Steps p.tables e below (s₁.setTop (mkF m 0 #[.val (.ref b0), .val (.long q1), .second, .val (.long q2), .second, .val (.long q3), .second, .val (.int p4), .val .null, .unset, .unset] [])) _
    refine XS.aloadN X0.here hx rfl (hb hby d_own_rmPC1_0) rfl rfl ?_
    show Steps p.tables e below (s₁.setTop (mkF m 1 #[.val (.ref b0), .val (.long q1), .second, .val (.long q2), .second, .val (.long q3), .second, .val (.int p4), .val .null, .unset, .unset] [(.ref b0)])) _
    refine st1 _ ?_
    show Steps p.tables e below (T1.setTop (mkF m 4 #[.val (.ref b0), .val (.long q1), .second, .val (.long q2), .second, .val (.long q3), .second, .val (.int p4), .val .null, .unset, .unset] [(.ref bl)])) _
    refine XS.astore X1.here hx rfl (hb hby d_own_rmPC1_4) rfl rfl (l' := #[.val (.ref b0), .val (.long q1), .second, .val (.long q2), .second, .val (.long q3), .second, .val (.int p4), .val .null, .val (.ref bl), .unset]) rfl ?_
    show Steps p.tables e below (T1.setTop (mkF m 6 #[.val (.ref b0), .val (.long q1), .second, .val (.long q2), .second, .val (.long q3), .second, .val (.int p4), .val .null, .val (.ref bl), .unset] [])) _
    refine XS.aload X1.here hx rfl (hb hby d_own_rmPC1_6) rfl rfl ?_
    show Steps p.tables e below (T1.setTop (mkF m 8 #[.val (.ref b0), .val (.long q1), .second, .val (.long q2), .second, .val (.long q3), .second, .val (.int p4), .val .null, .val (.ref bl), .unset] [(.ref bl)])) _
    refine own_getRef X1 hx hZ hown (hw _ (List.mem_of_getElem? (i := 67) rfl)) e1 F_h (g := (mkF m 8 #[.val (.ref b0), .val (.long q1), .second, .val (.long q2), .second, .val (.long q3), .second, .val (.int p4), .val .null, .val (.ref bl), .unset] [(.ref bl)])) rfl rfl (hb hby d_own_rmPC1_8) _ ?_
    show Steps p.tables e below (T1.setTop (mkF m 11 #[.val (.ref b0), .val (.long q1), .second, .val (.long q2), .second, .val (.long q3), .second, .val (.int p4), .val .null, .val (.ref bl), .unset] [(.ref bC)])) _
    refine st2.trans ?_
    show Steps p.tables e below (T2.setTop (mkF m 14 #[.val (.ref b0), .val (.long q1), .second, .val (.long q2), .second, .val (.long q3), .second, .val (.int p4), .val .null, .val (.ref bl), .unset] [(.long (0 : Int64))])) _
    refine XS.lload X2.here hx rfl (hb hby d_own_rmPC1_14) rfl ?_
    show Steps p.tables e below (T2.setTop (mkF m 16 #[.val (.ref b0), .val (.long q1), .second, .val (.long q2), .second, .val (.long q3), .second, .val (.int p4), .val .null, .val (.ref bl), .unset] [(.long q3), (.long (0 : Int64))])) _
    refine XS.lcmp X2.here hx rfl (hb hby d_own_rmPC1_16) rfl ?_
    show Steps p.tables e below (T2.setTop (mkF m 17 #[.val (.ref b0), .val (.long q1), .second, .val (.long q2), .second, .val (.long q3), .second, .val (.int p4), .val .null, .val (.ref bl), .unset] [(.int (lcmpW (0 : Int64) q3))])) _
    refine XS.ifNo X2.here hx rfl (hb hby d_own_rmPC1_17) rfl ((if0 _ _).trans (teq ((lw_eq _ _).mpr (h3 : (0 : Int64) = q3))).2) ?_
    show Steps p.tables e below (T2.setTop (mkF m 20 #[.val (.ref b0), .val (.long q1), .second, .val (.long q2), .second, .val (.long q3), .second, .val (.int p4), .val .null, .val (.ref bl), .unset] [])) _
    refine XS.aload X2.here hx rfl (hb hby d_own_rmPC1_20) rfl rfl ?_
    show Steps p.tables e below (T2.setTop (mkF m 22 #[.val (.ref b0), .val (.long q1), .second, .val (.long q2), .second, .val (.long q3), .second, .val (.int p4), .val .null, .val (.ref bl), .unset] [(.ref bl)])) _
    refine own_getRef X2 hx hZ hown (hw _ (List.mem_of_getElem? (i := 67) rfl)) e2 F_h (g := (mkF m 22 #[.val (.ref b0), .val (.long q1), .second, .val (.long q2), .second, .val (.long q3), .second, .val (.int p4), .val .null, .val (.ref bl), .unset] [(.ref bl)])) rfl rfl (hb hby d_own_rmPC1_22) _ ?_
    show Steps p.tables e below (T2.setTop (mkF m 25 #[.val (.ref b0), .val (.long q1), .second, .val (.long q2), .second, .val (.long q3), .second, .val (.int p4), .val .null, .val (.ref bl), .unset] [(.ref bC)])) _
    refine XS.astore X2.here hx rfl (hb hby d_own_rmPC1_25) rfl rfl (l' := #[.val (.ref b0), .val (.long q1), .second, .val (.long q2), .second, .val (.long q3), .second, .val (.int p4), .val .null, .val (.ref bl), .val (.ref bC)]) rfl ?_
    show Steps p.tables e below (T2.setTop (mkF m 27 #[.val (.ref b0), .val (.long q1), .second, .val (.long q2), .second, .val (.long q3), .second, .val (.int p4), .val .null, .val (.ref bl), .val (.ref bC)] [])) _
    refine XS.goto X2.here hx rfl (pc0 := 27) (pc' := 55) rfl (hb hby d_own_rmPC1_27) (by decide) (by decide) ?_
    show Steps p.tables e below (T2.setTop (mkF m 55 #[.val (.ref b0), .val (.long q1), .second, .val (.long q2), .second, .val (.long q3), .second, .val (.int p4), .val .null, .val (.ref bl), .val (.ref bC)] [])) _
    refine XS.aloadN X2.here hx rfl (hb hby d_own_rmPC1_55) rfl rfl ?_
    show Steps p.tables e below (T2.setTop (mkF m 56 #[.val (.ref b0), .val (.long q1), .second, .val (.long q2), .second, .val (.long q3), .second, .val (.int p4), .val .null, .val (.ref bl), .val (.ref bC)] [(.ref b0)])) _
    refine XS.lloadN X2.here hx rfl (hb hby d_own_rmPC1_56) rfl ?_
    show Steps p.tables e below (T2.setTop (mkF m 57 #[.val (.ref b0), .val (.long q1), .second, .val (.long q2), .second, .val (.long q3), .second, .val (.int p4), .val .null, .val (.ref bl), .val (.ref bC)] [(.long q1), (.ref b0)])) _
    refine XS.lloadN X2.here hx rfl (hb hby d_own_rmPC1_57) rfl ?_
    show Steps p.tables e below (T2.setTop (mkF m 58 #[.val (.ref b0), .val (.long q1), .second, .val (.long q2), .second, .val (.long q3), .second, .val (.int p4), .val .null, .val (.ref bl), .val (.ref bC)] [(.long q2), (.long q1), (.ref b0)])) _
    refine XS.aload X2.here hx rfl (hb hby d_own_rmPC1_58) rfl rfl ?_
    show Steps p.tables e below (T2.setTop (mkF m 60 #[.val (.ref b0), .val (.long q1), .second, .val (.long q2), .second, .val (.long q3), .second, .val (.int p4), .val .null, .val (.ref bl), .val (.ref bC)] [(.ref bl), (.long q2), (.long q1), (.ref b0)])) _
    refine own_getRef X2 hx hZ hown (hw _ (List.mem_of_getElem? (i := 75) rfl)) e2 F_s (g := (mkF m 60 #[.val (.ref b0), .val (.long q1), .second, .val (.long q2), .second, .val (.long q3), .second, .val (.int p4), .val .null, .val (.ref bl), .val (.ref bC)] [(.ref bl), (.long q2), (.long q1), (.ref b0)])) rfl rfl (hb hby d_own_rmPC1_60) _ ?_
    show Steps p.tables e below (T2.setTop (mkF m 63 #[.val (.ref b0), .val (.long q1), .second, .val (.long q2), .second, .val (.long q3), .second, .val (.int p4), .val .null, .val (.ref bl), .val (.ref bC)] [(.ref bR), (.long q2), (.long q1), (.ref b0)])) _
    refine XS.aload X2.here hx rfl (hb hby d_own_rmPC1_63) rfl rfl ?_
    show Steps p.tables e below (T2.setTop (mkF m 65 #[.val (.ref b0), .val (.long q1), .second, .val (.long q2), .second, .val (.long q3), .second, .val (.int p4), .val .null, .val (.ref bl), .val (.ref bC)] [(.ref bC), (.ref bR), (.long q2), (.long q1), (.ref b0)])) _
    refine XS.aload X2.here hx rfl (hb hby d_own_rmPC1_65) rfl rfl ?_
    show Steps p.tables e below (T2.setTop (mkF m 67 #[.val (.ref b0), .val (.long q1), .second, .val (.long q2), .second, .val (.long q3), .second, .val (.int p4), .val .null, .val (.ref bl), .val (.ref bC)] [.null, (.ref bC), (.ref bR), (.long q2), (.long q1), (.ref b0)])) _
    refine st3.trans ?_
    show Steps p.tables e below (T3.setTop (mkF m 70 #[.val (.ref b0), .val (.long q1), .second, .val (.long q2), .second, .val (.long q3), .second, .val (.int p4), .val .null, .val (.ref bl), .val (.ref bC)] [])) _
    exact X3.returnOut hx Bd.returns (hb hby d_own_rmPC1_70) hr
  · show own_QP Z b0 (2 : Int32) q1 q2 bR bC (.ref bl) h0 n0 _ T3.heap _
    exact ⟨rfl, N3, rest3⟩
theorem d_own_rmChAr2_0 : decode prog_1_method_12_code 0 = .ok (.aload_n 0, 1) := by decide +kernel
theorem d_own_rmChAr2_1 : decode prog_1_method_12_code 1 = .ok (.getfield 50, 3) := by decide +kernel
theorem d_own_rmChAr2_4 : decode prog_1_method_12_code 4 = .ok (.astore 8, 2) := by decide +kernel
theorem d_own_rmChAr2_6 : decode prog_1_method_12_code 6 = .ok (.aload 8, 2) := by decide +kernel
theorem d_own_rmChAr2_8 : decode prog_1_method_12_code 8 = .ok (.getfield 121, 3) := by decide +kernel
theorem d_own_rmChAr2_11 : decode prog_1_method_12_code 11 = .ok (.lload_n 1, 1) := by decide +kernel
theorem d_own_rmChAr2_12 : decode prog_1_method_12_code 12 = .ok (.lcmp, 1) := by decide +kernel
theorem d_own_rmChAr2_13 : decode prog_1_method_12_code 13 = .ok (.ifCond .ne 11, 3) := by decide +kernel
theorem d_own_rmChAr2_16 : decode prog_1_method_12_code 16 = .ok (.aload 8, 2) := by decide +kernel
theorem d_own_rmChAr2_18 : decode prog_1_method_12_code 18 = .ok (.getfield 124, 3) := by decide +kernel
theorem d_own_rmChAr2_21 : decode prog_1_method_12_code 21 = .ok (.goto 5, 3) := by decide +kernel
theorem d_own_rmChAr2_26 : decode prog_1_method_12_code 26 = .ok (.astore 9, 2) := by decide +kernel
theorem d_own_rmChAr2_28 : decode prog_1_method_12_code 28 = .ok (.aload_n 0, 1) := by decide +kernel
theorem d_own_rmChAr2_29 : decode prog_1_method_12_code 29 = .ok (.new 45, 3) := by decide +kernel
theorem d_own_rmChAr2_32 : decode prog_1_method_12_code 32 = .ok (.dup, 1) := by decide +kernel
theorem d_own_rmChAr2_33 : decode prog_1_method_12_code 33 = .ok (.lload_n 1, 1) := by decide +kernel
theorem d_own_rmChAr2_34 : decode prog_1_method_12_code 34 = .ok (.lload_n 3, 1) := by decide +kernel
theorem d_own_rmChAr2_35 : decode prog_1_method_12_code 35 = .ok (.aload 5, 2) := by decide +kernel
theorem d_own_rmChAr2_37 : decode prog_1_method_12_code 37 = .ok (.aload 6, 2) := by decide +kernel
theorem d_own_rmChAr2_39 : decode prog_1_method_12_code 39 = .ok (.aload 9, 2) := by decide +kernel
theorem d_own_rmChAr2_41 : decode prog_1_method_12_code 41 = .ok (.invokespecial 47, 3) := by decide +kernel
theorem d_own_rmChAr2_44 : decode prog_1_method_12_code 44 = .ok (.putfield 50, 3) := by decide +kernel
theorem d_own_rmChAr2_47 : decode prog_1_method_12_code 47 = .ok (.aload 9, 2) := by decide +kernel
theorem d_own_rmChAr2_49 : decode prog_1_method_12_code 49 = .ok (.aload 8, 2) := by decide +kernel
theorem d_own_rmChAr2_51 : decode prog_1_method_12_code 51 = .ok (.if_acmp .ne 13, 3) := by decide +kernel
theorem d_own_rmChAr2_64 : decode prog_1_method_12_code 64 = .ok (.aload_n 0, 1) := by decide +kernel
theorem d_own_rmChAr2_65 : decode prog_1_method_12_code 65 = .ok (.getfield 23, 3) := by decide +kernel
theorem d_own_rmChAr2_68 : decode prog_1_method_12_code 68 = .ok (.iconst 2, 1) := by decide +kernel
theorem d_own_rmChAr2_69 : decode prog_1_method_12_code 69 = .ok (.aload_n 0, 1) := by decide +kernel
theorem d_own_rmChAr2_70 : decode prog_1_method_12_code 70 = .ok (.getfield 27, 3) := by decide +kernel
theorem d_own_rmChAr2_73 : decode prog_1_method_12_code 73 = .ok (.imul, 1) := by decide +kernel
theorem d_own_rmChAr2_74 : decode prog_1_method_12_code 74 = .ok (.iconst 1, 1) := by decide +kernel
theorem d_own_rmChAr2_75 : decode prog_1_method_12_code 75 = .ok (.iadd, 1) := by decide +kernel
theorem d_own_rmChAr2_76 : decode prog_1_method_12_code 76 = .ok (.if_icmp .le 14, 3) := by decide +kernel
theorem d_own_rmChAr2_90 : decode prog_1_method_12_code 90 = .ok (.return_, 1) := by decide +kernel
theorem ef_own_rmChAr2 (m : MethodId) (x0 : Addr) (x1 : Int64) (x2 : Int64) (x3 : Addr) (x4 : Addr) : entryFrame m #[(.ref x0), (.long x1), (.long x2), (.ref x3), (.ref x4), .null] 10 = mkF m 0 #[.val (.ref x0), .val (.long x1), .second, .val (.long x2), .second, .val (.ref x3), .val (.ref x4), .val .null, .unset, .unset] [] := by first | (simp [entryFrame, mkF, argsToLocals, Value.category]; done) | rfl
set_option maxRecDepth 65536 in
set_option maxHeartbeats 40000000 in
theorem own_rmChAr2 (l : Launch) (Z : State) (a0 : Array Value) (hw : ∀ d ∈ tables_1, d.before a0 Z = true) (ws : List Jvm.Cond) (b0 : Addr) (q1 : Int64) (q2 : Int64) (b3 : Addr) (b4 : Addr) (bl be : Addr) (ql : Int64) (h0 : Heap) (n0 : Nat) (Z0 : n0 ≤ h0.size) (E_0 : Exa Z h0 b0 "com/example/tandem_ledger/tandemledger/Account") (F_latest : Fld Z h0 b0 "com/example/tandem_ledger/tandemledger/Account" "latest" "Lcom/example/tandem_ledger/tandemledger/Account$Version;" (.ref bl)) (F_kept : Fld Z h0 b0 "com/example/tandem_ledger/tandemledger/Account" "kept" "I" (.int (2 : Int32))) (F_ka : Fld Z h0 b0 "com/example/tandem_ledger/tandemledger/Account" "keptAfterLettingGo" "I" (.int (1 : Int32))) (F_c : Fld Z h0 bl "com/example/tandem_ledger/tandemledger/Account$Version" "commit" "J" (.long ql)) (F_e : Fld Z h0 bl "com/example/tandem_ledger/tandemledger/Account$Version" "earlier" "Lcom/example/tandem_ledger/tandemledger/Account$Version;" (.ref be)) (hlb : bl ≠ b0) (g_0 : n0 ≤ b0) (hcm : ql = q1) (hbe : ¬ be = bl) :
    MetFree l (⟨"com/example/tandem_ledger/tandemledger/Account", "change", "(JJLcom/example/tandem_ledger/tandemledger/Reserve;Lcom/example/tandem_ledger/tandemledger/Chain;Ljava/util/function/LongSupplier;)V"⟩ : MethodName) (head1 (Jvm.Cond.code (⟨"com/example/tandem_ledger/tandemledger/Account", "change", "(JJLcom/example/tandem_ledger/tandemledger/Reserve;Lcom/example/tandem_ledger/tandemledger/Chain;Ljava/util/function/LongSupplier;)V"⟩ : MethodName) prog_1_method_12_code 10 none :: ws) ({ frames := 2, cells := 1, slots := 5, locals := 33 } : Room)) (fun a U => a = #[(.ref b0), (.long q1), (.long q2), (.ref b3), (.ref b4), .null] ∧ Z.Warmed39 U.vm ∧ U.heap = h0) (fun _ _ _ _ _ => True) (fun _ U o U' => ∃ v L, o = .returned v ∧ own_QP Z b0 (2 : Int32) q1 q2 b3 b4 (.ref be) h0 n0 v U'.heap L ∧ FrameEnd U o U' L ({ frames := 2, cells := 1, slots := 5, locals := 33 } : Room).cells ({ frames := 2, cells := 1, slots := 5, locals := 33 } : Room).slots) := by
  refine MetFree.of_bodySF (plainFor_of_name own_pn1) hisR ?_
  intro p e s m args below meth c s₁ Bd hml0 hP hK
  obtain ⟨rfl, hZ, hh⟩ := hP
  have hx := Bd.exec
  have hby := Bd.bytes
  have hml : c.maxLocals = 10 := hml0
  have hown : s.vm.findClass "com/example/tandem_ledger/tandemledger/Account" = some m.cls := findClass_of_methodNamed Bd.named
  have hnm := (name_of_methodNamed Bd.named Bd.method).1
  have X0 : Stand p l e ({ frames := 2, cells := 1, slots := 5, locals := 33 } : Room) s m #[(.ref b0), (.long q1), (.long q2), (.ref b3), (.ref b4), .null] below meth c s₁ [] 0 0 := Stand.of_body Bd
  have e0 : s₁.heap = h0 := by rw [← hh, Bd.state]; rfl
  have N0 := Fr.nil n0
  refine own_go (b := s₁.setTop (mkF m 0 #[.val (.ref b0), .val (.long q1), .second, .val (.long q2), .second, .val (.ref b3), .val (.ref b4), .val .null, .unset, .unset] [])) (fun t k => castTop (ef_own_rmChAr2 m b0 q1 q2 b3 b4) k) ?_
  obtain ⟨T1, X1, e1, st1⟩ := getF X0 hx hZ hown (host := "") (Or.inl (hw _ (List.mem_of_getElem? (i := 60) rfl))) Via.refl e0 F_latest (g := (mkF m 1 #[.val (.ref b0), .val (.long q1), .second, .val (.long q2), .second, .val (.ref b3), .val (.ref b4), .val .null, .unset, .unset] [(.ref b0)])) rfl rfl (hb hby d_own_rmChAr2_1)
  obtain ⟨T2, h2, X2, e2, E2, A2, D2, -, st2⟩ := newO X1 hx hZ hown (hw _ (List.mem_of_getElem? (i := 43) rfl)) (hw _ (List.mem_of_getElem? (i := 44) rfl)) (hw _ (List.mem_of_getElem? (i := 45) rfl)) e1 (g := (mkF m 29 #[.val (.ref b0), .val (.long q1), .second, .val (.long q2), .second, .val (.ref b3), .val (.ref b4), .val .null, .val (.ref bl), .val (.ref be)] [(.ref b0)])) rfl (hb hby d_own_rmChAr2_29) (by decide) (by decide)
  obtain ⟨b2, g2⟩ : ∃ z, z = h0.size := ⟨_, rfl⟩
  rw [← g2] at A2 D2 st2
  have ne_b0_b2 : b0 ≠ b2 := Nat.ne_of_lt (Nat.lt_of_lt_of_le E_0.lt (Nat.le_of_eq g2.symm))
  have ne_bl_b2 : bl ≠ b2 := Nat.ne_of_lt (Nat.lt_of_lt_of_le F_c.lt (Nat.le_of_eq g2.symm))
  have new_b2 : n0 ≤ b2 := Nat.le_trans Z0 (Nat.le_of_eq g2.symm)
  have sz_b2 : h0.size ≤ b2 := Nat.le_trans (Keep.refl h0 [b0]).1 (Nat.le_of_eq g2.symm)
  have E_b0_2 := E_0.ext E2
  have F_b0_latest_2 := F_latest.ext E2
  have F_b0_kept_2 := F_kept.ext E2
  have F_b0_keptAfterLettingGo_2 := F_ka.ext E2
  have F_bl_commit_2 := F_c.ext E2
  have F_bl_earlier_2 := F_e.ext E2
  have Z2 := Nat.le_trans Z0 E2.1
  have K2 := (Keep.refl h0 [b0]).ext E2
  have F_b2_commit_2 : Fld Z h2 b2 "com/example/tandem_ledger/tandemledger/Account$Version" "commit" "J" (.long (0 : Int64)) := D2 (Or.inr (hw _ (List.mem_of_getElem? (i := 51) rfl))) (ty := .long) (by decide)
  have F_b2_balance_2 : Fld Z h2 b2 "com/example/tandem_ledger/tandemledger/Account$Version" "balance" "J" (.long (0 : Int64)) := D2 (Or.inr (hw _ (List.mem_of_getElem? (i := 53) rfl))) (ty := .long) (by decide)
  have F_b2_reserve_2 : Fld Z h2 b2 "com/example/tandem_ledger/tandemledger/Account$Version" "reserve" "Lcom/example/tandem_ledger/tandemledger/Reserve;" .null := D2 (Or.inr (hw _ (List.mem_of_getElem? (i := 55) rfl))) (ty := (.object "com/example/tandem_ledger/tandemledger/Reserve")) (by decide)
  have F_b2_chain_2 : Fld Z h2 b2 "com/example/tandem_ledger/tandemledger/Account$Version" "chain" "Lcom/example/tandem_ledger/tandemledger/Chain;" .null := D2 (Or.inr (hw _ (List.mem_of_getElem? (i := 57) rfl))) (ty := (.object "com/example/tandem_ledger/tandemledger/Chain")) (by decide)
  have F_b2_earlier_2 : Fld Z h2 b2 "com/example/tandem_ledger/tandemledger/Account$Version" "earlier" "Lcom/example/tandem_ledger/tandemledger/Account$Version;" .null := D2 (Or.inl (hw _ (List.mem_of_getElem? (i := 59) rfl))) (ty := (.object "com/example/tandem_ledger/tandemledger/Account$Version")) (by decide)
  obtain ⟨_, _, ⟨T3, L3, k3, n3⟩, -, X3, ⟨Lc3, hQ3, l3, y3, z3⟩, st3⟩ := own_specialRef X2 hx hZ (y := (⟨"com/example/tandem_ledger/tandemledger/Account$Version", "<init>", "(JJLcom/example/tandem_ledger/tandemledger/Reserve;Lcom/example/tandem_ledger/tandemledger/Chain;Lcom/example/tandem_ledger/tandemledger/Account$Version;)V"⟩ : MethodName)) rfl hown (hw _ (List.mem_of_getElem? (i := 46) rfl)) (mvT hZ (hw _ (List.mem_of_getElem? (i := 47) rfl))) (mvT hZ (hw _ (List.mem_of_getElem? (i := 48) rfl))) (by decide) (backOf (W := 2) (own_rmVr l Z a0 hw [] b2 q1 q2 b3 b4 be  h2 n0 Z2 A2 F_b2_commit_2 F_b2_balance_2 F_b2_reserve_2 F_b2_chain_2 F_b2_earlier_2 new_b2) hZ (hw _ (List.mem_of_getElem? (i := 48) rfl)) (hw _ (List.mem_of_getElem? (i := 45) rfl)) (by decide) (by decide)) (g := (mkF m 41 #[.val (.ref b0), .val (.long q1), .second, .val (.long q2), .second, .val (.ref b3), .val (.ref b4), .val .null, .val (.ref bl), .val (.ref be)] [(.ref be), (.ref b4), (.ref b3), (.long q2), (.long q1), (.ref b2), (.ref b2), (.ref b0)])) rfl (by rw [hml]; rfl) (a := b2) (argsL := [(.long q1), (.long q2), (.ref b3), (.ref b4), (.ref be)]) (rest := [(.ref b2), (.ref b0)]) (lenOf own_pd0 rfl) rfl (by show 2 * 0 + _ ≤ _; exact Nat.le_of_eq rfl) (hb hby d_own_rmChAr2_41) (fun _ _ => ⟨rfl, e2, (by decide : 1 + 0 ≤ _), (by decide : 5 + 0 ≤ _)⟩)
  dsimp only [Pt.U, Pt.locs, Pt.cells, Pt.slots] at X3 l3 y3 z3 st3 hQ3
  subst l3 y3 z3
  obtain ⟨rfl, N3q, K3q, B3_0, B3_1, B3_2, B3_3, B3_4⟩ := hQ3
  have E_b0_3 := E_b0_2.keep K3q
  have F_b0_latest_3 := F_b0_latest_2.keep K3q (fun q => ne_b0_b2 (List.mem_singleton.mp q))
  have F_b0_kept_3 := F_b0_kept_2.keep K3q (fun q => ne_b0_b2 (List.mem_singleton.mp q))
  have F_b0_keptAfterLettingGo_3 := F_b0_keptAfterLettingGo_2.keep K3q (fun q => ne_b0_b2 (List.mem_singleton.mp q))
  have F_bl_commit_3 := F_bl_commit_2.keep K3q (fun q => ne_bl_b2 (List.mem_singleton.mp q))
  have F_bl_earlier_3 := F_bl_earlier_2.keep K3q (fun q => ne_bl_b2 (List.mem_singleton.mp q))
  have E_b2_3 := A2.keep K3q
  have N3 := Fr.app N0 N3q
  have Z3 := Nat.le_trans Z2 K3q.1
  have K3 := K2.trans K3q (fun x hx => by cases List.mem_singleton.mp hx; exact Or.inr sz_b2)
  obtain ⟨T4, h4, X4, e4, W4, st4⟩ := putF X3 hx hZ hown (host := "") (Or.inl (hw _ (List.mem_of_getElem? (i := 60) rfl))) Via.refl rfl F_b0_latest_3 E_b0_3 (Or.inl (hw _ (List.mem_of_getElem? (i := 61) rfl))) (hw _ (List.mem_of_getElem? (i := 6) rfl)) (ty := (.object "com/example/tandem_ledger/tandemledger/Account$Version")) (by decide) rfl rfl (g := (mkF m 44 #[.val (.ref b0), .val (.long q1), .second, .val (.long q2), .second, .val (.ref b3), .val (.ref b4), .val .null, .val (.ref bl), .val (.ref be)] [(.ref b2), (.ref b0)])) rfl rfl (hb hby d_own_rmChAr2_44)
  have E_b0_4 := E_b0_3.wr W4
  have F_b0_kept_4 := F_b0_kept_3.other W4 (Or.inr (slot_ne (Or.inl (hw _ (List.mem_of_getElem? (i := 32) rfl))) (Or.inl (hw _ (List.mem_of_getElem? (i := 61) rfl))) (by decide) (t := .int) (t' := (.object "com/example/tandem_ledger/tandemledger/Account$Version")) (by decide) (by decide)))
  have F_b0_keptAfterLettingGo_4 := F_b0_keptAfterLettingGo_3.other W4 (Or.inr (slot_ne (Or.inl (hw _ (List.mem_of_getElem? (i := 34) rfl))) (Or.inl (hw _ (List.mem_of_getElem? (i := 61) rfl))) (by decide) (t := .int) (t' := (.object "com/example/tandem_ledger/tandemledger/Account$Version")) (by decide) (by decide)))
  have F_bl_commit_4 := F_bl_commit_3.other W4 (Or.inl hlb)
  have F_bl_earlier_4 := F_bl_earlier_3.other W4 (Or.inl hlb)
  have E_b2_4 := E_b2_3.wr W4
  have F_b2_commit_4 := B3_0.other W4 (Or.inl (Ne.symm ne_b0_b2))
  have F_b2_balance_4 := B3_1.other W4 (Or.inl (Ne.symm ne_b0_b2))
  have F_b2_reserve_4 := B3_2.other W4 (Or.inl (Ne.symm ne_b0_b2))
  have F_b2_chain_4 := B3_3.other W4 (Or.inl (Ne.symm ne_b0_b2))
  have F_b2_earlier_4 := B3_4.other W4 (Or.inl (Ne.symm ne_b0_b2))
  have Z4 := Nat.le_trans Z3 (Keep.of_wr W4).1
  have K4 := K3.wr W4 (Or.inl (List.mem_of_getElem? (i := 0) rfl))
  have N4 := Fr.snoc X4 N3 g_0
  have F_b0_latest_4 := F_b0_latest_3.same W4
  obtain ⟨T5, X5, e5, st5⟩ := getF X4 hx hZ hown (host := "") (Or.inl (hw _ (List.mem_of_getElem? (i := 31) rfl))) Via.refl e4 F_b0_kept_4 (g := (mkF m 65 #[.val (.ref b0), .val (.long q1), .second, .val (.long q2), .second, .val (.ref b3), .val (.ref b4), .val .null, .val (.ref bl), .val (.ref be)] [(.ref b0)])) rfl rfl (hb hby d_own_rmChAr2_65)
  obtain ⟨T6, X6, e6, st6⟩ := getF X5 hx hZ hown (host := "") (Or.inl (hw _ (List.mem_of_getElem? (i := 33) rfl))) Via.refl e5 F_b0_keptAfterLettingGo_4 (g := (mkF m 70 #[.val (.ref b0), .val (.long q1), .second, .val (.long q2), .second, .val (.ref b3), .val (.ref b4), .val .null, .val (.ref bl), .val (.ref be)] [(.ref b0), (.int (2 : Int32)), (.int (2 : Int32))])) rfl rfl (hb hby d_own_rmChAr2_70)
  obtain ⟨fs, hr, hrun, hended, hW, hsame⟩ := X6.leave (v := none) (fun _ => rfl)
  refine ⟨_, _, ?_, hrun, hended, _, _, rfl, ?_, ⟨_, rfl⟩, hW, hsame.mono (by decide) (by decide)⟩
  · show Steps p.tables e below (s₁.setTop (mkF m 0 #[.val (.ref b0), .val (.long q1), .second, .val (.long q2), .second, .val (.ref b3), .val (.ref b4), .val .null, .unset, .unset] [])) _
    refine XS.aloadN X0.here hx rfl (hb hby d_own_rmChAr2_0) rfl rfl ?_
    show Steps p.tables e below (s₁.setTop (mkF m 1 #[.val (.ref b0), .val (.long q1), .second, .val (.long q2), .second, .val (.ref b3), .val (.ref b4), .val .null, .unset, .unset] [(.ref b0)])) _
    refine st1 _ ?_
    show Steps p.tables e below (T1.setTop (mkF m 4 #[.val (.ref b0), .val (.long q1), .second, .val (.long q2), .second, .val (.ref b3), .val (.ref b4), .val .null, .unset, .unset] [(.ref bl)])) _
    refine XS.astore X1.here hx rfl (hb hby d_own_rmChAr2_4) rfl rfl (l' := #[.val (.ref b0), .val (.long q1), .second, .val (.long q2), .second, .val (.ref b3), .val (.ref b4), .val .null, .val (.ref bl), .unset]) rfl ?_
    show Steps p.tables e below (T1.setTop (mkF m 6 #[.val (.ref b0), .val (.long q1), .second, .val (.long q2), .second, .val (.ref b3), .val (.ref b4), .val .null, .val (.ref bl), .unset] [])) _
    refine XS.aload X1.here hx rfl (hb hby d_own_rmChAr2_6) rfl rfl ?_
    show Steps p.tables e below (T1.setTop (mkF m 8 #[.val (.ref b0), .val (.long q1), .second, .val (.long q2), .second, .val (.ref b3), .val (.ref b4), .val .null, .val (.ref bl), .unset] [(.ref bl)])) _
    refine own_getRef X1 hx hZ hown (hw _ (List.mem_of_getElem? (i := 80) rfl)) e1 F_c (g := (mkF m 8 #[.val (.ref b0), .val (.long q1), .second, .val (.long q2), .second, .val (.ref b3), .val (.ref b4), .val .null, .val (.ref bl), .unset] [(.ref bl)])) rfl rfl (hb hby d_own_rmChAr2_8) _ ?_
    show Steps p.tables e below (T1.setTop (mkF m 11 #[.val (.ref b0), .val (.long q1), .second, .val (.long q2), .second, .val (.ref b3), .val (.ref b4), .val .null, .val (.ref bl), .unset] [(.long ql)])) _
    refine XS.lloadN X1.here hx rfl (hb hby d_own_rmChAr2_11) rfl ?_
    show Steps p.tables e below (T1.setTop (mkF m 12 #[.val (.ref b0), .val (.long q1), .second, .val (.long q2), .second, .val (.ref b3), .val (.ref b4), .val .null, .val (.ref bl), .unset] [(.long q1), (.long ql)])) _
    refine XS.lcmp X1.here hx rfl (hb hby d_own_rmChAr2_12) rfl ?_
    show Steps p.tables e below (T1.setTop (mkF m 13 #[.val (.ref b0), .val (.long q1), .second, .val (.long q2), .second, .val (.ref b3), .val (.ref b4), .val .null, .val (.ref bl), .unset] [(.int (lcmpW ql q1))])) _
    refine XS.ifNo X1.here hx rfl (hb hby d_own_rmChAr2_13) rfl ((if0 _ _).trans (teq ((lw_eq _ _).mpr (hcm : ql = q1))).2) ?_
    show Steps p.tables e below (T1.setTop (mkF m 16 #[.val (.ref b0), .val (.long q1), .second, .val (.long q2), .second, .val (.ref b3), .val (.ref b4), .val .null, .val (.ref bl), .unset] [])) _
    refine XS.aload X1.here hx rfl (hb hby d_own_rmChAr2_16) rfl rfl ?_
    show Steps p.tables e below (T1.setTop (mkF m 18 #[.val (.ref b0), .val (.long q1), .second, .val (.long q2), .second, .val (.ref b3), .val (.ref b4), .val .null, .val (.ref bl), .unset] [(.ref bl)])) _
    refine own_getRef X1 hx hZ hown (hw _ (List.mem_of_getElem? (i := 81) rfl)) e1 F_e (g := (mkF m 18 #[.val (.ref b0), .val (.long q1), .second, .val (.long q2), .second, .val (.ref b3), .val (.ref b4), .val .null, .val (.ref bl), .unset] [(.ref bl)])) rfl rfl (hb hby d_own_rmChAr2_18) _ ?_
    show Steps p.tables e below (T1.setTop (mkF m 21 #[.val (.ref b0), .val (.long q1), .second, .val (.long q2), .second, .val (.ref b3), .val (.ref b4), .val .null, .val (.ref bl), .unset] [(.ref be)])) _
    refine XS.goto X1.here hx rfl (pc0 := 21) (pc' := 26) rfl (hb hby d_own_rmChAr2_21) (by decide) (by decide) ?_
    show Steps p.tables e below (T1.setTop (mkF m 26 #[.val (.ref b0), .val (.long q1), .second, .val (.long q2), .second, .val (.ref b3), .val (.ref b4), .val .null, .val (.ref bl), .unset] [(.ref be)])) _
    refine XS.astore X1.here hx rfl (hb hby d_own_rmChAr2_26) rfl rfl (l' := #[.val (.ref b0), .val (.long q1), .second, .val (.long q2), .second, .val (.ref b3), .val (.ref b4), .val .null, .val (.ref bl), .val (.ref be)]) rfl ?_
    show Steps p.tables e below (T1.setTop (mkF m 28 #[.val (.ref b0), .val (.long q1), .second, .val (.long q2), .second, .val (.ref b3), .val (.ref b4), .val .null, .val (.ref bl), .val (.ref be)] [])) _
    refine XS.aloadN X1.here hx rfl (hb hby d_own_rmChAr2_28) rfl rfl ?_
    show Steps p.tables e below (T1.setTop (mkF m 29 #[.val (.ref b0), .val (.long q1), .second, .val (.long q2), .second, .val (.ref b3), .val (.ref b4), .val .null, .val (.ref bl), .val (.ref be)] [(.ref b0)])) _
    refine st2 _ ?_
    show Steps p.tables e below (T2.setTop (mkF m 32 #[.val (.ref b0), .val (.long q1), .second, .val (.long q2), .second, .val (.ref b3), .val (.ref b4), .val .null, .val (.ref bl), .val (.ref be)] [(.ref b2), (.ref b0)])) _
    refine XS.dup X2.here hx rfl (hb hby d_own_rmChAr2_32) rfl rfl ?_
    show Steps p.tables e below (T2.setTop (mkF m 33 #[.val (.ref b0), .val (.long q1), .second, .val (.long q2), .second, .val (.ref b3), .val (.ref b4), .val .null, .val (.ref bl), .val (.ref be)] [(.ref b2), (.ref b2), (.ref b0)])) _
    refine XS.lloadN X2.here hx rfl (hb hby d_own_rmChAr2_33) rfl ?_
    show Steps p.tables e below (T2.setTop (mkF m 34 #[.val (.ref b0), .val (.long q1), .second, .val (.long q2), .second, .val (.ref b3), .val (.ref b4), .val .null, .val (.ref bl), .val (.ref be)] [(.long q1), (.ref b2), (.ref b2), (.ref b0)])) _
    refine XS.lloadN X2.here hx rfl (hb hby d_own_rmChAr2_34) rfl ?_
    show Steps p.tables e below (T2.setTop (mkF m 35 #[.val (.ref b0), .val (.long q1), .second, .val (.long q2), .second, .val (.ref b3), .val (.ref b4), .val .null, .val (.ref bl), .val (.ref be)] [(.long q2), (.long q1), (.ref b2), (.ref b2), (.ref b0)])) _
    refine XS.aload X2.here hx rfl (hb hby d_own_rmChAr2_35) rfl rfl ?_
    show Steps p.tables e below (T2.setTop (mkF m 37 #[.val (.ref b0), .val (.long q1), .second, .val (.long q2), .second, .val (.ref b3), .val (.ref b4), .val .null, .val (.ref bl), .val (.ref be)] [(.ref b3), (.long q2), (.long q1), (.ref b2), (.ref b2), (.ref b0)])) _
    refine XS.aload X2.here hx rfl (hb hby d_own_rmChAr2_37) rfl rfl ?_
    show Steps p.tables e below (T2.setTop (mkF m 39 #[.val (.ref b0), .val (.long q1), .second, .val (.long q2), .second, .val (.ref b3), .val (.ref b4), .val .null, .val (.ref bl), .val (.ref be)] [(.ref b4), (.ref b3), (.long q2), (.long q1), (.ref b2), (.ref b2), (.ref b0)])) _
    refine XS.aload X2.here hx rfl (hb hby d_own_rmChAr2_39) rfl rfl ?_
    show Steps p.tables e below (T2.setTop (mkF m 41 #[.val (.ref b0), .val (.long q1), .second, .val (.long q2), .second, .val (.ref b3), .val (.ref b4), .val .null, .val (.ref bl), .val (.ref be)] [(.ref be), (.ref b4), (.ref b3), (.long q2), (.long q1), (.ref b2), (.ref b2), (.ref b0)])) _
    refine st3.trans ?_
    show Steps p.tables e below (T3.setTop (mkF m 44 #[.val (.ref b0), .val (.long q1), .second, .val (.long q2), .second, .val (.ref b3), .val (.ref b4), .val .null, .val (.ref bl), .val (.ref be)] [(.ref b2), (.ref b0)])) _
    refine st4 _ ?_
    show Steps p.tables e below (T4.setTop (mkF m 47 #[.val (.ref b0), .val (.long q1), .second, .val (.long q2), .second, .val (.ref b3), .val (.ref b4), .val .null, .val (.ref bl), .val (.ref be)] [])) _
    refine XS.aload X4.here hx rfl (hb hby d_own_rmChAr2_47) rfl rfl ?_
    show Steps p.tables e below (T4.setTop (mkF m 49 #[.val (.ref b0), .val (.long q1), .second, .val (.long q2), .second, .val (.ref b3), .val (.ref b4), .val .null, .val (.ref bl), .val (.ref be)] [(.ref be)])) _
    refine XS.aload X4.here hx rfl (hb hby d_own_rmChAr2_49) rfl rfl ?_
    show Steps p.tables e below (T4.setTop (mkF m 51 #[.val (.ref b0), .val (.long q1), .second, .val (.long q2), .second, .val (.ref b3), .val (.ref b4), .val .null, .val (.ref bl), .val (.ref be)] [(.ref bl), (.ref be)])) _
    refine Jvm.RoadKit.acmp (g := (mkF m 51 #[.val (.ref b0), .val (.long q1), .second, .val (.long q2), .second, .val (.ref b3), .val (.ref b4), .val .null, .val (.ref bl), .val (.ref be)] [(.ref bl), (.ref be)])) X4 hx rfl rfl rfl (pc0 := 51) (pc' := 64) (same := false) rfl (hb hby d_own_rmChAr2_51) rfl (decide_eq_false fun q => (hbe : ¬ (be = bl)) (Value.ref.inj q)) (by decide) (by decide) ?_
    show Steps p.tables e below (T4.setTop (mkF m 64 #[.val (.ref b0), .val (.long q1), .second, .val (.long q2), .second, .val (.ref b3), .val (.ref b4), .val .null, .val (.ref bl), .val (.ref be)] [])) _
    refine XS.aloadN X4.here hx rfl (hb hby d_own_rmChAr2_64) rfl rfl ?_
    show Steps p.tables e below (T4.setTop (mkF m 65 #[.val (.ref b0), .val (.long q1), .second, .val (.long q2), .second, .val (.ref b3), .val (.ref b4), .val .null, .val (.ref bl), .val (.ref be)] [(.ref b0)])) _
    refine st5 _ ?_
    show Steps p.tables e below (T5.setTop (mkF m 68 #[.val (.ref b0), .val (.long q1), .second, .val (.long q2), .second, .val (.ref b3), .val (.ref b4), .val .null, .val (.ref bl), .val (.ref be)] [(.int (2 : Int32))])) _
    refine XS.iconst X5.here hx rfl (hb hby d_own_rmChAr2_68) ?_
    show Steps p.tables e below (T5.setTop (mkF m 69 #[.val (.ref b0), .val (.long q1), .second, .val (.long q2), .second, .val (.ref b3), .val (.ref b4), .val .null, .val (.ref bl), .val (.ref be)] [(.int (2 : Int32)), (.int (2 : Int32))])) _
    refine XS.aloadN X5.here hx rfl (hb hby d_own_rmChAr2_69) rfl rfl ?_
    show Steps p.tables e below (T5.setTop (mkF m 70 #[.val (.ref b0), .val (.long q1), .second, .val (.long q2), .second, .val (.ref b3), .val (.ref b4), .val .null, .val (.ref bl), .val (.ref be)] [(.ref b0), (.int (2 : Int32)), (.int (2 : Int32))])) _
    refine st6 _ ?_
    show Steps p.tables e below (T6.setTop (mkF m 73 #[.val (.ref b0), .val (.long q1), .second, .val (.long q2), .second, .val (.ref b3), .val (.ref b4), .val .null, .val (.ref bl), .val (.ref be)] [(.int (1 : Int32)), (.int (2 : Int32)), (.int (2 : Int32))])) _
    refine XS.imul X6.here hx rfl (hb hby d_own_rmChAr2_73) rfl ?_
    show Steps p.tables e below (T6.setTop (mkF m 74 #[.val (.ref b0), .val (.long q1), .second, .val (.long q2), .second, .val (.ref b3), .val (.ref b4), .val .null, .val (.ref bl), .val (.ref be)] [(.int (2 : Int32)), (.int (2 : Int32))])) _
    refine XS.iconst X6.here hx rfl (hb hby d_own_rmChAr2_74) ?_
    show Steps p.tables e below (T6.setTop (mkF m 75 #[.val (.ref b0), .val (.long q1), .second, .val (.long q2), .second, .val (.ref b3), .val (.ref b4), .val .null, .val (.ref bl), .val (.ref be)] [(.int (1 : Int32)), (.int (2 : Int32)), (.int (2 : Int32))])) _
    refine XS.iadd X6.here hx rfl (hb hby d_own_rmChAr2_75) rfl ?_
    show Steps p.tables e below (T6.setTop (mkF m 76 #[.val (.ref b0), .val (.long q1), .second, .val (.long q2), .second, .val (.ref b3), .val (.ref b4), .val .null, .val (.ref bl), .val (.ref be)] [(.int (3 : Int32)), (.int (2 : Int32))])) _
    refine XS.icmpYes X6.here hx rfl (pc0 := 76) (pc' := 90) rfl (hb hby d_own_rmChAr2_76) rfl (flt ((by decide) : ¬ ((3 : Int32) < (2 : Int32)))).2.2.2 (by decide) (by decide) ?_
    show Steps p.tables e below (T6.setTop (mkF m 90 #[.val (.ref b0), .val (.long q1), .second, .val (.long q2), .second, .val (.ref b3), .val (.ref b4), .val .null, .val (.ref bl), .val (.ref be)] [])) _
    exact X6.returnOut hx Bd.returns (hb hby d_own_rmChAr2_90) hr
  · show own_QP Z b0 (2 : Int32) q1 q2 b3 b4 (.ref be) h0 n0 _ T6.heap _
    rw [e6]
    exact ⟨rfl, N4, K4, b2, (Ne.symm ne_b0_b2), sz_b2, F_b0_latest_4, F_b0_kept_4, F_b0_keptAfterLettingGo_4, E_b2_4, F_b2_commit_4, F_b2_balance_4, F_b2_reserve_4, F_b2_chain_4, F_b2_earlier_4⟩
theorem d_own_rmPAr2_0 : decode prog_1_method_9_code 0 = .ok (.aload_n 0, 1) := by decide +kernel
theorem d_own_rmPAr2_1 : decode prog_1_method_9_code 1 = .ok (.getfield 50, 3) := by decide +kernel
theorem d_own_rmPAr2_4 : decode prog_1_method_9_code 4 = .ok (.astore 9, 2) := by decide +kernel
theorem d_own_rmPAr2_6 : decode prog_1_method_9_code 6 = .ok (.aload 9, 2) := by decide +kernel
theorem d_own_rmPAr2_8 : decode prog_1_method_9_code 8 = .ok (.getfield 97, 3) := by decide +kernel
theorem d_own_rmPAr2_11 : decode prog_1_method_9_code 11 = .ok (.invokevirtual 100, 3) := by decide +kernel
theorem d_own_rmPAr2_14 : decode prog_1_method_9_code 14 = .ok (.lload 5, 2) := by decide +kernel
theorem d_own_rmPAr2_16 : decode prog_1_method_9_code 16 = .ok (.lcmp, 1) := by decide +kernel
theorem d_own_rmPAr2_17 : decode prog_1_method_9_code 17 = .ok (.ifCond .ne 13, 3) := by decide +kernel
theorem d_own_rmPAr2_20 : decode prog_1_method_9_code 20 = .ok (.aload 9, 2) := by decide +kernel
theorem d_own_rmPAr2_22 : decode prog_1_method_9_code 22 = .ok (.getfield 97, 3) := by decide +kernel
theorem d_own_rmPAr2_25 : decode prog_1_method_9_code 25 = .ok (.astore 10, 2) := by decide +kernel
theorem d_own_rmPAr2_27 : decode prog_1_method_9_code 27 = .ok (.goto 28, 3) := by decide +kernel
theorem d_own_rmPAr2_55 : decode prog_1_method_9_code 55 = .ok (.aload_n 0, 1) := by decide +kernel
theorem d_own_rmPAr2_56 : decode prog_1_method_9_code 56 = .ok (.lload_n 1, 1) := by decide +kernel
theorem d_own_rmPAr2_57 : decode prog_1_method_9_code 57 = .ok (.lload_n 3, 1) := by decide +kernel
theorem d_own_rmPAr2_58 : decode prog_1_method_9_code 58 = .ok (.aload 9, 2) := by decide +kernel
theorem d_own_rmPAr2_60 : decode prog_1_method_9_code 60 = .ok (.getfield 111, 3) := by decide +kernel
theorem d_own_rmPAr2_63 : decode prog_1_method_9_code 63 = .ok (.aload 10, 2) := by decide +kernel
theorem d_own_rmPAr2_65 : decode prog_1_method_9_code 65 = .ok (.aload 8, 2) := by decide +kernel
theorem d_own_rmPAr2_67 : decode prog_1_method_9_code 67 = .ok (.invokevirtual 114, 3) := by decide +kernel
theorem d_own_rmPAr2_70 : decode prog_1_method_9_code 70 = .ok (.return_, 1) := by decide +kernel
theorem ef_own_rmPAr2 (m : MethodId) (x0 : Addr) (x1 : Int64) (x2 : Int64) (x3 : Int64) (x4 : Int32) : entryFrame m #[(.ref x0), (.long x1), (.long x2), (.long x3), (.int x4), .null] 11 = mkF m 0 #[.val (.ref x0), .val (.long x1), .second, .val (.long x2), .second, .val (.long x3), .second, .val (.int x4), .val .null, .unset, .unset] [] := by first | (simp [entryFrame, mkF, argsToLocals, Value.category]; done) | rfl
set_option maxRecDepth 65536 in
set_option maxHeartbeats 40000000 in
theorem own_rmPAr2 (l : Launch) (Z : State) (a0 : Array Value) (hw : ∀ d ∈ tables_1, d.before a0 Z = true) (ws : List Jvm.Cond) (b0 : Addr) (q1 : Int64) (q2 : Int64) (q3 : Int64) (p4 : Int32) (bl be : Addr) (ql : Int64) (bR bC : Addr) (h0 : Heap) (n0 : Nat) (Z0 : n0 ≤ h0.size) (E_0 : Exa Z h0 b0 "com/example/tandem_ledger/tandemledger/Account") (F_latest : Fld Z h0 b0 "com/example/tandem_ledger/tandemledger/Account" "latest" "Lcom/example/tandem_ledger/tandemledger/Account$Version;" (.ref bl)) (F_kept : Fld Z h0 b0 "com/example/tandem_ledger/tandemledger/Account" "kept" "I" (.int (2 : Int32))) (F_ka : Fld Z h0 b0 "com/example/tandem_ledger/tandemledger/Account" "keptAfterLettingGo" "I" (.int (1 : Int32))) (F_c : Fld Z h0 bl "com/example/tandem_ledger/tandemledger/Account$Version" "commit" "J" (.long ql)) (F_e : Fld Z h0 bl "com/example/tandem_ledger/tandemledger/Account$Version" "earlier" "Lcom/example/tandem_ledger/tandemledger/Account$Version;" (.ref be)) (hlb : bl ≠ b0) (g_0 : n0 ≤ b0) (hcm : ql = q1) (hbe : ¬ be = bl) (F_h : Fld Z h0 bl "com/example/tandem_ledger/tandemledger/Account$Version" "chain" "Lcom/example/tandem_ledger/tandemledger/Chain;" (.ref bC)) (F_s : Fld Z h0 bl "com/example/tandem_ledger/tandemledger/Account$Version" "reserve" "Lcom/example/tandem_ledger/tandemledger/Reserve;" (.ref bR)) (E_C : Exa Z h0 bC "com/example/tandem_ledger/tandemledger/Chain") (F_r : Fld Z h0 bC "com/example/tandem_ledger/tandemledger/Chain" "record" "J" (.long (0 : Int64))) (h3 : (0 : Int64) = q3) :
    MetFree l (⟨"com/example/tandem_ledger/tandemledger/Account", "post", "(JJJZLjava/util/function/LongSupplier;)V"⟩ : MethodName) (head1 (Jvm.Cond.code (⟨"com/example/tandem_ledger/tandemledger/Account", "post", "(JJJZLjava/util/function/LongSupplier;)V"⟩ : MethodName) prog_1_method_9_code 11 none :: ws) ({ frames := 3, cells := 1, slots := 5, locals := 54 } : Room)) (fun a U => a = #[(.ref b0), (.long q1), (.long q2), (.long q3), (.int p4), .null] ∧ Z.Warmed39 U.vm ∧ U.heap = h0) (fun _ _ _ _ _ => True) (fun _ U o U' => ∃ v L, o = .returned v ∧ own_QP Z b0 (2 : Int32) q1 q2 bR bC (.ref be) h0 n0 v U'.heap L ∧ FrameEnd U o U' L ({ frames := 3, cells := 1, slots := 5, locals := 54 } : Room).cells ({ frames := 3, cells := 1, slots := 5, locals := 54 } : Room).slots) := by
  refine MetFree.of_bodySF (plainFor_of_name own_pn1) hisR ?_
  intro p e s m args below meth c s₁ Bd hml0 hP hK
  obtain ⟨rfl, hZ, hh⟩ := hP
  have hx := Bd.exec
  have hby := Bd.bytes
  have hml : c.maxLocals = 11 := hml0
  have hown : s.vm.findClass "com/example/tandem_ledger/tandemledger/Account" = some m.cls := findClass_of_methodNamed Bd.named
  have hnm := (name_of_methodNamed Bd.named Bd.method).1
  have X0 : Stand p l e ({ frames := 3, cells := 1, slots := 5, locals := 54 } : Room) s m #[(.ref b0), (.long q1), (.long q2), (.long q3), (.int p4), .null] below meth c s₁ [] 0 0 := Stand.of_body Bd
  have e0 : s₁.heap = h0 := by rw [← hh, Bd.state]; rfl
  have N0 := Fr.nil n0
  refine own_go (b := s₁.setTop (mkF m 0 #[.val (.ref b0), .val (.long q1), .second, .val (.long q2), .second, .val (.long q3), .second, .val (.int p4), .val .null, .unset, .unset] [])) (fun t k => castTop (ef_own_rmPAr2 m b0 q1 q2 q3 p4) k) ?_
  obtain ⟨T1, X1, e1, st1⟩ := getF X0 hx hZ hown (host := "") (Or.inl (hw _ (List.mem_of_getElem? (i := 60) rfl))) Via.refl e0 F_latest (g := (mkF m 1 #[.val (.ref b0), .val (.long q1), .second, .val (.long q2), .second, .val (.long q3), .second, .val (.int p4), .val .null, .unset, .unset] [(.ref b0)])) rfl rfl (hb hby d_own_rmPAr2_1)
  obtain ⟨cq2, kq2, q2a, q2b, q2c⟩ := isOf hZ e1 E_C
  obtain ⟨_, _, ⟨T2, L2, k2, n2⟩, -, X2, ⟨Lc2, hQ2, l2, y2, z2⟩, st2⟩ := X1.virtualBack hx (y := (⟨"com/example/tandem_ledger/tandemledger/Chain", "record", "()J"⟩ : MethodName)) (z := (⟨"com/example/tandem_ledger/tandemledger/Chain", "record", "()J"⟩ : MethodName)) hown (mvT hZ (hw _ (List.mem_of_getElem? (i := 68) rfl))) (mvT hZ (hw _ (List.mem_of_getElem? (i := 69) rfl))) (notFace_of_selects (args := #[]) (mvT hZ (hw _ (List.mem_of_getElem? (i := 71) rfl)))) (mvT hZ (hw _ (List.mem_of_getElem? (i := 71) rfl))) (mvT hZ (hw _ (List.mem_of_getElem? (i := 70) rfl))) (by decide) (backOf (W := 0) (own_rmRec l Z a0 hw [] bC (0 : Int64) h0 n0 Z0 F_r) hZ (hw _ (List.mem_of_getElem? (i := 72) rfl)) (hw _ (List.mem_of_getElem? (i := 23) rfl)) (by decide) (by decide)) q2a q2c (g := (mkF m 11 #[.val (.ref b0), .val (.long q1), .second, .val (.long q2), .second, .val (.long q3), .second, .val (.int p4), .val .null, .val (.ref bl), .unset] [(.ref bC)])) rfl (by rw [hml]; rfl) (Steps.refl _) (argsL := []) (rest := []) (lenOf own_pd2 rfl) rfl (by show 2 * 0 + _ ≤ _; exact Nat.le_of_eq rfl) (hb hby d_own_rmPAr2_11) (fun _ _ => ⟨rfl, e1, (by decide : 0 + 0 ≤ _), (by decide : 0 + 0 ≤ _)⟩)
  dsimp only [Pt.U, Pt.locs, Pt.cells, Pt.slots] at X2 l2 y2 z2 st2 hQ2
  subst l2 y2 z2
  obtain ⟨rfl, N2q, e2⟩ := hQ2
  have N2 := Fr.app N0 N2q
  obtain ⟨cq3, qc3, qc3'⟩ := E_0.cell
  obtain ⟨_, _, ⟨T3, L3, k3, n3⟩, -, X3, ⟨Lc3, hQ3, l3, y3, z3⟩, st3⟩ := X2.privateBack hx (y := (⟨"com/example/tandem_ledger/tandemledger/Account", "change", "(JJLcom/example/tandem_ledger/tandemledger/Reserve;Lcom/example/tandem_ledger/tandemledger/Chain;Ljava/util/function/LongSupplier;)V"⟩ : MethodName)) hown (mvT hZ (hw _ (List.mem_of_getElem? (i := 76) rfl))) (mvT hZ (hw _ (List.mem_of_getElem? (i := 77) rfl))) (own_selPriv (z := (⟨"com/example/tandem_ledger/tandemledger/Account", "post", "(JJJZLjava/util/function/LongSupplier;)V"⟩ : MethodName)) rfl (mvT hZ (hw _ (List.mem_of_getElem? (i := 77) rfl))) (Cond.privateMethod_at (mvP hZ (hw _ (List.mem_of_getElem? (i := 78) rfl)) (args := #[]))) (mvT hZ (hw _ (List.mem_of_getElem? (i := 65) rfl))) (by decide)) (Cond.privateMethod_at (mvP hZ (hw _ (List.mem_of_getElem? (i := 78) rfl)) (args := #[]))) (mvT hZ (hw _ (List.mem_of_getElem? (i := 79) rfl))) (by decide) (backOf (W := 0) (own_rmChAr2 l Z a0 hw [] b0 q1 q2 bR bC bl be ql h0 n0 Z0 E_0 F_latest F_kept F_ka F_c F_e hlb g_0 hcm hbe) hZ (hw _ (List.mem_of_getElem? (i := 79) rfl)) (hw _ (List.mem_of_getElem? (i := 7) rfl)) (by decide) (by decide)) (g := (mkF m 67 #[.val (.ref b0), .val (.long q1), .second, .val (.long q2), .second, .val (.long q3), .second, .val (.int p4), .val .null, .val (.ref bl), .val (.ref bC)] [.null, (.ref bC), (.ref bR), (.long q2), (.long q1), (.ref b0)])) rfl (by rw [hml]; rfl) (Steps.refl _) (a := b0) (by rw [e2]; exact qc3) qc3' (argsL := [(.long q1), (.long q2), (.ref bR), (.ref bC), .null]) (rest := []) (lenOf own_pd3 rfl) rfl (by show 2 * 0 + _ ≤ _; exact Nat.le_of_eq rfl) (hb hby d_own_rmPAr2_67) (fun _ _ => ⟨rfl, e2, (by decide : 0 + 1 ≤ _), (by decide : 0 + 5 ≤ _)⟩)
  dsimp only [Pt.U, Pt.locs, Pt.cells, Pt.slots] at X3 l3 y3 z3 st3 hQ3
  subst l3 y3 z3
  obtain ⟨hv3, N3q, rest3⟩ := hQ3
  cases hv3
  have N3 := Fr.app N2 N3q
  obtain ⟨fs, hr, hrun, hended, hW, hsame⟩ := X3.leave (v := none) (fun _ => rfl)
  refine ⟨_, _, ?_, hrun, hended, _, _, rfl, ?_, ⟨_, rfl⟩, hW, hsame.mono (by decide) (by decide)⟩
  · show Steps p.tables e below (s₁.setTop (mkF m 0 #[.val (.ref b0), .val (.long q1), .second, .val (.long q2), .second, .val (.long q3), .second, .val (.int p4), .val .null, .unset, .unset] [])) _
    refine XS.aloadN X0.here hx rfl (hb hby d_own_rmPAr2_0) rfl rfl ?_
    show Steps p.tables e below (s₁.setTop (mkF m 1 #[.val (.ref b0), .val (.long q1), .second, .val (.long q2), .second, .val (.long q3), .second, .val (.int p4), .val .null, .unset, .unset] [(.ref b0)])) _
    refine st1 _ ?_
    show Steps p.tables e below (T1.setTop (mkF m 4 #[.val (.ref b0), .val (.long q1), .second, .val (.long q2), .second, .val (.long q3), .second, .val (.int p4), .val .null, .unset, .unset] [(.ref bl)])) _
    refine XS.astore X1.here hx rfl (hb hby d_own_rmPAr2_4) rfl rfl (l' := #[.val (.ref b0), .val (.long q1), .second, .val (.long q2), .second, .val (.long q3), .second, .val (.int p4), .val .null, .val (.ref bl), .unset]) rfl ?_
    show Steps p.tables e below (T1.setTop (mkF m 6 #[.val (.ref b0), .val (.long q1), .second, .val (.long q2), .second, .val (.long q3), .second, .val (.int p4), .val .null, .val (.ref bl), .unset] [])) _
    refine XS.aload X1.here hx rfl (hb hby d_own_rmPAr2_6) rfl rfl ?_
    show Steps p.tables e below (T1.setTop (mkF m 8 #[.val (.ref b0), .val (.long q1), .second, .val (.long q2), .second, .val (.long q3), .second, .val (.int p4), .val .null, .val (.ref bl), .unset] [(.ref bl)])) _
    refine own_getRef X1 hx hZ hown (hw _ (List.mem_of_getElem? (i := 67) rfl)) e1 F_h (g := (mkF m 8 #[.val (.ref b0), .val (.long q1), .second, .val (.long q2), .second, .val (.long q3), .second, .val (.int p4), .val .null, .val (.ref bl), .unset] [(.ref bl)])) rfl rfl (hb hby d_own_rmPAr2_8) _ ?_
    show Steps p.tables e below (T1.setTop (mkF m 11 #[.val (.ref b0), .val (.long q1), .second, .val (.long q2), .second, .val (.long q3), .second, .val (.int p4), .val .null, .val (.ref bl), .unset] [(.ref bC)])) _
    refine st2.trans ?_
    show Steps p.tables e below (T2.setTop (mkF m 14 #[.val (.ref b0), .val (.long q1), .second, .val (.long q2), .second, .val (.long q3), .second, .val (.int p4), .val .null, .val (.ref bl), .unset] [(.long (0 : Int64))])) _
    refine XS.lload X2.here hx rfl (hb hby d_own_rmPAr2_14) rfl ?_
    show Steps p.tables e below (T2.setTop (mkF m 16 #[.val (.ref b0), .val (.long q1), .second, .val (.long q2), .second, .val (.long q3), .second, .val (.int p4), .val .null, .val (.ref bl), .unset] [(.long q3), (.long (0 : Int64))])) _
    refine XS.lcmp X2.here hx rfl (hb hby d_own_rmPAr2_16) rfl ?_
    show Steps p.tables e below (T2.setTop (mkF m 17 #[.val (.ref b0), .val (.long q1), .second, .val (.long q2), .second, .val (.long q3), .second, .val (.int p4), .val .null, .val (.ref bl), .unset] [(.int (lcmpW (0 : Int64) q3))])) _
    refine XS.ifNo X2.here hx rfl (hb hby d_own_rmPAr2_17) rfl ((if0 _ _).trans (teq ((lw_eq _ _).mpr (h3 : (0 : Int64) = q3))).2) ?_
    show Steps p.tables e below (T2.setTop (mkF m 20 #[.val (.ref b0), .val (.long q1), .second, .val (.long q2), .second, .val (.long q3), .second, .val (.int p4), .val .null, .val (.ref bl), .unset] [])) _
    refine XS.aload X2.here hx rfl (hb hby d_own_rmPAr2_20) rfl rfl ?_
    show Steps p.tables e below (T2.setTop (mkF m 22 #[.val (.ref b0), .val (.long q1), .second, .val (.long q2), .second, .val (.long q3), .second, .val (.int p4), .val .null, .val (.ref bl), .unset] [(.ref bl)])) _
    refine own_getRef X2 hx hZ hown (hw _ (List.mem_of_getElem? (i := 67) rfl)) e2 F_h (g := (mkF m 22 #[.val (.ref b0), .val (.long q1), .second, .val (.long q2), .second, .val (.long q3), .second, .val (.int p4), .val .null, .val (.ref bl), .unset] [(.ref bl)])) rfl rfl (hb hby d_own_rmPAr2_22) _ ?_
    show Steps p.tables e below (T2.setTop (mkF m 25 #[.val (.ref b0), .val (.long q1), .second, .val (.long q2), .second, .val (.long q3), .second, .val (.int p4), .val .null, .val (.ref bl), .unset] [(.ref bC)])) _
    refine XS.astore X2.here hx rfl (hb hby d_own_rmPAr2_25) rfl rfl (l' := #[.val (.ref b0), .val (.long q1), .second, .val (.long q2), .second, .val (.long q3), .second, .val (.int p4), .val .null, .val (.ref bl), .val (.ref bC)]) rfl ?_
    show Steps p.tables e below (T2.setTop (mkF m 27 #[.val (.ref b0), .val (.long q1), .second, .val (.long q2), .second, .val (.long q3), .second, .val (.int p4), .val .null, .val (.ref bl), .val (.ref bC)] [])) _
    refine XS.goto X2.here hx rfl (pc0 := 27) (pc' := 55) rfl (hb hby d_own_rmPAr2_27) (by decide) (by decide) ?_
    show Steps p.tables e below (T2.setTop (mkF m 55 #[.val (.ref b0), .val (.long q1), .second, .val (.long q2), .second, .val (.long q3), .second, .val (.int p4), .val .null, .val (.ref bl), .val (.ref bC)] [])) _
    refine XS.aloadN X2.here hx rfl (hb hby d_own_rmPAr2_55) rfl rfl ?_
    show Steps p.tables e below (T2.setTop (mkF m 56 #[.val (.ref b0), .val (.long q1), .second, .val (.long q2), .second, .val (.long q3), .second, .val (.int p4), .val .null, .val (.ref bl), .val (.ref bC)] [(.ref b0)])) _
    refine XS.lloadN X2.here hx rfl (hb hby d_own_rmPAr2_56) rfl ?_
    show Steps p.tables e below (T2.setTop (mkF m 57 #[.val (.ref b0), .val (.long q1), .second, .val (.long q2), .second, .val (.long q3), .second, .val (.int p4), .val .null, .val (.ref bl), .val (.ref bC)] [(.long q1), (.ref b0)])) _
    refine XS.lloadN X2.here hx rfl (hb hby d_own_rmPAr2_57) rfl ?_
    show Steps p.tables e below (T2.setTop (mkF m 58 #[.val (.ref b0), .val (.long q1), .second, .val (.long q2), .second, .val (.long q3), .second, .val (.int p4), .val .null, .val (.ref bl), .val (.ref bC)] [(.long q2), (.long q1), (.ref b0)])) _
    refine XS.aload X2.here hx rfl (hb hby d_own_rmPAr2_58) rfl rfl ?_
    show Steps p.tables e below (T2.setTop (mkF m 60 #[.val (.ref b0), .val (.long q1), .second, .val (.long q2), .second, .val (.long q3), .second, .val (.int p4), .val .null, .val (.ref bl), .val (.ref bC)] [(.ref bl), (.long q2), (.long q1), (.ref b0)])) _
    refine own_getRef X2 hx hZ hown (hw _ (List.mem_of_getElem? (i := 75) rfl)) e2 F_s (g := (mkF m 60 #[.val (.ref b0), .val (.long q1), .second, .val (.long q2), .second, .val (.long q3), .second, .val (.int p4), .val .null, .val (.ref bl), .val (.ref bC)] [(.ref bl), (.long q2), (.long q1), (.ref b0)])) rfl rfl (hb hby d_own_rmPAr2_60) _ ?_
    show Steps p.tables e below (T2.setTop (mkF m 63 #[.val (.ref b0), .val (.long q1), .second, .val (.long q2), .second, .val (.long q3), .second, .val (.int p4), .val .null, .val (.ref bl), .val (.ref bC)] [(.ref bR), (.long q2), (.long q1), (.ref b0)])) _
    refine XS.aload X2.here hx rfl (hb hby d_own_rmPAr2_63) rfl rfl ?_
    show Steps p.tables e below (T2.setTop (mkF m 65 #[.val (.ref b0), .val (.long q1), .second, .val (.long q2), .second, .val (.long q3), .second, .val (.int p4), .val .null, .val (.ref bl), .val (.ref bC)] [(.ref bC), (.ref bR), (.long q2), (.long q1), (.ref b0)])) _
    refine XS.aload X2.here hx rfl (hb hby d_own_rmPAr2_65) rfl rfl ?_
    show Steps p.tables e below (T2.setTop (mkF m 67 #[.val (.ref b0), .val (.long q1), .second, .val (.long q2), .second, .val (.long q3), .second, .val (.int p4), .val .null, .val (.ref bl), .val (.ref bC)] [.null, (.ref bC), (.ref bR), (.long q2), (.long q1), (.ref b0)])) _
    refine st3.trans ?_
    show Steps p.tables e below (T3.setTop (mkF m 70 #[.val (.ref b0), .val (.long q1), .second, .val (.long q2), .second, .val (.long q3), .second, .val (.int p4), .val .null, .val (.ref bl), .val (.ref bC)] [])) _
    exact X3.returnOut hx Bd.returns (hb hby d_own_rmPAr2_70) hr
  · show own_QP Z b0 (2 : Int32) q1 q2 bR bC (.ref be) h0 n0 _ T3.heap _
    exact ⟨rfl, N3, rest3⟩
theorem d_own_rmChC2_0 : decode prog_1_method_12_code 0 = .ok (.aload_n 0, 1) := by decide +kernel
theorem d_own_rmChC2_1 : decode prog_1_method_12_code 1 = .ok (.getfield 50, 3) := by decide +kernel
theorem d_own_rmChC2_4 : decode prog_1_method_12_code 4 = .ok (.astore 8, 2) := by decide +kernel
theorem d_own_rmChC2_6 : decode prog_1_method_12_code 6 = .ok (.aload 8, 2) := by decide +kernel
theorem d_own_rmChC2_8 : decode prog_1_method_12_code 8 = .ok (.getfield 121, 3) := by decide +kernel
theorem d_own_rmChC2_11 : decode prog_1_method_12_code 11 = .ok (.lload_n 1, 1) := by decide +kernel
theorem d_own_rmChC2_12 : decode prog_1_method_12_code 12 = .ok (.lcmp, 1) := by decide +kernel
theorem d_own_rmChC2_13 : decode prog_1_method_12_code 13 = .ok (.ifCond .ne 11, 3) := by decide +kernel
theorem d_own_rmChC2_24 : decode prog_1_method_12_code 24 = .ok (.aload 8, 2) := by decide +kernel
theorem d_own_rmChC2_26 : decode prog_1_method_12_code 26 = .ok (.astore 9, 2) := by decide +kernel
theorem d_own_rmChC2_28 : decode prog_1_method_12_code 28 = .ok (.aload_n 0, 1) := by decide +kernel
theorem d_own_rmChC2_29 : decode prog_1_method_12_code 29 = .ok (.new 45, 3) := by decide +kernel
theorem d_own_rmChC2_32 : decode prog_1_method_12_code 32 = .ok (.dup, 1) := by decide +kernel
theorem d_own_rmChC2_33 : decode prog_1_method_12_code 33 = .ok (.lload_n 1, 1) := by decide +kernel
theorem d_own_rmChC2_34 : decode prog_1_method_12_code 34 = .ok (.lload_n 3, 1) := by decide +kernel
theorem d_own_rmChC2_35 : decode prog_1_method_12_code 35 = .ok (.aload 5, 2) := by decide +kernel
theorem d_own_rmChC2_37 : decode prog_1_method_12_code 37 = .ok (.aload 6, 2) := by decide +kernel
theorem d_own_rmChC2_39 : decode prog_1_method_12_code 39 = .ok (.aload 9, 2) := by decide +kernel
theorem d_own_rmChC2_41 : decode prog_1_method_12_code 41 = .ok (.invokespecial 47, 3) := by decide +kernel
theorem d_own_rmChC2_44 : decode prog_1_method_12_code 44 = .ok (.putfield 50, 3) := by decide +kernel
theorem d_own_rmChC2_47 : decode prog_1_method_12_code 47 = .ok (.aload 9, 2) := by decide +kernel
theorem d_own_rmChC2_49 : decode prog_1_method_12_code 49 = .ok (.aload 8, 2) := by decide +kernel
theorem d_own_rmChC2_51 : decode prog_1_method_12_code 51 = .ok (.if_acmp .ne 13, 3) := by decide +kernel
theorem d_own_rmChC2_54 : decode prog_1_method_12_code 54 = .ok (.aload_n 0, 1) := by decide +kernel
theorem d_own_rmChC2_55 : decode prog_1_method_12_code 55 = .ok (.dup, 1) := by decide +kernel
theorem d_own_rmChC2_56 : decode prog_1_method_12_code 56 = .ok (.getfield 23, 3) := by decide +kernel
theorem d_own_rmChC2_59 : decode prog_1_method_12_code 59 = .ok (.iconst 1, 1) := by decide +kernel
theorem d_own_rmChC2_60 : decode prog_1_method_12_code 60 = .ok (.iadd, 1) := by decide +kernel
theorem d_own_rmChC2_61 : decode prog_1_method_12_code 61 = .ok (.putfield 23, 3) := by decide +kernel
theorem d_own_rmChC2_64 : decode prog_1_method_12_code 64 = .ok (.aload_n 0, 1) := by decide +kernel
theorem d_own_rmChC2_65 : decode prog_1_method_12_code 65 = .ok (.getfield 23, 3) := by decide +kernel
theorem d_own_rmChC2_68 : decode prog_1_method_12_code 68 = .ok (.iconst 2, 1) := by decide +kernel
theorem d_own_rmChC2_69 : decode prog_1_method_12_code 69 = .ok (.aload_n 0, 1) := by decide +kernel
theorem d_own_rmChC2_70 : decode prog_1_method_12_code 70 = .ok (.getfield 27, 3) := by decide +kernel
theorem d_own_rmChC2_73 : decode prog_1_method_12_code 73 = .ok (.imul, 1) := by decide +kernel
theorem d_own_rmChC2_74 : decode prog_1_method_12_code 74 = .ok (.iconst 1, 1) := by decide +kernel
theorem d_own_rmChC2_75 : decode prog_1_method_12_code 75 = .ok (.iadd, 1) := by decide +kernel
theorem d_own_rmChC2_76 : decode prog_1_method_12_code 76 = .ok (.if_icmp .le 14, 3) := by decide +kernel
theorem d_own_rmChC2_90 : decode prog_1_method_12_code 90 = .ok (.return_, 1) := by decide +kernel
theorem ef_own_rmChC2 (m : MethodId) (x0 : Addr) (x1 : Int64) (x2 : Int64) (x3 : Addr) (x4 : Addr) : entryFrame m #[(.ref x0), (.long x1), (.long x2), (.ref x3), (.ref x4), .null] 10 = mkF m 0 #[.val (.ref x0), .val (.long x1), .second, .val (.long x2), .second, .val (.ref x3), .val (.ref x4), .val .null, .unset, .unset] [] := by first | (simp [entryFrame, mkF, argsToLocals, Value.category]; done) | rfl
set_option maxRecDepth 65536 in
set_option maxHeartbeats 40000000 in
theorem own_rmChC2 (l : Launch) (Z : State) (a0 : Array Value) (hw : ∀ d ∈ tables_1, d.before a0 Z = true) (ws : List Jvm.Cond) (b0 : Addr) (q1 : Int64) (q2 : Int64) (b3 : Addr) (b4 : Addr) (bl : Addr) (ql : Int64) (ue : Value) (h0 : Heap) (n0 : Nat) (Z0 : n0 ≤ h0.size) (E_0 : Exa Z h0 b0 "com/example/tandem_ledger/tandemledger/Account") (F_latest : Fld Z h0 b0 "com/example/tandem_ledger/tandemledger/Account" "latest" "Lcom/example/tandem_ledger/tandemledger/Account$Version;" (.ref bl)) (F_kept : Fld Z h0 b0 "com/example/tandem_ledger/tandemledger/Account" "kept" "I" (.int (2 : Int32))) (F_ka : Fld Z h0 b0 "com/example/tandem_ledger/tandemledger/Account" "keptAfterLettingGo" "I" (.int (1 : Int32))) (F_c : Fld Z h0 bl "com/example/tandem_ledger/tandemledger/Account$Version" "commit" "J" (.long ql)) (F_e : Fld Z h0 bl "com/example/tandem_ledger/tandemledger/Account$Version" "earlier" "Lcom/example/tandem_ledger/tandemledger/Account$Version;" ue) (hlb : bl ≠ b0) (g_0 : n0 ≤ b0) (hcm : ¬ ql = q1) :
    MetFree l (⟨"com/example/tandem_ledger/tandemledger/Account", "change", "(JJLcom/example/tandem_ledger/tandemledger/Reserve;Lcom/example/tandem_ledger/tandemledger/Chain;Ljava/util/function/LongSupplier;)V"⟩ : MethodName) (head1 (Jvm.Cond.code (⟨"com/example/tandem_ledger/tandemledger/Account", "change", "(JJLcom/example/tandem_ledger/tandemledger/Reserve;Lcom/example/tandem_ledger/tandemledger/Chain;Ljava/util/function/LongSupplier;)V"⟩ : MethodName) prog_1_method_12_code 10 none :: ws) ({ frames := 2, cells := 1, slots := 5, locals := 33 } : Room)) (fun a U => a = #[(.ref b0), (.long q1), (.long q2), (.ref b3), (.ref b4), .null] ∧ Z.Warmed39 U.vm ∧ U.heap = h0) (fun _ _ _ _ _ => True) (fun _ U o U' => ∃ v L, o = .returned v ∧ own_QP Z b0 (3 : Int32) q1 q2 b3 b4 (.ref bl) h0 n0 v U'.heap L ∧ FrameEnd U o U' L ({ frames := 2, cells := 1, slots := 5, locals := 33 } : Room).cells ({ frames := 2, cells := 1, slots := 5, locals := 33 } : Room).slots) := by
  refine MetFree.of_bodySF (plainFor_of_name own_pn1) hisR ?_
  intro p e s m args below meth c s₁ Bd hml0 hP hK
  obtain ⟨rfl, hZ, hh⟩ := hP
  have hx := Bd.exec
  have hby := Bd.bytes
  have hml : c.maxLocals = 10 := hml0
  have hown : s.vm.findClass "com/example/tandem_ledger/tandemledger/Account" = some m.cls := findClass_of_methodNamed Bd.named
  have hnm := (name_of_methodNamed Bd.named Bd.method).1
  have X0 : Stand p l e ({ frames := 2, cells := 1, slots := 5, locals := 33 } : Room) s m #[(.ref b0), (.long q1), (.long q2), (.ref b3), (.ref b4), .null] below meth c s₁ [] 0 0 := Stand.of_body Bd
  have e0 : s₁.heap = h0 := by rw [← hh, Bd.state]; rfl
  have N0 := Fr.nil n0
  refine own_go (b := s₁.setTop (mkF m 0 #[.val (.ref b0), .val (.long q1), .second, .val (.long q2), .second, .val (.ref b3), .val (.ref b4), .val .null, .unset, .unset] [])) (fun t k => castTop (ef_own_rmChC2 m b0 q1 q2 b3 b4) k) ?_
  obtain ⟨T1, X1, e1, st1⟩ := getF X0 hx hZ hown (host := "") (Or.inl (hw _ (List.mem_of_getElem? (i := 60) rfl))) Via.refl e0 F_latest (g := (mkF m 1 #[.val (.ref b0), .val (.long q1), .second, .val (.long q2), .second, .val (.ref b3), .val (.ref b4), .val .null, .unset, .unset] [(.ref b0)])) rfl rfl (hb hby d_own_rmChC2_1)
  obtain ⟨T2, h2, X2, e2, E2, A2, D2, -, st2⟩ := newO X1 hx hZ hown (hw _ (List.mem_of_getElem? (i := 43) rfl)) (hw _ (List.mem_of_getElem? (i := 44) rfl)) (hw _ (List.mem_of_getElem? (i := 45) rfl)) e1 (g := (mkF m 29 #[.val (.ref b0), .val (.long q1), .second, .val (.long q2), .second, .val (.ref b3), .val (.ref b4), .val .null, .val (.ref bl), .val (.ref bl)] [(.ref b0)])) rfl (hb hby d_own_rmChC2_29) (by decide) (by decide)
  obtain ⟨b2, g2⟩ : ∃ z, z = h0.size := ⟨_, rfl⟩
  rw [← g2] at A2 D2 st2
  have ne_b0_b2 : b0 ≠ b2 := Nat.ne_of_lt (Nat.lt_of_lt_of_le E_0.lt (Nat.le_of_eq g2.symm))
  have ne_bl_b2 : bl ≠ b2 := Nat.ne_of_lt (Nat.lt_of_lt_of_le F_c.lt (Nat.le_of_eq g2.symm))
  have new_b2 : n0 ≤ b2 := Nat.le_trans Z0 (Nat.le_of_eq g2.symm)
  have sz_b2 : h0.size ≤ b2 := Nat.le_trans (Keep.refl h0 [b0]).1 (Nat.le_of_eq g2.symm)
  have E_b0_2 := E_0.ext E2
  have F_b0_latest_2 := F_latest.ext E2
  have F_b0_kept_2 := F_kept.ext E2
  have F_b0_keptAfterLettingGo_2 := F_ka.ext E2
  have F_bl_commit_2 := F_c.ext E2
  have F_bl_earlier_2 := F_e.ext E2
  have Z2 := Nat.le_trans Z0 E2.1
  have K2 := (Keep.refl h0 [b0]).ext E2
  have F_b2_commit_2 : Fld Z h2 b2 "com/example/tandem_ledger/tandemledger/Account$Version" "commit" "J" (.long (0 : Int64)) := D2 (Or.inr (hw _ (List.mem_of_getElem? (i := 51) rfl))) (ty := .long) (by decide)
  have F_b2_balance_2 : Fld Z h2 b2 "com/example/tandem_ledger/tandemledger/Account$Version" "balance" "J" (.long (0 : Int64)) := D2 (Or.inr (hw _ (List.mem_of_getElem? (i := 53) rfl))) (ty := .long) (by decide)
  have F_b2_reserve_2 : Fld Z h2 b2 "com/example/tandem_ledger/tandemledger/Account$Version" "reserve" "Lcom/example/tandem_ledger/tandemledger/Reserve;" .null := D2 (Or.inr (hw _ (List.mem_of_getElem? (i := 55) rfl))) (ty := (.object "com/example/tandem_ledger/tandemledger/Reserve")) (by decide)
  have F_b2_chain_2 : Fld Z h2 b2 "com/example/tandem_ledger/tandemledger/Account$Version" "chain" "Lcom/example/tandem_ledger/tandemledger/Chain;" .null := D2 (Or.inr (hw _ (List.mem_of_getElem? (i := 57) rfl))) (ty := (.object "com/example/tandem_ledger/tandemledger/Chain")) (by decide)
  have F_b2_earlier_2 : Fld Z h2 b2 "com/example/tandem_ledger/tandemledger/Account$Version" "earlier" "Lcom/example/tandem_ledger/tandemledger/Account$Version;" .null := D2 (Or.inl (hw _ (List.mem_of_getElem? (i := 59) rfl))) (ty := (.object "com/example/tandem_ledger/tandemledger/Account$Version")) (by decide)
  obtain ⟨_, _, ⟨T3, L3, k3, n3⟩, -, X3, ⟨Lc3, hQ3, l3, y3, z3⟩, st3⟩ := own_specialRef X2 hx hZ (y := (⟨"com/example/tandem_ledger/tandemledger/Account$Version", "<init>", "(JJLcom/example/tandem_ledger/tandemledger/Reserve;Lcom/example/tandem_ledger/tandemledger/Chain;Lcom/example/tandem_ledger/tandemledger/Account$Version;)V"⟩ : MethodName)) rfl hown (hw _ (List.mem_of_getElem? (i := 46) rfl)) (mvT hZ (hw _ (List.mem_of_getElem? (i := 47) rfl))) (mvT hZ (hw _ (List.mem_of_getElem? (i := 48) rfl))) (by decide) (backOf (W := 2) (own_rmVr l Z a0 hw [] b2 q1 q2 b3 b4 bl  h2 n0 Z2 A2 F_b2_commit_2 F_b2_balance_2 F_b2_reserve_2 F_b2_chain_2 F_b2_earlier_2 new_b2) hZ (hw _ (List.mem_of_getElem? (i := 48) rfl)) (hw _ (List.mem_of_getElem? (i := 45) rfl)) (by decide) (by decide)) (g := (mkF m 41 #[.val (.ref b0), .val (.long q1), .second, .val (.long q2), .second, .val (.ref b3), .val (.ref b4), .val .null, .val (.ref bl), .val (.ref bl)] [(.ref bl), (.ref b4), (.ref b3), (.long q2), (.long q1), (.ref b2), (.ref b2), (.ref b0)])) rfl (by rw [hml]; rfl) (a := b2) (argsL := [(.long q1), (.long q2), (.ref b3), (.ref b4), (.ref bl)]) (rest := [(.ref b2), (.ref b0)]) (lenOf own_pd0 rfl) rfl (by show 2 * 0 + _ ≤ _; exact Nat.le_of_eq rfl) (hb hby d_own_rmChC2_41) (fun _ _ => ⟨rfl, e2, (by decide : 1 + 0 ≤ _), (by decide : 5 + 0 ≤ _)⟩)
  dsimp only [Pt.U, Pt.locs, Pt.cells, Pt.slots] at X3 l3 y3 z3 st3 hQ3
  subst l3 y3 z3
  obtain ⟨rfl, N3q, K3q, B3_0, B3_1, B3_2, B3_3, B3_4⟩ := hQ3
  have E_b0_3 := E_b0_2.keep K3q
  have F_b0_latest_3 := F_b0_latest_2.keep K3q (fun q => ne_b0_b2 (List.mem_singleton.mp q))
  have F_b0_kept_3 := F_b0_kept_2.keep K3q (fun q => ne_b0_b2 (List.mem_singleton.mp q))
  have F_b0_keptAfterLettingGo_3 := F_b0_keptAfterLettingGo_2.keep K3q (fun q => ne_b0_b2 (List.mem_singleton.mp q))
  have F_bl_commit_3 := F_bl_commit_2.keep K3q (fun q => ne_bl_b2 (List.mem_singleton.mp q))
  have F_bl_earlier_3 := F_bl_earlier_2.keep K3q (fun q => ne_bl_b2 (List.mem_singleton.mp q))
  have E_b2_3 := A2.keep K3q
  have N3 := Fr.app N0 N3q
  have Z3 := Nat.le_trans Z2 K3q.1
  have K3 := K2.trans K3q (fun x hx => by cases List.mem_singleton.mp hx; exact Or.inr sz_b2)
  obtain ⟨T4, h4, X4, e4, W4, st4⟩ := putF X3 hx hZ hown (host := "") (Or.inl (hw _ (List.mem_of_getElem? (i := 60) rfl))) Via.refl rfl F_b0_latest_3 E_b0_3 (Or.inl (hw _ (List.mem_of_getElem? (i := 61) rfl))) (hw _ (List.mem_of_getElem? (i := 6) rfl)) (ty := (.object "com/example/tandem_ledger/tandemledger/Account$Version")) (by decide) rfl rfl (g := (mkF m 44 #[.val (.ref b0), .val (.long q1), .second, .val (.long q2), .second, .val (.ref b3), .val (.ref b4), .val .null, .val (.ref bl), .val (.ref bl)] [(.ref b2), (.ref b0)])) rfl rfl (hb hby d_own_rmChC2_44)
  have E_b0_4 := E_b0_3.wr W4
  have F_b0_kept_4 := F_b0_kept_3.other W4 (Or.inr (slot_ne (Or.inl (hw _ (List.mem_of_getElem? (i := 32) rfl))) (Or.inl (hw _ (List.mem_of_getElem? (i := 61) rfl))) (by decide) (t := .int) (t' := (.object "com/example/tandem_ledger/tandemledger/Account$Version")) (by decide) (by decide)))
  have F_b0_keptAfterLettingGo_4 := F_b0_keptAfterLettingGo_3.other W4 (Or.inr (slot_ne (Or.inl (hw _ (List.mem_of_getElem? (i := 34) rfl))) (Or.inl (hw _ (List.mem_of_getElem? (i := 61) rfl))) (by decide) (t := .int) (t' := (.object "com/example/tandem_ledger/tandemledger/Account$Version")) (by decide) (by decide)))
  have F_bl_commit_4 := F_bl_commit_3.other W4 (Or.inl hlb)
  have F_bl_earlier_4 := F_bl_earlier_3.other W4 (Or.inl hlb)
  have E_b2_4 := E_b2_3.wr W4
  have F_b2_commit_4 := B3_0.other W4 (Or.inl (Ne.symm ne_b0_b2))
  have F_b2_balance_4 := B3_1.other W4 (Or.inl (Ne.symm ne_b0_b2))
  have F_b2_reserve_4 := B3_2.other W4 (Or.inl (Ne.symm ne_b0_b2))
  have F_b2_chain_4 := B3_3.other W4 (Or.inl (Ne.symm ne_b0_b2))
  have F_b2_earlier_4 := B3_4.other W4 (Or.inl (Ne.symm ne_b0_b2))
  have Z4 := Nat.le_trans Z3 (Keep.of_wr W4).1
  have K4 := K3.wr W4 (Or.inl (List.mem_of_getElem? (i := 0) rfl))
  have N4 := Fr.snoc X4 N3 g_0
  have F_b0_latest_4 := F_b0_latest_3.same W4
  obtain ⟨T5, X5, e5, st5⟩ := getF X4 hx hZ hown (host := "") (Or.inl (hw _ (List.mem_of_getElem? (i := 31) rfl))) Via.refl e4 F_b0_kept_4 (g := (mkF m 56 #[.val (.ref b0), .val (.long q1), .second, .val (.long q2), .second, .val (.ref b3), .val (.ref b4), .val .null, .val (.ref bl), .val (.ref bl)] [(.ref b0), (.ref b0)])) rfl rfl (hb hby d_own_rmChC2_56)
  obtain ⟨T6, h6, X6, e6, W6, st6⟩ := putF X5 hx hZ hown (host := "") (Or.inl (hw _ (List.mem_of_getElem? (i := 31) rfl))) Via.refl e5 F_b0_kept_4 E_b0_4 (Or.inl (hw _ (List.mem_of_getElem? (i := 32) rfl))) (hw _ (List.mem_of_getElem? (i := 6) rfl)) (ty := .int) (by decide) rfl rfl (g := (mkF m 61 #[.val (.ref b0), .val (.long q1), .second, .val (.long q2), .second, .val (.ref b3), .val (.ref b4), .val .null, .val (.ref bl), .val (.ref bl)] [(.int (3 : Int32)), (.ref b0)])) rfl rfl (hb hby d_own_rmChC2_61)
  have E_b0_6 := E_b0_4.wr W6
  have F_b0_keptAfterLettingGo_6 := F_b0_keptAfterLettingGo_4.other W6 (Or.inr (slot_ne (Or.inl (hw _ (List.mem_of_getElem? (i := 34) rfl))) (Or.inl (hw _ (List.mem_of_getElem? (i := 32) rfl))) (by decide) (t := .int) (t' := .int) (by decide) (by decide)))
  have F_bl_commit_6 := F_bl_commit_4.other W6 (Or.inl hlb)
  have F_bl_earlier_6 := F_bl_earlier_4.other W6 (Or.inl hlb)
  have E_b2_6 := E_b2_4.wr W6
  have F_b2_commit_6 := F_b2_commit_4.other W6 (Or.inl (Ne.symm ne_b0_b2))
  have F_b2_balance_6 := F_b2_balance_4.other W6 (Or.inl (Ne.symm ne_b0_b2))
  have F_b2_reserve_6 := F_b2_reserve_4.other W6 (Or.inl (Ne.symm ne_b0_b2))
  have F_b2_chain_6 := F_b2_chain_4.other W6 (Or.inl (Ne.symm ne_b0_b2))
  have F_b2_earlier_6 := F_b2_earlier_4.other W6 (Or.inl (Ne.symm ne_b0_b2))
  have F_b0_latest_6 := F_b0_latest_4.other W6 (Or.inr (slot_ne (Or.inl (hw _ (List.mem_of_getElem? (i := 61) rfl))) (Or.inl (hw _ (List.mem_of_getElem? (i := 32) rfl))) (by decide) (t := (.object "com/example/tandem_ledger/tandemledger/Account$Version")) (t' := .int) (by decide) (by decide)))
  have Z6 := Nat.le_trans Z4 (Keep.of_wr W6).1
  have K6 := K4.wr W6 (Or.inl (List.mem_of_getElem? (i := 0) rfl))
  have N6 := Fr.snoc X6 N4 g_0
  have F_b0_kept_6 := F_b0_kept_4.same W6
  obtain ⟨T7, X7, e7, st7⟩ := getF X6 hx hZ hown (host := "") (Or.inl (hw _ (List.mem_of_getElem? (i := 31) rfl))) Via.refl e6 F_b0_kept_6 (g := (mkF m 65 #[.val (.ref b0), .val (.long q1), .second, .val (.long q2), .second, .val (.ref b3), .val (.ref b4), .val .null, .val (.ref bl), .val (.ref bl)] [(.ref b0)])) rfl rfl (hb hby d_own_rmChC2_65)
  obtain ⟨T8, X8, e8, st8⟩ := getF X7 hx hZ hown (host := "") (Or.inl (hw _ (List.mem_of_getElem? (i := 33) rfl))) Via.refl e7 F_b0_keptAfterLettingGo_6 (g := (mkF m 70 #[.val (.ref b0), .val (.long q1), .second, .val (.long q2), .second, .val (.ref b3), .val (.ref b4), .val .null, .val (.ref bl), .val (.ref bl)] [(.ref b0), (.int (2 : Int32)), (.int (3 : Int32))])) rfl rfl (hb hby d_own_rmChC2_70)
  obtain ⟨fs, hr, hrun, hended, hW, hsame⟩ := X8.leave (v := none) (fun _ => rfl)
  refine ⟨_, _, ?_, hrun, hended, _, _, rfl, ?_, ⟨_, rfl⟩, hW, hsame.mono (by decide) (by decide)⟩
  · show Steps p.tables e below (s₁.setTop (mkF m 0 #[.val (.ref b0), .val (.long q1), .second, .val (.long q2), .second, .val (.ref b3), .val (.ref b4), .val .null, .unset, .unset] [])) _
    refine XS.aloadN X0.here hx rfl (hb hby d_own_rmChC2_0) rfl rfl ?_
    show Steps p.tables e below (s₁.setTop (mkF m 1 #[.val (.ref b0), .val (.long q1), .second, .val (.long q2), .second, .val (.ref b3), .val (.ref b4), .val .null, .unset, .unset] [(.ref b0)])) _
    refine st1 _ ?_
    show Steps p.tables e below (T1.setTop (mkF m 4 #[.val (.ref b0), .val (.long q1), .second, .val (.long q2), .second, .val (.ref b3), .val (.ref b4), .val .null, .unset, .unset] [(.ref bl)])) _
    refine XS.astore X1.here hx rfl (hb hby d_own_rmChC2_4) rfl rfl (l' := #[.val (.ref b0), .val (.long q1), .second, .val (.long q2), .second, .val (.ref b3), .val (.ref b4), .val .null, .val (.ref bl), .unset]) rfl ?_
    show Steps p.tables e below (T1.setTop (mkF m 6 #[.val (.ref b0), .val (.long q1), .second, .val (.long q2), .second, .val (.ref b3), .val (.ref b4), .val .null, .val (.ref bl), .unset] [])) _
    refine XS.aload X1.here hx rfl (hb hby d_own_rmChC2_6) rfl rfl ?_
    show Steps p.tables e below (T1.setTop (mkF m 8 #[.val (.ref b0), .val (.long q1), .second, .val (.long q2), .second, .val (.ref b3), .val (.ref b4), .val .null, .val (.ref bl), .unset] [(.ref bl)])) _
    refine own_getRef X1 hx hZ hown (hw _ (List.mem_of_getElem? (i := 80) rfl)) e1 F_c (g := (mkF m 8 #[.val (.ref b0), .val (.long q1), .second, .val (.long q2), .second, .val (.ref b3), .val (.ref b4), .val .null, .val (.ref bl), .unset] [(.ref bl)])) rfl rfl (hb hby d_own_rmChC2_8) _ ?_
    show Steps p.tables e below (T1.setTop (mkF m 11 #[.val (.ref b0), .val (.long q1), .second, .val (.long q2), .second, .val (.ref b3), .val (.ref b4), .val .null, .val (.ref bl), .unset] [(.long ql)])) _
    refine XS.lloadN X1.here hx rfl (hb hby d_own_rmChC2_11) rfl ?_
    show Steps p.tables e below (T1.setTop (mkF m 12 #[.val (.ref b0), .val (.long q1), .second, .val (.long q2), .second, .val (.ref b3), .val (.ref b4), .val .null, .val (.ref bl), .unset] [(.long q1), (.long ql)])) _
    refine XS.lcmp X1.here hx rfl (hb hby d_own_rmChC2_12) rfl ?_
    show Steps p.tables e below (T1.setTop (mkF m 13 #[.val (.ref b0), .val (.long q1), .second, .val (.long q2), .second, .val (.ref b3), .val (.ref b4), .val .null, .val (.ref bl), .unset] [(.int (lcmpW ql q1))])) _
    refine XS.ifYes X1.here hx rfl (pc0 := 13) (pc' := 24) rfl (hb hby d_own_rmChC2_13) rfl ((if0 _ _).trans (feq (mt (lw_eq _ _).mp (hcm : ¬ (ql = q1)))).2) (by decide) (by decide) ?_
    show Steps p.tables e below (T1.setTop (mkF m 24 #[.val (.ref b0), .val (.long q1), .second, .val (.long q2), .second, .val (.ref b3), .val (.ref b4), .val .null, .val (.ref bl), .unset] [])) _
    refine XS.aload X1.here hx rfl (hb hby d_own_rmChC2_24) rfl rfl ?_
    show Steps p.tables e below (T1.setTop (mkF m 26 #[.val (.ref b0), .val (.long q1), .second, .val (.long q2), .second, .val (.ref b3), .val (.ref b4), .val .null, .val (.ref bl), .unset] [(.ref bl)])) _
    refine XS.astore X1.here hx rfl (hb hby d_own_rmChC2_26) rfl rfl (l' := #[.val (.ref b0), .val (.long q1), .second, .val (.long q2), .second, .val (.ref b3), .val (.ref b4), .val .null, .val (.ref bl), .val (.ref bl)]) rfl ?_
    show Steps p.tables e below (T1.setTop (mkF m 28 #[.val (.ref b0), .val (.long q1), .second, .val (.long q2), .second, .val (.ref b3), .val (.ref b4), .val .null, .val (.ref bl), .val (.ref bl)] [])) _
    refine XS.aloadN X1.here hx rfl (hb hby d_own_rmChC2_28) rfl rfl ?_
    show Steps p.tables e below (T1.setTop (mkF m 29 #[.val (.ref b0), .val (.long q1), .second, .val (.long q2), .second, .val (.ref b3), .val (.ref b4), .val .null, .val (.ref bl), .val (.ref bl)] [(.ref b0)])) _
    refine st2 _ ?_
    show Steps p.tables e below (T2.setTop (mkF m 32 #[.val (.ref b0), .val (.long q1), .second, .val (.long q2), .second, .val (.ref b3), .val (.ref b4), .val .null, .val (.ref bl), .val (.ref bl)] [(.ref b2), (.ref b0)])) _
    refine XS.dup X2.here hx rfl (hb hby d_own_rmChC2_32) rfl rfl ?_
    show Steps p.tables e below (T2.setTop (mkF m 33 #[.val (.ref b0), .val (.long q1), .second, .val (.long q2), .second, .val (.ref b3), .val (.ref b4), .val .null, .val (.ref bl), .val (.ref bl)] [(.ref b2), (.ref b2), (.ref b0)])) _
    refine XS.lloadN X2.here hx rfl (hb hby d_own_rmChC2_33) rfl ?_
    show Steps p.tables e below (T2.setTop (mkF m 34 #[.val (.ref b0), .val (.long q1), .second, .val (.long q2), .second, .val (.ref b3), .val (.ref b4), .val .null, .val (.ref bl), .val (.ref bl)] [(.long q1), (.ref b2), (.ref b2), (.ref b0)])) _
    refine XS.lloadN X2.here hx rfl (hb hby d_own_rmChC2_34) rfl ?_
    show Steps p.tables e below (T2.setTop (mkF m 35 #[.val (.ref b0), .val (.long q1), .second, .val (.long q2), .second, .val (.ref b3), .val (.ref b4), .val .null, .val (.ref bl), .val (.ref bl)] [(.long q2), (.long q1), (.ref b2), (.ref b2), (.ref b0)])) _
    refine XS.aload X2.here hx rfl (hb hby d_own_rmChC2_35) rfl rfl ?_
    show Steps p.tables e below (T2.setTop (mkF m 37 #[.val (.ref b0), .val (.long q1), .second, .val (.long q2), .second, .val (.ref b3), .val (.ref b4), .val .null, .val (.ref bl), .val (.ref bl)] [(.ref b3), (.long q2), (.long q1), (.ref b2), (.ref b2), (.ref b0)])) _
    refine XS.aload X2.here hx rfl (hb hby d_own_rmChC2_37) rfl rfl ?_
    show Steps p.tables e below (T2.setTop (mkF m 39 #[.val (.ref b0), .val (.long q1), .second, .val (.long q2), .second, .val (.ref b3), .val (.ref b4), .val .null, .val (.ref bl), .val (.ref bl)] [(.ref b4), (.ref b3), (.long q2), (.long q1), (.ref b2), (.ref b2), (.ref b0)])) _
    refine XS.aload X2.here hx rfl (hb hby d_own_rmChC2_39) rfl rfl ?_
    show Steps p.tables e below (T2.setTop (mkF m 41 #[.val (.ref b0), .val (.long q1), .second, .val (.long q2), .second, .val (.ref b3), .val (.ref b4), .val .null, .val (.ref bl), .val (.ref bl)] [(.ref bl), (.ref b4), (.ref b3), (.long q2), (.long q1), (.ref b2), (.ref b2), (.ref b0)])) _
    refine st3.trans ?_
    show Steps p.tables e below (T3.setTop (mkF m 44 #[.val (.ref b0), .val (.long q1), .second, .val (.long q2), .second, .val (.ref b3), .val (.ref b4), .val .null, .val (.ref bl), .val (.ref bl)] [(.ref b2), (.ref b0)])) _
    refine st4 _ ?_
    show Steps p.tables e below (T4.setTop (mkF m 47 #[.val (.ref b0), .val (.long q1), .second, .val (.long q2), .second, .val (.ref b3), .val (.ref b4), .val .null, .val (.ref bl), .val (.ref bl)] [])) _
    refine XS.aload X4.here hx rfl (hb hby d_own_rmChC2_47) rfl rfl ?_
    show Steps p.tables e below (T4.setTop (mkF m 49 #[.val (.ref b0), .val (.long q1), .second, .val (.long q2), .second, .val (.ref b3), .val (.ref b4), .val .null, .val (.ref bl), .val (.ref bl)] [(.ref bl)])) _
    refine XS.aload X4.here hx rfl (hb hby d_own_rmChC2_49) rfl rfl ?_
    show Steps p.tables e below (T4.setTop (mkF m 51 #[.val (.ref b0), .val (.long q1), .second, .val (.long q2), .second, .val (.ref b3), .val (.ref b4), .val .null, .val (.ref bl), .val (.ref bl)] [(.ref bl), (.ref bl)])) _
    refine Jvm.RoadKit.acmp (g := (mkF m 51 #[.val (.ref b0), .val (.long q1), .second, .val (.long q2), .second, .val (.ref b3), .val (.ref b4), .val .null, .val (.ref bl), .val (.ref bl)] [(.ref bl), (.ref bl)])) X4 hx rfl rfl rfl (pc0 := 51) (pc' := 54) (same := true) rfl (hb hby d_own_rmChC2_51) rfl (decide_eq_true rfl) (by decide) (by decide) ?_
    show Steps p.tables e below (T4.setTop (mkF m 54 #[.val (.ref b0), .val (.long q1), .second, .val (.long q2), .second, .val (.ref b3), .val (.ref b4), .val .null, .val (.ref bl), .val (.ref bl)] [])) _
    refine XS.aloadN X4.here hx rfl (hb hby d_own_rmChC2_54) rfl rfl ?_
    show Steps p.tables e below (T4.setTop (mkF m 55 #[.val (.ref b0), .val (.long q1), .second, .val (.long q2), .second, .val (.ref b3), .val (.ref b4), .val .null, .val (.ref bl), .val (.ref bl)] [(.ref b0)])) _
    refine XS.dup X4.here hx rfl (hb hby d_own_rmChC2_55) rfl rfl ?_
    show Steps p.tables e below (T4.setTop (mkF m 56 #[.val (.ref b0), .val (.long q1), .second, .val (.long q2), .second, .val (.ref b3), .val (.ref b4), .val .null, .val (.ref bl), .val (.ref bl)] [(.ref b0), (.ref b0)])) _
    refine st5 _ ?_
    show Steps p.tables e below (T5.setTop (mkF m 59 #[.val (.ref b0), .val (.long q1), .second, .val (.long q2), .second, .val (.ref b3), .val (.ref b4), .val .null, .val (.ref bl), .val (.ref bl)] [(.int (2 : Int32)), (.ref b0)])) _
    refine XS.iconst X5.here hx rfl (hb hby d_own_rmChC2_59) ?_
    show Steps p.tables e below (T5.setTop (mkF m 60 #[.val (.ref b0), .val (.long q1), .second, .val (.long q2), .second, .val (.ref b3), .val (.ref b4), .val .null, .val (.ref bl), .val (.ref bl)] [(.int (1 : Int32)), (.int (2 : Int32)), (.ref b0)])) _
    refine XS.iadd X5.here hx rfl (hb hby d_own_rmChC2_60) rfl ?_
    show Steps p.tables e below (T5.setTop (mkF m 61 #[.val (.ref b0), .val (.long q1), .second, .val (.long q2), .second, .val (.ref b3), .val (.ref b4), .val .null, .val (.ref bl), .val (.ref bl)] [(.int (3 : Int32)), (.ref b0)])) _
    refine st6 _ ?_
    show Steps p.tables e below (T6.setTop (mkF m 64 #[.val (.ref b0), .val (.long q1), .second, .val (.long q2), .second, .val (.ref b3), .val (.ref b4), .val .null, .val (.ref bl), .val (.ref bl)] [])) _
    refine XS.aloadN X6.here hx rfl (hb hby d_own_rmChC2_64) rfl rfl ?_
    show Steps p.tables e below (T6.setTop (mkF m 65 #[.val (.ref b0), .val (.long q1), .second, .val (.long q2), .second, .val (.ref b3), .val (.ref b4), .val .null, .val (.ref bl), .val (.ref bl)] [(.ref b0)])) _
    refine st7 _ ?_
    show Steps p.tables e below (T7.setTop (mkF m 68 #[.val (.ref b0), .val (.long q1), .second, .val (.long q2), .second, .val (.ref b3), .val (.ref b4), .val .null, .val (.ref bl), .val (.ref bl)] [(.int (3 : Int32))])) _
    refine XS.iconst X7.here hx rfl (hb hby d_own_rmChC2_68) ?_
    show Steps p.tables e below (T7.setTop (mkF m 69 #[.val (.ref b0), .val (.long q1), .second, .val (.long q2), .second, .val (.ref b3), .val (.ref b4), .val .null, .val (.ref bl), .val (.ref bl)] [(.int (2 : Int32)), (.int (3 : Int32))])) _
    refine XS.aloadN X7.here hx rfl (hb hby d_own_rmChC2_69) rfl rfl ?_
    show Steps p.tables e below (T7.setTop (mkF m 70 #[.val (.ref b0), .val (.long q1), .second, .val (.long q2), .second, .val (.ref b3), .val (.ref b4), .val .null, .val (.ref bl), .val (.ref bl)] [(.ref b0), (.int (2 : Int32)), (.int (3 : Int32))])) _
    refine st8 _ ?_
    show Steps p.tables e below (T8.setTop (mkF m 73 #[.val (.ref b0), .val (.long q1), .second, .val (.long q2), .second, .val (.ref b3), .val (.ref b4), .val .null, .val (.ref bl), .val (.ref bl)] [(.int (1 : Int32)), (.int (2 : Int32)), (.int (3 : Int32))])) _
    refine XS.imul X8.here hx rfl (hb hby d_own_rmChC2_73) rfl ?_
    show Steps p.tables e below (T8.setTop (mkF m 74 #[.val (.ref b0), .val (.long q1), .second, .val (.long q2), .second, .val (.ref b3), .val (.ref b4), .val .null, .val (.ref bl), .val (.ref bl)] [(.int (2 : Int32)), (.int (3 : Int32))])) _
    refine XS.iconst X8.here hx rfl (hb hby d_own_rmChC2_74) ?_
    show Steps p.tables e below (T8.setTop (mkF m 75 #[.val (.ref b0), .val (.long q1), .second, .val (.long q2), .second, .val (.ref b3), .val (.ref b4), .val .null, .val (.ref bl), .val (.ref bl)] [(.int (1 : Int32)), (.int (2 : Int32)), (.int (3 : Int32))])) _
    refine XS.iadd X8.here hx rfl (hb hby d_own_rmChC2_75) rfl ?_
    show Steps p.tables e below (T8.setTop (mkF m 76 #[.val (.ref b0), .val (.long q1), .second, .val (.long q2), .second, .val (.ref b3), .val (.ref b4), .val .null, .val (.ref bl), .val (.ref bl)] [(.int (3 : Int32)), (.int (3 : Int32))])) _
    refine XS.icmpYes X8.here hx rfl (pc0 := 76) (pc' := 90) rfl (hb hby d_own_rmChC2_76) rfl (flt ((by decide) : ¬ ((3 : Int32) < (3 : Int32)))).2.2.2 (by decide) (by decide) ?_
    show Steps p.tables e below (T8.setTop (mkF m 90 #[.val (.ref b0), .val (.long q1), .second, .val (.long q2), .second, .val (.ref b3), .val (.ref b4), .val .null, .val (.ref bl), .val (.ref bl)] [])) _
    exact X8.returnOut hx Bd.returns (hb hby d_own_rmChC2_90) hr
  · show own_QP Z b0 (3 : Int32) q1 q2 b3 b4 (.ref bl) h0 n0 _ T8.heap _
    rw [e8]
    exact ⟨rfl, N6, K6, b2, (Ne.symm ne_b0_b2), sz_b2, F_b0_latest_6, F_b0_kept_6, F_b0_keptAfterLettingGo_6, E_b2_6, F_b2_commit_6, F_b2_balance_6, F_b2_reserve_6, F_b2_chain_6, F_b2_earlier_6⟩
theorem d_own_rmPC2_0 : decode prog_1_method_9_code 0 = .ok (.aload_n 0, 1) := by decide +kernel
theorem d_own_rmPC2_1 : decode prog_1_method_9_code 1 = .ok (.getfield 50, 3) := by decide +kernel
theorem d_own_rmPC2_4 : decode prog_1_method_9_code 4 = .ok (.astore 9, 2) := by decide +kernel
theorem d_own_rmPC2_6 : decode prog_1_method_9_code 6 = .ok (.aload 9, 2) := by decide +kernel
theorem d_own_rmPC2_8 : decode prog_1_method_9_code 8 = .ok (.getfield 97, 3) := by decide +kernel
theorem d_own_rmPC2_11 : decode prog_1_method_9_code 11 = .ok (.invokevirtual 100, 3) := by decide +kernel
theorem d_own_rmPC2_14 : decode prog_1_method_9_code 14 = .ok (.lload 5, 2) := by decide +kernel
theorem d_own_rmPC2_16 : decode prog_1_method_9_code 16 = .ok (.lcmp, 1) := by decide +kernel
theorem d_own_rmPC2_17 : decode prog_1_method_9_code 17 = .ok (.ifCond .ne 13, 3) := by decide +kernel
theorem d_own_rmPC2_20 : decode prog_1_method_9_code 20 = .ok (.aload 9, 2) := by decide +kernel
theorem d_own_rmPC2_22 : decode prog_1_method_9_code 22 = .ok (.getfield 97, 3) := by decide +kernel
theorem d_own_rmPC2_25 : decode prog_1_method_9_code 25 = .ok (.astore 10, 2) := by decide +kernel
theorem d_own_rmPC2_27 : decode prog_1_method_9_code 27 = .ok (.goto 28, 3) := by decide +kernel
theorem d_own_rmPC2_55 : decode prog_1_method_9_code 55 = .ok (.aload_n 0, 1) := by decide +kernel
theorem d_own_rmPC2_56 : decode prog_1_method_9_code 56 = .ok (.lload_n 1, 1) := by decide +kernel
theorem d_own_rmPC2_57 : decode prog_1_method_9_code 57 = .ok (.lload_n 3, 1) := by decide +kernel
theorem d_own_rmPC2_58 : decode prog_1_method_9_code 58 = .ok (.aload 9, 2) := by decide +kernel
theorem d_own_rmPC2_60 : decode prog_1_method_9_code 60 = .ok (.getfield 111, 3) := by decide +kernel
theorem d_own_rmPC2_63 : decode prog_1_method_9_code 63 = .ok (.aload 10, 2) := by decide +kernel
theorem d_own_rmPC2_65 : decode prog_1_method_9_code 65 = .ok (.aload 8, 2) := by decide +kernel
theorem d_own_rmPC2_67 : decode prog_1_method_9_code 67 = .ok (.invokevirtual 114, 3) := by decide +kernel
theorem d_own_rmPC2_70 : decode prog_1_method_9_code 70 = .ok (.return_, 1) := by decide +kernel
theorem ef_own_rmPC2 (m : MethodId) (x0 : Addr) (x1 : Int64) (x2 : Int64) (x3 : Int64) (x4 : Int32) : entryFrame m #[(.ref x0), (.long x1), (.long x2), (.long x3), (.int x4), .null] 11 = mkF m 0 #[.val (.ref x0), .val (.long x1), .second, .val (.long x2), .second, .val (.long x3), .second, .val (.int x4), .val .null, .unset, .unset] [] := by first | (simp [entryFrame, mkF, argsToLocals, Value.category]; done) | rfl
set_option maxRecDepth 65536 in
set_option maxHeartbeats 40000000 in
theorem own_rmPC2 (l : Launch) (Z : State) (a0 : Array Value) (hw : ∀ d ∈ tables_1, d.before a0 Z = true) (ws : List Jvm.Cond) (b0 : Addr) (q1 : Int64) (q2 : Int64) (q3 : Int64) (p4 : Int32) (bl : Addr) (ql : Int64) (ue : Value) (bR bC : Addr) (h0 : Heap) (n0 : Nat) (Z0 : n0 ≤ h0.size) (E_0 : Exa Z h0 b0 "com/example/tandem_ledger/tandemledger/Account") (F_latest : Fld Z h0 b0 "com/example/tandem_ledger/tandemledger/Account" "latest" "Lcom/example/tandem_ledger/tandemledger/Account$Version;" (.ref bl)) (F_kept : Fld Z h0 b0 "com/example/tandem_ledger/tandemledger/Account" "kept" "I" (.int (2 : Int32))) (F_ka : Fld Z h0 b0 "com/example/tandem_ledger/tandemledger/Account" "keptAfterLettingGo" "I" (.int (1 : Int32))) (F_c : Fld Z h0 bl "com/example/tandem_ledger/tandemledger/Account$Version" "commit" "J" (.long ql)) (F_e : Fld Z h0 bl "com/example/tandem_ledger/tandemledger/Account$Version" "earlier" "Lcom/example/tandem_ledger/tandemledger/Account$Version;" ue) (hlb : bl ≠ b0) (g_0 : n0 ≤ b0) (hcm : ¬ ql = q1) (F_h : Fld Z h0 bl "com/example/tandem_ledger/tandemledger/Account$Version" "chain" "Lcom/example/tandem_ledger/tandemledger/Chain;" (.ref bC)) (F_s : Fld Z h0 bl "com/example/tandem_ledger/tandemledger/Account$Version" "reserve" "Lcom/example/tandem_ledger/tandemledger/Reserve;" (.ref bR)) (E_C : Exa Z h0 bC "com/example/tandem_ledger/tandemledger/Chain") (F_r : Fld Z h0 bC "com/example/tandem_ledger/tandemledger/Chain" "record" "J" (.long (0 : Int64))) (h3 : (0 : Int64) = q3) :
    MetFree l (⟨"com/example/tandem_ledger/tandemledger/Account", "post", "(JJJZLjava/util/function/LongSupplier;)V"⟩ : MethodName) (head1 (Jvm.Cond.code (⟨"com/example/tandem_ledger/tandemledger/Account", "post", "(JJJZLjava/util/function/LongSupplier;)V"⟩ : MethodName) prog_1_method_9_code 11 none :: ws) ({ frames := 3, cells := 1, slots := 5, locals := 54 } : Room)) (fun a U => a = #[(.ref b0), (.long q1), (.long q2), (.long q3), (.int p4), .null] ∧ Z.Warmed39 U.vm ∧ U.heap = h0) (fun _ _ _ _ _ => True) (fun _ U o U' => ∃ v L, o = .returned v ∧ own_QP Z b0 (3 : Int32) q1 q2 bR bC (.ref bl) h0 n0 v U'.heap L ∧ FrameEnd U o U' L ({ frames := 3, cells := 1, slots := 5, locals := 54 } : Room).cells ({ frames := 3, cells := 1, slots := 5, locals := 54 } : Room).slots) := by
  refine MetFree.of_bodySF (plainFor_of_name own_pn1) hisR ?_
  intro p e s m args below meth c s₁ Bd hml0 hP hK
  obtain ⟨rfl, hZ, hh⟩ := hP
  have hx := Bd.exec
  have hby := Bd.bytes
  have hml : c.maxLocals = 11 := hml0
  have hown : s.vm.findClass "com/example/tandem_ledger/tandemledger/Account" = some m.cls := findClass_of_methodNamed Bd.named
  have hnm := (name_of_methodNamed Bd.named Bd.method).1
  have X0 : Stand p l e ({ frames := 3, cells := 1, slots := 5, locals := 54 } : Room) s m #[(.ref b0), (.long q1), (.long q2), (.long q3), (.int p4), .null] below meth c s₁ [] 0 0 := Stand.of_body Bd
  have e0 : s₁.heap = h0 := by rw [← hh, Bd.state]; rfl
  have N0 := Fr.nil n0
  refine own_go (b := s₁.setTop (mkF m 0 #[.val (.ref b0), .val (.long q1), .second, .val (.long q2), .second, .val (.long q3), .second, .val (.int p4), .val .null, .unset, .unset] [])) (fun t k => castTop (ef_own_rmPC2 m b0 q1 q2 q3 p4) k) ?_
  obtain ⟨T1, X1, e1, st1⟩ := getF X0 hx hZ hown (host := "") (Or.inl (hw _ (List.mem_of_getElem? (i := 60) rfl))) Via.refl e0 F_latest (g := (mkF m 1 #[.val (.ref b0), .val (.long q1), .second, .val (.long q2), .second, .val (.long q3), .second, .val (.int p4), .val .null, .unset, .unset] [(.ref b0)])) rfl rfl (hb hby d_own_rmPC2_1)
  obtain ⟨cq2, kq2, q2a, q2b, q2c⟩ := isOf hZ e1 E_C
  obtain ⟨_, _, ⟨T2, L2, k2, n2⟩, -, X2, ⟨Lc2, hQ2, l2, y2, z2⟩, st2⟩ := X1.virtualBack hx (y := (⟨"com/example/tandem_ledger/tandemledger/Chain", "record", "()J"⟩ : MethodName)) (z := (⟨"com/example/tandem_ledger/tandemledger/Chain", "record", "()J"⟩ : MethodName)) hown (mvT hZ (hw _ (List.mem_of_getElem? (i := 68) rfl))) (mvT hZ (hw _ (List.mem_of_getElem? (i := 69) rfl))) (notFace_of_selects (args := #[]) (mvT hZ (hw _ (List.mem_of_getElem? (i := 71) rfl)))) (mvT hZ (hw _ (List.mem_of_getElem? (i := 71) rfl))) (mvT hZ (hw _ (List.mem_of_getElem? (i := 70) rfl))) (by decide) (backOf (W := 0) (own_rmRec l Z a0 hw [] bC (0 : Int64) h0 n0 Z0 F_r) hZ (hw _ (List.mem_of_getElem? (i := 72) rfl)) (hw _ (List.mem_of_getElem? (i := 23) rfl)) (by decide) (by decide)) q2a q2c (g := (mkF m 11 #[.val (.ref b0), .val (.long q1), .second, .val (.long q2), .second, .val (.long q3), .second, .val (.int p4), .val .null, .val (.ref bl), .unset] [(.ref bC)])) rfl (by rw [hml]; rfl) (Steps.refl _) (argsL := []) (rest := []) (lenOf own_pd2 rfl) rfl (by show 2 * 0 + _ ≤ _; exact Nat.le_of_eq rfl) (hb hby d_own_rmPC2_11) (fun _ _ => ⟨rfl, e1, (by decide : 0 + 0 ≤ _), (by decide : 0 + 0 ≤ _)⟩)
  dsimp only [Pt.U, Pt.locs, Pt.cells, Pt.slots] at X2 l2 y2 z2 st2 hQ2
  subst l2 y2 z2
  obtain ⟨rfl, N2q, e2⟩ := hQ2
  have N2 := Fr.app N0 N2q
  obtain ⟨cq3, qc3, qc3'⟩ := E_0.cell
  obtain ⟨_, _, ⟨T3, L3, k3, n3⟩, -, X3, ⟨Lc3, hQ3, l3, y3, z3⟩, st3⟩ := X2.privateBack hx (y := (⟨"com/example/tandem_ledger/tandemledger/Account", "change", "(JJLcom/example/tandem_ledger/tandemledger/Reserve;Lcom/example/tandem_ledger/tandemledger/Chain;Ljava/util/function/LongSupplier;)V"⟩ : MethodName)) hown (mvT hZ (hw _ (List.mem_of_getElem? (i := 76) rfl))) (mvT hZ (hw _ (List.mem_of_getElem? (i := 77) rfl))) (own_selPriv (z := (⟨"com/example/tandem_ledger/tandemledger/Account", "post", "(JJJZLjava/util/function/LongSupplier;)V"⟩ : MethodName)) rfl (mvT hZ (hw _ (List.mem_of_getElem? (i := 77) rfl))) (Cond.privateMethod_at (mvP hZ (hw _ (List.mem_of_getElem? (i := 78) rfl)) (args := #[]))) (mvT hZ (hw _ (List.mem_of_getElem? (i := 65) rfl))) (by decide)) (Cond.privateMethod_at (mvP hZ (hw _ (List.mem_of_getElem? (i := 78) rfl)) (args := #[]))) (mvT hZ (hw _ (List.mem_of_getElem? (i := 79) rfl))) (by decide) (backOf (W := 0) (own_rmChC2 l Z a0 hw [] b0 q1 q2 bR bC bl ql ue h0 n0 Z0 E_0 F_latest F_kept F_ka F_c F_e hlb g_0 hcm) hZ (hw _ (List.mem_of_getElem? (i := 79) rfl)) (hw _ (List.mem_of_getElem? (i := 7) rfl)) (by decide) (by decide)) (g := (mkF m 67 #[.val (.ref b0), .val (.long q1), .second, .val (.long q2), .second, .val (.long q3), .second, .val (.int p4), .val .null, .val (.ref bl), .val (.ref bC)] [.null, (.ref bC), (.ref bR), (.long q2), (.long q1), (.ref b0)])) rfl (by rw [hml]; rfl) (Steps.refl _) (a := b0) (by rw [e2]; exact qc3) qc3' (argsL := [(.long q1), (.long q2), (.ref bR), (.ref bC), .null]) (rest := []) (lenOf own_pd3 rfl) rfl (by show 2 * 0 + _ ≤ _; exact Nat.le_of_eq rfl) (hb hby d_own_rmPC2_67) (fun _ _ => ⟨rfl, e2, (by decide : 0 + 1 ≤ _), (by decide : 0 + 5 ≤ _)⟩)
  dsimp only [Pt.U, Pt.locs, Pt.cells, Pt.slots] at X3 l3 y3 z3 st3 hQ3
  subst l3 y3 z3
  obtain ⟨hv3, N3q, rest3⟩ := hQ3
  cases hv3
  have N3 := Fr.app N2 N3q
  obtain ⟨fs, hr, hrun, hended, hW, hsame⟩ := X3.leave (v := none) (fun _ => rfl)
  refine ⟨_, _, ?_, hrun, hended, _, _, rfl, ?_, ⟨_, rfl⟩, hW, hsame.mono (by decide) (by decide)⟩
  · show Steps p.tables e below (s₁.setTop (mkF m 0 #[.val (.ref b0), .val (.long q1), .second, .val (.long q2), .second, .val (.long q3), .second, .val (.int p4), .val .null, .unset, .unset] [])) _
    refine XS.aloadN X0.here hx rfl (hb hby d_own_rmPC2_0) rfl rfl ?_
    show Steps p.tables e below (s₁.setTop (mkF m 1 #[.val (.ref b0), .val (.long q1), .second, .val (.long q2), .second, .val (.long q3), .second, .val (.int p4), .val .null, .unset, .unset] [(.ref b0)])) _
    refine st1 _ ?_
    show Steps p.tables e below (T1.setTop (mkF m 4 #[.val (.ref b0), .val (.long q1), .second, .val (.long q2), .second, .val (.long q3), .second, .val (.int p4), .val .null, .unset, .unset] [(.ref bl)])) _
    refine XS.astore X1.here hx rfl (hb hby d_own_rmPC2_4) rfl rfl (l' := #[.val (.ref b0), .val (.long q1), .second, .val (.long q2), .second, .val (.long q3), .second, .val (.int p4), .val .null, .val (.ref bl), .unset]) rfl ?_
    show Steps p.tables e below (T1.setTop (mkF m 6 #[.val (.ref b0), .val (.long q1), .second, .val (.long q2), .second, .val (.long q3), .second, .val (.int p4), .val .null, .val (.ref bl), .unset] [])) _
    refine XS.aload X1.here hx rfl (hb hby d_own_rmPC2_6) rfl rfl ?_
    show Steps p.tables e below (T1.setTop (mkF m 8 #[.val (.ref b0), .val (.long q1), .second, .val (.long q2), .second, .val (.long q3), .second, .val (.int p4), .val .null, .val (.ref bl), .unset] [(.ref bl)])) _
    refine own_getRef X1 hx hZ hown (hw _ (List.mem_of_getElem? (i := 67) rfl)) e1 F_h (g := (mkF m 8 #[.val (.ref b0), .val (.long q1), .second, .val (.long q2), .second, .val (.long q3), .second, .val (.int p4), .val .null, .val (.ref bl), .unset] [(.ref bl)])) rfl rfl (hb hby d_own_rmPC2_8) _ ?_
    show Steps p.tables e below (T1.setTop (mkF m 11 #[.val (.ref b0), .val (.long q1), .second, .val (.long q2), .second, .val (.long q3), .second, .val (.int p4), .val .null, .val (.ref bl), .unset] [(.ref bC)])) _
    refine st2.trans ?_
    show Steps p.tables e below (T2.setTop (mkF m 14 #[.val (.ref b0), .val (.long q1), .second, .val (.long q2), .second, .val (.long q3), .second, .val (.int p4), .val .null, .val (.ref bl), .unset] [(.long (0 : Int64))])) _
    refine XS.lload X2.here hx rfl (hb hby d_own_rmPC2_14) rfl ?_
    show Steps p.tables e below (T2.setTop (mkF m 16 #[.val (.ref b0), .val (.long q1), .second, .val (.long q2), .second, .val (.long q3), .second, .val (.int p4), .val .null, .val (.ref bl), .unset] [(.long q3), (.long (0 : Int64))])) _
    refine XS.lcmp X2.here hx rfl (hb hby d_own_rmPC2_16) rfl ?_
    show Steps p.tables e below (T2.setTop (mkF m 17 #[.val (.ref b0), .val (.long q1), .second, .val (.long q2), .second, .val (.long q3), .second, .val (.int p4), .val .null, .val (.ref bl), .unset] [(.int (lcmpW (0 : Int64) q3))])) _
    refine XS.ifNo X2.here hx rfl (hb hby d_own_rmPC2_17) rfl ((if0 _ _).trans (teq ((lw_eq _ _).mpr (h3 : (0 : Int64) = q3))).2) ?_
    show Steps p.tables e below (T2.setTop (mkF m 20 #[.val (.ref b0), .val (.long q1), .second, .val (.long q2), .second, .val (.long q3), .second, .val (.int p4), .val .null, .val (.ref bl), .unset] [])) _
    refine XS.aload X2.here hx rfl (hb hby d_own_rmPC2_20) rfl rfl ?_
    show Steps p.tables e below (T2.setTop (mkF m 22 #[.val (.ref b0), .val (.long q1), .second, .val (.long q2), .second, .val (.long q3), .second, .val (.int p4), .val .null, .val (.ref bl), .unset] [(.ref bl)])) _
    refine own_getRef X2 hx hZ hown (hw _ (List.mem_of_getElem? (i := 67) rfl)) e2 F_h (g := (mkF m 22 #[.val (.ref b0), .val (.long q1), .second, .val (.long q2), .second, .val (.long q3), .second, .val (.int p4), .val .null, .val (.ref bl), .unset] [(.ref bl)])) rfl rfl (hb hby d_own_rmPC2_22) _ ?_
    show Steps p.tables e below (T2.setTop (mkF m 25 #[.val (.ref b0), .val (.long q1), .second, .val (.long q2), .second, .val (.long q3), .second, .val (.int p4), .val .null, .val (.ref bl), .unset] [(.ref bC)])) _
    refine XS.astore X2.here hx rfl (hb hby d_own_rmPC2_25) rfl rfl (l' := #[.val (.ref b0), .val (.long q1), .second, .val (.long q2), .second, .val (.long q3), .second, .val (.int p4), .val .null, .val (.ref bl), .val (.ref bC)]) rfl ?_
    show Steps p.tables e below (T2.setTop (mkF m 27 #[.val (.ref b0), .val (.long q1), .second, .val (.long q2), .second, .val (.long q3), .second, .val (.int p4), .val .null, .val (.ref bl), .val (.ref bC)] [])) _
    refine XS.goto X2.here hx rfl (pc0 := 27) (pc' := 55) rfl (hb hby d_own_rmPC2_27) (by decide) (by decide) ?_
    show Steps p.tables e below (T2.setTop (mkF m 55 #[.val (.ref b0), .val (.long q1), .second, .val (.long q2), .second, .val (.long q3), .second, .val (.int p4), .val .null, .val (.ref bl), .val (.ref bC)] [])) _
    refine XS.aloadN X2.here hx rfl (hb hby d_own_rmPC2_55) rfl rfl ?_
    show Steps p.tables e below (T2.setTop (mkF m 56 #[.val (.ref b0), .val (.long q1), .second, .val (.long q2), .second, .val (.long q3), .second, .val (.int p4), .val .null, .val (.ref bl), .val (.ref bC)] [(.ref b0)])) _
    refine XS.lloadN X2.here hx rfl (hb hby d_own_rmPC2_56) rfl ?_
    show Steps p.tables e below (T2.setTop (mkF m 57 #[.val (.ref b0), .val (.long q1), .second, .val (.long q2), .second, .val (.long q3), .second, .val (.int p4), .val .null, .val (.ref bl), .val (.ref bC)] [(.long q1), (.ref b0)])) _
    refine XS.lloadN X2.here hx rfl (hb hby d_own_rmPC2_57) rfl ?_
    show Steps p.tables e below (T2.setTop (mkF m 58 #[.val (.ref b0), .val (.long q1), .second, .val (.long q2), .second, .val (.long q3), .second, .val (.int p4), .val .null, .val (.ref bl), .val (.ref bC)] [(.long q2), (.long q1), (.ref b0)])) _
    refine XS.aload X2.here hx rfl (hb hby d_own_rmPC2_58) rfl rfl ?_
    show Steps p.tables e below (T2.setTop (mkF m 60 #[.val (.ref b0), .val (.long q1), .second, .val (.long q2), .second, .val (.long q3), .second, .val (.int p4), .val .null, .val (.ref bl), .val (.ref bC)] [(.ref bl), (.long q2), (.long q1), (.ref b0)])) _
    refine own_getRef X2 hx hZ hown (hw _ (List.mem_of_getElem? (i := 75) rfl)) e2 F_s (g := (mkF m 60 #[.val (.ref b0), .val (.long q1), .second, .val (.long q2), .second, .val (.long q3), .second, .val (.int p4), .val .null, .val (.ref bl), .val (.ref bC)] [(.ref bl), (.long q2), (.long q1), (.ref b0)])) rfl rfl (hb hby d_own_rmPC2_60) _ ?_
    show Steps p.tables e below (T2.setTop (mkF m 63 #[.val (.ref b0), .val (.long q1), .second, .val (.long q2), .second, .val (.long q3), .second, .val (.int p4), .val .null, .val (.ref bl), .val (.ref bC)] [(.ref bR), (.long q2), (.long q1), (.ref b0)])) _
    refine XS.aload X2.here hx rfl (hb hby d_own_rmPC2_63) rfl rfl ?_
    show Steps p.tables e below (T2.setTop (mkF m 65 #[.val (.ref b0), .val (.long q1), .second, .val (.long q2), .second, .val (.long q3), .second, .val (.int p4), .val .null, .val (.ref bl), .val (.ref bC)] [(.ref bC), (.ref bR), (.long q2), (.long q1), (.ref b0)])) _
    refine XS.aload X2.here hx rfl (hb hby d_own_rmPC2_65) rfl rfl ?_
    show Steps p.tables e below (T2.setTop (mkF m 67 #[.val (.ref b0), .val (.long q1), .second, .val (.long q2), .second, .val (.long q3), .second, .val (.int p4), .val .null, .val (.ref bl), .val (.ref bC)] [.null, (.ref bC), (.ref bR), (.long q2), (.long q1), (.ref b0)])) _
    refine st3.trans ?_
    show Steps p.tables e below (T3.setTop (mkF m 70 #[.val (.ref b0), .val (.long q1), .second, .val (.long q2), .second, .val (.long q3), .second, .val (.int p4), .val .null, .val (.ref bl), .val (.ref bC)] [])) _
    exact X3.returnOut hx Bd.returns (hb hby d_own_rmPC2_70) hr
  · show own_QP Z b0 (3 : Int32) q1 q2 bR bC (.ref bl) h0 n0 _ T3.heap _
    exact ⟨rfl, N3, rest3⟩
theorem d_own_rmAt1_0 : decode prog_1_method_17_code 0 = .ok (.aload_n 0, 1) := by decide +kernel
theorem d_own_rmAt1_1 : decode prog_1_method_17_code 1 = .ok (.getfield 50, 3) := by decide +kernel
theorem d_own_rmAt1_4 : decode prog_1_method_17_code 4 = .ok (.astore_n 3, 1) := by decide +kernel
theorem d_own_rmAt1_5 : decode prog_1_method_17_code 5 = .ok (.aload_n 3, 1) := by decide +kernel
theorem d_own_rmAt1_6 : decode prog_1_method_17_code 6 = .ok (.ifnull 20, 3) := by decide +kernel
theorem d_own_rmAt1_9 : decode prog_1_method_17_code 9 = .ok (.aload_n 3, 1) := by decide +kernel
theorem d_own_rmAt1_10 : decode prog_1_method_17_code 10 = .ok (.getfield 121, 3) := by decide +kernel
theorem d_own_rmAt1_13 : decode prog_1_method_17_code 13 = .ok (.lload_n 1, 1) := by decide +kernel
theorem d_own_rmAt1_14 : decode prog_1_method_17_code 14 = .ok (.lcmp, 1) := by decide +kernel
theorem d_own_rmAt1_15 : decode prog_1_method_17_code 15 = .ok (.ifCond .le 11, 3) := by decide +kernel
theorem d_own_rmAt1_26 : decode prog_1_method_17_code 26 = .ok (.aload_n 3, 1) := by decide +kernel
theorem d_own_rmAt1_27 : decode prog_1_method_17_code 27 = .ok (.areturn, 1) := by decide +kernel
theorem ef_own_rmAt1 (m : MethodId) (x0 : Addr) (x1 : Int64) : entryFrame m #[(.ref x0), (.long x1)] 4 = mkF m 0 #[.val (.ref x0), .val (.long x1), .second, .unset] [] := by first | (simp [entryFrame, mkF, argsToLocals, Value.category]; done) | rfl
set_option maxRecDepth 65536 in
set_option maxHeartbeats 40000000 in
theorem own_rmAt1 (l : Launch) (Z : State) (a0 : Array Value) (hw : ∀ d ∈ tables_1, d.before a0 Z = true) (ws : List Jvm.Cond) (b0 : Addr) (q1 : Int64) (bx1 : Addr) (qx1 : Int64) (h0 : Heap) (n0 : Nat) (Z0 : n0 ≤ h0.size) (F_l : Fld Z h0 b0 "com/example/tandem_ledger/tandemledger/Account" "latest" "Lcom/example/tandem_ledger/tandemledger/Account$Version;" (.ref bx1)) (F_c1 : Fld Z h0 bx1 "com/example/tandem_ledger/tandemledger/Account$Version" "commit" "J" (.long qx1)) (hq1 : ¬ q1 < qx1) :
    MetFree l (⟨"com/example/tandem_ledger/tandemledger/Account", "at", "(J)Lcom/example/tandem_ledger/tandemledger/Account$Version;"⟩ : MethodName) (head1 (Jvm.Cond.code (⟨"com/example/tandem_ledger/tandemledger/Account", "at", "(J)Lcom/example/tandem_ledger/tandemledger/Account$Version;"⟩ : MethodName) prog_1_method_17_code 4 (some (.object "com/example/tandem_ledger/tandemledger/Account$Version")) :: ws) ({ frames := 0, cells := 0, slots := 0, locals := 0 } : Room)) (fun a U => a = #[(.ref b0), (.long q1)] ∧ Z.Warmed39 U.vm ∧ U.heap = h0) (fun _ _ _ _ _ => True) (fun _ U o U' => ∃ v L, o = .returned v ∧ own_QR bx1 h0 n0 v U'.heap L ∧ FrameEnd U o U' L ({ frames := 0, cells := 0, slots := 0, locals := 0 } : Room).cells ({ frames := 0, cells := 0, slots := 0, locals := 0 } : Room).slots) := by
  refine MetFree.of_bodySF (plainFor_of_name own_pn1) hisR ?_
  intro p e s m args below meth c s₁ Bd hml0 hP hK
  obtain ⟨rfl, hZ, hh⟩ := hP
  have hx := Bd.exec
  have hby := Bd.bytes
  have hml : c.maxLocals = 4 := hml0
  have hown : s.vm.findClass "com/example/tandem_ledger/tandemledger/Account" = some m.cls := findClass_of_methodNamed Bd.named
  have hnm := (name_of_methodNamed Bd.named Bd.method).1
  have X0 : Stand p l e ({ frames := 0, cells := 0, slots := 0, locals := 0 } : Room) s m #[(.ref b0), (.long q1)] below meth c s₁ [] 0 0 := Stand.of_body Bd
  have e0 : s₁.heap = h0 := by rw [← hh, Bd.state]; rfl
  have N0 := Fr.nil n0
  refine own_go (b := s₁.setTop (mkF m 0 #[.val (.ref b0), .val (.long q1), .second, .unset] [])) (fun t k => castTop (ef_own_rmAt1 m b0 q1) k) ?_
  obtain ⟨T1, X1, e1, st1⟩ := getF X0 hx hZ hown (host := "") (Or.inl (hw _ (List.mem_of_getElem? (i := 60) rfl))) Via.refl e0 F_l (g := (mkF m 1 #[.val (.ref b0), .val (.long q1), .second, .unset] [(.ref b0)])) rfl rfl (hb hby d_own_rmAt1_1)
  obtain ⟨fs, hr, hrun, hended, hW, hsame⟩ := X1.leave (v := some (.ref bx1)) (fun h => by rw [Bd.returns] at h; cases h)
  refine ⟨_, _, ?_, hrun, hended, _, _, rfl, ?_, ⟨_, rfl⟩, hW, hsame.mono (by decide) (by decide)⟩
  · show Steps p.tables e below (s₁.setTop (mkF m 0 #[.val (.ref b0), .val (.long q1), .second, .unset] [])) _
    refine XS.aloadN X0.here hx rfl (hb hby d_own_rmAt1_0) rfl rfl ?_
    show Steps p.tables e below (s₁.setTop (mkF m 1 #[.val (.ref b0), .val (.long q1), .second, .unset] [(.ref b0)])) _
    refine st1 _ ?_
    show Steps p.tables e below (T1.setTop (mkF m 4 #[.val (.ref b0), .val (.long q1), .second, .unset] [(.ref bx1)])) _
    refine XS.astoreN X1.here hx rfl (hb hby d_own_rmAt1_4) rfl rfl (l' := #[.val (.ref b0), .val (.long q1), .second, .val (.ref bx1)]) rfl ?_
    show Steps p.tables e below (T1.setTop (mkF m 5 #[.val (.ref b0), .val (.long q1), .second, .val (.ref bx1)] [])) _
    refine XS.aloadN X1.here hx rfl (hb hby d_own_rmAt1_5) rfl rfl ?_
    show Steps p.tables e below (T1.setTop (mkF m 6 #[.val (.ref b0), .val (.long q1), .second, .val (.ref bx1)] [(.ref bx1)])) _
    refine XS.ifnullNo X1.here hx rfl (hb hby d_own_rmAt1_6) rfl ?_
    show Steps p.tables e below (T1.setTop (mkF m 9 #[.val (.ref b0), .val (.long q1), .second, .val (.ref bx1)] [])) _
    refine XS.aloadN X1.here hx rfl (hb hby d_own_rmAt1_9) rfl rfl ?_
    show Steps p.tables e below (T1.setTop (mkF m 10 #[.val (.ref b0), .val (.long q1), .second, .val (.ref bx1)] [(.ref bx1)])) _
    refine own_getRef X1 hx hZ hown (hw _ (List.mem_of_getElem? (i := 80) rfl)) e1 F_c1 (g := (mkF m 10 #[.val (.ref b0), .val (.long q1), .second, .val (.ref bx1)] [(.ref bx1)])) rfl rfl (hb hby d_own_rmAt1_10) _ ?_
    show Steps p.tables e below (T1.setTop (mkF m 13 #[.val (.ref b0), .val (.long q1), .second, .val (.ref bx1)] [(.long qx1)])) _
    refine XS.lloadN X1.here hx rfl (hb hby d_own_rmAt1_13) rfl ?_
    show Steps p.tables e below (T1.setTop (mkF m 14 #[.val (.ref b0), .val (.long q1), .second, .val (.ref bx1)] [(.long q1), (.long qx1)])) _
    refine XS.lcmp X1.here hx rfl (hb hby d_own_rmAt1_14) rfl ?_
    show Steps p.tables e below (T1.setTop (mkF m 15 #[.val (.ref b0), .val (.long q1), .second, .val (.ref bx1)] [(.int (lcmpW qx1 q1))])) _
    refine XS.ifYes X1.here hx rfl (pc0 := 15) (pc' := 26) rfl (hb hby d_own_rmAt1_15) rfl ((if0 _ _).trans (flt (mt (lw_gt _ _).mp (hq1 : ¬ (q1 < qx1)))).2.2.2) (by decide) (by decide) ?_
    show Steps p.tables e below (T1.setTop (mkF m 26 #[.val (.ref b0), .val (.long q1), .second, .val (.ref bx1)] [])) _
    refine XS.aloadN X1.here hx rfl (hb hby d_own_rmAt1_26) rfl rfl ?_
    show Steps p.tables e below (T1.setTop (mkF m 27 #[.val (.ref b0), .val (.long q1), .second, .val (.ref bx1)] [(.ref bx1)])) _
    jvm_step X1.here [X1.here.top, hx, (hb hby d_own_rmAt1_27), X1.method', Bd.returns, Value.isRef, FieldType.isReference]
    first | (intro acts; rw [hr _ acts rfl rfl rfl]) | rw [hr _ _ rfl rfl rfl]
    exact Steps.refl _
  · show own_QR bx1 h0 n0 _ T1.heap _
    rw [e1]
    exact ⟨rfl, N0, rfl⟩
theorem d_own_rmAt2_0 : decode prog_1_method_17_code 0 = .ok (.aload_n 0, 1) := by decide +kernel
theorem d_own_rmAt2_1 : decode prog_1_method_17_code 1 = .ok (.getfield 50, 3) := by decide +kernel
theorem d_own_rmAt2_4 : decode prog_1_method_17_code 4 = .ok (.astore_n 3, 1) := by decide +kernel
theorem d_own_rmAt2_5 : decode prog_1_method_17_code 5 = .ok (.aload_n 3, 1) := by decide +kernel
theorem d_own_rmAt2_6 : decode prog_1_method_17_code 6 = .ok (.ifnull 20, 3) := by decide +kernel
theorem d_own_rmAt2_9 : decode prog_1_method_17_code 9 = .ok (.aload_n 3, 1) := by decide +kernel
theorem d_own_rmAt2_10 : decode prog_1_method_17_code 10 = .ok (.getfield 121, 3) := by decide +kernel
theorem d_own_rmAt2_13 : decode prog_1_method_17_code 13 = .ok (.lload_n 1, 1) := by decide +kernel
theorem d_own_rmAt2_14 : decode prog_1_method_17_code 14 = .ok (.lcmp, 1) := by decide +kernel
theorem d_own_rmAt2_15 : decode prog_1_method_17_code 15 = .ok (.ifCond .le 11, 3) := by decide +kernel
theorem d_own_rmAt2_18 : decode prog_1_method_17_code 18 = .ok (.aload_n 3, 1) := by decide +kernel
theorem d_own_rmAt2_19 : decode prog_1_method_17_code 19 = .ok (.getfield 124, 3) := by decide +kernel
theorem d_own_rmAt2_22 : decode prog_1_method_17_code 22 = .ok (.astore_n 3, 1) := by decide +kernel
theorem d_own_rmAt2_23 : decode prog_1_method_17_code 23 = .ok (.goto (-18), 3) := by decide +kernel
theorem d_own_rmAt2_26 : decode prog_1_method_17_code 26 = .ok (.aload_n 3, 1) := by decide +kernel
theorem d_own_rmAt2_27 : decode prog_1_method_17_code 27 = .ok (.areturn, 1) := by decide +kernel
theorem ef_own_rmAt2 (m : MethodId) (x0 : Addr) (x1 : Int64) : entryFrame m #[(.ref x0), (.long x1)] 4 = mkF m 0 #[.val (.ref x0), .val (.long x1), .second, .unset] [] := by first | (simp [entryFrame, mkF, argsToLocals, Value.category]; done) | rfl
set_option maxRecDepth 65536 in
set_option maxHeartbeats 40000000 in
theorem own_rmAt2 (l : Launch) (Z : State) (a0 : Array Value) (hw : ∀ d ∈ tables_1, d.before a0 Z = true) (ws : List Jvm.Cond) (b0 : Addr) (q1 : Int64) (bx1 bx2 : Addr) (qx1 qx2 : Int64) (h0 : Heap) (n0 : Nat) (Z0 : n0 ≤ h0.size) (F_l : Fld Z h0 b0 "com/example/tandem_ledger/tandemledger/Account" "latest" "Lcom/example/tandem_ledger/tandemledger/Account$Version;" (.ref bx1)) (F_c1 : Fld Z h0 bx1 "com/example/tandem_ledger/tandemledger/Account$Version" "commit" "J" (.long qx1)) (F_e1 : Fld Z h0 bx1 "com/example/tandem_ledger/tandemledger/Account$Version" "earlier" "Lcom/example/tandem_ledger/tandemledger/Account$Version;" (.ref bx2)) (hq1 : q1 < qx1) (F_c2 : Fld Z h0 bx2 "com/example/tandem_ledger/tandemledger/Account$Version" "commit" "J" (.long qx2)) (hq2 : ¬ q1 < qx2) :
    MetFree l (⟨"com/example/tandem_ledger/tandemledger/Account", "at", "(J)Lcom/example/tandem_ledger/tandemledger/Account$Version;"⟩ : MethodName) (head1 (Jvm.Cond.code (⟨"com/example/tandem_ledger/tandemledger/Account", "at", "(J)Lcom/example/tandem_ledger/tandemledger/Account$Version;"⟩ : MethodName) prog_1_method_17_code 4 (some (.object "com/example/tandem_ledger/tandemledger/Account$Version")) :: ws) ({ frames := 0, cells := 0, slots := 0, locals := 0 } : Room)) (fun a U => a = #[(.ref b0), (.long q1)] ∧ Z.Warmed39 U.vm ∧ U.heap = h0) (fun _ _ _ _ _ => True) (fun _ U o U' => ∃ v L, o = .returned v ∧ own_QR bx2 h0 n0 v U'.heap L ∧ FrameEnd U o U' L ({ frames := 0, cells := 0, slots := 0, locals := 0 } : Room).cells ({ frames := 0, cells := 0, slots := 0, locals := 0 } : Room).slots) := by
  refine MetFree.of_bodySF (plainFor_of_name own_pn1) hisR ?_
  intro p e s m args below meth c s₁ Bd hml0 hP hK
  obtain ⟨rfl, hZ, hh⟩ := hP
  have hx := Bd.exec
  have hby := Bd.bytes
  have hml : c.maxLocals = 4 := hml0
  have hown : s.vm.findClass "com/example/tandem_ledger/tandemledger/Account" = some m.cls := findClass_of_methodNamed Bd.named
  have hnm := (name_of_methodNamed Bd.named Bd.method).1
  have X0 : Stand p l e ({ frames := 0, cells := 0, slots := 0, locals := 0 } : Room) s m #[(.ref b0), (.long q1)] below meth c s₁ [] 0 0 := Stand.of_body Bd
  have e0 : s₁.heap = h0 := by rw [← hh, Bd.state]; rfl
  have N0 := Fr.nil n0
  refine own_go (b := s₁.setTop (mkF m 0 #[.val (.ref b0), .val (.long q1), .second, .unset] [])) (fun t k => castTop (ef_own_rmAt2 m b0 q1) k) ?_
  obtain ⟨T1, X1, e1, st1⟩ := getF X0 hx hZ hown (host := "") (Or.inl (hw _ (List.mem_of_getElem? (i := 60) rfl))) Via.refl e0 F_l (g := (mkF m 1 #[.val (.ref b0), .val (.long q1), .second, .unset] [(.ref b0)])) rfl rfl (hb hby d_own_rmAt2_1)
  obtain ⟨fs, hr, hrun, hended, hW, hsame⟩ := X1.leave (v := some (.ref bx2)) (fun h => by rw [Bd.returns] at h; cases h)
  refine ⟨_, _, ?_, hrun, hended, _, _, rfl, ?_, ⟨_, rfl⟩, hW, hsame.mono (by decide) (by decide)⟩
  · show Steps p.tables e below (s₁.setTop (mkF m 0 #[.val (.ref b0), .val (.long q1), .second, .unset] [])) _
    refine XS.aloadN X0.here hx rfl (hb hby d_own_rmAt2_0) rfl rfl ?_
    show Steps p.tables e below (s₁.setTop (mkF m 1 #[.val (.ref b0), .val (.long q1), .second, .unset] [(.ref b0)])) _
    refine st1 _ ?_
    show Steps p.tables e below (T1.setTop (mkF m 4 #[.val (.ref b0), .val (.long q1), .second, .unset] [(.ref bx1)])) _
    refine XS.astoreN X1.here hx rfl (hb hby d_own_rmAt2_4) rfl rfl (l' := #[.val (.ref b0), .val (.long q1), .second, .val (.ref bx1)]) rfl ?_
    show Steps p.tables e below (T1.setTop (mkF m 5 #[.val (.ref b0), .val (.long q1), .second, .val (.ref bx1)] [])) _
    refine XS.aloadN X1.here hx rfl (hb hby d_own_rmAt2_5) rfl rfl ?_
    show Steps p.tables e below (T1.setTop (mkF m 6 #[.val (.ref b0), .val (.long q1), .second, .val (.ref bx1)] [(.ref bx1)])) _
    refine XS.ifnullNo X1.here hx rfl (hb hby d_own_rmAt2_6) rfl ?_
    show Steps p.tables e below (T1.setTop (mkF m 9 #[.val (.ref b0), .val (.long q1), .second, .val (.ref bx1)] [])) _
    refine XS.aloadN X1.here hx rfl (hb hby d_own_rmAt2_9) rfl rfl ?_
    show Steps p.tables e below (T1.setTop (mkF m 10 #[.val (.ref b0), .val (.long q1), .second, .val (.ref bx1)] [(.ref bx1)])) _
    refine own_getRef X1 hx hZ hown (hw _ (List.mem_of_getElem? (i := 80) rfl)) e1 F_c1 (g := (mkF m 10 #[.val (.ref b0), .val (.long q1), .second, .val (.ref bx1)] [(.ref bx1)])) rfl rfl (hb hby d_own_rmAt2_10) _ ?_
    show Steps p.tables e below (T1.setTop (mkF m 13 #[.val (.ref b0), .val (.long q1), .second, .val (.ref bx1)] [(.long qx1)])) _
    refine XS.lloadN X1.here hx rfl (hb hby d_own_rmAt2_13) rfl ?_
    show Steps p.tables e below (T1.setTop (mkF m 14 #[.val (.ref b0), .val (.long q1), .second, .val (.ref bx1)] [(.long q1), (.long qx1)])) _
    refine XS.lcmp X1.here hx rfl (hb hby d_own_rmAt2_14) rfl ?_
    show Steps p.tables e below (T1.setTop (mkF m 15 #[.val (.ref b0), .val (.long q1), .second, .val (.ref bx1)] [(.int (lcmpW qx1 q1))])) _
    refine XS.ifNo X1.here hx rfl (hb hby d_own_rmAt2_15) rfl ((if0 _ _).trans (tlt ((lw_gt _ _).mpr (hq1 : q1 < qx1))).2.2.2) ?_
    show Steps p.tables e below (T1.setTop (mkF m 18 #[.val (.ref b0), .val (.long q1), .second, .val (.ref bx1)] [])) _
    refine XS.aloadN X1.here hx rfl (hb hby d_own_rmAt2_18) rfl rfl ?_
    show Steps p.tables e below (T1.setTop (mkF m 19 #[.val (.ref b0), .val (.long q1), .second, .val (.ref bx1)] [(.ref bx1)])) _
    refine own_getRef X1 hx hZ hown (hw _ (List.mem_of_getElem? (i := 81) rfl)) e1 F_e1 (g := (mkF m 19 #[.val (.ref b0), .val (.long q1), .second, .val (.ref bx1)] [(.ref bx1)])) rfl rfl (hb hby d_own_rmAt2_19) _ ?_
    show Steps p.tables e below (T1.setTop (mkF m 22 #[.val (.ref b0), .val (.long q1), .second, .val (.ref bx1)] [(.ref bx2)])) _
    refine XS.astoreN X1.here hx rfl (hb hby d_own_rmAt2_22) rfl rfl (l' := #[.val (.ref b0), .val (.long q1), .second, .val (.ref bx2)]) rfl ?_
    show Steps p.tables e below (T1.setTop (mkF m 23 #[.val (.ref b0), .val (.long q1), .second, .val (.ref bx2)] [])) _
    refine XS.goto X1.here hx rfl (pc0 := 23) (pc' := 5) rfl (hb hby d_own_rmAt2_23) (by decide) (by decide) ?_
    show Steps p.tables e below (T1.setTop (mkF m 5 #[.val (.ref b0), .val (.long q1), .second, .val (.ref bx2)] [])) _
    refine XS.aloadN X1.here hx rfl (hb hby d_own_rmAt2_5) rfl rfl ?_
    show Steps p.tables e below (T1.setTop (mkF m 6 #[.val (.ref b0), .val (.long q1), .second, .val (.ref bx2)] [(.ref bx2)])) _
    refine XS.ifnullNo X1.here hx rfl (hb hby d_own_rmAt2_6) rfl ?_
    show Steps p.tables e below (T1.setTop (mkF m 9 #[.val (.ref b0), .val (.long q1), .second, .val (.ref bx2)] [])) _
    refine XS.aloadN X1.here hx rfl (hb hby d_own_rmAt2_9) rfl rfl ?_
    show Steps p.tables e below (T1.setTop (mkF m 10 #[.val (.ref b0), .val (.long q1), .second, .val (.ref bx2)] [(.ref bx2)])) _
    refine own_getRef X1 hx hZ hown (hw _ (List.mem_of_getElem? (i := 80) rfl)) e1 F_c2 (g := (mkF m 10 #[.val (.ref b0), .val (.long q1), .second, .val (.ref bx2)] [(.ref bx2)])) rfl rfl (hb hby d_own_rmAt2_10) _ ?_
    show Steps p.tables e below (T1.setTop (mkF m 13 #[.val (.ref b0), .val (.long q1), .second, .val (.ref bx2)] [(.long qx2)])) _
    refine XS.lloadN X1.here hx rfl (hb hby d_own_rmAt2_13) rfl ?_
    show Steps p.tables e below (T1.setTop (mkF m 14 #[.val (.ref b0), .val (.long q1), .second, .val (.ref bx2)] [(.long q1), (.long qx2)])) _
    refine XS.lcmp X1.here hx rfl (hb hby d_own_rmAt2_14) rfl ?_
    show Steps p.tables e below (T1.setTop (mkF m 15 #[.val (.ref b0), .val (.long q1), .second, .val (.ref bx2)] [(.int (lcmpW qx2 q1))])) _
    refine XS.ifYes X1.here hx rfl (pc0 := 15) (pc' := 26) rfl (hb hby d_own_rmAt2_15) rfl ((if0 _ _).trans (flt (mt (lw_gt _ _).mp (hq2 : ¬ (q1 < qx2)))).2.2.2) (by decide) (by decide) ?_
    show Steps p.tables e below (T1.setTop (mkF m 26 #[.val (.ref b0), .val (.long q1), .second, .val (.ref bx2)] [])) _
    refine XS.aloadN X1.here hx rfl (hb hby d_own_rmAt2_26) rfl rfl ?_
    show Steps p.tables e below (T1.setTop (mkF m 27 #[.val (.ref b0), .val (.long q1), .second, .val (.ref bx2)] [(.ref bx2)])) _
    jvm_step X1.here [X1.here.top, hx, (hb hby d_own_rmAt2_27), X1.method', Bd.returns, Value.isRef, FieldType.isReference]
    first | (intro acts; rw [hr _ acts rfl rfl rfl]) | rw [hr _ _ rfl rfl rfl]
    exact Steps.refl _
  · show own_QR bx2 h0 n0 _ T1.heap _
    rw [e1]
    exact ⟨rfl, N0, rfl⟩
theorem d_own_rmAt3_0 : decode prog_1_method_17_code 0 = .ok (.aload_n 0, 1) := by decide +kernel
theorem d_own_rmAt3_1 : decode prog_1_method_17_code 1 = .ok (.getfield 50, 3) := by decide +kernel
theorem d_own_rmAt3_4 : decode prog_1_method_17_code 4 = .ok (.astore_n 3, 1) := by decide +kernel
theorem d_own_rmAt3_5 : decode prog_1_method_17_code 5 = .ok (.aload_n 3, 1) := by decide +kernel
theorem d_own_rmAt3_6 : decode prog_1_method_17_code 6 = .ok (.ifnull 20, 3) := by decide +kernel
theorem d_own_rmAt3_9 : decode prog_1_method_17_code 9 = .ok (.aload_n 3, 1) := by decide +kernel
theorem d_own_rmAt3_10 : decode prog_1_method_17_code 10 = .ok (.getfield 121, 3) := by decide +kernel
theorem d_own_rmAt3_13 : decode prog_1_method_17_code 13 = .ok (.lload_n 1, 1) := by decide +kernel
theorem d_own_rmAt3_14 : decode prog_1_method_17_code 14 = .ok (.lcmp, 1) := by decide +kernel
theorem d_own_rmAt3_15 : decode prog_1_method_17_code 15 = .ok (.ifCond .le 11, 3) := by decide +kernel
theorem d_own_rmAt3_18 : decode prog_1_method_17_code 18 = .ok (.aload_n 3, 1) := by decide +kernel
theorem d_own_rmAt3_19 : decode prog_1_method_17_code 19 = .ok (.getfield 124, 3) := by decide +kernel
theorem d_own_rmAt3_22 : decode prog_1_method_17_code 22 = .ok (.astore_n 3, 1) := by decide +kernel
theorem d_own_rmAt3_23 : decode prog_1_method_17_code 23 = .ok (.goto (-18), 3) := by decide +kernel
theorem d_own_rmAt3_26 : decode prog_1_method_17_code 26 = .ok (.aload_n 3, 1) := by decide +kernel
theorem d_own_rmAt3_27 : decode prog_1_method_17_code 27 = .ok (.areturn, 1) := by decide +kernel
theorem ef_own_rmAt3 (m : MethodId) (x0 : Addr) (x1 : Int64) : entryFrame m #[(.ref x0), (.long x1)] 4 = mkF m 0 #[.val (.ref x0), .val (.long x1), .second, .unset] [] := by first | (simp [entryFrame, mkF, argsToLocals, Value.category]; done) | rfl
set_option maxRecDepth 65536 in
set_option maxHeartbeats 40000000 in
theorem own_rmAt3 (l : Launch) (Z : State) (a0 : Array Value) (hw : ∀ d ∈ tables_1, d.before a0 Z = true) (ws : List Jvm.Cond) (b0 : Addr) (q1 : Int64) (bx1 bx2 bx3 : Addr) (qx1 qx2 qx3 : Int64) (h0 : Heap) (n0 : Nat) (Z0 : n0 ≤ h0.size) (F_l : Fld Z h0 b0 "com/example/tandem_ledger/tandemledger/Account" "latest" "Lcom/example/tandem_ledger/tandemledger/Account$Version;" (.ref bx1)) (F_c1 : Fld Z h0 bx1 "com/example/tandem_ledger/tandemledger/Account$Version" "commit" "J" (.long qx1)) (F_e1 : Fld Z h0 bx1 "com/example/tandem_ledger/tandemledger/Account$Version" "earlier" "Lcom/example/tandem_ledger/tandemledger/Account$Version;" (.ref bx2)) (hq1 : q1 < qx1) (F_c2 : Fld Z h0 bx2 "com/example/tandem_ledger/tandemledger/Account$Version" "commit" "J" (.long qx2)) (F_e2 : Fld Z h0 bx2 "com/example/tandem_ledger/tandemledger/Account$Version" "earlier" "Lcom/example/tandem_ledger/tandemledger/Account$Version;" (.ref bx3)) (hq2 : q1 < qx2) (F_c3 : Fld Z h0 bx3 "com/example/tandem_ledger/tandemledger/Account$Version" "commit" "J" (.long qx3)) (hq3 : ¬ q1 < qx3) :
    MetFree l (⟨"com/example/tandem_ledger/tandemledger/Account", "at", "(J)Lcom/example/tandem_ledger/tandemledger/Account$Version;"⟩ : MethodName) (head1 (Jvm.Cond.code (⟨"com/example/tandem_ledger/tandemledger/Account", "at", "(J)Lcom/example/tandem_ledger/tandemledger/Account$Version;"⟩ : MethodName) prog_1_method_17_code 4 (some (.object "com/example/tandem_ledger/tandemledger/Account$Version")) :: ws) ({ frames := 0, cells := 0, slots := 0, locals := 0 } : Room)) (fun a U => a = #[(.ref b0), (.long q1)] ∧ Z.Warmed39 U.vm ∧ U.heap = h0) (fun _ _ _ _ _ => True) (fun _ U o U' => ∃ v L, o = .returned v ∧ own_QR bx3 h0 n0 v U'.heap L ∧ FrameEnd U o U' L ({ frames := 0, cells := 0, slots := 0, locals := 0 } : Room).cells ({ frames := 0, cells := 0, slots := 0, locals := 0 } : Room).slots) := by
  refine MetFree.of_bodySF (plainFor_of_name own_pn1) hisR ?_
  intro p e s m args below meth c s₁ Bd hml0 hP hK
  obtain ⟨rfl, hZ, hh⟩ := hP
  have hx := Bd.exec
  have hby := Bd.bytes
  have hml : c.maxLocals = 4 := hml0
  have hown : s.vm.findClass "com/example/tandem_ledger/tandemledger/Account" = some m.cls := findClass_of_methodNamed Bd.named
  have hnm := (name_of_methodNamed Bd.named Bd.method).1
  have X0 : Stand p l e ({ frames := 0, cells := 0, slots := 0, locals := 0 } : Room) s m #[(.ref b0), (.long q1)] below meth c s₁ [] 0 0 := Stand.of_body Bd
  have e0 : s₁.heap = h0 := by rw [← hh, Bd.state]; rfl
  have N0 := Fr.nil n0
  refine own_go (b := s₁.setTop (mkF m 0 #[.val (.ref b0), .val (.long q1), .second, .unset] [])) (fun t k => castTop (ef_own_rmAt3 m b0 q1) k) ?_
  obtain ⟨T1, X1, e1, st1⟩ := getF X0 hx hZ hown (host := "") (Or.inl (hw _ (List.mem_of_getElem? (i := 60) rfl))) Via.refl e0 F_l (g := (mkF m 1 #[.val (.ref b0), .val (.long q1), .second, .unset] [(.ref b0)])) rfl rfl (hb hby d_own_rmAt3_1)
  obtain ⟨fs, hr, hrun, hended, hW, hsame⟩ := X1.leave (v := some (.ref bx3)) (fun h => by rw [Bd.returns] at h; cases h)
  refine ⟨_, _, ?_, hrun, hended, _, _, rfl, ?_, ⟨_, rfl⟩, hW, hsame.mono (by decide) (by decide)⟩
  · show Steps p.tables e below (s₁.setTop (mkF m 0 #[.val (.ref b0), .val (.long q1), .second, .unset] [])) _
    refine XS.aloadN X0.here hx rfl (hb hby d_own_rmAt3_0) rfl rfl ?_
    show Steps p.tables e below (s₁.setTop (mkF m 1 #[.val (.ref b0), .val (.long q1), .second, .unset] [(.ref b0)])) _
    refine st1 _ ?_
    show Steps p.tables e below (T1.setTop (mkF m 4 #[.val (.ref b0), .val (.long q1), .second, .unset] [(.ref bx1)])) _
    refine XS.astoreN X1.here hx rfl (hb hby d_own_rmAt3_4) rfl rfl (l' := #[.val (.ref b0), .val (.long q1), .second, .val (.ref bx1)]) rfl ?_
    show Steps p.tables e below (T1.setTop (mkF m 5 #[.val (.ref b0), .val (.long q1), .second, .val (.ref bx1)] [])) _
    refine XS.aloadN X1.here hx rfl (hb hby d_own_rmAt3_5) rfl rfl ?_
    show Steps p.tables e below (T1.setTop (mkF m 6 #[.val (.ref b0), .val (.long q1), .second, .val (.ref bx1)] [(.ref bx1)])) _
    refine XS.ifnullNo X1.here hx rfl (hb hby d_own_rmAt3_6) rfl ?_
    show Steps p.tables e below (T1.setTop (mkF m 9 #[.val (.ref b0), .val (.long q1), .second, .val (.ref bx1)] [])) _
    refine XS.aloadN X1.here hx rfl (hb hby d_own_rmAt3_9) rfl rfl ?_
    show Steps p.tables e below (T1.setTop (mkF m 10 #[.val (.ref b0), .val (.long q1), .second, .val (.ref bx1)] [(.ref bx1)])) _
    refine own_getRef X1 hx hZ hown (hw _ (List.mem_of_getElem? (i := 80) rfl)) e1 F_c1 (g := (mkF m 10 #[.val (.ref b0), .val (.long q1), .second, .val (.ref bx1)] [(.ref bx1)])) rfl rfl (hb hby d_own_rmAt3_10) _ ?_
    show Steps p.tables e below (T1.setTop (mkF m 13 #[.val (.ref b0), .val (.long q1), .second, .val (.ref bx1)] [(.long qx1)])) _
    refine XS.lloadN X1.here hx rfl (hb hby d_own_rmAt3_13) rfl ?_
    show Steps p.tables e below (T1.setTop (mkF m 14 #[.val (.ref b0), .val (.long q1), .second, .val (.ref bx1)] [(.long q1), (.long qx1)])) _
    refine XS.lcmp X1.here hx rfl (hb hby d_own_rmAt3_14) rfl ?_
    show Steps p.tables e below (T1.setTop (mkF m 15 #[.val (.ref b0), .val (.long q1), .second, .val (.ref bx1)] [(.int (lcmpW qx1 q1))])) _
    refine XS.ifNo X1.here hx rfl (hb hby d_own_rmAt3_15) rfl ((if0 _ _).trans (tlt ((lw_gt _ _).mpr (hq1 : q1 < qx1))).2.2.2) ?_
    show Steps p.tables e below (T1.setTop (mkF m 18 #[.val (.ref b0), .val (.long q1), .second, .val (.ref bx1)] [])) _
    refine XS.aloadN X1.here hx rfl (hb hby d_own_rmAt3_18) rfl rfl ?_
    show Steps p.tables e below (T1.setTop (mkF m 19 #[.val (.ref b0), .val (.long q1), .second, .val (.ref bx1)] [(.ref bx1)])) _
    refine own_getRef X1 hx hZ hown (hw _ (List.mem_of_getElem? (i := 81) rfl)) e1 F_e1 (g := (mkF m 19 #[.val (.ref b0), .val (.long q1), .second, .val (.ref bx1)] [(.ref bx1)])) rfl rfl (hb hby d_own_rmAt3_19) _ ?_
    show Steps p.tables e below (T1.setTop (mkF m 22 #[.val (.ref b0), .val (.long q1), .second, .val (.ref bx1)] [(.ref bx2)])) _
    refine XS.astoreN X1.here hx rfl (hb hby d_own_rmAt3_22) rfl rfl (l' := #[.val (.ref b0), .val (.long q1), .second, .val (.ref bx2)]) rfl ?_
    show Steps p.tables e below (T1.setTop (mkF m 23 #[.val (.ref b0), .val (.long q1), .second, .val (.ref bx2)] [])) _
    refine XS.goto X1.here hx rfl (pc0 := 23) (pc' := 5) rfl (hb hby d_own_rmAt3_23) (by decide) (by decide) ?_
    show Steps p.tables e below (T1.setTop (mkF m 5 #[.val (.ref b0), .val (.long q1), .second, .val (.ref bx2)] [])) _
    refine XS.aloadN X1.here hx rfl (hb hby d_own_rmAt3_5) rfl rfl ?_
    show Steps p.tables e below (T1.setTop (mkF m 6 #[.val (.ref b0), .val (.long q1), .second, .val (.ref bx2)] [(.ref bx2)])) _
    refine XS.ifnullNo X1.here hx rfl (hb hby d_own_rmAt3_6) rfl ?_
    show Steps p.tables e below (T1.setTop (mkF m 9 #[.val (.ref b0), .val (.long q1), .second, .val (.ref bx2)] [])) _
    refine XS.aloadN X1.here hx rfl (hb hby d_own_rmAt3_9) rfl rfl ?_
    show Steps p.tables e below (T1.setTop (mkF m 10 #[.val (.ref b0), .val (.long q1), .second, .val (.ref bx2)] [(.ref bx2)])) _
    refine own_getRef X1 hx hZ hown (hw _ (List.mem_of_getElem? (i := 80) rfl)) e1 F_c2 (g := (mkF m 10 #[.val (.ref b0), .val (.long q1), .second, .val (.ref bx2)] [(.ref bx2)])) rfl rfl (hb hby d_own_rmAt3_10) _ ?_
    show Steps p.tables e below (T1.setTop (mkF m 13 #[.val (.ref b0), .val (.long q1), .second, .val (.ref bx2)] [(.long qx2)])) _
    refine XS.lloadN X1.here hx rfl (hb hby d_own_rmAt3_13) rfl ?_
    show Steps p.tables e below (T1.setTop (mkF m 14 #[.val (.ref b0), .val (.long q1), .second, .val (.ref bx2)] [(.long q1), (.long qx2)])) _
    refine XS.lcmp X1.here hx rfl (hb hby d_own_rmAt3_14) rfl ?_
    show Steps p.tables e below (T1.setTop (mkF m 15 #[.val (.ref b0), .val (.long q1), .second, .val (.ref bx2)] [(.int (lcmpW qx2 q1))])) _
    refine XS.ifNo X1.here hx rfl (hb hby d_own_rmAt3_15) rfl ((if0 _ _).trans (tlt ((lw_gt _ _).mpr (hq2 : q1 < qx2))).2.2.2) ?_
    show Steps p.tables e below (T1.setTop (mkF m 18 #[.val (.ref b0), .val (.long q1), .second, .val (.ref bx2)] [])) _
    refine XS.aloadN X1.here hx rfl (hb hby d_own_rmAt3_18) rfl rfl ?_
    show Steps p.tables e below (T1.setTop (mkF m 19 #[.val (.ref b0), .val (.long q1), .second, .val (.ref bx2)] [(.ref bx2)])) _
    refine own_getRef X1 hx hZ hown (hw _ (List.mem_of_getElem? (i := 81) rfl)) e1 F_e2 (g := (mkF m 19 #[.val (.ref b0), .val (.long q1), .second, .val (.ref bx2)] [(.ref bx2)])) rfl rfl (hb hby d_own_rmAt3_19) _ ?_
    show Steps p.tables e below (T1.setTop (mkF m 22 #[.val (.ref b0), .val (.long q1), .second, .val (.ref bx2)] [(.ref bx3)])) _
    refine XS.astoreN X1.here hx rfl (hb hby d_own_rmAt3_22) rfl rfl (l' := #[.val (.ref b0), .val (.long q1), .second, .val (.ref bx3)]) rfl ?_
    show Steps p.tables e below (T1.setTop (mkF m 23 #[.val (.ref b0), .val (.long q1), .second, .val (.ref bx3)] [])) _
    refine XS.goto X1.here hx rfl (pc0 := 23) (pc' := 5) rfl (hb hby d_own_rmAt3_23) (by decide) (by decide) ?_
    show Steps p.tables e below (T1.setTop (mkF m 5 #[.val (.ref b0), .val (.long q1), .second, .val (.ref bx3)] [])) _
    refine XS.aloadN X1.here hx rfl (hb hby d_own_rmAt3_5) rfl rfl ?_
    show Steps p.tables e below (T1.setTop (mkF m 6 #[.val (.ref b0), .val (.long q1), .second, .val (.ref bx3)] [(.ref bx3)])) _
    refine XS.ifnullNo X1.here hx rfl (hb hby d_own_rmAt3_6) rfl ?_
    show Steps p.tables e below (T1.setTop (mkF m 9 #[.val (.ref b0), .val (.long q1), .second, .val (.ref bx3)] [])) _
    refine XS.aloadN X1.here hx rfl (hb hby d_own_rmAt3_9) rfl rfl ?_
    show Steps p.tables e below (T1.setTop (mkF m 10 #[.val (.ref b0), .val (.long q1), .second, .val (.ref bx3)] [(.ref bx3)])) _
    refine own_getRef X1 hx hZ hown (hw _ (List.mem_of_getElem? (i := 80) rfl)) e1 F_c3 (g := (mkF m 10 #[.val (.ref b0), .val (.long q1), .second, .val (.ref bx3)] [(.ref bx3)])) rfl rfl (hb hby d_own_rmAt3_10) _ ?_
    show Steps p.tables e below (T1.setTop (mkF m 13 #[.val (.ref b0), .val (.long q1), .second, .val (.ref bx3)] [(.long qx3)])) _
    refine XS.lloadN X1.here hx rfl (hb hby d_own_rmAt3_13) rfl ?_
    show Steps p.tables e below (T1.setTop (mkF m 14 #[.val (.ref b0), .val (.long q1), .second, .val (.ref bx3)] [(.long q1), (.long qx3)])) _
    refine XS.lcmp X1.here hx rfl (hb hby d_own_rmAt3_14) rfl ?_
    show Steps p.tables e below (T1.setTop (mkF m 15 #[.val (.ref b0), .val (.long q1), .second, .val (.ref bx3)] [(.int (lcmpW qx3 q1))])) _
    refine XS.ifYes X1.here hx rfl (pc0 := 15) (pc' := 26) rfl (hb hby d_own_rmAt3_15) rfl ((if0 _ _).trans (flt (mt (lw_gt _ _).mp (hq3 : ¬ (q1 < qx3)))).2.2.2) (by decide) (by decide) ?_
    show Steps p.tables e below (T1.setTop (mkF m 26 #[.val (.ref b0), .val (.long q1), .second, .val (.ref bx3)] [])) _
    refine XS.aloadN X1.here hx rfl (hb hby d_own_rmAt3_26) rfl rfl ?_
    show Steps p.tables e below (T1.setTop (mkF m 27 #[.val (.ref b0), .val (.long q1), .second, .val (.ref bx3)] [(.ref bx3)])) _
    jvm_step X1.here [X1.here.top, hx, (hb hby d_own_rmAt3_27), X1.method', Bd.returns, Value.isRef, FieldType.isReference]
    first | (intro acts; rw [hr _ acts rfl rfl rfl]) | rw [hr _ _ rfl rfl rfl]
    exact Steps.refl _
  · show own_QR bx3 h0 n0 _ T1.heap _
    rw [e1]
    exact ⟨rfl, N0, rfl⟩
theorem d_own_rmBal_0 : decode prog_2_method_2_code 0 = .ok (.aload_n 0, 1) := by decide +kernel
theorem d_own_rmBal_1 : decode prog_2_method_2_code 1 = .ok (.getfield 13, 3) := by decide +kernel
theorem d_own_rmBal_4 : decode prog_2_method_2_code 4 = .ok (.lreturn, 1) := by decide +kernel
theorem ef_own_rmBal (m : MethodId) (x0 : Addr) : entryFrame m #[(.ref x0)] 1 = mkF m 0 #[.val (.ref x0)] [] := by first | (simp [entryFrame, mkF, argsToLocals, Value.category]; done) | rfl
set_option maxRecDepth 65536 in
set_option maxHeartbeats 40000000 in
theorem own_rmBal (l : Launch) (Z : State) (a0 : Array Value) (hw : ∀ d ∈ tables_1, d.before a0 Z = true) (ws : List Jvm.Cond) (b0 : Addr) (u : Int64) (h0 : Heap) (n0 : Nat) (Z0 : n0 ≤ h0.size) (F_b : Fld Z h0 b0 "com/example/tandem_ledger/tandemledger/Account$Version" "balance" "J" (.long u)) :
    MetFree l (⟨"com/example/tandem_ledger/tandemledger/Account$Version", "balance", "()J"⟩ : MethodName) (head1 (Jvm.Cond.code (⟨"com/example/tandem_ledger/tandemledger/Account$Version", "balance", "()J"⟩ : MethodName) prog_2_method_2_code 1 (some .long) :: ws) ({ frames := 0, cells := 0, slots := 0, locals := 0 } : Room)) (fun a U => a = #[(.ref b0)] ∧ Z.Warmed39 U.vm ∧ U.heap = h0) (fun _ _ _ _ _ => True) (fun _ U o U' => ∃ v L, o = .returned v ∧ own_QJ u h0 n0 v U'.heap L ∧ FrameEnd U o U' L ({ frames := 0, cells := 0, slots := 0, locals := 0 } : Room).cells ({ frames := 0, cells := 0, slots := 0, locals := 0 } : Room).slots) := by
  refine MetFree.of_bodySF (plainFor_of_name own_pn0) hisR ?_
  intro p e s m args below meth c s₁ Bd hml0 hP hK
  obtain ⟨rfl, hZ, hh⟩ := hP
  have hx := Bd.exec
  have hby := Bd.bytes
  have hml : c.maxLocals = 1 := hml0
  have hown : s.vm.findClass "com/example/tandem_ledger/tandemledger/Account$Version" = some m.cls := findClass_of_methodNamed Bd.named
  have hnm := (name_of_methodNamed Bd.named Bd.method).1
  have X0 : Stand p l e ({ frames := 0, cells := 0, slots := 0, locals := 0 } : Room) s m #[(.ref b0)] below meth c s₁ [] 0 0 := Stand.of_body Bd
  have e0 : s₁.heap = h0 := by rw [← hh, Bd.state]; rfl
  have N0 := Fr.nil n0
  refine own_go (b := s₁.setTop (mkF m 0 #[.val (.ref b0)] [])) (fun t k => castTop (ef_own_rmBal m b0) k) ?_
  obtain ⟨T1, X1, e1, st1⟩ := getF X0 hx hZ hown (host := "") (Or.inl (hw _ (List.mem_of_getElem? (i := 52) rfl))) Via.refl e0 F_b (g := (mkF m 1 #[.val (.ref b0)] [(.ref b0)])) rfl rfl (hb hby d_own_rmBal_1)
  obtain ⟨fs, hr, hrun, hended, hW, hsame⟩ := X1.leave (v := some (.long u)) (fun h => by rw [Bd.returns] at h; cases h)
  refine ⟨_, _, ?_, hrun, hended, _, _, rfl, ?_, ⟨_, rfl⟩, hW, hsame.mono (by decide) (by decide)⟩
  · show Steps p.tables e below (s₁.setTop (mkF m 0 #[.val (.ref b0)] [])) _
    refine XS.aloadN X0.here hx rfl (hb hby d_own_rmBal_0) rfl rfl ?_
    show Steps p.tables e below (s₁.setTop (mkF m 1 #[.val (.ref b0)] [(.ref b0)])) _
    refine st1 _ ?_
    show Steps p.tables e below (T1.setTop (mkF m 4 #[.val (.ref b0)] [(.long u)])) _
    jvm_step X1.here [X1.here.top, hx, (hb hby d_own_rmBal_4), X1.method', Bd.returns, narrow]
    first | (intro acts; rw [hr _ acts rfl rfl rfl]) | rw [hr _ _ rfl rfl rfl]
    exact Steps.refl _
  · show own_QJ u h0 n0 _ T1.heap _
    rw [e1]
    exact ⟨rfl, N0, rfl⟩
def own_Q0 (n0 : Nat) (v : Option Value) (h : Heap) (L : List Loc) : Prop := v = some (.int (1 : Int32)) ∧ Fr n0 L
theorem ef_own_rm0 (m : MethodId) (x0 : Int64) (x1 : Int64) (x2 : Int64) (x3 : Int32) (x4 : Int32) : entryFrame m #[(.long x0), (.long x1), (.long x2), (.int x3), (.int x4)] maxLocals = mkF m 0 #[.val (.long x0), .second, .val (.long x1), .second, .val (.long x2), .second, .val (.int x3), .val (.int x4), .unset, .unset, .unset, .unset, .unset, .unset, .unset, .unset, .unset, .unset, .unset, .unset] [] := by first | (simp [entryFrame, mkF, argsToLocals, Value.category, maxLocals]; done) | rfl
set_option maxRecDepth 65536 in
set_option maxHeartbeats 40000000 in
theorem own_rm0 (l : Launch) (Z : State) (a0 : Array Value) (hw : ∀ d ∈ tables_1, d.before a0 Z = true) (ws : List Jvm.Cond) (q0 : Int64) (q1 : Int64) (q2 : Int64) (p3 : Int32) (p4 : Int32) (bR bC : Addr) (h0 : Heap) (n0 : Nat) (Z0 : n0 ≤ h0.size) (S_R : Sta Z h0 "com/example/tandem_ledger/tandemledger/Reserve" "NONE" "Lcom/example/tandem_ledger/tandemledger/Reserve;" (.ref bR)) (S_C : Sta Z h0 "com/example/tandem_ledger/tandemledger/Chain" "NONE" "Lcom/example/tandem_ledger/tandemledger/Chain;" (.ref bC)) (E_C : Exa Z h0 bC "com/example/tandem_ledger/tandemledger/Chain") (F_r : Fld Z h0 bC "com/example/tandem_ledger/tandemledger/Chain" "record" "J" (.long (0 : Int64))) :
    MetFree l x (head1 (Jvm.Cond.code x code maxLocals ret :: ws) room_1) (fun a U => a = #[(.long q0), (.long q1), (.long q2), (.int p3), (.int p4)] ∧ Z.Warmed39 U.vm ∧ U.heap = h0) (fun _ _ _ _ _ => True) (fun _ U o U' => ∃ v L, o = .returned v ∧ own_Q0 n0 v U'.heap L ∧ ReturnedEndW U o U' L room_1.cells room_1.slots) := by
  refine MetFree.of_bodySF (plainFor_of_name own_pn3) hisR ?_
  intro p e s m args below meth c s₁ Bd hml0 hP hK
  obtain ⟨rfl, hZ, hh⟩ := hP
  have hx := Bd.exec
  have hby := Bd.bytes
  have hml : c.maxLocals = 20 := hml0
  have hown : s.vm.findClass "com/example/tandem_ledger/tandemledger/AccountAtPinLaw" = some m.cls := findClass_of_methodNamed Bd.named
  have hnm := (name_of_methodNamed Bd.named Bd.method).1
  have X0 : Stand p l e room_1 s m #[(.long q0), (.long q1), (.long q2), (.int p3), (.int p4)] below meth c s₁ [] 0 0 := Stand.of_body Bd
  have e0 : s₁.heap = h0 := by rw [← hh, Bd.state]; rfl
  have N0 := Fr.nil n0
  refine own_go (b := s₁.setTop (mkF m 0 #[.val (.long q0), .second, .val (.long q1), .second, .val (.long q2), .second, .val (.int p3), .val (.int p4), .unset, .unset, .unset, .unset, .unset, .unset, .unset, .unset, .unset, .unset, .unset, .unset] [])) (fun t k => castTop (ef_own_rm0 m q0 q1 q2 p3 p4) k) ?_
  obtain ⟨_, _, ⟨T1, L1, k1, n1⟩, -, X1, ⟨Lc1, hQ1, l1, y1, z1⟩, st1⟩ := Jvm.LawKit.callS X0 hx (y := (⟨"java/lang/Math", "min", "(JJ)J"⟩ : MethodName)) hown (mvT hZ (hw _ (List.mem_of_getElem? (i := 1) rfl))) (mvT hZ (hw _ (List.mem_of_getElem? (i := 2) rfl))) (mvT hZ (hw _ (List.mem_of_getElem? (i := 3) rfl))) (mvT hZ (hw _ (List.mem_of_getElem? (i := 4) rfl))) (by decide) (backOf (W := 0) (own_rmMin l Z a0 hw [] q0 (9223372036854775775 : Int64)  h0 n0 Z0 ) hZ (hw _ (List.mem_of_getElem? (i := 4) rfl)) (hw _ (List.mem_of_getElem? (i := 3) rfl)) (by decide) (by decide)) (g := (mkF m 4 #[.val (.long q0), .second, .val (.long q1), .second, .val (.long q2), .second, .val (.int p3), .val (.int p4), .unset, .unset, .unset, .unset, .unset, .unset, .unset, .unset, .unset, .unset, .unset, .unset] [(.long (9223372036854775775 : Int64)), (.long q0)])) rfl (by rw [hml]; rfl) (argsL := [(.long q0), (.long (9223372036854775775 : Int64))]) (rest := []) (lenOf own_pd4 rfl) rfl (by show 2 * 0 + _ ≤ _; exact Nat.le_of_eq rfl) (hb hby at_4) (fun _ _ => ⟨rfl, e0, (by decide : 0 + 0 ≤ _), (by decide : 0 + 0 ≤ _)⟩)
  dsimp only [Pt.U, Pt.locs, Pt.cells, Pt.slots] at X1 l1 y1 z1 st1 hQ1
  subst l1 y1 z1
  obtain ⟨rfl, N1q, e1⟩ := hQ1
  have N1 := Fr.app N0 N1q
  refine own_go (b := T1.setTop (mkF m 7 #[.val (.long q0), .second, .val (.long q1), .second, .val (.long q2), .second, .val (.int p3), .val (.int p4), .unset, .unset, .unset, .unset, .unset, .unset, .unset, .unset, .unset, .unset, .unset, .unset] [(.long (if (9223372036854775775 : Int64) < q0 then (9223372036854775775 : Int64) else q0))])) (fun t k => ?_) ?_
  · show Steps p.tables e below (s₁.setTop (mkF m 0 #[.val (.long q0), .second, .val (.long q1), .second, .val (.long q2), .second, .val (.int p3), .val (.int p4), .unset, .unset, .unset, .unset, .unset, .unset, .unset, .unset, .unset, .unset, .unset, .unset] [])) _
    refine XS.lloadN X0.here hx rfl (hb hby at_0) rfl ?_
    show Steps p.tables e below (s₁.setTop (mkF m 1 #[.val (.long q0), .second, .val (.long q1), .second, .val (.long q2), .second, .val (.int p3), .val (.int p4), .unset, .unset, .unset, .unset, .unset, .unset, .unset, .unset, .unset, .unset, .unset, .unset] [(.long q0)])) _
    refine X0.ldc2Long hx hown (mvT hZ (hw _ (List.mem_of_getElem? (i := 0) rfl))) (g := (mkF m 1 #[.val (.long q0), .second, .val (.long q1), .second, .val (.long q2), .second, .val (.int p3), .val (.int p4), .unset, .unset, .unset, .unset, .unset, .unset, .unset, .unset, .unset, .unset, .unset, .unset] [(.long q0)])) rfl (hb hby at_1) _ ?_
    show Steps p.tables e below (s₁.setTop (mkF m 4 #[.val (.long q0), .second, .val (.long q1), .second, .val (.long q2), .second, .val (.int p3), .val (.int p4), .unset, .unset, .unset, .unset, .unset, .unset, .unset, .unset, .unset, .unset, .unset, .unset] [(.long (9223372036854775775 : Int64)), (.long q0)])) _
    refine st1 _ ?_
    show Steps p.tables e below (T1.setTop (mkF m 7 #[.val (.long q0), .second, .val (.long q1), .second, .val (.long q2), .second, .val (.int p3), .val (.int p4), .unset, .unset, .unset, .unset, .unset, .unset, .unset, .unset, .unset, .unset, .unset, .unset] [(.long (if (9223372036854775775 : Int64) < q0 then (9223372036854775775 : Int64) else q0))])) t
    exact k
  have h_o := own_min q0
  generalize (if (9223372036854775775 : Int64) < q0 then (9223372036854775775 : Int64) else q0) = v_o at h_o ⊢
  refine own_go (b := T1.setTop (mkF m 17 #[.val (.long q0), .second, .val (.long q1), .second, .val (.long q2), .second, .val (.int p3), .val (.int p4), .val (.long v_o), .second, .unset, .unset, .unset, .unset, .unset, .unset, .unset, .unset, .unset, .unset] [(.long (v_o + ((p3 &&& (3 : Int32)).toInt64)))])) (fun t k => ?_) ?_
  · show Steps p.tables e below (T1.setTop (mkF m 7 #[.val (.long q0), .second, .val (.long q1), .second, .val (.long q2), .second, .val (.int p3), .val (.int p4), .unset, .unset, .unset, .unset, .unset, .unset, .unset, .unset, .unset, .unset, .unset, .unset] [(.long v_o)])) _
    refine XS.lstore X1.here hx rfl (hb hby at_7) rfl (l' := #[.val (.long q0), .second, .val (.long q1), .second, .val (.long q2), .second, .val (.int p3), .val (.int p4), .val (.long v_o), .second, .unset, .unset, .unset, .unset, .unset, .unset, .unset, .unset, .unset, .unset]) rfl ?_
    show Steps p.tables e below (T1.setTop (mkF m 9 #[.val (.long q0), .second, .val (.long q1), .second, .val (.long q2), .second, .val (.int p3), .val (.int p4), .val (.long v_o), .second, .unset, .unset, .unset, .unset, .unset, .unset, .unset, .unset, .unset, .unset] [])) _
    refine XS.lload X1.here hx rfl (hb hby at_9) rfl ?_
    show Steps p.tables e below (T1.setTop (mkF m 11 #[.val (.long q0), .second, .val (.long q1), .second, .val (.long q2), .second, .val (.int p3), .val (.int p4), .val (.long v_o), .second, .unset, .unset, .unset, .unset, .unset, .unset, .unset, .unset, .unset, .unset] [(.long v_o)])) _
    refine XS.iload X1.here hx rfl (hb hby at_11) rfl ?_
    show Steps p.tables e below (T1.setTop (mkF m 13 #[.val (.long q0), .second, .val (.long q1), .second, .val (.long q2), .second, .val (.int p3), .val (.int p4), .val (.long v_o), .second, .unset, .unset, .unset, .unset, .unset, .unset, .unset, .unset, .unset, .unset] [(.int p3), (.long v_o)])) _
    refine XS.iconst X1.here hx rfl (hb hby at_13) ?_
    show Steps p.tables e below (T1.setTop (mkF m 14 #[.val (.long q0), .second, .val (.long q1), .second, .val (.long q2), .second, .val (.int p3), .val (.int p4), .val (.long v_o), .second, .unset, .unset, .unset, .unset, .unset, .unset, .unset, .unset, .unset, .unset] [(.int (3 : Int32)), (.int p3), (.long v_o)])) _
    refine XS.iand X1.here hx rfl (hb hby at_14) rfl ?_
    show Steps p.tables e below (T1.setTop (mkF m 15 #[.val (.long q0), .second, .val (.long q1), .second, .val (.long q2), .second, .val (.int p3), .val (.int p4), .val (.long v_o), .second, .unset, .unset, .unset, .unset, .unset, .unset, .unset, .unset, .unset, .unset] [(.int (p3 &&& (3 : Int32))), (.long v_o)])) _
    refine XS.i2l X1.here hx rfl (hb hby at_15) rfl ?_
    show Steps p.tables e below (T1.setTop (mkF m 16 #[.val (.long q0), .second, .val (.long q1), .second, .val (.long q2), .second, .val (.int p3), .val (.int p4), .val (.long v_o), .second, .unset, .unset, .unset, .unset, .unset, .unset, .unset, .unset, .unset, .unset] [(.long ((p3 &&& (3 : Int32)).toInt64)), (.long v_o)])) _
    refine XS.ladd X1.here hx rfl (hb hby at_16) rfl ?_
    show Steps p.tables e below (T1.setTop (mkF m 17 #[.val (.long q0), .second, .val (.long q1), .second, .val (.long q2), .second, .val (.int p3), .val (.int p4), .val (.long v_o), .second, .unset, .unset, .unset, .unset, .unset, .unset, .unset, .unset, .unset, .unset] [(.long (v_o + ((p3 &&& (3 : Int32)).toInt64)))])) t
    exact k
  have h_c1 := own_add v_o p3 (by omega)
  generalize (v_o + ((p3 &&& (3 : Int32)).toInt64)) = v_c1 at h_c1 ⊢
  refine own_go (b := T1.setTop (mkF m 29 #[.val (.long q0), .second, .val (.long q1), .second, .val (.long q2), .second, .val (.int p3), .val (.int p4), .val (.long v_o), .second, .val (.long v_c1), .second, .unset, .unset, .unset, .unset, .unset, .unset, .unset, .unset] [(.long (v_c1 + ((((p3.toUInt32 >>> ((2 : Int32) &&& 31).toUInt32).toInt32) &&& (3 : Int32)).toInt64)))])) (fun t k => ?_) ?_
  · show Steps p.tables e below (T1.setTop (mkF m 17 #[.val (.long q0), .second, .val (.long q1), .second, .val (.long q2), .second, .val (.int p3), .val (.int p4), .val (.long v_o), .second, .unset, .unset, .unset, .unset, .unset, .unset, .unset, .unset, .unset, .unset] [(.long v_c1)])) _
    refine XS.lstore X1.here hx rfl (hb hby at_17) rfl (l' := #[.val (.long q0), .second, .val (.long q1), .second, .val (.long q2), .second, .val (.int p3), .val (.int p4), .val (.long v_o), .second, .val (.long v_c1), .second, .unset, .unset, .unset, .unset, .unset, .unset, .unset, .unset]) rfl ?_
    show Steps p.tables e below (T1.setTop (mkF m 19 #[.val (.long q0), .second, .val (.long q1), .second, .val (.long q2), .second, .val (.int p3), .val (.int p4), .val (.long v_o), .second, .val (.long v_c1), .second, .unset, .unset, .unset, .unset, .unset, .unset, .unset, .unset] [])) _
    refine XS.lload X1.here hx rfl (hb hby at_19) rfl ?_
    show Steps p.tables e below (T1.setTop (mkF m 21 #[.val (.long q0), .second, .val (.long q1), .second, .val (.long q2), .second, .val (.int p3), .val (.int p4), .val (.long v_o), .second, .val (.long v_c1), .second, .unset, .unset, .unset, .unset, .unset, .unset, .unset, .unset] [(.long v_c1)])) _
    refine XS.iload X1.here hx rfl (hb hby at_21) rfl ?_
    show Steps p.tables e below (T1.setTop (mkF m 23 #[.val (.long q0), .second, .val (.long q1), .second, .val (.long q2), .second, .val (.int p3), .val (.int p4), .val (.long v_o), .second, .val (.long v_c1), .second, .unset, .unset, .unset, .unset, .unset, .unset, .unset, .unset] [(.int p3), (.long v_c1)])) _
    refine XS.iconst X1.here hx rfl (hb hby at_23) ?_
    show Steps p.tables e below (T1.setTop (mkF m 24 #[.val (.long q0), .second, .val (.long q1), .second, .val (.long q2), .second, .val (.int p3), .val (.int p4), .val (.long v_o), .second, .val (.long v_c1), .second, .unset, .unset, .unset, .unset, .unset, .unset, .unset, .unset] [(.int (2 : Int32)), (.int p3), (.long v_c1)])) _
    refine XS.iushr X1.here hx rfl (hb hby at_24) rfl ?_
    show Steps p.tables e below (T1.setTop (mkF m 25 #[.val (.long q0), .second, .val (.long q1), .second, .val (.long q2), .second, .val (.int p3), .val (.int p4), .val (.long v_o), .second, .val (.long v_c1), .second, .unset, .unset, .unset, .unset, .unset, .unset, .unset, .unset] [(.int ((p3.toUInt32 >>> ((2 : Int32) &&& 31).toUInt32).toInt32)), (.long v_c1)])) _
    refine XS.iconst X1.here hx rfl (hb hby at_25) ?_
    show Steps p.tables e below (T1.setTop (mkF m 26 #[.val (.long q0), .second, .val (.long q1), .second, .val (.long q2), .second, .val (.int p3), .val (.int p4), .val (.long v_o), .second, .val (.long v_c1), .second, .unset, .unset, .unset, .unset, .unset, .unset, .unset, .unset] [(.int (3 : Int32)), (.int ((p3.toUInt32 >>> ((2 : Int32) &&& 31).toUInt32).toInt32)), (.long v_c1)])) _
    refine XS.iand X1.here hx rfl (hb hby at_26) rfl ?_
    show Steps p.tables e below (T1.setTop (mkF m 27 #[.val (.long q0), .second, .val (.long q1), .second, .val (.long q2), .second, .val (.int p3), .val (.int p4), .val (.long v_o), .second, .val (.long v_c1), .second, .unset, .unset, .unset, .unset, .unset, .unset, .unset, .unset] [(.int (((p3.toUInt32 >>> ((2 : Int32) &&& 31).toUInt32).toInt32) &&& (3 : Int32))), (.long v_c1)])) _
    refine XS.i2l X1.here hx rfl (hb hby at_27) rfl ?_
    show Steps p.tables e below (T1.setTop (mkF m 28 #[.val (.long q0), .second, .val (.long q1), .second, .val (.long q2), .second, .val (.int p3), .val (.int p4), .val (.long v_o), .second, .val (.long v_c1), .second, .unset, .unset, .unset, .unset, .unset, .unset, .unset, .unset] [(.long ((((p3.toUInt32 >>> ((2 : Int32) &&& 31).toUInt32).toInt32) &&& (3 : Int32)).toInt64)), (.long v_c1)])) _
    refine XS.ladd X1.here hx rfl (hb hby at_28) rfl ?_
    show Steps p.tables e below (T1.setTop (mkF m 29 #[.val (.long q0), .second, .val (.long q1), .second, .val (.long q2), .second, .val (.int p3), .val (.int p4), .val (.long v_o), .second, .val (.long v_c1), .second, .unset, .unset, .unset, .unset, .unset, .unset, .unset, .unset] [(.long (v_c1 + ((((p3.toUInt32 >>> ((2 : Int32) &&& 31).toUInt32).toInt32) &&& (3 : Int32)).toInt64)))])) t
    exact k
  have h_c2 := own_add v_c1 ((p3.toUInt32 >>> ((2 : Int32) &&& 31).toUInt32).toInt32) (by omega)
  generalize (v_c1 + ((((p3.toUInt32 >>> ((2 : Int32) &&& 31).toUInt32).toInt32) &&& (3 : Int32)).toInt64)) = v_c2 at h_c2 ⊢
  refine own_go (b := T1.setTop (mkF m 36 #[.val (.long q0), .second, .val (.long q1), .second, .val (.long q2), .second, .val (.int p3), .val (.int p4), .val (.long v_o), .second, .val (.long v_c1), .second, .val (.long v_c2), .second, .unset, .unset, .unset, .unset, .unset, .unset] [(.int (p4 &&& (16 : Int32)))])) (fun t k => ?_) ?_
  · show Steps p.tables e below (T1.setTop (mkF m 29 #[.val (.long q0), .second, .val (.long q1), .second, .val (.long q2), .second, .val (.int p3), .val (.int p4), .val (.long v_o), .second, .val (.long v_c1), .second, .unset, .unset, .unset, .unset, .unset, .unset, .unset, .unset] [(.long v_c2)])) _
    refine XS.lstore X1.here hx rfl (hb hby at_29) rfl (l' := #[.val (.long q0), .second, .val (.long q1), .second, .val (.long q2), .second, .val (.int p3), .val (.int p4), .val (.long v_o), .second, .val (.long v_c1), .second, .val (.long v_c2), .second, .unset, .unset, .unset, .unset, .unset, .unset]) rfl ?_
    show Steps p.tables e below (T1.setTop (mkF m 31 #[.val (.long q0), .second, .val (.long q1), .second, .val (.long q2), .second, .val (.int p3), .val (.int p4), .val (.long v_o), .second, .val (.long v_c1), .second, .val (.long v_c2), .second, .unset, .unset, .unset, .unset, .unset, .unset] [])) _
    refine XS.iload X1.here hx rfl (hb hby at_31) rfl ?_
    show Steps p.tables e below (T1.setTop (mkF m 33 #[.val (.long q0), .second, .val (.long q1), .second, .val (.long q2), .second, .val (.int p3), .val (.int p4), .val (.long v_o), .second, .val (.long v_c1), .second, .val (.long v_c2), .second, .unset, .unset, .unset, .unset, .unset, .unset] [(.int p4)])) _
    refine XS.bipush X1.here hx rfl (hb hby at_33) ?_
    show Steps p.tables e below (T1.setTop (mkF m 35 #[.val (.long q0), .second, .val (.long q1), .second, .val (.long q2), .second, .val (.int p3), .val (.int p4), .val (.long v_o), .second, .val (.long v_c1), .second, .val (.long v_c2), .second, .unset, .unset, .unset, .unset, .unset, .unset] [(.int (16 : Int32)), (.int p4)])) _
    refine XS.iand X1.here hx rfl (hb hby at_35) rfl ?_
    show Steps p.tables e below (T1.setTop (mkF m 36 #[.val (.long q0), .second, .val (.long q1), .second, .val (.long q2), .second, .val (.int p3), .val (.int p4), .val (.long v_o), .second, .val (.long v_c1), .second, .val (.long v_c2), .second, .unset, .unset, .unset, .unset, .unset, .unset] [(.int (p4 &&& (16 : Int32)))])) t
    exact k
  refine own_go (b := T1.setTop (mkF m 54 #[.val (.long q0), .second, .val (.long q1), .second, .val (.long q2), .second, .val (.int p3), .val (.int p4), .val (.long v_o), .second, .val (.long v_c1), .second, .val (.long v_c2), .second, .unset, .unset, .unset, .unset, .unset, .unset] [(.long (if (p4 &&& (16 : Int32)) = (0 : Int32) then (v_o + ((p4 &&& (15 : Int32)).toInt64)) else (9223372036854775807 : Int64)))])) (fun t k => ?_) ?_
  · by_cases hc36_2 : (p4 &&& (16 : Int32)) = (0 : Int32)
    · rw [if_pos hc36_2] at k
      show Steps p.tables e below (T1.setTop (mkF m 36 #[.val (.long q0), .second, .val (.long q1), .second, .val (.long q2), .second, .val (.int p3), .val (.int p4), .val (.long v_o), .second, .val (.long v_c1), .second, .val (.long v_c2), .second, .unset, .unset, .unset, .unset, .unset, .unset] [(.int (p4 &&& (16 : Int32)))])) _
      refine XS.ifYes X1.here hx rfl (pc0 := 36) (pc' := 45) rfl (hb hby at_36) rfl ((if0 _ _).trans (teq hc36_2).1) (by decide) (by decide) ?_
      show Steps p.tables e below (T1.setTop (mkF m 45 #[.val (.long q0), .second, .val (.long q1), .second, .val (.long q2), .second, .val (.int p3), .val (.int p4), .val (.long v_o), .second, .val (.long v_c1), .second, .val (.long v_c2), .second, .unset, .unset, .unset, .unset, .unset, .unset] [])) _
      refine XS.lload X1.here hx rfl (hb hby at_45) rfl ?_
      show Steps p.tables e below (T1.setTop (mkF m 47 #[.val (.long q0), .second, .val (.long q1), .second, .val (.long q2), .second, .val (.int p3), .val (.int p4), .val (.long v_o), .second, .val (.long v_c1), .second, .val (.long v_c2), .second, .unset, .unset, .unset, .unset, .unset, .unset] [(.long v_o)])) _
      refine XS.iload X1.here hx rfl (hb hby at_47) rfl ?_
      show Steps p.tables e below (T1.setTop (mkF m 49 #[.val (.long q0), .second, .val (.long q1), .second, .val (.long q2), .second, .val (.int p3), .val (.int p4), .val (.long v_o), .second, .val (.long v_c1), .second, .val (.long v_c2), .second, .unset, .unset, .unset, .unset, .unset, .unset] [(.int p4), (.long v_o)])) _
      refine XS.bipush X1.here hx rfl (hb hby at_49) ?_
      show Steps p.tables e below (T1.setTop (mkF m 51 #[.val (.long q0), .second, .val (.long q1), .second, .val (.long q2), .second, .val (.int p3), .val (.int p4), .val (.long v_o), .second, .val (.long v_c1), .second, .val (.long v_c2), .second, .unset, .unset, .unset, .unset, .unset, .unset] [(.int (15 : Int32)), (.int p4), (.long v_o)])) _
      refine XS.iand X1.here hx rfl (hb hby at_51) rfl ?_
      show Steps p.tables e below (T1.setTop (mkF m 52 #[.val (.long q0), .second, .val (.long q1), .second, .val (.long q2), .second, .val (.int p3), .val (.int p4), .val (.long v_o), .second, .val (.long v_c1), .second, .val (.long v_c2), .second, .unset, .unset, .unset, .unset, .unset, .unset] [(.int (p4 &&& (15 : Int32))), (.long v_o)])) _
      refine XS.i2l X1.here hx rfl (hb hby at_52) rfl ?_
      show Steps p.tables e below (T1.setTop (mkF m 53 #[.val (.long q0), .second, .val (.long q1), .second, .val (.long q2), .second, .val (.int p3), .val (.int p4), .val (.long v_o), .second, .val (.long v_c1), .second, .val (.long v_c2), .second, .unset, .unset, .unset, .unset, .unset, .unset] [(.long ((p4 &&& (15 : Int32)).toInt64)), (.long v_o)])) _
      refine XS.ladd X1.here hx rfl (hb hby at_53) rfl ?_
      show Steps p.tables e below (T1.setTop (mkF m 54 #[.val (.long q0), .second, .val (.long q1), .second, .val (.long q2), .second, .val (.int p3), .val (.int p4), .val (.long v_o), .second, .val (.long v_c1), .second, .val (.long v_c2), .second, .unset, .unset, .unset, .unset, .unset, .unset] [(.long (v_o + ((p4 &&& (15 : Int32)).toInt64)))])) t
      exact k
    · rw [if_neg hc36_2] at k
      show Steps p.tables e below (T1.setTop (mkF m 36 #[.val (.long q0), .second, .val (.long q1), .second, .val (.long q2), .second, .val (.int p3), .val (.int p4), .val (.long v_o), .second, .val (.long v_c1), .second, .val (.long v_c2), .second, .unset, .unset, .unset, .unset, .unset, .unset] [(.int (p4 &&& (16 : Int32)))])) _
      refine XS.ifNo X1.here hx rfl (hb hby at_36) rfl ((if0 _ _).trans (feq hc36_2).1) ?_
      show Steps p.tables e below (T1.setTop (mkF m 39 #[.val (.long q0), .second, .val (.long q1), .second, .val (.long q2), .second, .val (.int p3), .val (.int p4), .val (.long v_o), .second, .val (.long v_c1), .second, .val (.long v_c2), .second, .unset, .unset, .unset, .unset, .unset, .unset] [])) _
      refine X1.ldc2Long hx hown (mvT hZ (hw _ (List.mem_of_getElem? (i := 92) rfl))) (g := (mkF m 39 #[.val (.long q0), .second, .val (.long q1), .second, .val (.long q2), .second, .val (.int p3), .val (.int p4), .val (.long v_o), .second, .val (.long v_c1), .second, .val (.long v_c2), .second, .unset, .unset, .unset, .unset, .unset, .unset] [])) rfl (hb hby at_39) _ ?_
      show Steps p.tables e below (T1.setTop (mkF m 42 #[.val (.long q0), .second, .val (.long q1), .second, .val (.long q2), .second, .val (.int p3), .val (.int p4), .val (.long v_o), .second, .val (.long v_c1), .second, .val (.long v_c2), .second, .unset, .unset, .unset, .unset, .unset, .unset] [(.long (9223372036854775807 : Int64))])) _
      refine XS.goto X1.here hx rfl (pc0 := 42) (pc' := 54) rfl (hb hby at_42) (by decide) (by decide) ?_
      show Steps p.tables e below (T1.setTop (mkF m 54 #[.val (.long q0), .second, .val (.long q1), .second, .val (.long q2), .second, .val (.int p3), .val (.int p4), .val (.long v_o), .second, .val (.long v_c1), .second, .val (.long v_c2), .second, .unset, .unset, .unset, .unset, .unset, .unset] [(.long (9223372036854775807 : Int64))])) t
      exact k
  have h_q := own_q v_o p4 (by omega)
  generalize (if (p4 &&& (16 : Int32)) = (0 : Int32) then (v_o + ((p4 &&& (15 : Int32)).toInt64)) else (9223372036854775807 : Int64)) = v_q at h_q ⊢
  obtain ⟨T3, h3, X3, e3, E3, A3, D3, -, st3⟩ := newO X1 hx hZ hown (hw _ (List.mem_of_getElem? (i := 5) rfl)) (hw _ (List.mem_of_getElem? (i := 6) rfl)) (hw _ (List.mem_of_getElem? (i := 7) rfl)) e1 (g := (mkF m 56 #[.val (.long q0), .second, .val (.long q1), .second, .val (.long q2), .second, .val (.int p3), .val (.int p4), .val (.long v_o), .second, .val (.long v_c1), .second, .val (.long v_c2), .second, .val (.long v_q), .second, .unset, .unset, .unset, .unset] [])) rfl (hb hby at_56) (by decide) (by decide)
  obtain ⟨b3, g3⟩ : ∃ z, z = h0.size := ⟨_, rfl⟩
  rw [← g3] at A3 D3 st3
  have ne_bC_b3 : bC ≠ b3 := Nat.ne_of_lt (Nat.lt_of_lt_of_le E_C.lt (Nat.le_of_eq g3.symm))
  have new_b3 : n0 ≤ b3 := Nat.le_trans Z0 (Nat.le_of_eq g3.symm)
  have sz_b3 : h0.size ≤ b3 := Nat.le_trans (Keep.refl h0 []).1 (Nat.le_of_eq g3.symm)
  have S_Reserve_NONE_3 := S_R.ext E3
  have S_Chain_NONE_3 := S_C.ext E3
  have E_bC_3 := E_C.ext E3
  have F_bC_record_3 := F_r.ext E3
  have Z3 := Nat.le_trans Z0 E3.1
  have K3 := (Keep.refl h0 []).ext E3
  have F_b3_kept_3 : Fld Z h3 b3 "com/example/tandem_ledger/tandemledger/Account" "kept" "I" (.int (0 : Int32)) := D3 (Or.inl (hw _ (List.mem_of_getElem? (i := 32) rfl))) (ty := .int) (by decide)
  have F_b3_keptAfterLettingGo_3 : Fld Z h3 b3 "com/example/tandem_ledger/tandemledger/Account" "keptAfterLettingGo" "I" (.int (0 : Int32)) := D3 (Or.inl (hw _ (List.mem_of_getElem? (i := 34) rfl))) (ty := .int) (by decide)
  have F_b3_name_3 : Fld Z h3 b3 "com/example/tandem_ledger/tandemledger/Account" "name" "Ljava/lang/String;" .null := D3 (Or.inr (hw _ (List.mem_of_getElem? (i := 36) rfl))) (ty := (.object "java/lang/String")) (by decide)
  have F_b3_hasFloor_3 : Fld Z h3 b3 "com/example/tandem_ledger/tandemledger/Account" "hasFloor" "Z" (.int (0 : Int32)) := D3 (Or.inr (hw _ (List.mem_of_getElem? (i := 38) rfl))) (ty := .boolean) (by decide)
  have F_b3_floor_3 : Fld Z h3 b3 "com/example/tandem_ledger/tandemledger/Account" "floor" "J" (.long (0 : Int64)) := D3 (Or.inr (hw _ (List.mem_of_getElem? (i := 40) rfl))) (ty := .long) (by decide)
  have F_b3_opened_3 : Fld Z h3 b3 "com/example/tandem_ledger/tandemledger/Account" "opened" "J" (.long (0 : Int64)) := D3 (Or.inr (hw _ (List.mem_of_getElem? (i := 42) rfl))) (ty := .long) (by decide)
  have F_b3_latest_3 : Fld Z h3 b3 "com/example/tandem_ledger/tandemledger/Account" "latest" "Lcom/example/tandem_ledger/tandemledger/Account$Version;" .null := D3 (Or.inl (hw _ (List.mem_of_getElem? (i := 61) rfl))) (ty := (.object "com/example/tandem_ledger/tandemledger/Account$Version")) (by decide)
  obtain ⟨sa4, T4, h4, kk4, X4, e4, E4, hS4, hk4_, hZ, hown, st4⟩ := ldcS (s := s) (show Stand p l e room_1 (s.setVm s.vm) m _ below meth c _ _ _ _ from X3) hx hZ hown (hw _ (List.mem_of_getElem? (i := 8) rfl)) (own_atoms hw) e3 ((State.WarmedH.refl s).since 0) (Nat.zero_le _) (g := (mkF m 60 #[.val (.long q0), .second, .val (.long q1), .second, .val (.long q2), .second, .val (.int p3), .val (.int p4), .val (.long v_o), .second, .val (.long v_c1), .second, .val (.long v_c2), .second, .val (.long v_q), .second, .unset, .unset, .unset, .unset] [(.ref b3), (.ref b3)])) rfl (hb hby at_60) (n := 4) (by decide +kernel) (by decide) (by decide) (by decide)
  have S_Reserve_NONE_4 := S_Reserve_NONE_3.ext E4
  have S_Chain_NONE_4 := S_Chain_NONE_3.ext E4
  have E_bC_4 := E_bC_3.ext E4
  have F_bC_record_4 := F_bC_record_3.ext E4
  have E_b3_4 := A3.ext E4
  have F_b3_kept_4 := F_b3_kept_3.ext E4
  have F_b3_keptAfterLettingGo_4 := F_b3_keptAfterLettingGo_3.ext E4
  have F_b3_name_4 := F_b3_name_3.ext E4
  have F_b3_hasFloor_4 := F_b3_hasFloor_3.ext E4
  have F_b3_floor_4 := F_b3_floor_3.ext E4
  have F_b3_opened_4 := F_b3_opened_3.ext E4
  have F_b3_latest_4 := F_b3_latest_3.ext E4
  have Z4 := Nat.le_trans Z3 E4.1
  have K4 := K3.ext E4
  refine own_go (b := T4.setTop (mkF m 67 #[.val (.long q0), .second, .val (.long q1), .second, .val (.long q2), .second, .val (.int p3), .val (.int p4), .val (.long v_o), .second, .val (.long v_c1), .second, .val (.long v_c2), .second, .val (.long v_q), .second, .unset, .unset, .unset, .unset] [(.int (p4 &&& (32 : Int32))), (.ref sa4), (.ref b3), (.ref b3)])) (fun t k => ?_) ?_
  · show Steps p.tables e below (T1.setTop (mkF m 54 #[.val (.long q0), .second, .val (.long q1), .second, .val (.long q2), .second, .val (.int p3), .val (.int p4), .val (.long v_o), .second, .val (.long v_c1), .second, .val (.long v_c2), .second, .unset, .unset, .unset, .unset, .unset, .unset] [(.long v_q)])) _
    refine XS.lstore X1.here hx rfl (hb hby at_54) rfl (l' := #[.val (.long q0), .second, .val (.long q1), .second, .val (.long q2), .second, .val (.int p3), .val (.int p4), .val (.long v_o), .second, .val (.long v_c1), .second, .val (.long v_c2), .second, .val (.long v_q), .second, .unset, .unset, .unset, .unset]) rfl ?_
    show Steps p.tables e below (T1.setTop (mkF m 56 #[.val (.long q0), .second, .val (.long q1), .second, .val (.long q2), .second, .val (.int p3), .val (.int p4), .val (.long v_o), .second, .val (.long v_c1), .second, .val (.long v_c2), .second, .val (.long v_q), .second, .unset, .unset, .unset, .unset] [])) _
    refine st3 _ ?_
    show Steps p.tables e below (T3.setTop (mkF m 59 #[.val (.long q0), .second, .val (.long q1), .second, .val (.long q2), .second, .val (.int p3), .val (.int p4), .val (.long v_o), .second, .val (.long v_c1), .second, .val (.long v_c2), .second, .val (.long v_q), .second, .unset, .unset, .unset, .unset] [(.ref b3)])) _
    refine XS.dup X3.here hx rfl (hb hby at_59) rfl rfl ?_
    show Steps p.tables e below (T3.setTop (mkF m 60 #[.val (.long q0), .second, .val (.long q1), .second, .val (.long q2), .second, .val (.int p3), .val (.int p4), .val (.long v_o), .second, .val (.long v_c1), .second, .val (.long v_c2), .second, .val (.long v_q), .second, .unset, .unset, .unset, .unset] [(.ref b3), (.ref b3)])) _
    refine st4 _ ?_
    show Steps p.tables e below (T4.setTop (mkF m 62 #[.val (.long q0), .second, .val (.long q1), .second, .val (.long q2), .second, .val (.int p3), .val (.int p4), .val (.long v_o), .second, .val (.long v_c1), .second, .val (.long v_c2), .second, .val (.long v_q), .second, .unset, .unset, .unset, .unset] [(.ref sa4), (.ref b3), (.ref b3)])) _
    refine XS.iload X4.here hx rfl (hb hby at_62) rfl ?_
    show Steps p.tables e below (T4.setTop (mkF m 64 #[.val (.long q0), .second, .val (.long q1), .second, .val (.long q2), .second, .val (.int p3), .val (.int p4), .val (.long v_o), .second, .val (.long v_c1), .second, .val (.long v_c2), .second, .val (.long v_q), .second, .unset, .unset, .unset, .unset] [(.int p4), (.ref sa4), (.ref b3), (.ref b3)])) _
    refine XS.bipush X4.here hx rfl (hb hby at_64) ?_
    show Steps p.tables e below (T4.setTop (mkF m 66 #[.val (.long q0), .second, .val (.long q1), .second, .val (.long q2), .second, .val (.int p3), .val (.int p4), .val (.long v_o), .second, .val (.long v_c1), .second, .val (.long v_c2), .second, .val (.long v_q), .second, .unset, .unset, .unset, .unset] [(.int (32 : Int32)), (.int p4), (.ref sa4), (.ref b3), (.ref b3)])) _
    refine XS.iand X4.here hx rfl (hb hby at_66) rfl ?_
    show Steps p.tables e below (T4.setTop (mkF m 67 #[.val (.long q0), .second, .val (.long q1), .second, .val (.long q2), .second, .val (.int p3), .val (.int p4), .val (.long v_o), .second, .val (.long v_c1), .second, .val (.long v_c2), .second, .val (.long v_q), .second, .unset, .unset, .unset, .unset] [(.int (p4 &&& (32 : Int32))), (.ref sa4), (.ref b3), (.ref b3)])) t
    exact k
  refine own_go (b := T4.setTop (mkF m 75 #[.val (.long q0), .second, .val (.long q1), .second, .val (.long q2), .second, .val (.int p3), .val (.int p4), .val (.long v_o), .second, .val (.long v_c1), .second, .val (.long v_c2), .second, .val (.long v_q), .second, .unset, .unset, .unset, .unset] [(.int (if (p4 &&& (32 : Int32)) = (0 : Int32) then (0 : Int32) else (1 : Int32))), (.ref sa4), (.ref b3), (.ref b3)])) (fun t k => ?_) ?_
  · by_cases hc67_5 : (p4 &&& (32 : Int32)) = (0 : Int32)
    · rw [if_pos hc67_5] at k
      show Steps p.tables e below (T4.setTop (mkF m 67 #[.val (.long q0), .second, .val (.long q1), .second, .val (.long q2), .second, .val (.int p3), .val (.int p4), .val (.long v_o), .second, .val (.long v_c1), .second, .val (.long v_c2), .second, .val (.long v_q), .second, .unset, .unset, .unset, .unset] [(.int (p4 &&& (32 : Int32))), (.ref sa4), (.ref b3), (.ref b3)])) _
      refine XS.ifYes X4.here hx rfl (pc0 := 67) (pc' := 74) rfl (hb hby at_67) rfl ((if0 _ _).trans (teq hc67_5).1) (by decide) (by decide) ?_
      show Steps p.tables e below (T4.setTop (mkF m 74 #[.val (.long q0), .second, .val (.long q1), .second, .val (.long q2), .second, .val (.int p3), .val (.int p4), .val (.long v_o), .second, .val (.long v_c1), .second, .val (.long v_c2), .second, .val (.long v_q), .second, .unset, .unset, .unset, .unset] [(.ref sa4), (.ref b3), (.ref b3)])) _
      refine XS.iconst X4.here hx rfl (hb hby at_74) ?_
      show Steps p.tables e below (T4.setTop (mkF m 75 #[.val (.long q0), .second, .val (.long q1), .second, .val (.long q2), .second, .val (.int p3), .val (.int p4), .val (.long v_o), .second, .val (.long v_c1), .second, .val (.long v_c2), .second, .val (.long v_q), .second, .unset, .unset, .unset, .unset] [(.int (0 : Int32)), (.ref sa4), (.ref b3), (.ref b3)])) t
      exact k
    · rw [if_neg hc67_5] at k
      show Steps p.tables e below (T4.setTop (mkF m 67 #[.val (.long q0), .second, .val (.long q1), .second, .val (.long q2), .second, .val (.int p3), .val (.int p4), .val (.long v_o), .second, .val (.long v_c1), .second, .val (.long v_c2), .second, .val (.long v_q), .second, .unset, .unset, .unset, .unset] [(.int (p4 &&& (32 : Int32))), (.ref sa4), (.ref b3), (.ref b3)])) _
      refine XS.ifNo X4.here hx rfl (hb hby at_67) rfl ((if0 _ _).trans (feq hc67_5).1) ?_
      show Steps p.tables e below (T4.setTop (mkF m 70 #[.val (.long q0), .second, .val (.long q1), .second, .val (.long q2), .second, .val (.int p3), .val (.int p4), .val (.long v_o), .second, .val (.long v_c1), .second, .val (.long v_c2), .second, .val (.long v_q), .second, .unset, .unset, .unset, .unset] [(.ref sa4), (.ref b3), (.ref b3)])) _
      refine XS.iconst X4.here hx rfl (hb hby at_70) ?_
      show Steps p.tables e below (T4.setTop (mkF m 71 #[.val (.long q0), .second, .val (.long q1), .second, .val (.long q2), .second, .val (.int p3), .val (.int p4), .val (.long v_o), .second, .val (.long v_c1), .second, .val (.long v_c2), .second, .val (.long v_q), .second, .unset, .unset, .unset, .unset] [(.int (1 : Int32)), (.ref sa4), (.ref b3), (.ref b3)])) _
      refine XS.goto X4.here hx rfl (pc0 := 71) (pc' := 75) rfl (hb hby at_71) (by decide) (by decide) ?_
      show Steps p.tables e below (T4.setTop (mkF m 75 #[.val (.long q0), .second, .val (.long q1), .second, .val (.long q2), .second, .val (.int p3), .val (.int p4), .val (.long v_o), .second, .val (.long v_c1), .second, .val (.long v_c2), .second, .val (.long v_q), .second, .unset, .unset, .unset, .unset] [(.int (1 : Int32)), (.ref sa4), (.ref b3), (.ref b3)])) t
      exact k
  generalize (if (p4 &&& (32 : Int32)) = (0 : Int32) then (0 : Int32) else (1 : Int32)) = v_h at ⊢
  obtain ⟨_, _, ⟨T6, L6, k6, n6⟩, -, X6, ⟨Lc6, hQ6, l6, y6, z6⟩, st6⟩ := X4.specialBack hx (y := (⟨"com/example/tandem_ledger/tandemledger/Account", "<init>", "(Ljava/lang/String;ZJJ)V"⟩ : MethodName)) rfl hown (mvT hZ (hw _ (List.mem_of_getElem? (i := 16) rfl))) (mvT hZ (hw _ (List.mem_of_getElem? (i := 17) rfl))) (mvT hZ (hw _ (List.mem_of_getElem? (i := 18) rfl))) (by decide) (backOf (W := 1) (own_rmA1 l Z a0 hw [] b3 sa4 v_h q1 v_o bR bC h4 n0 Z4 E_b3_4 F_b3_kept_4 F_b3_keptAfterLettingGo_4 F_b3_name_4 F_b3_hasFloor_4 F_b3_floor_4 F_b3_opened_4 F_b3_latest_4 new_b3 S_Reserve_NONE_4 S_Chain_NONE_4) hZ (hw _ (List.mem_of_getElem? (i := 18) rfl)) (hw _ (List.mem_of_getElem? (i := 7) rfl)) (by decide) (by decide)) (g := (mkF m 78 #[.val (.long q0), .second, .val (.long q1), .second, .val (.long q2), .second, .val (.int p3), .val (.int p4), .val (.long v_o), .second, .val (.long v_c1), .second, .val (.long v_c2), .second, .val (.long v_q), .second, .unset, .unset, .unset, .unset] [(.long v_o), (.long q1), (.int v_h), (.ref sa4), (.ref b3), (.ref b3)])) rfl (by rw [hml]; rfl) (Steps.refl _) (a := b3) (argsL := [(.ref sa4), (.int v_h), (.long q1), (.long v_o)]) (rest := [(.ref b3)]) (lenOf own_pd5 rfl) rfl (by show 2 * 0 + _ ≤ _; exact Nat.le_of_eq rfl) (hb hby at_78) (fun _ _ => ⟨rfl, e4, (by decide : 3 + 1 ≤ _), (by decide : 15 + 5 ≤ _)⟩)
  dsimp only [Pt.U, Pt.locs, Pt.cells, Pt.slots] at X6 l6 y6 z6 st6 hQ6
  subst l6 y6 z6
  obtain ⟨rfl, N6q, K6q, bva6, nx6, sx6, Fl6, Fk6, Fg6, Ex6, Fc6, Fb6, Fr6, Fh6, Fe6⟩ := hQ6
  have S_Reserve_NONE_6 := own_staKeep S_Reserve_NONE_4 E_b3_4 K6q
  have S_Chain_NONE_6 := own_staKeep S_Chain_NONE_4 E_b3_4 K6q
  have E_bC_6 := E_bC_4.keep K6q
  have F_bC_record_6 := F_bC_record_4.keep K6q (fun q => ne_bC_b3 (List.mem_singleton.mp q))
  have E_b3_6 := E_b3_4.keep K6q
  have ne_b3_bva6 : b3 ≠ bva6 := Nat.ne_of_lt (Nat.lt_of_lt_of_le E_b3_4.lt sx6)
  have ne_bC_bva6 : bC ≠ bva6 := Nat.ne_of_lt (Nat.lt_of_lt_of_le E_bC_4.lt sx6)
  have N6 := Fr.app N1 N6q
  have Z6 := Nat.le_trans Z4 K6q.1
  have hk6 := Nat.le_trans hk4_ K6q.1
  have sz_bva6 : h0.size ≤ bva6 := Nat.le_trans K4.1 sx6
  have K6 := K4.trans K6q (fun x hx => by cases List.mem_singleton.mp hx; exact Or.inr sz_b3)
  refine own_go (b := T6.setTop (mkF m 83 #[.val (.long q0), .second, .val (.long q1), .second, .val (.long q2), .second, .val (.int p3), .val (.int p4), .val (.long v_o), .second, .val (.long v_c1), .second, .val (.long v_c2), .second, .val (.long v_q), .second, .val (.ref b3), .unset, .unset, .unset] [])) (fun t k => ?_) ?_
  · show Steps p.tables e below (T4.setTop (mkF m 75 #[.val (.long q0), .second, .val (.long q1), .second, .val (.long q2), .second, .val (.int p3), .val (.int p4), .val (.long v_o), .second, .val (.long v_c1), .second, .val (.long v_c2), .second, .val (.long v_q), .second, .unset, .unset, .unset, .unset] [(.int v_h), (.ref sa4), (.ref b3), (.ref b3)])) _
    refine XS.lloadN X4.here hx rfl (hb hby at_75) rfl ?_
    show Steps p.tables e below (T4.setTop (mkF m 76 #[.val (.long q0), .second, .val (.long q1), .second, .val (.long q2), .second, .val (.int p3), .val (.int p4), .val (.long v_o), .second, .val (.long v_c1), .second, .val (.long v_c2), .second, .val (.long v_q), .second, .unset, .unset, .unset, .unset] [(.long q1), (.int v_h), (.ref sa4), (.ref b3), (.ref b3)])) _
    refine XS.lload X4.here hx rfl (hb hby at_76) rfl ?_
    show Steps p.tables e below (T4.setTop (mkF m 78 #[.val (.long q0), .second, .val (.long q1), .second, .val (.long q2), .second, .val (.int p3), .val (.int p4), .val (.long v_o), .second, .val (.long v_c1), .second, .val (.long v_c2), .second, .val (.long v_q), .second, .unset, .unset, .unset, .unset] [(.long v_o), (.long q1), (.int v_h), (.ref sa4), (.ref b3), (.ref b3)])) _
    refine st6.trans ?_
    show Steps p.tables e below (T6.setTop (mkF m 81 #[.val (.long q0), .second, .val (.long q1), .second, .val (.long q2), .second, .val (.int p3), .val (.int p4), .val (.long v_o), .second, .val (.long v_c1), .second, .val (.long v_c2), .second, .val (.long v_q), .second, .unset, .unset, .unset, .unset] [(.ref b3)])) _
    refine XS.astore X6.here hx rfl (hb hby at_81) rfl rfl (l' := #[.val (.long q0), .second, .val (.long q1), .second, .val (.long q2), .second, .val (.int p3), .val (.int p4), .val (.long v_o), .second, .val (.long v_c1), .second, .val (.long v_c2), .second, .val (.long v_q), .second, .val (.ref b3), .unset, .unset, .unset]) rfl ?_
    show Steps p.tables e below (T6.setTop (mkF m 83 #[.val (.long q0), .second, .val (.long q1), .second, .val (.long q2), .second, .val (.int p3), .val (.int p4), .val (.long v_o), .second, .val (.long v_c1), .second, .val (.long v_c2), .second, .val (.long v_q), .second, .val (.ref b3), .unset, .unset, .unset] [])) t
    exact k
  by_cases h_A : v_o = v_c1
  · by_cases h_B : v_c1 = v_c2
    · obtain ⟨cq7, kq7, q7a, q7b, q7c⟩ := isOf hZ rfl E_b3_6
      obtain ⟨_, _, ⟨T7, L7, k7, n7⟩, -, X7, ⟨Lc7, hQ7, l7, y7, z7⟩, st7⟩ := X6.virtualBack hx (y := (⟨"com/example/tandem_ledger/tandemledger/Account", "post", "(JJJZLjava/util/function/LongSupplier;)V"⟩ : MethodName)) (z := (⟨"com/example/tandem_ledger/tandemledger/Account", "post", "(JJJZLjava/util/function/LongSupplier;)V"⟩ : MethodName)) hown (mvT hZ (hw _ (List.mem_of_getElem? (i := 62) rfl))) (mvT hZ (hw _ (List.mem_of_getElem? (i := 63) rfl))) (notFace_of_selects (args := #[]) (mvT hZ (hw _ (List.mem_of_getElem? (i := 65) rfl)))) (mvT hZ (hw _ (List.mem_of_getElem? (i := 65) rfl))) (mvT hZ (hw _ (List.mem_of_getElem? (i := 64) rfl))) (by decide) (backOf (W := 0) (own_rmPAn1 l Z a0 hw [] b3 v_c1 q1 (0 : Int64) (0 : Int32) bva6 v_o bR bC T6.heap n0 Z6 E_b3_6 Fl6 Fk6 Fg6 Fc6 Fe6 (Ne.symm ne_b3_bva6) new_b3 h_A Fh6 Fr6 E_bC_6 F_bC_record_6 rfl) hZ (hw _ (List.mem_of_getElem? (i := 66) rfl)) (hw _ (List.mem_of_getElem? (i := 7) rfl)) (by decide) (by decide)) q7a q7c (g := (mkF m 91 #[.val (.long q0), .second, .val (.long q1), .second, .val (.long q2), .second, .val (.int p3), .val (.int p4), .val (.long v_o), .second, .val (.long v_c1), .second, .val (.long v_c2), .second, .val (.long v_q), .second, .val (.ref b3), .unset, .unset, .unset] [.null, (.int (0 : Int32)), (.long (0 : Int64)), (.long q1), (.long v_c1), (.ref b3)])) rfl (by rw [hml]; rfl) (Steps.refl _) (argsL := [(.long v_c1), (.long q1), (.long (0 : Int64)), (.int (0 : Int32)), .null]) (rest := []) (lenOf own_pd6 rfl) rfl (by show 2 * 0 + _ ≤ _; exact Nat.le_of_eq rfl) (hb hby at_91) (fun _ _ => ⟨rfl, rfl, (by decide : 4 + 1 ≤ _), (by decide : 20 + 5 ≤ _)⟩)
      dsimp only [Pt.U, Pt.locs, Pt.cells, Pt.slots] at X7 l7 y7 z7 st7 hQ7
      subst l7 y7 z7
      obtain ⟨rfl, N7q, K7q, bvb7, nx7, sx7, Fl7, Fk7, Fg7, Ex7, Fc7, Fb7, Fr7, Fh7, Fe7⟩ := hQ7
      have S_Reserve_NONE_7 := own_staKeep S_Reserve_NONE_6 E_b3_6 K7q
      have S_Chain_NONE_7 := own_staKeep S_Chain_NONE_6 E_b3_6 K7q
      have E_bC_7 := E_bC_6.keep K7q
      have F_bC_record_7 := F_bC_record_6.keep K7q (fun q => ne_bC_b3 (List.mem_singleton.mp q))
      have E_b3_7 := E_b3_6.keep K7q
      have E_bva6_7 := Ex6.keep K7q
      have F_bva6_commit_7 := Fc6.keep K7q (fun q => (Ne.symm ne_b3_bva6) (List.mem_singleton.mp q))
      have F_bva6_balance_7 := Fb6.keep K7q (fun q => (Ne.symm ne_b3_bva6) (List.mem_singleton.mp q))
      have F_bva6_reserve_7 := Fr6.keep K7q (fun q => (Ne.symm ne_b3_bva6) (List.mem_singleton.mp q))
      have F_bva6_chain_7 := Fh6.keep K7q (fun q => (Ne.symm ne_b3_bva6) (List.mem_singleton.mp q))
      have F_bva6_earlier_7 := Fe6.keep K7q (fun q => (Ne.symm ne_b3_bva6) (List.mem_singleton.mp q))
      have ne_b3_bvb7 : b3 ≠ bvb7 := Nat.ne_of_lt (Nat.lt_of_lt_of_le E_b3_6.lt sx7)
      have ne_bC_bvb7 : bC ≠ bvb7 := Nat.ne_of_lt (Nat.lt_of_lt_of_le E_bC_6.lt sx7)
      have ne_bva6_bvb7 : bva6 ≠ bvb7 := Nat.ne_of_lt (Nat.lt_of_lt_of_le Ex6.lt sx7)
      have N7 := Fr.app N6 N7q
      have Z7 := Nat.le_trans Z6 K7q.1
      have hk7 := Nat.le_trans hk6 K7q.1
      have sz_bvb7 : h0.size ≤ bvb7 := Nat.le_trans K6.1 sx7
      have K7 := K6.trans K7q (fun x hx => by cases List.mem_singleton.mp hx; exact Or.inr sz_b3)
      obtain ⟨cq8, kq8, q8a, q8b, q8c⟩ := isOf hZ rfl E_b3_7
      obtain ⟨_, _, ⟨T8, L8, k8, n8⟩, -, X8, ⟨Lc8, hQ8, l8, y8, z8⟩, st8⟩ := X7.virtualBack hx (y := (⟨"com/example/tandem_ledger/tandemledger/Account", "post", "(JJJZLjava/util/function/LongSupplier;)V"⟩ : MethodName)) (z := (⟨"com/example/tandem_ledger/tandemledger/Account", "post", "(JJJZLjava/util/function/LongSupplier;)V"⟩ : MethodName)) hown (mvT hZ (hw _ (List.mem_of_getElem? (i := 62) rfl))) (mvT hZ (hw _ (List.mem_of_getElem? (i := 63) rfl))) (notFace_of_selects (args := #[]) (mvT hZ (hw _ (List.mem_of_getElem? (i := 65) rfl)))) (mvT hZ (hw _ (List.mem_of_getElem? (i := 65) rfl))) (mvT hZ (hw _ (List.mem_of_getElem? (i := 64) rfl))) (by decide) (backOf (W := 0) (own_rmPAn1 l Z a0 hw [] b3 v_c2 q2 (0 : Int64) (0 : Int32) bvb7 v_c1 bR bC T7.heap n0 Z7 E_b3_7 Fl7 Fk7 Fg7 Fc7 Fe7 (Ne.symm ne_b3_bvb7) new_b3 h_B Fh7 Fr7 E_bC_7 F_bC_record_7 rfl) hZ (hw _ (List.mem_of_getElem? (i := 66) rfl)) (hw _ (List.mem_of_getElem? (i := 7) rfl)) (by decide) (by decide)) q8a q8c (g := (mkF m 103 #[.val (.long q0), .second, .val (.long q1), .second, .val (.long q2), .second, .val (.int p3), .val (.int p4), .val (.long v_o), .second, .val (.long v_c1), .second, .val (.long v_c2), .second, .val (.long v_q), .second, .val (.ref b3), .unset, .unset, .unset] [.null, (.int (0 : Int32)), (.long (0 : Int64)), (.long q2), (.long v_c2), (.ref b3)])) rfl (by rw [hml]; rfl) (Steps.refl _) (argsL := [(.long v_c2), (.long q2), (.long (0 : Int64)), (.int (0 : Int32)), .null]) (rest := []) (lenOf own_pd6 rfl) rfl (by show 2 * 0 + _ ≤ _; exact Nat.le_of_eq rfl) (hb hby at_103) (fun _ _ => ⟨rfl, rfl, (by decide : 5 + 1 ≤ _), (by decide : 25 + 5 ≤ _)⟩)
      dsimp only [Pt.U, Pt.locs, Pt.cells, Pt.slots] at X8 l8 y8 z8 st8 hQ8
      subst l8 y8 z8
      obtain ⟨rfl, N8q, K8q, bvc8, nx8, sx8, Fl8, Fk8, Fg8, Ex8, Fc8, Fb8, Fr8, Fh8, Fe8⟩ := hQ8
      have S_Reserve_NONE_8 := own_staKeep S_Reserve_NONE_7 E_b3_7 K8q
      have S_Chain_NONE_8 := own_staKeep S_Chain_NONE_7 E_b3_7 K8q
      have E_bC_8 := E_bC_7.keep K8q
      have F_bC_record_8 := F_bC_record_7.keep K8q (fun q => ne_bC_b3 (List.mem_singleton.mp q))
      have E_b3_8 := E_b3_7.keep K8q
      have E_bva6_8 := E_bva6_7.keep K8q
      have F_bva6_commit_8 := F_bva6_commit_7.keep K8q (fun q => (Ne.symm ne_b3_bva6) (List.mem_singleton.mp q))
      have F_bva6_balance_8 := F_bva6_balance_7.keep K8q (fun q => (Ne.symm ne_b3_bva6) (List.mem_singleton.mp q))
      have F_bva6_reserve_8 := F_bva6_reserve_7.keep K8q (fun q => (Ne.symm ne_b3_bva6) (List.mem_singleton.mp q))
      have F_bva6_chain_8 := F_bva6_chain_7.keep K8q (fun q => (Ne.symm ne_b3_bva6) (List.mem_singleton.mp q))
      have F_bva6_earlier_8 := F_bva6_earlier_7.keep K8q (fun q => (Ne.symm ne_b3_bva6) (List.mem_singleton.mp q))
      have E_bvb7_8 := Ex7.keep K8q
      have F_bvb7_commit_8 := Fc7.keep K8q (fun q => (Ne.symm ne_b3_bvb7) (List.mem_singleton.mp q))
      have F_bvb7_balance_8 := Fb7.keep K8q (fun q => (Ne.symm ne_b3_bvb7) (List.mem_singleton.mp q))
      have F_bvb7_reserve_8 := Fr7.keep K8q (fun q => (Ne.symm ne_b3_bvb7) (List.mem_singleton.mp q))
      have F_bvb7_chain_8 := Fh7.keep K8q (fun q => (Ne.symm ne_b3_bvb7) (List.mem_singleton.mp q))
      have F_bvb7_earlier_8 := Fe7.keep K8q (fun q => (Ne.symm ne_b3_bvb7) (List.mem_singleton.mp q))
      have ne_b3_bvc8 : b3 ≠ bvc8 := Nat.ne_of_lt (Nat.lt_of_lt_of_le E_b3_7.lt sx8)
      have ne_bC_bvc8 : bC ≠ bvc8 := Nat.ne_of_lt (Nat.lt_of_lt_of_le E_bC_7.lt sx8)
      have ne_bva6_bvc8 : bva6 ≠ bvc8 := Nat.ne_of_lt (Nat.lt_of_lt_of_le E_bva6_7.lt sx8)
      have ne_bvb7_bvc8 : bvb7 ≠ bvc8 := Nat.ne_of_lt (Nat.lt_of_lt_of_le Ex7.lt sx8)
      have N8 := Fr.app N7 N8q
      have Z8 := Nat.le_trans Z7 K8q.1
      have hk8 := Nat.le_trans hk7 K8q.1
      have sz_bvc8 : h0.size ≤ bvc8 := Nat.le_trans K7.1 sx8
      have K8 := K7.trans K8q (fun x hx => by cases List.mem_singleton.mp hx; exact Or.inr sz_b3)
      refine own_go (b := T8.setTop (mkF m 106 #[.val (.long q0), .second, .val (.long q1), .second, .val (.long q2), .second, .val (.int p3), .val (.int p4), .val (.long v_o), .second, .val (.long v_c1), .second, .val (.long v_c2), .second, .val (.long v_q), .second, .val (.ref b3), .unset, .unset, .unset] [])) (fun t k => ?_) ?_
      · show Steps p.tables e below (T6.setTop (mkF m 83 #[.val (.long q0), .second, .val (.long q1), .second, .val (.long q2), .second, .val (.int p3), .val (.int p4), .val (.long v_o), .second, .val (.long v_c1), .second, .val (.long v_c2), .second, .val (.long v_q), .second, .val (.ref b3), .unset, .unset, .unset] [])) _
        refine XS.aload X6.here hx rfl (hb hby at_83) rfl rfl ?_
        show Steps p.tables e below (T6.setTop (mkF m 85 #[.val (.long q0), .second, .val (.long q1), .second, .val (.long q2), .second, .val (.int p3), .val (.int p4), .val (.long v_o), .second, .val (.long v_c1), .second, .val (.long v_c2), .second, .val (.long v_q), .second, .val (.ref b3), .unset, .unset, .unset] [(.ref b3)])) _
        refine XS.lload X6.here hx rfl (hb hby at_85) rfl ?_
        show Steps p.tables e below (T6.setTop (mkF m 87 #[.val (.long q0), .second, .val (.long q1), .second, .val (.long q2), .second, .val (.int p3), .val (.int p4), .val (.long v_o), .second, .val (.long v_c1), .second, .val (.long v_c2), .second, .val (.long v_q), .second, .val (.ref b3), .unset, .unset, .unset] [(.long v_c1), (.ref b3)])) _
        refine XS.lloadN X6.here hx rfl (hb hby at_87) rfl ?_
        show Steps p.tables e below (T6.setTop (mkF m 88 #[.val (.long q0), .second, .val (.long q1), .second, .val (.long q2), .second, .val (.int p3), .val (.int p4), .val (.long v_o), .second, .val (.long v_c1), .second, .val (.long v_c2), .second, .val (.long v_q), .second, .val (.ref b3), .unset, .unset, .unset] [(.long q1), (.long v_c1), (.ref b3)])) _
        refine XS.lconst X6.here hx rfl (hb hby at_88) ?_
        show Steps p.tables e below (T6.setTop (mkF m 89 #[.val (.long q0), .second, .val (.long q1), .second, .val (.long q2), .second, .val (.int p3), .val (.int p4), .val (.long v_o), .second, .val (.long v_c1), .second, .val (.long v_c2), .second, .val (.long v_q), .second, .val (.ref b3), .unset, .unset, .unset] [(.long (0 : Int64)), (.long q1), (.long v_c1), (.ref b3)])) _
        refine XS.iconst X6.here hx rfl (hb hby at_89) ?_
        show Steps p.tables e below (T6.setTop (mkF m 90 #[.val (.long q0), .second, .val (.long q1), .second, .val (.long q2), .second, .val (.int p3), .val (.int p4), .val (.long v_o), .second, .val (.long v_c1), .second, .val (.long v_c2), .second, .val (.long v_q), .second, .val (.ref b3), .unset, .unset, .unset] [(.int (0 : Int32)), (.long (0 : Int64)), (.long q1), (.long v_c1), (.ref b3)])) _
        refine XS.aconstNull X6.here hx rfl (hb hby at_90) ?_
        show Steps p.tables e below (T6.setTop (mkF m 91 #[.val (.long q0), .second, .val (.long q1), .second, .val (.long q2), .second, .val (.int p3), .val (.int p4), .val (.long v_o), .second, .val (.long v_c1), .second, .val (.long v_c2), .second, .val (.long v_q), .second, .val (.ref b3), .unset, .unset, .unset] [.null, (.int (0 : Int32)), (.long (0 : Int64)), (.long q1), (.long v_c1), (.ref b3)])) _
        refine st7.trans ?_
        show Steps p.tables e below (T7.setTop (mkF m 94 #[.val (.long q0), .second, .val (.long q1), .second, .val (.long q2), .second, .val (.int p3), .val (.int p4), .val (.long v_o), .second, .val (.long v_c1), .second, .val (.long v_c2), .second, .val (.long v_q), .second, .val (.ref b3), .unset, .unset, .unset] [])) _
        refine XS.aload X7.here hx rfl (hb hby at_94) rfl rfl ?_
        show Steps p.tables e below (T7.setTop (mkF m 96 #[.val (.long q0), .second, .val (.long q1), .second, .val (.long q2), .second, .val (.int p3), .val (.int p4), .val (.long v_o), .second, .val (.long v_c1), .second, .val (.long v_c2), .second, .val (.long v_q), .second, .val (.ref b3), .unset, .unset, .unset] [(.ref b3)])) _
        refine XS.lload X7.here hx rfl (hb hby at_96) rfl ?_
        show Steps p.tables e below (T7.setTop (mkF m 98 #[.val (.long q0), .second, .val (.long q1), .second, .val (.long q2), .second, .val (.int p3), .val (.int p4), .val (.long v_o), .second, .val (.long v_c1), .second, .val (.long v_c2), .second, .val (.long v_q), .second, .val (.ref b3), .unset, .unset, .unset] [(.long v_c2), (.ref b3)])) _
        refine XS.lload X7.here hx rfl (hb hby at_98) rfl ?_
        show Steps p.tables e below (T7.setTop (mkF m 100 #[.val (.long q0), .second, .val (.long q1), .second, .val (.long q2), .second, .val (.int p3), .val (.int p4), .val (.long v_o), .second, .val (.long v_c1), .second, .val (.long v_c2), .second, .val (.long v_q), .second, .val (.ref b3), .unset, .unset, .unset] [(.long q2), (.long v_c2), (.ref b3)])) _
        refine XS.lconst X7.here hx rfl (hb hby at_100) ?_
        show Steps p.tables e below (T7.setTop (mkF m 101 #[.val (.long q0), .second, .val (.long q1), .second, .val (.long q2), .second, .val (.int p3), .val (.int p4), .val (.long v_o), .second, .val (.long v_c1), .second, .val (.long v_c2), .second, .val (.long v_q), .second, .val (.ref b3), .unset, .unset, .unset] [(.long (0 : Int64)), (.long q2), (.long v_c2), (.ref b3)])) _
        refine XS.iconst X7.here hx rfl (hb hby at_101) ?_
        show Steps p.tables e below (T7.setTop (mkF m 102 #[.val (.long q0), .second, .val (.long q1), .second, .val (.long q2), .second, .val (.int p3), .val (.int p4), .val (.long v_o), .second, .val (.long v_c1), .second, .val (.long v_c2), .second, .val (.long v_q), .second, .val (.ref b3), .unset, .unset, .unset] [(.int (0 : Int32)), (.long (0 : Int64)), (.long q2), (.long v_c2), (.ref b3)])) _
        refine XS.aconstNull X7.here hx rfl (hb hby at_102) ?_
        show Steps p.tables e below (T7.setTop (mkF m 103 #[.val (.long q0), .second, .val (.long q1), .second, .val (.long q2), .second, .val (.int p3), .val (.int p4), .val (.long v_o), .second, .val (.long v_c1), .second, .val (.long v_c2), .second, .val (.long v_q), .second, .val (.ref b3), .unset, .unset, .unset] [.null, (.int (0 : Int32)), (.long (0 : Int64)), (.long q2), (.long v_c2), (.ref b3)])) _
        refine st8.trans ?_
        show Steps p.tables e below (T8.setTop (mkF m 106 #[.val (.long q0), .second, .val (.long q1), .second, .val (.long q2), .second, .val (.int p3), .val (.int p4), .val (.long v_o), .second, .val (.long v_c1), .second, .val (.long v_c2), .second, .val (.long v_q), .second, .val (.ref b3), .unset, .unset, .unset] [])) t
        exact k
      by_cases h_Q2 : v_q < v_c2
      · by_cases h_Q1 : v_q < v_c1
        · exact absurd h_Q1 (own_ge (h_A ▸ h_q))
        · exact absurd (h_B ▸ h_Q2) h_Q1
      · obtain ⟨cq9, kq9, q9a, q9b, q9c⟩ := isOf hZ rfl E_b3_8
        obtain ⟨_, _, ⟨T9, L9, k9, n9⟩, -, X9, ⟨Lc9, hQ9, l9, y9, z9⟩, st9⟩ := X8.virtualBack hx (y := (⟨"com/example/tandem_ledger/tandemledger/Account", "at", "(J)Lcom/example/tandem_ledger/tandemledger/Account$Version;"⟩ : MethodName)) (z := (⟨"com/example/tandem_ledger/tandemledger/Account", "at", "(J)Lcom/example/tandem_ledger/tandemledger/Account$Version;"⟩ : MethodName)) hown (mvT hZ (hw _ (List.mem_of_getElem? (i := 82) rfl))) (mvT hZ (hw _ (List.mem_of_getElem? (i := 83) rfl))) (notFace_of_selects (args := #[]) (mvT hZ (hw _ (List.mem_of_getElem? (i := 85) rfl)))) (mvT hZ (hw _ (List.mem_of_getElem? (i := 85) rfl))) (mvT hZ (hw _ (List.mem_of_getElem? (i := 84) rfl))) (by decide) (backOf (W := 0) (own_rmAt1 l Z a0 hw [] b3 v_q bvc8 v_c2 T8.heap n0 Z8 Fl8 Fc8 h_Q2) hZ (hw _ (List.mem_of_getElem? (i := 86) rfl)) (hw _ (List.mem_of_getElem? (i := 7) rfl)) (by decide) (by decide)) q9a q9c (g := (mkF m 110 #[.val (.long q0), .second, .val (.long q1), .second, .val (.long q2), .second, .val (.int p3), .val (.int p4), .val (.long v_o), .second, .val (.long v_c1), .second, .val (.long v_c2), .second, .val (.long v_q), .second, .val (.ref b3), .unset, .unset, .unset] [(.long v_q), (.ref b3)])) rfl (by rw [hml]; rfl) (Steps.refl _) (argsL := [(.long v_q)]) (rest := []) (lenOf own_pd7 rfl) rfl (by show 2 * 0 + _ ≤ _; exact Nat.le_of_eq rfl) (hb hby at_110) (fun _ _ => ⟨rfl, rfl, (by decide : 6 + 0 ≤ _), (by decide : 30 + 0 ≤ _)⟩)
        dsimp only [Pt.U, Pt.locs, Pt.cells, Pt.slots] at X9 l9 y9 z9 st9 hQ9
        subst l9 y9 z9
        obtain ⟨rfl, N9q, e9⟩ := hQ9
        have N9 := Fr.app N8 N9q
        obtain ⟨cq10, kq10, q10a, q10b, q10c⟩ := isOf hZ e9 Ex8
        obtain ⟨_, _, ⟨T10, L10, k10, n10⟩, -, X10, ⟨Lc10, hQ10, l10, y10, z10⟩, st10⟩ := X9.virtualBack hx (y := (⟨"com/example/tandem_ledger/tandemledger/Account$Version", "balance", "()J"⟩ : MethodName)) (z := (⟨"com/example/tandem_ledger/tandemledger/Account$Version", "balance", "()J"⟩ : MethodName)) hown (mvT hZ (hw _ (List.mem_of_getElem? (i := 87) rfl))) (mvT hZ (hw _ (List.mem_of_getElem? (i := 88) rfl))) (notFace_of_selects (args := #[]) (mvT hZ (hw _ (List.mem_of_getElem? (i := 90) rfl)))) (mvT hZ (hw _ (List.mem_of_getElem? (i := 90) rfl))) (mvT hZ (hw _ (List.mem_of_getElem? (i := 89) rfl))) (by decide) (backOf (W := 0) (own_rmBal l Z a0 hw [] bvc8 q2 T8.heap n0 Z8 Fb8) hZ (hw _ (List.mem_of_getElem? (i := 91) rfl)) (hw _ (List.mem_of_getElem? (i := 45) rfl)) (by decide) (by decide)) q10a q10c (g := (mkF m 156 #[.val (.long q0), .second, .val (.long q1), .second, .val (.long q2), .second, .val (.int p3), .val (.int p4), .val (.long v_o), .second, .val (.long v_c1), .second, .val (.long v_c2), .second, .val (.long v_q), .second, .val (.ref b3), .val (.ref bvc8), .val (.long q2), .second] [(.ref bvc8)])) rfl (by rw [hml]; rfl) (Steps.refl _) (argsL := []) (rest := []) (lenOf own_pd2 rfl) rfl (by show 2 * 0 + _ ≤ _; exact Nat.le_of_eq rfl) (hb hby at_156) (fun _ _ => ⟨rfl, e9, (by decide : 6 + 0 ≤ _), (by decide : 30 + 0 ≤ _)⟩)
        dsimp only [Pt.U, Pt.locs, Pt.cells, Pt.slots] at X10 l10 y10 z10 st10 hQ10
        subst l10 y10 z10
        obtain ⟨rfl, N10q, e10⟩ := hQ10
        have N10 := Fr.app N9 N10q
        obtain ⟨fs, hr, hrun, hended, hRE⟩ := Jvm.Stand.leaveW (s := s) X10 hS4 (by show _ ≤ T10.heap.size; rw [e10]; exact hk8) (v := some (.int (1 : Int32))) (fun h => by rw [Bd.returns] at h; cases h)
        refine ⟨_, _, ?_, hrun, hended, _, _, rfl, ?_, hRE.1, hRE.2.1, hRE.2.2.1, hRE.2.2.2.mono (by decide) (by decide)⟩
        · show Steps p.tables e below (T8.setTop (mkF m 106 #[.val (.long q0), .second, .val (.long q1), .second, .val (.long q2), .second, .val (.int p3), .val (.int p4), .val (.long v_o), .second, .val (.long v_c1), .second, .val (.long v_c2), .second, .val (.long v_q), .second, .val (.ref b3), .unset, .unset, .unset] [])) _
          refine XS.aload X8.here hx rfl (hb hby at_106) rfl rfl ?_
          show Steps p.tables e below (T8.setTop (mkF m 108 #[.val (.long q0), .second, .val (.long q1), .second, .val (.long q2), .second, .val (.int p3), .val (.int p4), .val (.long v_o), .second, .val (.long v_c1), .second, .val (.long v_c2), .second, .val (.long v_q), .second, .val (.ref b3), .unset, .unset, .unset] [(.ref b3)])) _
          refine XS.lload X8.here hx rfl (hb hby at_108) rfl ?_
          show Steps p.tables e below (T8.setTop (mkF m 110 #[.val (.long q0), .second, .val (.long q1), .second, .val (.long q2), .second, .val (.int p3), .val (.int p4), .val (.long v_o), .second, .val (.long v_c1), .second, .val (.long v_c2), .second, .val (.long v_q), .second, .val (.ref b3), .unset, .unset, .unset] [(.long v_q), (.ref b3)])) _
          refine st9.trans ?_
          show Steps p.tables e below (T9.setTop (mkF m 113 #[.val (.long q0), .second, .val (.long q1), .second, .val (.long q2), .second, .val (.int p3), .val (.int p4), .val (.long v_o), .second, .val (.long v_c1), .second, .val (.long v_c2), .second, .val (.long v_q), .second, .val (.ref b3), .unset, .unset, .unset] [(.ref bvc8)])) _
          refine XS.astore X9.here hx rfl (hb hby at_113) rfl rfl (l' := #[.val (.long q0), .second, .val (.long q1), .second, .val (.long q2), .second, .val (.int p3), .val (.int p4), .val (.long v_o), .second, .val (.long v_c1), .second, .val (.long v_c2), .second, .val (.long v_q), .second, .val (.ref b3), .val (.ref bvc8), .unset, .unset]) rfl ?_
          show Steps p.tables e below (T9.setTop (mkF m 115 #[.val (.long q0), .second, .val (.long q1), .second, .val (.long q2), .second, .val (.int p3), .val (.int p4), .val (.long v_o), .second, .val (.long v_c1), .second, .val (.long v_c2), .second, .val (.long v_q), .second, .val (.ref b3), .val (.ref bvc8), .unset, .unset] [])) _
          refine XS.aload X9.here hx rfl (hb hby at_115) rfl rfl ?_
          show Steps p.tables e below (T9.setTop (mkF m 117 #[.val (.long q0), .second, .val (.long q1), .second, .val (.long q2), .second, .val (.int p3), .val (.int p4), .val (.long v_o), .second, .val (.long v_c1), .second, .val (.long v_c2), .second, .val (.long v_q), .second, .val (.ref b3), .val (.ref bvc8), .unset, .unset] [(.ref bvc8)])) _
          refine XS.ifnonnullYes X9.here hx rfl (pc0 := 117) (pc' := 122) rfl (hb hby at_117) rfl (by decide) (by decide) ?_
          show Steps p.tables e below (T9.setTop (mkF m 122 #[.val (.long q0), .second, .val (.long q1), .second, .val (.long q2), .second, .val (.int p3), .val (.int p4), .val (.long v_o), .second, .val (.long v_c1), .second, .val (.long v_c2), .second, .val (.long v_q), .second, .val (.ref b3), .val (.ref bvc8), .unset, .unset] [])) _
          refine XS.lload X9.here hx rfl (hb hby at_122) rfl ?_
          show Steps p.tables e below (T9.setTop (mkF m 124 #[.val (.long q0), .second, .val (.long q1), .second, .val (.long q2), .second, .val (.int p3), .val (.int p4), .val (.long v_o), .second, .val (.long v_c1), .second, .val (.long v_c2), .second, .val (.long v_q), .second, .val (.ref b3), .val (.ref bvc8), .unset, .unset] [(.long v_q)])) _
          refine XS.lload X9.here hx rfl (hb hby at_124) rfl ?_
          show Steps p.tables e below (T9.setTop (mkF m 126 #[.val (.long q0), .second, .val (.long q1), .second, .val (.long q2), .second, .val (.int p3), .val (.int p4), .val (.long v_o), .second, .val (.long v_c1), .second, .val (.long v_c2), .second, .val (.long v_q), .second, .val (.ref b3), .val (.ref bvc8), .unset, .unset] [(.long v_c2), (.long v_q)])) _
          refine XS.lcmp X9.here hx rfl (hb hby at_126) rfl ?_
          show Steps p.tables e below (T9.setTop (mkF m 127 #[.val (.long q0), .second, .val (.long q1), .second, .val (.long q2), .second, .val (.int p3), .val (.int p4), .val (.long v_o), .second, .val (.long v_c1), .second, .val (.long v_c2), .second, .val (.long v_q), .second, .val (.ref b3), .val (.ref bvc8), .unset, .unset] [(.int (lcmpW v_q v_c2))])) _
          refine XS.ifNo X9.here hx rfl (hb hby at_127) rfl ((if0 _ _).trans (flt (mt (lw_lt _ _).mp (h_Q2 : ¬ (v_q < v_c2)))).1) ?_
          show Steps p.tables e below (T9.setTop (mkF m 130 #[.val (.long q0), .second, .val (.long q1), .second, .val (.long q2), .second, .val (.int p3), .val (.int p4), .val (.long v_o), .second, .val (.long v_c1), .second, .val (.long v_c2), .second, .val (.long v_q), .second, .val (.ref b3), .val (.ref bvc8), .unset, .unset] [])) _
          refine XS.lload X9.here hx rfl (hb hby at_130) rfl ?_
          show Steps p.tables e below (T9.setTop (mkF m 132 #[.val (.long q0), .second, .val (.long q1), .second, .val (.long q2), .second, .val (.int p3), .val (.int p4), .val (.long v_o), .second, .val (.long v_c1), .second, .val (.long v_c2), .second, .val (.long v_q), .second, .val (.ref b3), .val (.ref bvc8), .unset, .unset] [(.long q2)])) _
          refine XS.lstore X9.here hx rfl (hb hby at_132) rfl (l' := #[.val (.long q0), .second, .val (.long q1), .second, .val (.long q2), .second, .val (.int p3), .val (.int p4), .val (.long v_o), .second, .val (.long v_c1), .second, .val (.long v_c2), .second, .val (.long v_q), .second, .val (.ref b3), .val (.ref bvc8), .val (.long q2), .second]) rfl ?_
          show Steps p.tables e below (T9.setTop (mkF m 134 #[.val (.long q0), .second, .val (.long q1), .second, .val (.long q2), .second, .val (.int p3), .val (.int p4), .val (.long v_o), .second, .val (.long v_c1), .second, .val (.long v_c2), .second, .val (.long v_q), .second, .val (.ref b3), .val (.ref bvc8), .val (.long q2), .second] [])) _
          refine XS.goto X9.here hx rfl (pc0 := 134) (pc' := 154) rfl (hb hby at_134) (by decide) (by decide) ?_
          show Steps p.tables e below (T9.setTop (mkF m 154 #[.val (.long q0), .second, .val (.long q1), .second, .val (.long q2), .second, .val (.int p3), .val (.int p4), .val (.long v_o), .second, .val (.long v_c1), .second, .val (.long v_c2), .second, .val (.long v_q), .second, .val (.ref b3), .val (.ref bvc8), .val (.long q2), .second] [])) _
          refine XS.aload X9.here hx rfl (hb hby at_154) rfl rfl ?_
          show Steps p.tables e below (T9.setTop (mkF m 156 #[.val (.long q0), .second, .val (.long q1), .second, .val (.long q2), .second, .val (.int p3), .val (.int p4), .val (.long v_o), .second, .val (.long v_c1), .second, .val (.long v_c2), .second, .val (.long v_q), .second, .val (.ref b3), .val (.ref bvc8), .val (.long q2), .second] [(.ref bvc8)])) _
          refine st10.trans ?_
          show Steps p.tables e below (T10.setTop (mkF m 159 #[.val (.long q0), .second, .val (.long q1), .second, .val (.long q2), .second, .val (.int p3), .val (.int p4), .val (.long v_o), .second, .val (.long v_c1), .second, .val (.long v_c2), .second, .val (.long v_q), .second, .val (.ref b3), .val (.ref bvc8), .val (.long q2), .second] [(.long q2)])) _
          refine XS.lload X10.here hx rfl (hb hby at_159) rfl ?_
          show Steps p.tables e below (T10.setTop (mkF m 161 #[.val (.long q0), .second, .val (.long q1), .second, .val (.long q2), .second, .val (.int p3), .val (.int p4), .val (.long v_o), .second, .val (.long v_c1), .second, .val (.long v_c2), .second, .val (.long v_q), .second, .val (.ref b3), .val (.ref bvc8), .val (.long q2), .second] [(.long q2), (.long q2)])) _
          refine XS.lcmp X10.here hx rfl (hb hby at_161) rfl ?_
          show Steps p.tables e below (T10.setTop (mkF m 162 #[.val (.long q0), .second, .val (.long q1), .second, .val (.long q2), .second, .val (.int p3), .val (.int p4), .val (.long v_o), .second, .val (.long v_c1), .second, .val (.long v_c2), .second, .val (.long v_q), .second, .val (.ref b3), .val (.ref bvc8), .val (.long q2), .second] [(.int (lcmpW q2 q2))])) _
          refine XS.ifNo X10.here hx rfl (hb hby at_162) rfl ((if0 _ _).trans (teq ((lw_eq _ _).mpr (rfl : q2 = q2))).2) ?_
          show Steps p.tables e below (T10.setTop (mkF m 165 #[.val (.long q0), .second, .val (.long q1), .second, .val (.long q2), .second, .val (.int p3), .val (.int p4), .val (.long v_o), .second, .val (.long v_c1), .second, .val (.long v_c2), .second, .val (.long v_q), .second, .val (.ref b3), .val (.ref bvc8), .val (.long q2), .second] [])) _
          refine XS.iconst X10.here hx rfl (hb hby at_165) ?_
          show Steps p.tables e below (T10.setTop (mkF m 166 #[.val (.long q0), .second, .val (.long q1), .second, .val (.long q2), .second, .val (.int p3), .val (.int p4), .val (.long v_o), .second, .val (.long v_c1), .second, .val (.long v_c2), .second, .val (.long v_q), .second, .val (.ref b3), .val (.ref bvc8), .val (.long q2), .second] [(.int (1 : Int32))])) _
          refine XS.goto X10.here hx rfl (pc0 := 166) (pc' := 170) rfl (hb hby at_166) (by decide) (by decide) ?_
          show Steps p.tables e below (T10.setTop (mkF m 170 #[.val (.long q0), .second, .val (.long q1), .second, .val (.long q2), .second, .val (.int p3), .val (.int p4), .val (.long v_o), .second, .val (.long v_c1), .second, .val (.long v_c2), .second, .val (.long v_q), .second, .val (.ref b3), .val (.ref bvc8), .val (.long q2), .second] [(.int (1 : Int32))])) _
          exact retN X10 hx (t := .boolean) Bd.returns (by simp) (hb hby at_170) hr
        · show own_Q0 n0 _ T10.heap _
          rw [e10]
          exact ⟨rfl, N10⟩
    · obtain ⟨cq11, kq11, q11a, q11b, q11c⟩ := isOf hZ rfl E_b3_6
      obtain ⟨_, _, ⟨T11, L11, k11, n11⟩, -, X11, ⟨Lc11, hQ11, l11, y11, z11⟩, st11⟩ := X6.virtualBack hx (y := (⟨"com/example/tandem_ledger/tandemledger/Account", "post", "(JJJZLjava/util/function/LongSupplier;)V"⟩ : MethodName)) (z := (⟨"com/example/tandem_ledger/tandemledger/Account", "post", "(JJJZLjava/util/function/LongSupplier;)V"⟩ : MethodName)) hown (mvT hZ (hw _ (List.mem_of_getElem? (i := 62) rfl))) (mvT hZ (hw _ (List.mem_of_getElem? (i := 63) rfl))) (notFace_of_selects (args := #[]) (mvT hZ (hw _ (List.mem_of_getElem? (i := 65) rfl)))) (mvT hZ (hw _ (List.mem_of_getElem? (i := 65) rfl))) (mvT hZ (hw _ (List.mem_of_getElem? (i := 64) rfl))) (by decide) (backOf (W := 0) (own_rmPAn1 l Z a0 hw [] b3 v_c1 q1 (0 : Int64) (0 : Int32) bva6 v_o bR bC T6.heap n0 Z6 E_b3_6 Fl6 Fk6 Fg6 Fc6 Fe6 (Ne.symm ne_b3_bva6) new_b3 h_A Fh6 Fr6 E_bC_6 F_bC_record_6 rfl) hZ (hw _ (List.mem_of_getElem? (i := 66) rfl)) (hw _ (List.mem_of_getElem? (i := 7) rfl)) (by decide) (by decide)) q11a q11c (g := (mkF m 91 #[.val (.long q0), .second, .val (.long q1), .second, .val (.long q2), .second, .val (.int p3), .val (.int p4), .val (.long v_o), .second, .val (.long v_c1), .second, .val (.long v_c2), .second, .val (.long v_q), .second, .val (.ref b3), .unset, .unset, .unset] [.null, (.int (0 : Int32)), (.long (0 : Int64)), (.long q1), (.long v_c1), (.ref b3)])) rfl (by rw [hml]; rfl) (Steps.refl _) (argsL := [(.long v_c1), (.long q1), (.long (0 : Int64)), (.int (0 : Int32)), .null]) (rest := []) (lenOf own_pd6 rfl) rfl (by show 2 * 0 + _ ≤ _; exact Nat.le_of_eq rfl) (hb hby at_91) (fun _ _ => ⟨rfl, rfl, (by decide : 4 + 1 ≤ _), (by decide : 20 + 5 ≤ _)⟩)
      dsimp only [Pt.U, Pt.locs, Pt.cells, Pt.slots] at X11 l11 y11 z11 st11 hQ11
      subst l11 y11 z11
      obtain ⟨rfl, N11q, K11q, bvb11, nx11, sx11, Fl11, Fk11, Fg11, Ex11, Fc11, Fb11, Fr11, Fh11, Fe11⟩ := hQ11
      have S_Reserve_NONE_11 := own_staKeep S_Reserve_NONE_6 E_b3_6 K11q
      have S_Chain_NONE_11 := own_staKeep S_Chain_NONE_6 E_b3_6 K11q
      have E_bC_11 := E_bC_6.keep K11q
      have F_bC_record_11 := F_bC_record_6.keep K11q (fun q => ne_bC_b3 (List.mem_singleton.mp q))
      have E_b3_11 := E_b3_6.keep K11q
      have E_bva6_11 := Ex6.keep K11q
      have F_bva6_commit_11 := Fc6.keep K11q (fun q => (Ne.symm ne_b3_bva6) (List.mem_singleton.mp q))
      have F_bva6_balance_11 := Fb6.keep K11q (fun q => (Ne.symm ne_b3_bva6) (List.mem_singleton.mp q))
      have F_bva6_reserve_11 := Fr6.keep K11q (fun q => (Ne.symm ne_b3_bva6) (List.mem_singleton.mp q))
      have F_bva6_chain_11 := Fh6.keep K11q (fun q => (Ne.symm ne_b3_bva6) (List.mem_singleton.mp q))
      have F_bva6_earlier_11 := Fe6.keep K11q (fun q => (Ne.symm ne_b3_bva6) (List.mem_singleton.mp q))
      have ne_b3_bvb11 : b3 ≠ bvb11 := Nat.ne_of_lt (Nat.lt_of_lt_of_le E_b3_6.lt sx11)
      have ne_bC_bvb11 : bC ≠ bvb11 := Nat.ne_of_lt (Nat.lt_of_lt_of_le E_bC_6.lt sx11)
      have ne_bva6_bvb11 : bva6 ≠ bvb11 := Nat.ne_of_lt (Nat.lt_of_lt_of_le Ex6.lt sx11)
      have N11 := Fr.app N6 N11q
      have Z11 := Nat.le_trans Z6 K11q.1
      have hk11 := Nat.le_trans hk6 K11q.1
      have sz_bvb11 : h0.size ≤ bvb11 := Nat.le_trans K6.1 sx11
      have K11 := K6.trans K11q (fun x hx => by cases List.mem_singleton.mp hx; exact Or.inr sz_b3)
      obtain ⟨cq12, kq12, q12a, q12b, q12c⟩ := isOf hZ rfl E_b3_11
      obtain ⟨_, _, ⟨T12, L12, k12, n12⟩, -, X12, ⟨Lc12, hQ12, l12, y12, z12⟩, st12⟩ := X11.virtualBack hx (y := (⟨"com/example/tandem_ledger/tandemledger/Account", "post", "(JJJZLjava/util/function/LongSupplier;)V"⟩ : MethodName)) (z := (⟨"com/example/tandem_ledger/tandemledger/Account", "post", "(JJJZLjava/util/function/LongSupplier;)V"⟩ : MethodName)) hown (mvT hZ (hw _ (List.mem_of_getElem? (i := 62) rfl))) (mvT hZ (hw _ (List.mem_of_getElem? (i := 63) rfl))) (notFace_of_selects (args := #[]) (mvT hZ (hw _ (List.mem_of_getElem? (i := 65) rfl)))) (mvT hZ (hw _ (List.mem_of_getElem? (i := 65) rfl))) (mvT hZ (hw _ (List.mem_of_getElem? (i := 64) rfl))) (by decide) (backOf (W := 0) (own_rmPC1 l Z a0 hw [] b3 v_c2 q2 (0 : Int64) (0 : Int32) bvb11 v_c1 .null bR bC T11.heap n0 Z11 E_b3_11 Fl11 Fk11 Fg11 Fc11 Fe11 (Ne.symm ne_b3_bvb11) new_b3 h_B Fh11 Fr11 E_bC_11 F_bC_record_11 rfl) hZ (hw _ (List.mem_of_getElem? (i := 66) rfl)) (hw _ (List.mem_of_getElem? (i := 7) rfl)) (by decide) (by decide)) q12a q12c (g := (mkF m 103 #[.val (.long q0), .second, .val (.long q1), .second, .val (.long q2), .second, .val (.int p3), .val (.int p4), .val (.long v_o), .second, .val (.long v_c1), .second, .val (.long v_c2), .second, .val (.long v_q), .second, .val (.ref b3), .unset, .unset, .unset] [.null, (.int (0 : Int32)), (.long (0 : Int64)), (.long q2), (.long v_c2), (.ref b3)])) rfl (by rw [hml]; rfl) (Steps.refl _) (argsL := [(.long v_c2), (.long q2), (.long (0 : Int64)), (.int (0 : Int32)), .null]) (rest := []) (lenOf own_pd6 rfl) rfl (by show 2 * 0 + _ ≤ _; exact Nat.le_of_eq rfl) (hb hby at_103) (fun _ _ => ⟨rfl, rfl, (by decide : 5 + 1 ≤ _), (by decide : 25 + 5 ≤ _)⟩)
      dsimp only [Pt.U, Pt.locs, Pt.cells, Pt.slots] at X12 l12 y12 z12 st12 hQ12
      subst l12 y12 z12
      obtain ⟨rfl, N12q, K12q, bvc12, nx12, sx12, Fl12, Fk12, Fg12, Ex12, Fc12, Fb12, Fr12, Fh12, Fe12⟩ := hQ12
      have S_Reserve_NONE_12 := own_staKeep S_Reserve_NONE_11 E_b3_11 K12q
      have S_Chain_NONE_12 := own_staKeep S_Chain_NONE_11 E_b3_11 K12q
      have E_bC_12 := E_bC_11.keep K12q
      have F_bC_record_12 := F_bC_record_11.keep K12q (fun q => ne_bC_b3 (List.mem_singleton.mp q))
      have E_b3_12 := E_b3_11.keep K12q
      have E_bva6_12 := E_bva6_11.keep K12q
      have F_bva6_commit_12 := F_bva6_commit_11.keep K12q (fun q => (Ne.symm ne_b3_bva6) (List.mem_singleton.mp q))
      have F_bva6_balance_12 := F_bva6_balance_11.keep K12q (fun q => (Ne.symm ne_b3_bva6) (List.mem_singleton.mp q))
      have F_bva6_reserve_12 := F_bva6_reserve_11.keep K12q (fun q => (Ne.symm ne_b3_bva6) (List.mem_singleton.mp q))
      have F_bva6_chain_12 := F_bva6_chain_11.keep K12q (fun q => (Ne.symm ne_b3_bva6) (List.mem_singleton.mp q))
      have F_bva6_earlier_12 := F_bva6_earlier_11.keep K12q (fun q => (Ne.symm ne_b3_bva6) (List.mem_singleton.mp q))
      have E_bvb11_12 := Ex11.keep K12q
      have F_bvb11_commit_12 := Fc11.keep K12q (fun q => (Ne.symm ne_b3_bvb11) (List.mem_singleton.mp q))
      have F_bvb11_balance_12 := Fb11.keep K12q (fun q => (Ne.symm ne_b3_bvb11) (List.mem_singleton.mp q))
      have F_bvb11_reserve_12 := Fr11.keep K12q (fun q => (Ne.symm ne_b3_bvb11) (List.mem_singleton.mp q))
      have F_bvb11_chain_12 := Fh11.keep K12q (fun q => (Ne.symm ne_b3_bvb11) (List.mem_singleton.mp q))
      have F_bvb11_earlier_12 := Fe11.keep K12q (fun q => (Ne.symm ne_b3_bvb11) (List.mem_singleton.mp q))
      have ne_b3_bvc12 : b3 ≠ bvc12 := Nat.ne_of_lt (Nat.lt_of_lt_of_le E_b3_11.lt sx12)
      have ne_bC_bvc12 : bC ≠ bvc12 := Nat.ne_of_lt (Nat.lt_of_lt_of_le E_bC_11.lt sx12)
      have ne_bva6_bvc12 : bva6 ≠ bvc12 := Nat.ne_of_lt (Nat.lt_of_lt_of_le E_bva6_11.lt sx12)
      have ne_bvb11_bvc12 : bvb11 ≠ bvc12 := Nat.ne_of_lt (Nat.lt_of_lt_of_le Ex11.lt sx12)
      have N12 := Fr.app N11 N12q
      have Z12 := Nat.le_trans Z11 K12q.1
      have hk12 := Nat.le_trans hk11 K12q.1
      have sz_bvc12 : h0.size ≤ bvc12 := Nat.le_trans K11.1 sx12
      have K12 := K11.trans K12q (fun x hx => by cases List.mem_singleton.mp hx; exact Or.inr sz_b3)
      refine own_go (b := T12.setTop (mkF m 106 #[.val (.long q0), .second, .val (.long q1), .second, .val (.long q2), .second, .val (.int p3), .val (.int p4), .val (.long v_o), .second, .val (.long v_c1), .second, .val (.long v_c2), .second, .val (.long v_q), .second, .val (.ref b3), .unset, .unset, .unset] [])) (fun t k => ?_) ?_
      · show Steps p.tables e below (T6.setTop (mkF m 83 #[.val (.long q0), .second, .val (.long q1), .second, .val (.long q2), .second, .val (.int p3), .val (.int p4), .val (.long v_o), .second, .val (.long v_c1), .second, .val (.long v_c2), .second, .val (.long v_q), .second, .val (.ref b3), .unset, .unset, .unset] [])) _
        refine XS.aload X6.here hx rfl (hb hby at_83) rfl rfl ?_
        show Steps p.tables e below (T6.setTop (mkF m 85 #[.val (.long q0), .second, .val (.long q1), .second, .val (.long q2), .second, .val (.int p3), .val (.int p4), .val (.long v_o), .second, .val (.long v_c1), .second, .val (.long v_c2), .second, .val (.long v_q), .second, .val (.ref b3), .unset, .unset, .unset] [(.ref b3)])) _
        refine XS.lload X6.here hx rfl (hb hby at_85) rfl ?_
        show Steps p.tables e below (T6.setTop (mkF m 87 #[.val (.long q0), .second, .val (.long q1), .second, .val (.long q2), .second, .val (.int p3), .val (.int p4), .val (.long v_o), .second, .val (.long v_c1), .second, .val (.long v_c2), .second, .val (.long v_q), .second, .val (.ref b3), .unset, .unset, .unset] [(.long v_c1), (.ref b3)])) _
        refine XS.lloadN X6.here hx rfl (hb hby at_87) rfl ?_
        show Steps p.tables e below (T6.setTop (mkF m 88 #[.val (.long q0), .second, .val (.long q1), .second, .val (.long q2), .second, .val (.int p3), .val (.int p4), .val (.long v_o), .second, .val (.long v_c1), .second, .val (.long v_c2), .second, .val (.long v_q), .second, .val (.ref b3), .unset, .unset, .unset] [(.long q1), (.long v_c1), (.ref b3)])) _
        refine XS.lconst X6.here hx rfl (hb hby at_88) ?_
        show Steps p.tables e below (T6.setTop (mkF m 89 #[.val (.long q0), .second, .val (.long q1), .second, .val (.long q2), .second, .val (.int p3), .val (.int p4), .val (.long v_o), .second, .val (.long v_c1), .second, .val (.long v_c2), .second, .val (.long v_q), .second, .val (.ref b3), .unset, .unset, .unset] [(.long (0 : Int64)), (.long q1), (.long v_c1), (.ref b3)])) _
        refine XS.iconst X6.here hx rfl (hb hby at_89) ?_
        show Steps p.tables e below (T6.setTop (mkF m 90 #[.val (.long q0), .second, .val (.long q1), .second, .val (.long q2), .second, .val (.int p3), .val (.int p4), .val (.long v_o), .second, .val (.long v_c1), .second, .val (.long v_c2), .second, .val (.long v_q), .second, .val (.ref b3), .unset, .unset, .unset] [(.int (0 : Int32)), (.long (0 : Int64)), (.long q1), (.long v_c1), (.ref b3)])) _
        refine XS.aconstNull X6.here hx rfl (hb hby at_90) ?_
        show Steps p.tables e below (T6.setTop (mkF m 91 #[.val (.long q0), .second, .val (.long q1), .second, .val (.long q2), .second, .val (.int p3), .val (.int p4), .val (.long v_o), .second, .val (.long v_c1), .second, .val (.long v_c2), .second, .val (.long v_q), .second, .val (.ref b3), .unset, .unset, .unset] [.null, (.int (0 : Int32)), (.long (0 : Int64)), (.long q1), (.long v_c1), (.ref b3)])) _
        refine st11.trans ?_
        show Steps p.tables e below (T11.setTop (mkF m 94 #[.val (.long q0), .second, .val (.long q1), .second, .val (.long q2), .second, .val (.int p3), .val (.int p4), .val (.long v_o), .second, .val (.long v_c1), .second, .val (.long v_c2), .second, .val (.long v_q), .second, .val (.ref b3), .unset, .unset, .unset] [])) _
        refine XS.aload X11.here hx rfl (hb hby at_94) rfl rfl ?_
        show Steps p.tables e below (T11.setTop (mkF m 96 #[.val (.long q0), .second, .val (.long q1), .second, .val (.long q2), .second, .val (.int p3), .val (.int p4), .val (.long v_o), .second, .val (.long v_c1), .second, .val (.long v_c2), .second, .val (.long v_q), .second, .val (.ref b3), .unset, .unset, .unset] [(.ref b3)])) _
        refine XS.lload X11.here hx rfl (hb hby at_96) rfl ?_
        show Steps p.tables e below (T11.setTop (mkF m 98 #[.val (.long q0), .second, .val (.long q1), .second, .val (.long q2), .second, .val (.int p3), .val (.int p4), .val (.long v_o), .second, .val (.long v_c1), .second, .val (.long v_c2), .second, .val (.long v_q), .second, .val (.ref b3), .unset, .unset, .unset] [(.long v_c2), (.ref b3)])) _
        refine XS.lload X11.here hx rfl (hb hby at_98) rfl ?_
        show Steps p.tables e below (T11.setTop (mkF m 100 #[.val (.long q0), .second, .val (.long q1), .second, .val (.long q2), .second, .val (.int p3), .val (.int p4), .val (.long v_o), .second, .val (.long v_c1), .second, .val (.long v_c2), .second, .val (.long v_q), .second, .val (.ref b3), .unset, .unset, .unset] [(.long q2), (.long v_c2), (.ref b3)])) _
        refine XS.lconst X11.here hx rfl (hb hby at_100) ?_
        show Steps p.tables e below (T11.setTop (mkF m 101 #[.val (.long q0), .second, .val (.long q1), .second, .val (.long q2), .second, .val (.int p3), .val (.int p4), .val (.long v_o), .second, .val (.long v_c1), .second, .val (.long v_c2), .second, .val (.long v_q), .second, .val (.ref b3), .unset, .unset, .unset] [(.long (0 : Int64)), (.long q2), (.long v_c2), (.ref b3)])) _
        refine XS.iconst X11.here hx rfl (hb hby at_101) ?_
        show Steps p.tables e below (T11.setTop (mkF m 102 #[.val (.long q0), .second, .val (.long q1), .second, .val (.long q2), .second, .val (.int p3), .val (.int p4), .val (.long v_o), .second, .val (.long v_c1), .second, .val (.long v_c2), .second, .val (.long v_q), .second, .val (.ref b3), .unset, .unset, .unset] [(.int (0 : Int32)), (.long (0 : Int64)), (.long q2), (.long v_c2), (.ref b3)])) _
        refine XS.aconstNull X11.here hx rfl (hb hby at_102) ?_
        show Steps p.tables e below (T11.setTop (mkF m 103 #[.val (.long q0), .second, .val (.long q1), .second, .val (.long q2), .second, .val (.int p3), .val (.int p4), .val (.long v_o), .second, .val (.long v_c1), .second, .val (.long v_c2), .second, .val (.long v_q), .second, .val (.ref b3), .unset, .unset, .unset] [.null, (.int (0 : Int32)), (.long (0 : Int64)), (.long q2), (.long v_c2), (.ref b3)])) _
        refine st12.trans ?_
        show Steps p.tables e below (T12.setTop (mkF m 106 #[.val (.long q0), .second, .val (.long q1), .second, .val (.long q2), .second, .val (.int p3), .val (.int p4), .val (.long v_o), .second, .val (.long v_c1), .second, .val (.long v_c2), .second, .val (.long v_q), .second, .val (.ref b3), .unset, .unset, .unset] [])) t
        exact k
      by_cases h_Q2 : v_q < v_c2
      · by_cases h_Q1 : v_q < v_c1
        · exact absurd h_Q1 (own_ge (h_A ▸ h_q))
        · obtain ⟨cq13, kq13, q13a, q13b, q13c⟩ := isOf hZ rfl E_b3_12
          obtain ⟨_, _, ⟨T13, L13, k13, n13⟩, -, X13, ⟨Lc13, hQ13, l13, y13, z13⟩, st13⟩ := X12.virtualBack hx (y := (⟨"com/example/tandem_ledger/tandemledger/Account", "at", "(J)Lcom/example/tandem_ledger/tandemledger/Account$Version;"⟩ : MethodName)) (z := (⟨"com/example/tandem_ledger/tandemledger/Account", "at", "(J)Lcom/example/tandem_ledger/tandemledger/Account$Version;"⟩ : MethodName)) hown (mvT hZ (hw _ (List.mem_of_getElem? (i := 82) rfl))) (mvT hZ (hw _ (List.mem_of_getElem? (i := 83) rfl))) (notFace_of_selects (args := #[]) (mvT hZ (hw _ (List.mem_of_getElem? (i := 85) rfl)))) (mvT hZ (hw _ (List.mem_of_getElem? (i := 85) rfl))) (mvT hZ (hw _ (List.mem_of_getElem? (i := 84) rfl))) (by decide) (backOf (W := 0) (own_rmAt2 l Z a0 hw [] b3 v_q bvc12 bvb11 v_c2 v_c1 T12.heap n0 Z12 Fl12 Fc12 Fe12 h_Q2 F_bvb11_commit_12 h_Q1) hZ (hw _ (List.mem_of_getElem? (i := 86) rfl)) (hw _ (List.mem_of_getElem? (i := 7) rfl)) (by decide) (by decide)) q13a q13c (g := (mkF m 110 #[.val (.long q0), .second, .val (.long q1), .second, .val (.long q2), .second, .val (.int p3), .val (.int p4), .val (.long v_o), .second, .val (.long v_c1), .second, .val (.long v_c2), .second, .val (.long v_q), .second, .val (.ref b3), .unset, .unset, .unset] [(.long v_q), (.ref b3)])) rfl (by rw [hml]; rfl) (Steps.refl _) (argsL := [(.long v_q)]) (rest := []) (lenOf own_pd7 rfl) rfl (by show 2 * 0 + _ ≤ _; exact Nat.le_of_eq rfl) (hb hby at_110) (fun _ _ => ⟨rfl, rfl, (by decide : 6 + 0 ≤ _), (by decide : 30 + 0 ≤ _)⟩)
          dsimp only [Pt.U, Pt.locs, Pt.cells, Pt.slots] at X13 l13 y13 z13 st13 hQ13
          subst l13 y13 z13
          obtain ⟨rfl, N13q, e13⟩ := hQ13
          have N13 := Fr.app N12 N13q
          obtain ⟨cq14, kq14, q14a, q14b, q14c⟩ := isOf hZ e13 E_bvb11_12
          obtain ⟨_, _, ⟨T14, L14, k14, n14⟩, -, X14, ⟨Lc14, hQ14, l14, y14, z14⟩, st14⟩ := X13.virtualBack hx (y := (⟨"com/example/tandem_ledger/tandemledger/Account$Version", "balance", "()J"⟩ : MethodName)) (z := (⟨"com/example/tandem_ledger/tandemledger/Account$Version", "balance", "()J"⟩ : MethodName)) hown (mvT hZ (hw _ (List.mem_of_getElem? (i := 87) rfl))) (mvT hZ (hw _ (List.mem_of_getElem? (i := 88) rfl))) (notFace_of_selects (args := #[]) (mvT hZ (hw _ (List.mem_of_getElem? (i := 90) rfl)))) (mvT hZ (hw _ (List.mem_of_getElem? (i := 90) rfl))) (mvT hZ (hw _ (List.mem_of_getElem? (i := 89) rfl))) (by decide) (backOf (W := 0) (own_rmBal l Z a0 hw [] bvb11 q1 T12.heap n0 Z12 F_bvb11_balance_12) hZ (hw _ (List.mem_of_getElem? (i := 91) rfl)) (hw _ (List.mem_of_getElem? (i := 45) rfl)) (by decide) (by decide)) q14a q14c (g := (mkF m 156 #[.val (.long q0), .second, .val (.long q1), .second, .val (.long q2), .second, .val (.int p3), .val (.int p4), .val (.long v_o), .second, .val (.long v_c1), .second, .val (.long v_c2), .second, .val (.long v_q), .second, .val (.ref b3), .val (.ref bvb11), .val (.long q1), .second] [(.ref bvb11)])) rfl (by rw [hml]; rfl) (Steps.refl _) (argsL := []) (rest := []) (lenOf own_pd2 rfl) rfl (by show 2 * 0 + _ ≤ _; exact Nat.le_of_eq rfl) (hb hby at_156) (fun _ _ => ⟨rfl, e13, (by decide : 6 + 0 ≤ _), (by decide : 30 + 0 ≤ _)⟩)
          dsimp only [Pt.U, Pt.locs, Pt.cells, Pt.slots] at X14 l14 y14 z14 st14 hQ14
          subst l14 y14 z14
          obtain ⟨rfl, N14q, e14⟩ := hQ14
          have N14 := Fr.app N13 N14q
          obtain ⟨fs, hr, hrun, hended, hRE⟩ := Jvm.Stand.leaveW (s := s) X14 hS4 (by show _ ≤ T14.heap.size; rw [e14]; exact hk12) (v := some (.int (1 : Int32))) (fun h => by rw [Bd.returns] at h; cases h)
          refine ⟨_, _, ?_, hrun, hended, _, _, rfl, ?_, hRE.1, hRE.2.1, hRE.2.2.1, hRE.2.2.2.mono (by decide) (by decide)⟩
          · show Steps p.tables e below (T12.setTop (mkF m 106 #[.val (.long q0), .second, .val (.long q1), .second, .val (.long q2), .second, .val (.int p3), .val (.int p4), .val (.long v_o), .second, .val (.long v_c1), .second, .val (.long v_c2), .second, .val (.long v_q), .second, .val (.ref b3), .unset, .unset, .unset] [])) _
            refine XS.aload X12.here hx rfl (hb hby at_106) rfl rfl ?_
            show Steps p.tables e below (T12.setTop (mkF m 108 #[.val (.long q0), .second, .val (.long q1), .second, .val (.long q2), .second, .val (.int p3), .val (.int p4), .val (.long v_o), .second, .val (.long v_c1), .second, .val (.long v_c2), .second, .val (.long v_q), .second, .val (.ref b3), .unset, .unset, .unset] [(.ref b3)])) _
            refine XS.lload X12.here hx rfl (hb hby at_108) rfl ?_
            show Steps p.tables e below (T12.setTop (mkF m 110 #[.val (.long q0), .second, .val (.long q1), .second, .val (.long q2), .second, .val (.int p3), .val (.int p4), .val (.long v_o), .second, .val (.long v_c1), .second, .val (.long v_c2), .second, .val (.long v_q), .second, .val (.ref b3), .unset, .unset, .unset] [(.long v_q), (.ref b3)])) _
            refine st13.trans ?_
            show Steps p.tables e below (T13.setTop (mkF m 113 #[.val (.long q0), .second, .val (.long q1), .second, .val (.long q2), .second, .val (.int p3), .val (.int p4), .val (.long v_o), .second, .val (.long v_c1), .second, .val (.long v_c2), .second, .val (.long v_q), .second, .val (.ref b3), .unset, .unset, .unset] [(.ref bvb11)])) _
            refine XS.astore X13.here hx rfl (hb hby at_113) rfl rfl (l' := #[.val (.long q0), .second, .val (.long q1), .second, .val (.long q2), .second, .val (.int p3), .val (.int p4), .val (.long v_o), .second, .val (.long v_c1), .second, .val (.long v_c2), .second, .val (.long v_q), .second, .val (.ref b3), .val (.ref bvb11), .unset, .unset]) rfl ?_
            show Steps p.tables e below (T13.setTop (mkF m 115 #[.val (.long q0), .second, .val (.long q1), .second, .val (.long q2), .second, .val (.int p3), .val (.int p4), .val (.long v_o), .second, .val (.long v_c1), .second, .val (.long v_c2), .second, .val (.long v_q), .second, .val (.ref b3), .val (.ref bvb11), .unset, .unset] [])) _
            refine XS.aload X13.here hx rfl (hb hby at_115) rfl rfl ?_
            show Steps p.tables e below (T13.setTop (mkF m 117 #[.val (.long q0), .second, .val (.long q1), .second, .val (.long q2), .second, .val (.int p3), .val (.int p4), .val (.long v_o), .second, .val (.long v_c1), .second, .val (.long v_c2), .second, .val (.long v_q), .second, .val (.ref b3), .val (.ref bvb11), .unset, .unset] [(.ref bvb11)])) _
            refine XS.ifnonnullYes X13.here hx rfl (pc0 := 117) (pc' := 122) rfl (hb hby at_117) rfl (by decide) (by decide) ?_
            show Steps p.tables e below (T13.setTop (mkF m 122 #[.val (.long q0), .second, .val (.long q1), .second, .val (.long q2), .second, .val (.int p3), .val (.int p4), .val (.long v_o), .second, .val (.long v_c1), .second, .val (.long v_c2), .second, .val (.long v_q), .second, .val (.ref b3), .val (.ref bvb11), .unset, .unset] [])) _
            refine XS.lload X13.here hx rfl (hb hby at_122) rfl ?_
            show Steps p.tables e below (T13.setTop (mkF m 124 #[.val (.long q0), .second, .val (.long q1), .second, .val (.long q2), .second, .val (.int p3), .val (.int p4), .val (.long v_o), .second, .val (.long v_c1), .second, .val (.long v_c2), .second, .val (.long v_q), .second, .val (.ref b3), .val (.ref bvb11), .unset, .unset] [(.long v_q)])) _
            refine XS.lload X13.here hx rfl (hb hby at_124) rfl ?_
            show Steps p.tables e below (T13.setTop (mkF m 126 #[.val (.long q0), .second, .val (.long q1), .second, .val (.long q2), .second, .val (.int p3), .val (.int p4), .val (.long v_o), .second, .val (.long v_c1), .second, .val (.long v_c2), .second, .val (.long v_q), .second, .val (.ref b3), .val (.ref bvb11), .unset, .unset] [(.long v_c2), (.long v_q)])) _
            refine XS.lcmp X13.here hx rfl (hb hby at_126) rfl ?_
            show Steps p.tables e below (T13.setTop (mkF m 127 #[.val (.long q0), .second, .val (.long q1), .second, .val (.long q2), .second, .val (.int p3), .val (.int p4), .val (.long v_o), .second, .val (.long v_c1), .second, .val (.long v_c2), .second, .val (.long v_q), .second, .val (.ref b3), .val (.ref bvb11), .unset, .unset] [(.int (lcmpW v_q v_c2))])) _
            refine XS.ifYes X13.here hx rfl (pc0 := 127) (pc' := 137) rfl (hb hby at_127) rfl ((if0 _ _).trans (tlt ((lw_lt _ _).mpr (h_Q2 : v_q < v_c2))).1) (by decide) (by decide) ?_
            show Steps p.tables e below (T13.setTop (mkF m 137 #[.val (.long q0), .second, .val (.long q1), .second, .val (.long q2), .second, .val (.int p3), .val (.int p4), .val (.long v_o), .second, .val (.long v_c1), .second, .val (.long v_c2), .second, .val (.long v_q), .second, .val (.ref b3), .val (.ref bvb11), .unset, .unset] [])) _
            refine XS.lload X13.here hx rfl (hb hby at_137) rfl ?_
            show Steps p.tables e below (T13.setTop (mkF m 139 #[.val (.long q0), .second, .val (.long q1), .second, .val (.long q2), .second, .val (.int p3), .val (.int p4), .val (.long v_o), .second, .val (.long v_c1), .second, .val (.long v_c2), .second, .val (.long v_q), .second, .val (.ref b3), .val (.ref bvb11), .unset, .unset] [(.long v_q)])) _
            refine XS.lload X13.here hx rfl (hb hby at_139) rfl ?_
            show Steps p.tables e below (T13.setTop (mkF m 141 #[.val (.long q0), .second, .val (.long q1), .second, .val (.long q2), .second, .val (.int p3), .val (.int p4), .val (.long v_o), .second, .val (.long v_c1), .second, .val (.long v_c2), .second, .val (.long v_q), .second, .val (.ref b3), .val (.ref bvb11), .unset, .unset] [(.long v_c1), (.long v_q)])) _
            refine XS.lcmp X13.here hx rfl (hb hby at_141) rfl ?_
            show Steps p.tables e below (T13.setTop (mkF m 142 #[.val (.long q0), .second, .val (.long q1), .second, .val (.long q2), .second, .val (.int p3), .val (.int p4), .val (.long v_o), .second, .val (.long v_c1), .second, .val (.long v_c2), .second, .val (.long v_q), .second, .val (.ref b3), .val (.ref bvb11), .unset, .unset] [(.int (lcmpW v_q v_c1))])) _
            refine XS.ifNo X13.here hx rfl (hb hby at_142) rfl ((if0 _ _).trans (flt (mt (lw_lt _ _).mp (h_Q1 : ¬ (v_q < v_c1)))).1) ?_
            show Steps p.tables e below (T13.setTop (mkF m 145 #[.val (.long q0), .second, .val (.long q1), .second, .val (.long q2), .second, .val (.int p3), .val (.int p4), .val (.long v_o), .second, .val (.long v_c1), .second, .val (.long v_c2), .second, .val (.long v_q), .second, .val (.ref b3), .val (.ref bvb11), .unset, .unset] [])) _
            refine XS.lloadN X13.here hx rfl (hb hby at_145) rfl ?_
            show Steps p.tables e below (T13.setTop (mkF m 146 #[.val (.long q0), .second, .val (.long q1), .second, .val (.long q2), .second, .val (.int p3), .val (.int p4), .val (.long v_o), .second, .val (.long v_c1), .second, .val (.long v_c2), .second, .val (.long v_q), .second, .val (.ref b3), .val (.ref bvb11), .unset, .unset] [(.long q1)])) _
            refine XS.lstore X13.here hx rfl (hb hby at_146) rfl (l' := #[.val (.long q0), .second, .val (.long q1), .second, .val (.long q2), .second, .val (.int p3), .val (.int p4), .val (.long v_o), .second, .val (.long v_c1), .second, .val (.long v_c2), .second, .val (.long v_q), .second, .val (.ref b3), .val (.ref bvb11), .val (.long q1), .second]) rfl ?_
            show Steps p.tables e below (T13.setTop (mkF m 148 #[.val (.long q0), .second, .val (.long q1), .second, .val (.long q2), .second, .val (.int p3), .val (.int p4), .val (.long v_o), .second, .val (.long v_c1), .second, .val (.long v_c2), .second, .val (.long v_q), .second, .val (.ref b3), .val (.ref bvb11), .val (.long q1), .second] [])) _
            refine XS.goto X13.here hx rfl (pc0 := 148) (pc' := 154) rfl (hb hby at_148) (by decide) (by decide) ?_
            show Steps p.tables e below (T13.setTop (mkF m 154 #[.val (.long q0), .second, .val (.long q1), .second, .val (.long q2), .second, .val (.int p3), .val (.int p4), .val (.long v_o), .second, .val (.long v_c1), .second, .val (.long v_c2), .second, .val (.long v_q), .second, .val (.ref b3), .val (.ref bvb11), .val (.long q1), .second] [])) _
            refine XS.aload X13.here hx rfl (hb hby at_154) rfl rfl ?_
            show Steps p.tables e below (T13.setTop (mkF m 156 #[.val (.long q0), .second, .val (.long q1), .second, .val (.long q2), .second, .val (.int p3), .val (.int p4), .val (.long v_o), .second, .val (.long v_c1), .second, .val (.long v_c2), .second, .val (.long v_q), .second, .val (.ref b3), .val (.ref bvb11), .val (.long q1), .second] [(.ref bvb11)])) _
            refine st14.trans ?_
            show Steps p.tables e below (T14.setTop (mkF m 159 #[.val (.long q0), .second, .val (.long q1), .second, .val (.long q2), .second, .val (.int p3), .val (.int p4), .val (.long v_o), .second, .val (.long v_c1), .second, .val (.long v_c2), .second, .val (.long v_q), .second, .val (.ref b3), .val (.ref bvb11), .val (.long q1), .second] [(.long q1)])) _
            refine XS.lload X14.here hx rfl (hb hby at_159) rfl ?_
            show Steps p.tables e below (T14.setTop (mkF m 161 #[.val (.long q0), .second, .val (.long q1), .second, .val (.long q2), .second, .val (.int p3), .val (.int p4), .val (.long v_o), .second, .val (.long v_c1), .second, .val (.long v_c2), .second, .val (.long v_q), .second, .val (.ref b3), .val (.ref bvb11), .val (.long q1), .second] [(.long q1), (.long q1)])) _
            refine XS.lcmp X14.here hx rfl (hb hby at_161) rfl ?_
            show Steps p.tables e below (T14.setTop (mkF m 162 #[.val (.long q0), .second, .val (.long q1), .second, .val (.long q2), .second, .val (.int p3), .val (.int p4), .val (.long v_o), .second, .val (.long v_c1), .second, .val (.long v_c2), .second, .val (.long v_q), .second, .val (.ref b3), .val (.ref bvb11), .val (.long q1), .second] [(.int (lcmpW q1 q1))])) _
            refine XS.ifNo X14.here hx rfl (hb hby at_162) rfl ((if0 _ _).trans (teq ((lw_eq _ _).mpr (rfl : q1 = q1))).2) ?_
            show Steps p.tables e below (T14.setTop (mkF m 165 #[.val (.long q0), .second, .val (.long q1), .second, .val (.long q2), .second, .val (.int p3), .val (.int p4), .val (.long v_o), .second, .val (.long v_c1), .second, .val (.long v_c2), .second, .val (.long v_q), .second, .val (.ref b3), .val (.ref bvb11), .val (.long q1), .second] [])) _
            refine XS.iconst X14.here hx rfl (hb hby at_165) ?_
            show Steps p.tables e below (T14.setTop (mkF m 166 #[.val (.long q0), .second, .val (.long q1), .second, .val (.long q2), .second, .val (.int p3), .val (.int p4), .val (.long v_o), .second, .val (.long v_c1), .second, .val (.long v_c2), .second, .val (.long v_q), .second, .val (.ref b3), .val (.ref bvb11), .val (.long q1), .second] [(.int (1 : Int32))])) _
            refine XS.goto X14.here hx rfl (pc0 := 166) (pc' := 170) rfl (hb hby at_166) (by decide) (by decide) ?_
            show Steps p.tables e below (T14.setTop (mkF m 170 #[.val (.long q0), .second, .val (.long q1), .second, .val (.long q2), .second, .val (.int p3), .val (.int p4), .val (.long v_o), .second, .val (.long v_c1), .second, .val (.long v_c2), .second, .val (.long v_q), .second, .val (.ref b3), .val (.ref bvb11), .val (.long q1), .second] [(.int (1 : Int32))])) _
            exact retN X14 hx (t := .boolean) Bd.returns (by simp) (hb hby at_170) hr
          · show own_Q0 n0 _ T14.heap _
            rw [e14]
            exact ⟨rfl, N14⟩
      · obtain ⟨cq15, kq15, q15a, q15b, q15c⟩ := isOf hZ rfl E_b3_12
        obtain ⟨_, _, ⟨T15, L15, k15, n15⟩, -, X15, ⟨Lc15, hQ15, l15, y15, z15⟩, st15⟩ := X12.virtualBack hx (y := (⟨"com/example/tandem_ledger/tandemledger/Account", "at", "(J)Lcom/example/tandem_ledger/tandemledger/Account$Version;"⟩ : MethodName)) (z := (⟨"com/example/tandem_ledger/tandemledger/Account", "at", "(J)Lcom/example/tandem_ledger/tandemledger/Account$Version;"⟩ : MethodName)) hown (mvT hZ (hw _ (List.mem_of_getElem? (i := 82) rfl))) (mvT hZ (hw _ (List.mem_of_getElem? (i := 83) rfl))) (notFace_of_selects (args := #[]) (mvT hZ (hw _ (List.mem_of_getElem? (i := 85) rfl)))) (mvT hZ (hw _ (List.mem_of_getElem? (i := 85) rfl))) (mvT hZ (hw _ (List.mem_of_getElem? (i := 84) rfl))) (by decide) (backOf (W := 0) (own_rmAt1 l Z a0 hw [] b3 v_q bvc12 v_c2 T12.heap n0 Z12 Fl12 Fc12 h_Q2) hZ (hw _ (List.mem_of_getElem? (i := 86) rfl)) (hw _ (List.mem_of_getElem? (i := 7) rfl)) (by decide) (by decide)) q15a q15c (g := (mkF m 110 #[.val (.long q0), .second, .val (.long q1), .second, .val (.long q2), .second, .val (.int p3), .val (.int p4), .val (.long v_o), .second, .val (.long v_c1), .second, .val (.long v_c2), .second, .val (.long v_q), .second, .val (.ref b3), .unset, .unset, .unset] [(.long v_q), (.ref b3)])) rfl (by rw [hml]; rfl) (Steps.refl _) (argsL := [(.long v_q)]) (rest := []) (lenOf own_pd7 rfl) rfl (by show 2 * 0 + _ ≤ _; exact Nat.le_of_eq rfl) (hb hby at_110) (fun _ _ => ⟨rfl, rfl, (by decide : 6 + 0 ≤ _), (by decide : 30 + 0 ≤ _)⟩)
        dsimp only [Pt.U, Pt.locs, Pt.cells, Pt.slots] at X15 l15 y15 z15 st15 hQ15
        subst l15 y15 z15
        obtain ⟨rfl, N15q, e15⟩ := hQ15
        have N15 := Fr.app N12 N15q
        obtain ⟨cq16, kq16, q16a, q16b, q16c⟩ := isOf hZ e15 Ex12
        obtain ⟨_, _, ⟨T16, L16, k16, n16⟩, -, X16, ⟨Lc16, hQ16, l16, y16, z16⟩, st16⟩ := X15.virtualBack hx (y := (⟨"com/example/tandem_ledger/tandemledger/Account$Version", "balance", "()J"⟩ : MethodName)) (z := (⟨"com/example/tandem_ledger/tandemledger/Account$Version", "balance", "()J"⟩ : MethodName)) hown (mvT hZ (hw _ (List.mem_of_getElem? (i := 87) rfl))) (mvT hZ (hw _ (List.mem_of_getElem? (i := 88) rfl))) (notFace_of_selects (args := #[]) (mvT hZ (hw _ (List.mem_of_getElem? (i := 90) rfl)))) (mvT hZ (hw _ (List.mem_of_getElem? (i := 90) rfl))) (mvT hZ (hw _ (List.mem_of_getElem? (i := 89) rfl))) (by decide) (backOf (W := 0) (own_rmBal l Z a0 hw [] bvc12 q2 T12.heap n0 Z12 Fb12) hZ (hw _ (List.mem_of_getElem? (i := 91) rfl)) (hw _ (List.mem_of_getElem? (i := 45) rfl)) (by decide) (by decide)) q16a q16c (g := (mkF m 156 #[.val (.long q0), .second, .val (.long q1), .second, .val (.long q2), .second, .val (.int p3), .val (.int p4), .val (.long v_o), .second, .val (.long v_c1), .second, .val (.long v_c2), .second, .val (.long v_q), .second, .val (.ref b3), .val (.ref bvc12), .val (.long q2), .second] [(.ref bvc12)])) rfl (by rw [hml]; rfl) (Steps.refl _) (argsL := []) (rest := []) (lenOf own_pd2 rfl) rfl (by show 2 * 0 + _ ≤ _; exact Nat.le_of_eq rfl) (hb hby at_156) (fun _ _ => ⟨rfl, e15, (by decide : 6 + 0 ≤ _), (by decide : 30 + 0 ≤ _)⟩)
        dsimp only [Pt.U, Pt.locs, Pt.cells, Pt.slots] at X16 l16 y16 z16 st16 hQ16
        subst l16 y16 z16
        obtain ⟨rfl, N16q, e16⟩ := hQ16
        have N16 := Fr.app N15 N16q
        obtain ⟨fs, hr, hrun, hended, hRE⟩ := Jvm.Stand.leaveW (s := s) X16 hS4 (by show _ ≤ T16.heap.size; rw [e16]; exact hk12) (v := some (.int (1 : Int32))) (fun h => by rw [Bd.returns] at h; cases h)
        refine ⟨_, _, ?_, hrun, hended, _, _, rfl, ?_, hRE.1, hRE.2.1, hRE.2.2.1, hRE.2.2.2.mono (by decide) (by decide)⟩
        · show Steps p.tables e below (T12.setTop (mkF m 106 #[.val (.long q0), .second, .val (.long q1), .second, .val (.long q2), .second, .val (.int p3), .val (.int p4), .val (.long v_o), .second, .val (.long v_c1), .second, .val (.long v_c2), .second, .val (.long v_q), .second, .val (.ref b3), .unset, .unset, .unset] [])) _
          refine XS.aload X12.here hx rfl (hb hby at_106) rfl rfl ?_
          show Steps p.tables e below (T12.setTop (mkF m 108 #[.val (.long q0), .second, .val (.long q1), .second, .val (.long q2), .second, .val (.int p3), .val (.int p4), .val (.long v_o), .second, .val (.long v_c1), .second, .val (.long v_c2), .second, .val (.long v_q), .second, .val (.ref b3), .unset, .unset, .unset] [(.ref b3)])) _
          refine XS.lload X12.here hx rfl (hb hby at_108) rfl ?_
          show Steps p.tables e below (T12.setTop (mkF m 110 #[.val (.long q0), .second, .val (.long q1), .second, .val (.long q2), .second, .val (.int p3), .val (.int p4), .val (.long v_o), .second, .val (.long v_c1), .second, .val (.long v_c2), .second, .val (.long v_q), .second, .val (.ref b3), .unset, .unset, .unset] [(.long v_q), (.ref b3)])) _
          refine st15.trans ?_
          show Steps p.tables e below (T15.setTop (mkF m 113 #[.val (.long q0), .second, .val (.long q1), .second, .val (.long q2), .second, .val (.int p3), .val (.int p4), .val (.long v_o), .second, .val (.long v_c1), .second, .val (.long v_c2), .second, .val (.long v_q), .second, .val (.ref b3), .unset, .unset, .unset] [(.ref bvc12)])) _
          refine XS.astore X15.here hx rfl (hb hby at_113) rfl rfl (l' := #[.val (.long q0), .second, .val (.long q1), .second, .val (.long q2), .second, .val (.int p3), .val (.int p4), .val (.long v_o), .second, .val (.long v_c1), .second, .val (.long v_c2), .second, .val (.long v_q), .second, .val (.ref b3), .val (.ref bvc12), .unset, .unset]) rfl ?_
          show Steps p.tables e below (T15.setTop (mkF m 115 #[.val (.long q0), .second, .val (.long q1), .second, .val (.long q2), .second, .val (.int p3), .val (.int p4), .val (.long v_o), .second, .val (.long v_c1), .second, .val (.long v_c2), .second, .val (.long v_q), .second, .val (.ref b3), .val (.ref bvc12), .unset, .unset] [])) _
          refine XS.aload X15.here hx rfl (hb hby at_115) rfl rfl ?_
          show Steps p.tables e below (T15.setTop (mkF m 117 #[.val (.long q0), .second, .val (.long q1), .second, .val (.long q2), .second, .val (.int p3), .val (.int p4), .val (.long v_o), .second, .val (.long v_c1), .second, .val (.long v_c2), .second, .val (.long v_q), .second, .val (.ref b3), .val (.ref bvc12), .unset, .unset] [(.ref bvc12)])) _
          refine XS.ifnonnullYes X15.here hx rfl (pc0 := 117) (pc' := 122) rfl (hb hby at_117) rfl (by decide) (by decide) ?_
          show Steps p.tables e below (T15.setTop (mkF m 122 #[.val (.long q0), .second, .val (.long q1), .second, .val (.long q2), .second, .val (.int p3), .val (.int p4), .val (.long v_o), .second, .val (.long v_c1), .second, .val (.long v_c2), .second, .val (.long v_q), .second, .val (.ref b3), .val (.ref bvc12), .unset, .unset] [])) _
          refine XS.lload X15.here hx rfl (hb hby at_122) rfl ?_
          show Steps p.tables e below (T15.setTop (mkF m 124 #[.val (.long q0), .second, .val (.long q1), .second, .val (.long q2), .second, .val (.int p3), .val (.int p4), .val (.long v_o), .second, .val (.long v_c1), .second, .val (.long v_c2), .second, .val (.long v_q), .second, .val (.ref b3), .val (.ref bvc12), .unset, .unset] [(.long v_q)])) _
          refine XS.lload X15.here hx rfl (hb hby at_124) rfl ?_
          show Steps p.tables e below (T15.setTop (mkF m 126 #[.val (.long q0), .second, .val (.long q1), .second, .val (.long q2), .second, .val (.int p3), .val (.int p4), .val (.long v_o), .second, .val (.long v_c1), .second, .val (.long v_c2), .second, .val (.long v_q), .second, .val (.ref b3), .val (.ref bvc12), .unset, .unset] [(.long v_c2), (.long v_q)])) _
          refine XS.lcmp X15.here hx rfl (hb hby at_126) rfl ?_
          show Steps p.tables e below (T15.setTop (mkF m 127 #[.val (.long q0), .second, .val (.long q1), .second, .val (.long q2), .second, .val (.int p3), .val (.int p4), .val (.long v_o), .second, .val (.long v_c1), .second, .val (.long v_c2), .second, .val (.long v_q), .second, .val (.ref b3), .val (.ref bvc12), .unset, .unset] [(.int (lcmpW v_q v_c2))])) _
          refine XS.ifNo X15.here hx rfl (hb hby at_127) rfl ((if0 _ _).trans (flt (mt (lw_lt _ _).mp (h_Q2 : ¬ (v_q < v_c2)))).1) ?_
          show Steps p.tables e below (T15.setTop (mkF m 130 #[.val (.long q0), .second, .val (.long q1), .second, .val (.long q2), .second, .val (.int p3), .val (.int p4), .val (.long v_o), .second, .val (.long v_c1), .second, .val (.long v_c2), .second, .val (.long v_q), .second, .val (.ref b3), .val (.ref bvc12), .unset, .unset] [])) _
          refine XS.lload X15.here hx rfl (hb hby at_130) rfl ?_
          show Steps p.tables e below (T15.setTop (mkF m 132 #[.val (.long q0), .second, .val (.long q1), .second, .val (.long q2), .second, .val (.int p3), .val (.int p4), .val (.long v_o), .second, .val (.long v_c1), .second, .val (.long v_c2), .second, .val (.long v_q), .second, .val (.ref b3), .val (.ref bvc12), .unset, .unset] [(.long q2)])) _
          refine XS.lstore X15.here hx rfl (hb hby at_132) rfl (l' := #[.val (.long q0), .second, .val (.long q1), .second, .val (.long q2), .second, .val (.int p3), .val (.int p4), .val (.long v_o), .second, .val (.long v_c1), .second, .val (.long v_c2), .second, .val (.long v_q), .second, .val (.ref b3), .val (.ref bvc12), .val (.long q2), .second]) rfl ?_
          show Steps p.tables e below (T15.setTop (mkF m 134 #[.val (.long q0), .second, .val (.long q1), .second, .val (.long q2), .second, .val (.int p3), .val (.int p4), .val (.long v_o), .second, .val (.long v_c1), .second, .val (.long v_c2), .second, .val (.long v_q), .second, .val (.ref b3), .val (.ref bvc12), .val (.long q2), .second] [])) _
          refine XS.goto X15.here hx rfl (pc0 := 134) (pc' := 154) rfl (hb hby at_134) (by decide) (by decide) ?_
          show Steps p.tables e below (T15.setTop (mkF m 154 #[.val (.long q0), .second, .val (.long q1), .second, .val (.long q2), .second, .val (.int p3), .val (.int p4), .val (.long v_o), .second, .val (.long v_c1), .second, .val (.long v_c2), .second, .val (.long v_q), .second, .val (.ref b3), .val (.ref bvc12), .val (.long q2), .second] [])) _
          refine XS.aload X15.here hx rfl (hb hby at_154) rfl rfl ?_
          show Steps p.tables e below (T15.setTop (mkF m 156 #[.val (.long q0), .second, .val (.long q1), .second, .val (.long q2), .second, .val (.int p3), .val (.int p4), .val (.long v_o), .second, .val (.long v_c1), .second, .val (.long v_c2), .second, .val (.long v_q), .second, .val (.ref b3), .val (.ref bvc12), .val (.long q2), .second] [(.ref bvc12)])) _
          refine st16.trans ?_
          show Steps p.tables e below (T16.setTop (mkF m 159 #[.val (.long q0), .second, .val (.long q1), .second, .val (.long q2), .second, .val (.int p3), .val (.int p4), .val (.long v_o), .second, .val (.long v_c1), .second, .val (.long v_c2), .second, .val (.long v_q), .second, .val (.ref b3), .val (.ref bvc12), .val (.long q2), .second] [(.long q2)])) _
          refine XS.lload X16.here hx rfl (hb hby at_159) rfl ?_
          show Steps p.tables e below (T16.setTop (mkF m 161 #[.val (.long q0), .second, .val (.long q1), .second, .val (.long q2), .second, .val (.int p3), .val (.int p4), .val (.long v_o), .second, .val (.long v_c1), .second, .val (.long v_c2), .second, .val (.long v_q), .second, .val (.ref b3), .val (.ref bvc12), .val (.long q2), .second] [(.long q2), (.long q2)])) _
          refine XS.lcmp X16.here hx rfl (hb hby at_161) rfl ?_
          show Steps p.tables e below (T16.setTop (mkF m 162 #[.val (.long q0), .second, .val (.long q1), .second, .val (.long q2), .second, .val (.int p3), .val (.int p4), .val (.long v_o), .second, .val (.long v_c1), .second, .val (.long v_c2), .second, .val (.long v_q), .second, .val (.ref b3), .val (.ref bvc12), .val (.long q2), .second] [(.int (lcmpW q2 q2))])) _
          refine XS.ifNo X16.here hx rfl (hb hby at_162) rfl ((if0 _ _).trans (teq ((lw_eq _ _).mpr (rfl : q2 = q2))).2) ?_
          show Steps p.tables e below (T16.setTop (mkF m 165 #[.val (.long q0), .second, .val (.long q1), .second, .val (.long q2), .second, .val (.int p3), .val (.int p4), .val (.long v_o), .second, .val (.long v_c1), .second, .val (.long v_c2), .second, .val (.long v_q), .second, .val (.ref b3), .val (.ref bvc12), .val (.long q2), .second] [])) _
          refine XS.iconst X16.here hx rfl (hb hby at_165) ?_
          show Steps p.tables e below (T16.setTop (mkF m 166 #[.val (.long q0), .second, .val (.long q1), .second, .val (.long q2), .second, .val (.int p3), .val (.int p4), .val (.long v_o), .second, .val (.long v_c1), .second, .val (.long v_c2), .second, .val (.long v_q), .second, .val (.ref b3), .val (.ref bvc12), .val (.long q2), .second] [(.int (1 : Int32))])) _
          refine XS.goto X16.here hx rfl (pc0 := 166) (pc' := 170) rfl (hb hby at_166) (by decide) (by decide) ?_
          show Steps p.tables e below (T16.setTop (mkF m 170 #[.val (.long q0), .second, .val (.long q1), .second, .val (.long q2), .second, .val (.int p3), .val (.int p4), .val (.long v_o), .second, .val (.long v_c1), .second, .val (.long v_c2), .second, .val (.long v_q), .second, .val (.ref b3), .val (.ref bvc12), .val (.long q2), .second] [(.int (1 : Int32))])) _
          exact retN X16 hx (t := .boolean) Bd.returns (by simp) (hb hby at_170) hr
        · show own_Q0 n0 _ T16.heap _
          rw [e16]
          exact ⟨rfl, N16⟩
  · by_cases h_B : v_c1 = v_c2
    · obtain ⟨cq17, kq17, q17a, q17b, q17c⟩ := isOf hZ rfl E_b3_6
      obtain ⟨_, _, ⟨T17, L17, k17, n17⟩, -, X17, ⟨Lc17, hQ17, l17, y17, z17⟩, st17⟩ := X6.virtualBack hx (y := (⟨"com/example/tandem_ledger/tandemledger/Account", "post", "(JJJZLjava/util/function/LongSupplier;)V"⟩ : MethodName)) (z := (⟨"com/example/tandem_ledger/tandemledger/Account", "post", "(JJJZLjava/util/function/LongSupplier;)V"⟩ : MethodName)) hown (mvT hZ (hw _ (List.mem_of_getElem? (i := 62) rfl))) (mvT hZ (hw _ (List.mem_of_getElem? (i := 63) rfl))) (notFace_of_selects (args := #[]) (mvT hZ (hw _ (List.mem_of_getElem? (i := 65) rfl)))) (mvT hZ (hw _ (List.mem_of_getElem? (i := 65) rfl))) (mvT hZ (hw _ (List.mem_of_getElem? (i := 64) rfl))) (by decide) (backOf (W := 0) (own_rmPC1 l Z a0 hw [] b3 v_c1 q1 (0 : Int64) (0 : Int32) bva6 v_o .null bR bC T6.heap n0 Z6 E_b3_6 Fl6 Fk6 Fg6 Fc6 Fe6 (Ne.symm ne_b3_bva6) new_b3 h_A Fh6 Fr6 E_bC_6 F_bC_record_6 rfl) hZ (hw _ (List.mem_of_getElem? (i := 66) rfl)) (hw _ (List.mem_of_getElem? (i := 7) rfl)) (by decide) (by decide)) q17a q17c (g := (mkF m 91 #[.val (.long q0), .second, .val (.long q1), .second, .val (.long q2), .second, .val (.int p3), .val (.int p4), .val (.long v_o), .second, .val (.long v_c1), .second, .val (.long v_c2), .second, .val (.long v_q), .second, .val (.ref b3), .unset, .unset, .unset] [.null, (.int (0 : Int32)), (.long (0 : Int64)), (.long q1), (.long v_c1), (.ref b3)])) rfl (by rw [hml]; rfl) (Steps.refl _) (argsL := [(.long v_c1), (.long q1), (.long (0 : Int64)), (.int (0 : Int32)), .null]) (rest := []) (lenOf own_pd6 rfl) rfl (by show 2 * 0 + _ ≤ _; exact Nat.le_of_eq rfl) (hb hby at_91) (fun _ _ => ⟨rfl, rfl, (by decide : 4 + 1 ≤ _), (by decide : 20 + 5 ≤ _)⟩)
      dsimp only [Pt.U, Pt.locs, Pt.cells, Pt.slots] at X17 l17 y17 z17 st17 hQ17
      subst l17 y17 z17
      obtain ⟨rfl, N17q, K17q, bvb17, nx17, sx17, Fl17, Fk17, Fg17, Ex17, Fc17, Fb17, Fr17, Fh17, Fe17⟩ := hQ17
      have S_Reserve_NONE_17 := own_staKeep S_Reserve_NONE_6 E_b3_6 K17q
      have S_Chain_NONE_17 := own_staKeep S_Chain_NONE_6 E_b3_6 K17q
      have E_bC_17 := E_bC_6.keep K17q
      have F_bC_record_17 := F_bC_record_6.keep K17q (fun q => ne_bC_b3 (List.mem_singleton.mp q))
      have E_b3_17 := E_b3_6.keep K17q
      have E_bva6_17 := Ex6.keep K17q
      have F_bva6_commit_17 := Fc6.keep K17q (fun q => (Ne.symm ne_b3_bva6) (List.mem_singleton.mp q))
      have F_bva6_balance_17 := Fb6.keep K17q (fun q => (Ne.symm ne_b3_bva6) (List.mem_singleton.mp q))
      have F_bva6_reserve_17 := Fr6.keep K17q (fun q => (Ne.symm ne_b3_bva6) (List.mem_singleton.mp q))
      have F_bva6_chain_17 := Fh6.keep K17q (fun q => (Ne.symm ne_b3_bva6) (List.mem_singleton.mp q))
      have F_bva6_earlier_17 := Fe6.keep K17q (fun q => (Ne.symm ne_b3_bva6) (List.mem_singleton.mp q))
      have ne_b3_bvb17 : b3 ≠ bvb17 := Nat.ne_of_lt (Nat.lt_of_lt_of_le E_b3_6.lt sx17)
      have ne_bC_bvb17 : bC ≠ bvb17 := Nat.ne_of_lt (Nat.lt_of_lt_of_le E_bC_6.lt sx17)
      have ne_bva6_bvb17 : bva6 ≠ bvb17 := Nat.ne_of_lt (Nat.lt_of_lt_of_le Ex6.lt sx17)
      have N17 := Fr.app N6 N17q
      have Z17 := Nat.le_trans Z6 K17q.1
      have hk17 := Nat.le_trans hk6 K17q.1
      have sz_bvb17 : h0.size ≤ bvb17 := Nat.le_trans K6.1 sx17
      have K17 := K6.trans K17q (fun x hx => by cases List.mem_singleton.mp hx; exact Or.inr sz_b3)
      obtain ⟨cq18, kq18, q18a, q18b, q18c⟩ := isOf hZ rfl E_b3_17
      obtain ⟨_, _, ⟨T18, L18, k18, n18⟩, -, X18, ⟨Lc18, hQ18, l18, y18, z18⟩, st18⟩ := X17.virtualBack hx (y := (⟨"com/example/tandem_ledger/tandemledger/Account", "post", "(JJJZLjava/util/function/LongSupplier;)V"⟩ : MethodName)) (z := (⟨"com/example/tandem_ledger/tandemledger/Account", "post", "(JJJZLjava/util/function/LongSupplier;)V"⟩ : MethodName)) hown (mvT hZ (hw _ (List.mem_of_getElem? (i := 62) rfl))) (mvT hZ (hw _ (List.mem_of_getElem? (i := 63) rfl))) (notFace_of_selects (args := #[]) (mvT hZ (hw _ (List.mem_of_getElem? (i := 65) rfl)))) (mvT hZ (hw _ (List.mem_of_getElem? (i := 65) rfl))) (mvT hZ (hw _ (List.mem_of_getElem? (i := 64) rfl))) (by decide) (backOf (W := 0) (own_rmPAr2 l Z a0 hw [] b3 v_c2 q2 (0 : Int64) (0 : Int32) bvb17 bva6 v_c1 bR bC T17.heap n0 Z17 E_b3_17 Fl17 Fk17 Fg17 Fc17 Fe17 (Ne.symm ne_b3_bvb17) new_b3 h_B ne_bva6_bvb17 Fh17 Fr17 E_bC_17 F_bC_record_17 rfl) hZ (hw _ (List.mem_of_getElem? (i := 66) rfl)) (hw _ (List.mem_of_getElem? (i := 7) rfl)) (by decide) (by decide)) q18a q18c (g := (mkF m 103 #[.val (.long q0), .second, .val (.long q1), .second, .val (.long q2), .second, .val (.int p3), .val (.int p4), .val (.long v_o), .second, .val (.long v_c1), .second, .val (.long v_c2), .second, .val (.long v_q), .second, .val (.ref b3), .unset, .unset, .unset] [.null, (.int (0 : Int32)), (.long (0 : Int64)), (.long q2), (.long v_c2), (.ref b3)])) rfl (by rw [hml]; rfl) (Steps.refl _) (argsL := [(.long v_c2), (.long q2), (.long (0 : Int64)), (.int (0 : Int32)), .null]) (rest := []) (lenOf own_pd6 rfl) rfl (by show 2 * 0 + _ ≤ _; exact Nat.le_of_eq rfl) (hb hby at_103) (fun _ _ => ⟨rfl, rfl, (by decide : 5 + 1 ≤ _), (by decide : 25 + 5 ≤ _)⟩)
      dsimp only [Pt.U, Pt.locs, Pt.cells, Pt.slots] at X18 l18 y18 z18 st18 hQ18
      subst l18 y18 z18
      obtain ⟨rfl, N18q, K18q, bvc18, nx18, sx18, Fl18, Fk18, Fg18, Ex18, Fc18, Fb18, Fr18, Fh18, Fe18⟩ := hQ18
      have S_Reserve_NONE_18 := own_staKeep S_Reserve_NONE_17 E_b3_17 K18q
      have S_Chain_NONE_18 := own_staKeep S_Chain_NONE_17 E_b3_17 K18q
      have E_bC_18 := E_bC_17.keep K18q
      have F_bC_record_18 := F_bC_record_17.keep K18q (fun q => ne_bC_b3 (List.mem_singleton.mp q))
      have E_b3_18 := E_b3_17.keep K18q
      have E_bva6_18 := E_bva6_17.keep K18q
      have F_bva6_commit_18 := F_bva6_commit_17.keep K18q (fun q => (Ne.symm ne_b3_bva6) (List.mem_singleton.mp q))
      have F_bva6_balance_18 := F_bva6_balance_17.keep K18q (fun q => (Ne.symm ne_b3_bva6) (List.mem_singleton.mp q))
      have F_bva6_reserve_18 := F_bva6_reserve_17.keep K18q (fun q => (Ne.symm ne_b3_bva6) (List.mem_singleton.mp q))
      have F_bva6_chain_18 := F_bva6_chain_17.keep K18q (fun q => (Ne.symm ne_b3_bva6) (List.mem_singleton.mp q))
      have F_bva6_earlier_18 := F_bva6_earlier_17.keep K18q (fun q => (Ne.symm ne_b3_bva6) (List.mem_singleton.mp q))
      have E_bvb17_18 := Ex17.keep K18q
      have F_bvb17_commit_18 := Fc17.keep K18q (fun q => (Ne.symm ne_b3_bvb17) (List.mem_singleton.mp q))
      have F_bvb17_balance_18 := Fb17.keep K18q (fun q => (Ne.symm ne_b3_bvb17) (List.mem_singleton.mp q))
      have F_bvb17_reserve_18 := Fr17.keep K18q (fun q => (Ne.symm ne_b3_bvb17) (List.mem_singleton.mp q))
      have F_bvb17_chain_18 := Fh17.keep K18q (fun q => (Ne.symm ne_b3_bvb17) (List.mem_singleton.mp q))
      have F_bvb17_earlier_18 := Fe17.keep K18q (fun q => (Ne.symm ne_b3_bvb17) (List.mem_singleton.mp q))
      have ne_b3_bvc18 : b3 ≠ bvc18 := Nat.ne_of_lt (Nat.lt_of_lt_of_le E_b3_17.lt sx18)
      have ne_bC_bvc18 : bC ≠ bvc18 := Nat.ne_of_lt (Nat.lt_of_lt_of_le E_bC_17.lt sx18)
      have ne_bva6_bvc18 : bva6 ≠ bvc18 := Nat.ne_of_lt (Nat.lt_of_lt_of_le E_bva6_17.lt sx18)
      have ne_bvb17_bvc18 : bvb17 ≠ bvc18 := Nat.ne_of_lt (Nat.lt_of_lt_of_le Ex17.lt sx18)
      have N18 := Fr.app N17 N18q
      have Z18 := Nat.le_trans Z17 K18q.1
      have hk18 := Nat.le_trans hk17 K18q.1
      have sz_bvc18 : h0.size ≤ bvc18 := Nat.le_trans K17.1 sx18
      have K18 := K17.trans K18q (fun x hx => by cases List.mem_singleton.mp hx; exact Or.inr sz_b3)
      refine own_go (b := T18.setTop (mkF m 106 #[.val (.long q0), .second, .val (.long q1), .second, .val (.long q2), .second, .val (.int p3), .val (.int p4), .val (.long v_o), .second, .val (.long v_c1), .second, .val (.long v_c2), .second, .val (.long v_q), .second, .val (.ref b3), .unset, .unset, .unset] [])) (fun t k => ?_) ?_
      · show Steps p.tables e below (T6.setTop (mkF m 83 #[.val (.long q0), .second, .val (.long q1), .second, .val (.long q2), .second, .val (.int p3), .val (.int p4), .val (.long v_o), .second, .val (.long v_c1), .second, .val (.long v_c2), .second, .val (.long v_q), .second, .val (.ref b3), .unset, .unset, .unset] [])) _
        refine XS.aload X6.here hx rfl (hb hby at_83) rfl rfl ?_
        show Steps p.tables e below (T6.setTop (mkF m 85 #[.val (.long q0), .second, .val (.long q1), .second, .val (.long q2), .second, .val (.int p3), .val (.int p4), .val (.long v_o), .second, .val (.long v_c1), .second, .val (.long v_c2), .second, .val (.long v_q), .second, .val (.ref b3), .unset, .unset, .unset] [(.ref b3)])) _
        refine XS.lload X6.here hx rfl (hb hby at_85) rfl ?_
        show Steps p.tables e below (T6.setTop (mkF m 87 #[.val (.long q0), .second, .val (.long q1), .second, .val (.long q2), .second, .val (.int p3), .val (.int p4), .val (.long v_o), .second, .val (.long v_c1), .second, .val (.long v_c2), .second, .val (.long v_q), .second, .val (.ref b3), .unset, .unset, .unset] [(.long v_c1), (.ref b3)])) _
        refine XS.lloadN X6.here hx rfl (hb hby at_87) rfl ?_
        show Steps p.tables e below (T6.setTop (mkF m 88 #[.val (.long q0), .second, .val (.long q1), .second, .val (.long q2), .second, .val (.int p3), .val (.int p4), .val (.long v_o), .second, .val (.long v_c1), .second, .val (.long v_c2), .second, .val (.long v_q), .second, .val (.ref b3), .unset, .unset, .unset] [(.long q1), (.long v_c1), (.ref b3)])) _
        refine XS.lconst X6.here hx rfl (hb hby at_88) ?_
        show Steps p.tables e below (T6.setTop (mkF m 89 #[.val (.long q0), .second, .val (.long q1), .second, .val (.long q2), .second, .val (.int p3), .val (.int p4), .val (.long v_o), .second, .val (.long v_c1), .second, .val (.long v_c2), .second, .val (.long v_q), .second, .val (.ref b3), .unset, .unset, .unset] [(.long (0 : Int64)), (.long q1), (.long v_c1), (.ref b3)])) _
        refine XS.iconst X6.here hx rfl (hb hby at_89) ?_
        show Steps p.tables e below (T6.setTop (mkF m 90 #[.val (.long q0), .second, .val (.long q1), .second, .val (.long q2), .second, .val (.int p3), .val (.int p4), .val (.long v_o), .second, .val (.long v_c1), .second, .val (.long v_c2), .second, .val (.long v_q), .second, .val (.ref b3), .unset, .unset, .unset] [(.int (0 : Int32)), (.long (0 : Int64)), (.long q1), (.long v_c1), (.ref b3)])) _
        refine XS.aconstNull X6.here hx rfl (hb hby at_90) ?_
        show Steps p.tables e below (T6.setTop (mkF m 91 #[.val (.long q0), .second, .val (.long q1), .second, .val (.long q2), .second, .val (.int p3), .val (.int p4), .val (.long v_o), .second, .val (.long v_c1), .second, .val (.long v_c2), .second, .val (.long v_q), .second, .val (.ref b3), .unset, .unset, .unset] [.null, (.int (0 : Int32)), (.long (0 : Int64)), (.long q1), (.long v_c1), (.ref b3)])) _
        refine st17.trans ?_
        show Steps p.tables e below (T17.setTop (mkF m 94 #[.val (.long q0), .second, .val (.long q1), .second, .val (.long q2), .second, .val (.int p3), .val (.int p4), .val (.long v_o), .second, .val (.long v_c1), .second, .val (.long v_c2), .second, .val (.long v_q), .second, .val (.ref b3), .unset, .unset, .unset] [])) _
        refine XS.aload X17.here hx rfl (hb hby at_94) rfl rfl ?_
        show Steps p.tables e below (T17.setTop (mkF m 96 #[.val (.long q0), .second, .val (.long q1), .second, .val (.long q2), .second, .val (.int p3), .val (.int p4), .val (.long v_o), .second, .val (.long v_c1), .second, .val (.long v_c2), .second, .val (.long v_q), .second, .val (.ref b3), .unset, .unset, .unset] [(.ref b3)])) _
        refine XS.lload X17.here hx rfl (hb hby at_96) rfl ?_
        show Steps p.tables e below (T17.setTop (mkF m 98 #[.val (.long q0), .second, .val (.long q1), .second, .val (.long q2), .second, .val (.int p3), .val (.int p4), .val (.long v_o), .second, .val (.long v_c1), .second, .val (.long v_c2), .second, .val (.long v_q), .second, .val (.ref b3), .unset, .unset, .unset] [(.long v_c2), (.ref b3)])) _
        refine XS.lload X17.here hx rfl (hb hby at_98) rfl ?_
        show Steps p.tables e below (T17.setTop (mkF m 100 #[.val (.long q0), .second, .val (.long q1), .second, .val (.long q2), .second, .val (.int p3), .val (.int p4), .val (.long v_o), .second, .val (.long v_c1), .second, .val (.long v_c2), .second, .val (.long v_q), .second, .val (.ref b3), .unset, .unset, .unset] [(.long q2), (.long v_c2), (.ref b3)])) _
        refine XS.lconst X17.here hx rfl (hb hby at_100) ?_
        show Steps p.tables e below (T17.setTop (mkF m 101 #[.val (.long q0), .second, .val (.long q1), .second, .val (.long q2), .second, .val (.int p3), .val (.int p4), .val (.long v_o), .second, .val (.long v_c1), .second, .val (.long v_c2), .second, .val (.long v_q), .second, .val (.ref b3), .unset, .unset, .unset] [(.long (0 : Int64)), (.long q2), (.long v_c2), (.ref b3)])) _
        refine XS.iconst X17.here hx rfl (hb hby at_101) ?_
        show Steps p.tables e below (T17.setTop (mkF m 102 #[.val (.long q0), .second, .val (.long q1), .second, .val (.long q2), .second, .val (.int p3), .val (.int p4), .val (.long v_o), .second, .val (.long v_c1), .second, .val (.long v_c2), .second, .val (.long v_q), .second, .val (.ref b3), .unset, .unset, .unset] [(.int (0 : Int32)), (.long (0 : Int64)), (.long q2), (.long v_c2), (.ref b3)])) _
        refine XS.aconstNull X17.here hx rfl (hb hby at_102) ?_
        show Steps p.tables e below (T17.setTop (mkF m 103 #[.val (.long q0), .second, .val (.long q1), .second, .val (.long q2), .second, .val (.int p3), .val (.int p4), .val (.long v_o), .second, .val (.long v_c1), .second, .val (.long v_c2), .second, .val (.long v_q), .second, .val (.ref b3), .unset, .unset, .unset] [.null, (.int (0 : Int32)), (.long (0 : Int64)), (.long q2), (.long v_c2), (.ref b3)])) _
        refine st18.trans ?_
        show Steps p.tables e below (T18.setTop (mkF m 106 #[.val (.long q0), .second, .val (.long q1), .second, .val (.long q2), .second, .val (.int p3), .val (.int p4), .val (.long v_o), .second, .val (.long v_c1), .second, .val (.long v_c2), .second, .val (.long v_q), .second, .val (.ref b3), .unset, .unset, .unset] [])) t
        exact k
      by_cases h_Q2 : v_q < v_c2
      · by_cases h_Q1 : v_q < v_c1
        · obtain ⟨cq19, kq19, q19a, q19b, q19c⟩ := isOf hZ rfl E_b3_18
          obtain ⟨_, _, ⟨T19, L19, k19, n19⟩, -, X19, ⟨Lc19, hQ19, l19, y19, z19⟩, st19⟩ := X18.virtualBack hx (y := (⟨"com/example/tandem_ledger/tandemledger/Account", "at", "(J)Lcom/example/tandem_ledger/tandemledger/Account$Version;"⟩ : MethodName)) (z := (⟨"com/example/tandem_ledger/tandemledger/Account", "at", "(J)Lcom/example/tandem_ledger/tandemledger/Account$Version;"⟩ : MethodName)) hown (mvT hZ (hw _ (List.mem_of_getElem? (i := 82) rfl))) (mvT hZ (hw _ (List.mem_of_getElem? (i := 83) rfl))) (notFace_of_selects (args := #[]) (mvT hZ (hw _ (List.mem_of_getElem? (i := 85) rfl)))) (mvT hZ (hw _ (List.mem_of_getElem? (i := 85) rfl))) (mvT hZ (hw _ (List.mem_of_getElem? (i := 84) rfl))) (by decide) (backOf (W := 0) (own_rmAt2 l Z a0 hw [] b3 v_q bvc18 bva6 v_c2 v_o T18.heap n0 Z18 Fl18 Fc18 Fe18 h_Q2 F_bva6_commit_18 (own_ge h_q)) hZ (hw _ (List.mem_of_getElem? (i := 86) rfl)) (hw _ (List.mem_of_getElem? (i := 7) rfl)) (by decide) (by decide)) q19a q19c (g := (mkF m 110 #[.val (.long q0), .second, .val (.long q1), .second, .val (.long q2), .second, .val (.int p3), .val (.int p4), .val (.long v_o), .second, .val (.long v_c1), .second, .val (.long v_c2), .second, .val (.long v_q), .second, .val (.ref b3), .unset, .unset, .unset] [(.long v_q), (.ref b3)])) rfl (by rw [hml]; rfl) (Steps.refl _) (argsL := [(.long v_q)]) (rest := []) (lenOf own_pd7 rfl) rfl (by show 2 * 0 + _ ≤ _; exact Nat.le_of_eq rfl) (hb hby at_110) (fun _ _ => ⟨rfl, rfl, (by decide : 6 + 0 ≤ _), (by decide : 30 + 0 ≤ _)⟩)
          dsimp only [Pt.U, Pt.locs, Pt.cells, Pt.slots] at X19 l19 y19 z19 st19 hQ19
          subst l19 y19 z19
          obtain ⟨rfl, N19q, e19⟩ := hQ19
          have N19 := Fr.app N18 N19q
          obtain ⟨cq20, kq20, q20a, q20b, q20c⟩ := isOf hZ e19 E_bva6_18
          obtain ⟨_, _, ⟨T20, L20, k20, n20⟩, -, X20, ⟨Lc20, hQ20, l20, y20, z20⟩, st20⟩ := X19.virtualBack hx (y := (⟨"com/example/tandem_ledger/tandemledger/Account$Version", "balance", "()J"⟩ : MethodName)) (z := (⟨"com/example/tandem_ledger/tandemledger/Account$Version", "balance", "()J"⟩ : MethodName)) hown (mvT hZ (hw _ (List.mem_of_getElem? (i := 87) rfl))) (mvT hZ (hw _ (List.mem_of_getElem? (i := 88) rfl))) (notFace_of_selects (args := #[]) (mvT hZ (hw _ (List.mem_of_getElem? (i := 90) rfl)))) (mvT hZ (hw _ (List.mem_of_getElem? (i := 90) rfl))) (mvT hZ (hw _ (List.mem_of_getElem? (i := 89) rfl))) (by decide) (backOf (W := 0) (own_rmBal l Z a0 hw [] bva6 (0 : Int64) T18.heap n0 Z18 F_bva6_balance_18) hZ (hw _ (List.mem_of_getElem? (i := 91) rfl)) (hw _ (List.mem_of_getElem? (i := 45) rfl)) (by decide) (by decide)) q20a q20c (g := (mkF m 156 #[.val (.long q0), .second, .val (.long q1), .second, .val (.long q2), .second, .val (.int p3), .val (.int p4), .val (.long v_o), .second, .val (.long v_c1), .second, .val (.long v_c2), .second, .val (.long v_q), .second, .val (.ref b3), .val (.ref bva6), .val (.long (0 : Int64)), .second] [(.ref bva6)])) rfl (by rw [hml]; rfl) (Steps.refl _) (argsL := []) (rest := []) (lenOf own_pd2 rfl) rfl (by show 2 * 0 + _ ≤ _; exact Nat.le_of_eq rfl) (hb hby at_156) (fun _ _ => ⟨rfl, e19, (by decide : 6 + 0 ≤ _), (by decide : 30 + 0 ≤ _)⟩)
          dsimp only [Pt.U, Pt.locs, Pt.cells, Pt.slots] at X20 l20 y20 z20 st20 hQ20
          subst l20 y20 z20
          obtain ⟨rfl, N20q, e20⟩ := hQ20
          have N20 := Fr.app N19 N20q
          obtain ⟨fs, hr, hrun, hended, hRE⟩ := Jvm.Stand.leaveW (s := s) X20 hS4 (by show _ ≤ T20.heap.size; rw [e20]; exact hk18) (v := some (.int (1 : Int32))) (fun h => by rw [Bd.returns] at h; cases h)
          refine ⟨_, _, ?_, hrun, hended, _, _, rfl, ?_, hRE.1, hRE.2.1, hRE.2.2.1, hRE.2.2.2.mono (by decide) (by decide)⟩
          · show Steps p.tables e below (T18.setTop (mkF m 106 #[.val (.long q0), .second, .val (.long q1), .second, .val (.long q2), .second, .val (.int p3), .val (.int p4), .val (.long v_o), .second, .val (.long v_c1), .second, .val (.long v_c2), .second, .val (.long v_q), .second, .val (.ref b3), .unset, .unset, .unset] [])) _
            refine XS.aload X18.here hx rfl (hb hby at_106) rfl rfl ?_
            show Steps p.tables e below (T18.setTop (mkF m 108 #[.val (.long q0), .second, .val (.long q1), .second, .val (.long q2), .second, .val (.int p3), .val (.int p4), .val (.long v_o), .second, .val (.long v_c1), .second, .val (.long v_c2), .second, .val (.long v_q), .second, .val (.ref b3), .unset, .unset, .unset] [(.ref b3)])) _
            refine XS.lload X18.here hx rfl (hb hby at_108) rfl ?_
            show Steps p.tables e below (T18.setTop (mkF m 110 #[.val (.long q0), .second, .val (.long q1), .second, .val (.long q2), .second, .val (.int p3), .val (.int p4), .val (.long v_o), .second, .val (.long v_c1), .second, .val (.long v_c2), .second, .val (.long v_q), .second, .val (.ref b3), .unset, .unset, .unset] [(.long v_q), (.ref b3)])) _
            refine st19.trans ?_
            show Steps p.tables e below (T19.setTop (mkF m 113 #[.val (.long q0), .second, .val (.long q1), .second, .val (.long q2), .second, .val (.int p3), .val (.int p4), .val (.long v_o), .second, .val (.long v_c1), .second, .val (.long v_c2), .second, .val (.long v_q), .second, .val (.ref b3), .unset, .unset, .unset] [(.ref bva6)])) _
            refine XS.astore X19.here hx rfl (hb hby at_113) rfl rfl (l' := #[.val (.long q0), .second, .val (.long q1), .second, .val (.long q2), .second, .val (.int p3), .val (.int p4), .val (.long v_o), .second, .val (.long v_c1), .second, .val (.long v_c2), .second, .val (.long v_q), .second, .val (.ref b3), .val (.ref bva6), .unset, .unset]) rfl ?_
            show Steps p.tables e below (T19.setTop (mkF m 115 #[.val (.long q0), .second, .val (.long q1), .second, .val (.long q2), .second, .val (.int p3), .val (.int p4), .val (.long v_o), .second, .val (.long v_c1), .second, .val (.long v_c2), .second, .val (.long v_q), .second, .val (.ref b3), .val (.ref bva6), .unset, .unset] [])) _
            refine XS.aload X19.here hx rfl (hb hby at_115) rfl rfl ?_
            show Steps p.tables e below (T19.setTop (mkF m 117 #[.val (.long q0), .second, .val (.long q1), .second, .val (.long q2), .second, .val (.int p3), .val (.int p4), .val (.long v_o), .second, .val (.long v_c1), .second, .val (.long v_c2), .second, .val (.long v_q), .second, .val (.ref b3), .val (.ref bva6), .unset, .unset] [(.ref bva6)])) _
            refine XS.ifnonnullYes X19.here hx rfl (pc0 := 117) (pc' := 122) rfl (hb hby at_117) rfl (by decide) (by decide) ?_
            show Steps p.tables e below (T19.setTop (mkF m 122 #[.val (.long q0), .second, .val (.long q1), .second, .val (.long q2), .second, .val (.int p3), .val (.int p4), .val (.long v_o), .second, .val (.long v_c1), .second, .val (.long v_c2), .second, .val (.long v_q), .second, .val (.ref b3), .val (.ref bva6), .unset, .unset] [])) _
            refine XS.lload X19.here hx rfl (hb hby at_122) rfl ?_
            show Steps p.tables e below (T19.setTop (mkF m 124 #[.val (.long q0), .second, .val (.long q1), .second, .val (.long q2), .second, .val (.int p3), .val (.int p4), .val (.long v_o), .second, .val (.long v_c1), .second, .val (.long v_c2), .second, .val (.long v_q), .second, .val (.ref b3), .val (.ref bva6), .unset, .unset] [(.long v_q)])) _
            refine XS.lload X19.here hx rfl (hb hby at_124) rfl ?_
            show Steps p.tables e below (T19.setTop (mkF m 126 #[.val (.long q0), .second, .val (.long q1), .second, .val (.long q2), .second, .val (.int p3), .val (.int p4), .val (.long v_o), .second, .val (.long v_c1), .second, .val (.long v_c2), .second, .val (.long v_q), .second, .val (.ref b3), .val (.ref bva6), .unset, .unset] [(.long v_c2), (.long v_q)])) _
            refine XS.lcmp X19.here hx rfl (hb hby at_126) rfl ?_
            show Steps p.tables e below (T19.setTop (mkF m 127 #[.val (.long q0), .second, .val (.long q1), .second, .val (.long q2), .second, .val (.int p3), .val (.int p4), .val (.long v_o), .second, .val (.long v_c1), .second, .val (.long v_c2), .second, .val (.long v_q), .second, .val (.ref b3), .val (.ref bva6), .unset, .unset] [(.int (lcmpW v_q v_c2))])) _
            refine XS.ifYes X19.here hx rfl (pc0 := 127) (pc' := 137) rfl (hb hby at_127) rfl ((if0 _ _).trans (tlt ((lw_lt _ _).mpr (h_Q2 : v_q < v_c2))).1) (by decide) (by decide) ?_
            show Steps p.tables e below (T19.setTop (mkF m 137 #[.val (.long q0), .second, .val (.long q1), .second, .val (.long q2), .second, .val (.int p3), .val (.int p4), .val (.long v_o), .second, .val (.long v_c1), .second, .val (.long v_c2), .second, .val (.long v_q), .second, .val (.ref b3), .val (.ref bva6), .unset, .unset] [])) _
            refine XS.lload X19.here hx rfl (hb hby at_137) rfl ?_
            show Steps p.tables e below (T19.setTop (mkF m 139 #[.val (.long q0), .second, .val (.long q1), .second, .val (.long q2), .second, .val (.int p3), .val (.int p4), .val (.long v_o), .second, .val (.long v_c1), .second, .val (.long v_c2), .second, .val (.long v_q), .second, .val (.ref b3), .val (.ref bva6), .unset, .unset] [(.long v_q)])) _
            refine XS.lload X19.here hx rfl (hb hby at_139) rfl ?_
            show Steps p.tables e below (T19.setTop (mkF m 141 #[.val (.long q0), .second, .val (.long q1), .second, .val (.long q2), .second, .val (.int p3), .val (.int p4), .val (.long v_o), .second, .val (.long v_c1), .second, .val (.long v_c2), .second, .val (.long v_q), .second, .val (.ref b3), .val (.ref bva6), .unset, .unset] [(.long v_c1), (.long v_q)])) _
            refine XS.lcmp X19.here hx rfl (hb hby at_141) rfl ?_
            show Steps p.tables e below (T19.setTop (mkF m 142 #[.val (.long q0), .second, .val (.long q1), .second, .val (.long q2), .second, .val (.int p3), .val (.int p4), .val (.long v_o), .second, .val (.long v_c1), .second, .val (.long v_c2), .second, .val (.long v_q), .second, .val (.ref b3), .val (.ref bva6), .unset, .unset] [(.int (lcmpW v_q v_c1))])) _
            refine XS.ifYes X19.here hx rfl (pc0 := 142) (pc' := 151) rfl (hb hby at_142) rfl ((if0 _ _).trans (tlt ((lw_lt _ _).mpr (h_Q1 : v_q < v_c1))).1) (by decide) (by decide) ?_
            show Steps p.tables e below (T19.setTop (mkF m 151 #[.val (.long q0), .second, .val (.long q1), .second, .val (.long q2), .second, .val (.int p3), .val (.int p4), .val (.long v_o), .second, .val (.long v_c1), .second, .val (.long v_c2), .second, .val (.long v_q), .second, .val (.ref b3), .val (.ref bva6), .unset, .unset] [])) _
            refine XS.lconst X19.here hx rfl (hb hby at_151) ?_
            show Steps p.tables e below (T19.setTop (mkF m 152 #[.val (.long q0), .second, .val (.long q1), .second, .val (.long q2), .second, .val (.int p3), .val (.int p4), .val (.long v_o), .second, .val (.long v_c1), .second, .val (.long v_c2), .second, .val (.long v_q), .second, .val (.ref b3), .val (.ref bva6), .unset, .unset] [(.long (0 : Int64))])) _
            refine XS.lstore X19.here hx rfl (hb hby at_152) rfl (l' := #[.val (.long q0), .second, .val (.long q1), .second, .val (.long q2), .second, .val (.int p3), .val (.int p4), .val (.long v_o), .second, .val (.long v_c1), .second, .val (.long v_c2), .second, .val (.long v_q), .second, .val (.ref b3), .val (.ref bva6), .val (.long (0 : Int64)), .second]) rfl ?_
            show Steps p.tables e below (T19.setTop (mkF m 154 #[.val (.long q0), .second, .val (.long q1), .second, .val (.long q2), .second, .val (.int p3), .val (.int p4), .val (.long v_o), .second, .val (.long v_c1), .second, .val (.long v_c2), .second, .val (.long v_q), .second, .val (.ref b3), .val (.ref bva6), .val (.long (0 : Int64)), .second] [])) _
            refine XS.aload X19.here hx rfl (hb hby at_154) rfl rfl ?_
            show Steps p.tables e below (T19.setTop (mkF m 156 #[.val (.long q0), .second, .val (.long q1), .second, .val (.long q2), .second, .val (.int p3), .val (.int p4), .val (.long v_o), .second, .val (.long v_c1), .second, .val (.long v_c2), .second, .val (.long v_q), .second, .val (.ref b3), .val (.ref bva6), .val (.long (0 : Int64)), .second] [(.ref bva6)])) _
            refine st20.trans ?_
            show Steps p.tables e below (T20.setTop (mkF m 159 #[.val (.long q0), .second, .val (.long q1), .second, .val (.long q2), .second, .val (.int p3), .val (.int p4), .val (.long v_o), .second, .val (.long v_c1), .second, .val (.long v_c2), .second, .val (.long v_q), .second, .val (.ref b3), .val (.ref bva6), .val (.long (0 : Int64)), .second] [(.long (0 : Int64))])) _
            refine XS.lload X20.here hx rfl (hb hby at_159) rfl ?_
            show Steps p.tables e below (T20.setTop (mkF m 161 #[.val (.long q0), .second, .val (.long q1), .second, .val (.long q2), .second, .val (.int p3), .val (.int p4), .val (.long v_o), .second, .val (.long v_c1), .second, .val (.long v_c2), .second, .val (.long v_q), .second, .val (.ref b3), .val (.ref bva6), .val (.long (0 : Int64)), .second] [(.long (0 : Int64)), (.long (0 : Int64))])) _
            refine XS.lcmp X20.here hx rfl (hb hby at_161) rfl ?_
            show Steps p.tables e below (T20.setTop (mkF m 162 #[.val (.long q0), .second, .val (.long q1), .second, .val (.long q2), .second, .val (.int p3), .val (.int p4), .val (.long v_o), .second, .val (.long v_c1), .second, .val (.long v_c2), .second, .val (.long v_q), .second, .val (.ref b3), .val (.ref bva6), .val (.long (0 : Int64)), .second] [(.int (lcmpW (0 : Int64) (0 : Int64)))])) _
            refine XS.ifNo X20.here hx rfl (hb hby at_162) rfl ((if0 _ _).trans (teq ((lw_eq _ _).mpr (rfl : (0 : Int64) = (0 : Int64)))).2) ?_
            show Steps p.tables e below (T20.setTop (mkF m 165 #[.val (.long q0), .second, .val (.long q1), .second, .val (.long q2), .second, .val (.int p3), .val (.int p4), .val (.long v_o), .second, .val (.long v_c1), .second, .val (.long v_c2), .second, .val (.long v_q), .second, .val (.ref b3), .val (.ref bva6), .val (.long (0 : Int64)), .second] [])) _
            refine XS.iconst X20.here hx rfl (hb hby at_165) ?_
            show Steps p.tables e below (T20.setTop (mkF m 166 #[.val (.long q0), .second, .val (.long q1), .second, .val (.long q2), .second, .val (.int p3), .val (.int p4), .val (.long v_o), .second, .val (.long v_c1), .second, .val (.long v_c2), .second, .val (.long v_q), .second, .val (.ref b3), .val (.ref bva6), .val (.long (0 : Int64)), .second] [(.int (1 : Int32))])) _
            refine XS.goto X20.here hx rfl (pc0 := 166) (pc' := 170) rfl (hb hby at_166) (by decide) (by decide) ?_
            show Steps p.tables e below (T20.setTop (mkF m 170 #[.val (.long q0), .second, .val (.long q1), .second, .val (.long q2), .second, .val (.int p3), .val (.int p4), .val (.long v_o), .second, .val (.long v_c1), .second, .val (.long v_c2), .second, .val (.long v_q), .second, .val (.ref b3), .val (.ref bva6), .val (.long (0 : Int64)), .second] [(.int (1 : Int32))])) _
            exact retN X20 hx (t := .boolean) Bd.returns (by simp) (hb hby at_170) hr
          · show own_Q0 n0 _ T20.heap _
            rw [e20]
            exact ⟨rfl, N20⟩
        · exact absurd (h_B ▸ h_Q2) h_Q1
      · obtain ⟨cq21, kq21, q21a, q21b, q21c⟩ := isOf hZ rfl E_b3_18
        obtain ⟨_, _, ⟨T21, L21, k21, n21⟩, -, X21, ⟨Lc21, hQ21, l21, y21, z21⟩, st21⟩ := X18.virtualBack hx (y := (⟨"com/example/tandem_ledger/tandemledger/Account", "at", "(J)Lcom/example/tandem_ledger/tandemledger/Account$Version;"⟩ : MethodName)) (z := (⟨"com/example/tandem_ledger/tandemledger/Account", "at", "(J)Lcom/example/tandem_ledger/tandemledger/Account$Version;"⟩ : MethodName)) hown (mvT hZ (hw _ (List.mem_of_getElem? (i := 82) rfl))) (mvT hZ (hw _ (List.mem_of_getElem? (i := 83) rfl))) (notFace_of_selects (args := #[]) (mvT hZ (hw _ (List.mem_of_getElem? (i := 85) rfl)))) (mvT hZ (hw _ (List.mem_of_getElem? (i := 85) rfl))) (mvT hZ (hw _ (List.mem_of_getElem? (i := 84) rfl))) (by decide) (backOf (W := 0) (own_rmAt1 l Z a0 hw [] b3 v_q bvc18 v_c2 T18.heap n0 Z18 Fl18 Fc18 h_Q2) hZ (hw _ (List.mem_of_getElem? (i := 86) rfl)) (hw _ (List.mem_of_getElem? (i := 7) rfl)) (by decide) (by decide)) q21a q21c (g := (mkF m 110 #[.val (.long q0), .second, .val (.long q1), .second, .val (.long q2), .second, .val (.int p3), .val (.int p4), .val (.long v_o), .second, .val (.long v_c1), .second, .val (.long v_c2), .second, .val (.long v_q), .second, .val (.ref b3), .unset, .unset, .unset] [(.long v_q), (.ref b3)])) rfl (by rw [hml]; rfl) (Steps.refl _) (argsL := [(.long v_q)]) (rest := []) (lenOf own_pd7 rfl) rfl (by show 2 * 0 + _ ≤ _; exact Nat.le_of_eq rfl) (hb hby at_110) (fun _ _ => ⟨rfl, rfl, (by decide : 6 + 0 ≤ _), (by decide : 30 + 0 ≤ _)⟩)
        dsimp only [Pt.U, Pt.locs, Pt.cells, Pt.slots] at X21 l21 y21 z21 st21 hQ21
        subst l21 y21 z21
        obtain ⟨rfl, N21q, e21⟩ := hQ21
        have N21 := Fr.app N18 N21q
        obtain ⟨cq22, kq22, q22a, q22b, q22c⟩ := isOf hZ e21 Ex18
        obtain ⟨_, _, ⟨T22, L22, k22, n22⟩, -, X22, ⟨Lc22, hQ22, l22, y22, z22⟩, st22⟩ := X21.virtualBack hx (y := (⟨"com/example/tandem_ledger/tandemledger/Account$Version", "balance", "()J"⟩ : MethodName)) (z := (⟨"com/example/tandem_ledger/tandemledger/Account$Version", "balance", "()J"⟩ : MethodName)) hown (mvT hZ (hw _ (List.mem_of_getElem? (i := 87) rfl))) (mvT hZ (hw _ (List.mem_of_getElem? (i := 88) rfl))) (notFace_of_selects (args := #[]) (mvT hZ (hw _ (List.mem_of_getElem? (i := 90) rfl)))) (mvT hZ (hw _ (List.mem_of_getElem? (i := 90) rfl))) (mvT hZ (hw _ (List.mem_of_getElem? (i := 89) rfl))) (by decide) (backOf (W := 0) (own_rmBal l Z a0 hw [] bvc18 q2 T18.heap n0 Z18 Fb18) hZ (hw _ (List.mem_of_getElem? (i := 91) rfl)) (hw _ (List.mem_of_getElem? (i := 45) rfl)) (by decide) (by decide)) q22a q22c (g := (mkF m 156 #[.val (.long q0), .second, .val (.long q1), .second, .val (.long q2), .second, .val (.int p3), .val (.int p4), .val (.long v_o), .second, .val (.long v_c1), .second, .val (.long v_c2), .second, .val (.long v_q), .second, .val (.ref b3), .val (.ref bvc18), .val (.long q2), .second] [(.ref bvc18)])) rfl (by rw [hml]; rfl) (Steps.refl _) (argsL := []) (rest := []) (lenOf own_pd2 rfl) rfl (by show 2 * 0 + _ ≤ _; exact Nat.le_of_eq rfl) (hb hby at_156) (fun _ _ => ⟨rfl, e21, (by decide : 6 + 0 ≤ _), (by decide : 30 + 0 ≤ _)⟩)
        dsimp only [Pt.U, Pt.locs, Pt.cells, Pt.slots] at X22 l22 y22 z22 st22 hQ22
        subst l22 y22 z22
        obtain ⟨rfl, N22q, e22⟩ := hQ22
        have N22 := Fr.app N21 N22q
        obtain ⟨fs, hr, hrun, hended, hRE⟩ := Jvm.Stand.leaveW (s := s) X22 hS4 (by show _ ≤ T22.heap.size; rw [e22]; exact hk18) (v := some (.int (1 : Int32))) (fun h => by rw [Bd.returns] at h; cases h)
        refine ⟨_, _, ?_, hrun, hended, _, _, rfl, ?_, hRE.1, hRE.2.1, hRE.2.2.1, hRE.2.2.2.mono (by decide) (by decide)⟩
        · show Steps p.tables e below (T18.setTop (mkF m 106 #[.val (.long q0), .second, .val (.long q1), .second, .val (.long q2), .second, .val (.int p3), .val (.int p4), .val (.long v_o), .second, .val (.long v_c1), .second, .val (.long v_c2), .second, .val (.long v_q), .second, .val (.ref b3), .unset, .unset, .unset] [])) _
          refine XS.aload X18.here hx rfl (hb hby at_106) rfl rfl ?_
          show Steps p.tables e below (T18.setTop (mkF m 108 #[.val (.long q0), .second, .val (.long q1), .second, .val (.long q2), .second, .val (.int p3), .val (.int p4), .val (.long v_o), .second, .val (.long v_c1), .second, .val (.long v_c2), .second, .val (.long v_q), .second, .val (.ref b3), .unset, .unset, .unset] [(.ref b3)])) _
          refine XS.lload X18.here hx rfl (hb hby at_108) rfl ?_
          show Steps p.tables e below (T18.setTop (mkF m 110 #[.val (.long q0), .second, .val (.long q1), .second, .val (.long q2), .second, .val (.int p3), .val (.int p4), .val (.long v_o), .second, .val (.long v_c1), .second, .val (.long v_c2), .second, .val (.long v_q), .second, .val (.ref b3), .unset, .unset, .unset] [(.long v_q), (.ref b3)])) _
          refine st21.trans ?_
          show Steps p.tables e below (T21.setTop (mkF m 113 #[.val (.long q0), .second, .val (.long q1), .second, .val (.long q2), .second, .val (.int p3), .val (.int p4), .val (.long v_o), .second, .val (.long v_c1), .second, .val (.long v_c2), .second, .val (.long v_q), .second, .val (.ref b3), .unset, .unset, .unset] [(.ref bvc18)])) _
          refine XS.astore X21.here hx rfl (hb hby at_113) rfl rfl (l' := #[.val (.long q0), .second, .val (.long q1), .second, .val (.long q2), .second, .val (.int p3), .val (.int p4), .val (.long v_o), .second, .val (.long v_c1), .second, .val (.long v_c2), .second, .val (.long v_q), .second, .val (.ref b3), .val (.ref bvc18), .unset, .unset]) rfl ?_
          show Steps p.tables e below (T21.setTop (mkF m 115 #[.val (.long q0), .second, .val (.long q1), .second, .val (.long q2), .second, .val (.int p3), .val (.int p4), .val (.long v_o), .second, .val (.long v_c1), .second, .val (.long v_c2), .second, .val (.long v_q), .second, .val (.ref b3), .val (.ref bvc18), .unset, .unset] [])) _
          refine XS.aload X21.here hx rfl (hb hby at_115) rfl rfl ?_
          show Steps p.tables e below (T21.setTop (mkF m 117 #[.val (.long q0), .second, .val (.long q1), .second, .val (.long q2), .second, .val (.int p3), .val (.int p4), .val (.long v_o), .second, .val (.long v_c1), .second, .val (.long v_c2), .second, .val (.long v_q), .second, .val (.ref b3), .val (.ref bvc18), .unset, .unset] [(.ref bvc18)])) _
          refine XS.ifnonnullYes X21.here hx rfl (pc0 := 117) (pc' := 122) rfl (hb hby at_117) rfl (by decide) (by decide) ?_
          show Steps p.tables e below (T21.setTop (mkF m 122 #[.val (.long q0), .second, .val (.long q1), .second, .val (.long q2), .second, .val (.int p3), .val (.int p4), .val (.long v_o), .second, .val (.long v_c1), .second, .val (.long v_c2), .second, .val (.long v_q), .second, .val (.ref b3), .val (.ref bvc18), .unset, .unset] [])) _
          refine XS.lload X21.here hx rfl (hb hby at_122) rfl ?_
          show Steps p.tables e below (T21.setTop (mkF m 124 #[.val (.long q0), .second, .val (.long q1), .second, .val (.long q2), .second, .val (.int p3), .val (.int p4), .val (.long v_o), .second, .val (.long v_c1), .second, .val (.long v_c2), .second, .val (.long v_q), .second, .val (.ref b3), .val (.ref bvc18), .unset, .unset] [(.long v_q)])) _
          refine XS.lload X21.here hx rfl (hb hby at_124) rfl ?_
          show Steps p.tables e below (T21.setTop (mkF m 126 #[.val (.long q0), .second, .val (.long q1), .second, .val (.long q2), .second, .val (.int p3), .val (.int p4), .val (.long v_o), .second, .val (.long v_c1), .second, .val (.long v_c2), .second, .val (.long v_q), .second, .val (.ref b3), .val (.ref bvc18), .unset, .unset] [(.long v_c2), (.long v_q)])) _
          refine XS.lcmp X21.here hx rfl (hb hby at_126) rfl ?_
          show Steps p.tables e below (T21.setTop (mkF m 127 #[.val (.long q0), .second, .val (.long q1), .second, .val (.long q2), .second, .val (.int p3), .val (.int p4), .val (.long v_o), .second, .val (.long v_c1), .second, .val (.long v_c2), .second, .val (.long v_q), .second, .val (.ref b3), .val (.ref bvc18), .unset, .unset] [(.int (lcmpW v_q v_c2))])) _
          refine XS.ifNo X21.here hx rfl (hb hby at_127) rfl ((if0 _ _).trans (flt (mt (lw_lt _ _).mp (h_Q2 : ¬ (v_q < v_c2)))).1) ?_
          show Steps p.tables e below (T21.setTop (mkF m 130 #[.val (.long q0), .second, .val (.long q1), .second, .val (.long q2), .second, .val (.int p3), .val (.int p4), .val (.long v_o), .second, .val (.long v_c1), .second, .val (.long v_c2), .second, .val (.long v_q), .second, .val (.ref b3), .val (.ref bvc18), .unset, .unset] [])) _
          refine XS.lload X21.here hx rfl (hb hby at_130) rfl ?_
          show Steps p.tables e below (T21.setTop (mkF m 132 #[.val (.long q0), .second, .val (.long q1), .second, .val (.long q2), .second, .val (.int p3), .val (.int p4), .val (.long v_o), .second, .val (.long v_c1), .second, .val (.long v_c2), .second, .val (.long v_q), .second, .val (.ref b3), .val (.ref bvc18), .unset, .unset] [(.long q2)])) _
          refine XS.lstore X21.here hx rfl (hb hby at_132) rfl (l' := #[.val (.long q0), .second, .val (.long q1), .second, .val (.long q2), .second, .val (.int p3), .val (.int p4), .val (.long v_o), .second, .val (.long v_c1), .second, .val (.long v_c2), .second, .val (.long v_q), .second, .val (.ref b3), .val (.ref bvc18), .val (.long q2), .second]) rfl ?_
          show Steps p.tables e below (T21.setTop (mkF m 134 #[.val (.long q0), .second, .val (.long q1), .second, .val (.long q2), .second, .val (.int p3), .val (.int p4), .val (.long v_o), .second, .val (.long v_c1), .second, .val (.long v_c2), .second, .val (.long v_q), .second, .val (.ref b3), .val (.ref bvc18), .val (.long q2), .second] [])) _
          refine XS.goto X21.here hx rfl (pc0 := 134) (pc' := 154) rfl (hb hby at_134) (by decide) (by decide) ?_
          show Steps p.tables e below (T21.setTop (mkF m 154 #[.val (.long q0), .second, .val (.long q1), .second, .val (.long q2), .second, .val (.int p3), .val (.int p4), .val (.long v_o), .second, .val (.long v_c1), .second, .val (.long v_c2), .second, .val (.long v_q), .second, .val (.ref b3), .val (.ref bvc18), .val (.long q2), .second] [])) _
          refine XS.aload X21.here hx rfl (hb hby at_154) rfl rfl ?_
          show Steps p.tables e below (T21.setTop (mkF m 156 #[.val (.long q0), .second, .val (.long q1), .second, .val (.long q2), .second, .val (.int p3), .val (.int p4), .val (.long v_o), .second, .val (.long v_c1), .second, .val (.long v_c2), .second, .val (.long v_q), .second, .val (.ref b3), .val (.ref bvc18), .val (.long q2), .second] [(.ref bvc18)])) _
          refine st22.trans ?_
          show Steps p.tables e below (T22.setTop (mkF m 159 #[.val (.long q0), .second, .val (.long q1), .second, .val (.long q2), .second, .val (.int p3), .val (.int p4), .val (.long v_o), .second, .val (.long v_c1), .second, .val (.long v_c2), .second, .val (.long v_q), .second, .val (.ref b3), .val (.ref bvc18), .val (.long q2), .second] [(.long q2)])) _
          refine XS.lload X22.here hx rfl (hb hby at_159) rfl ?_
          show Steps p.tables e below (T22.setTop (mkF m 161 #[.val (.long q0), .second, .val (.long q1), .second, .val (.long q2), .second, .val (.int p3), .val (.int p4), .val (.long v_o), .second, .val (.long v_c1), .second, .val (.long v_c2), .second, .val (.long v_q), .second, .val (.ref b3), .val (.ref bvc18), .val (.long q2), .second] [(.long q2), (.long q2)])) _
          refine XS.lcmp X22.here hx rfl (hb hby at_161) rfl ?_
          show Steps p.tables e below (T22.setTop (mkF m 162 #[.val (.long q0), .second, .val (.long q1), .second, .val (.long q2), .second, .val (.int p3), .val (.int p4), .val (.long v_o), .second, .val (.long v_c1), .second, .val (.long v_c2), .second, .val (.long v_q), .second, .val (.ref b3), .val (.ref bvc18), .val (.long q2), .second] [(.int (lcmpW q2 q2))])) _
          refine XS.ifNo X22.here hx rfl (hb hby at_162) rfl ((if0 _ _).trans (teq ((lw_eq _ _).mpr (rfl : q2 = q2))).2) ?_
          show Steps p.tables e below (T22.setTop (mkF m 165 #[.val (.long q0), .second, .val (.long q1), .second, .val (.long q2), .second, .val (.int p3), .val (.int p4), .val (.long v_o), .second, .val (.long v_c1), .second, .val (.long v_c2), .second, .val (.long v_q), .second, .val (.ref b3), .val (.ref bvc18), .val (.long q2), .second] [])) _
          refine XS.iconst X22.here hx rfl (hb hby at_165) ?_
          show Steps p.tables e below (T22.setTop (mkF m 166 #[.val (.long q0), .second, .val (.long q1), .second, .val (.long q2), .second, .val (.int p3), .val (.int p4), .val (.long v_o), .second, .val (.long v_c1), .second, .val (.long v_c2), .second, .val (.long v_q), .second, .val (.ref b3), .val (.ref bvc18), .val (.long q2), .second] [(.int (1 : Int32))])) _
          refine XS.goto X22.here hx rfl (pc0 := 166) (pc' := 170) rfl (hb hby at_166) (by decide) (by decide) ?_
          show Steps p.tables e below (T22.setTop (mkF m 170 #[.val (.long q0), .second, .val (.long q1), .second, .val (.long q2), .second, .val (.int p3), .val (.int p4), .val (.long v_o), .second, .val (.long v_c1), .second, .val (.long v_c2), .second, .val (.long v_q), .second, .val (.ref b3), .val (.ref bvc18), .val (.long q2), .second] [(.int (1 : Int32))])) _
          exact retN X22 hx (t := .boolean) Bd.returns (by simp) (hb hby at_170) hr
        · show own_Q0 n0 _ T22.heap _
          rw [e22]
          exact ⟨rfl, N22⟩
    · obtain ⟨cq23, kq23, q23a, q23b, q23c⟩ := isOf hZ rfl E_b3_6
      obtain ⟨_, _, ⟨T23, L23, k23, n23⟩, -, X23, ⟨Lc23, hQ23, l23, y23, z23⟩, st23⟩ := X6.virtualBack hx (y := (⟨"com/example/tandem_ledger/tandemledger/Account", "post", "(JJJZLjava/util/function/LongSupplier;)V"⟩ : MethodName)) (z := (⟨"com/example/tandem_ledger/tandemledger/Account", "post", "(JJJZLjava/util/function/LongSupplier;)V"⟩ : MethodName)) hown (mvT hZ (hw _ (List.mem_of_getElem? (i := 62) rfl))) (mvT hZ (hw _ (List.mem_of_getElem? (i := 63) rfl))) (notFace_of_selects (args := #[]) (mvT hZ (hw _ (List.mem_of_getElem? (i := 65) rfl)))) (mvT hZ (hw _ (List.mem_of_getElem? (i := 65) rfl))) (mvT hZ (hw _ (List.mem_of_getElem? (i := 64) rfl))) (by decide) (backOf (W := 0) (own_rmPC1 l Z a0 hw [] b3 v_c1 q1 (0 : Int64) (0 : Int32) bva6 v_o .null bR bC T6.heap n0 Z6 E_b3_6 Fl6 Fk6 Fg6 Fc6 Fe6 (Ne.symm ne_b3_bva6) new_b3 h_A Fh6 Fr6 E_bC_6 F_bC_record_6 rfl) hZ (hw _ (List.mem_of_getElem? (i := 66) rfl)) (hw _ (List.mem_of_getElem? (i := 7) rfl)) (by decide) (by decide)) q23a q23c (g := (mkF m 91 #[.val (.long q0), .second, .val (.long q1), .second, .val (.long q2), .second, .val (.int p3), .val (.int p4), .val (.long v_o), .second, .val (.long v_c1), .second, .val (.long v_c2), .second, .val (.long v_q), .second, .val (.ref b3), .unset, .unset, .unset] [.null, (.int (0 : Int32)), (.long (0 : Int64)), (.long q1), (.long v_c1), (.ref b3)])) rfl (by rw [hml]; rfl) (Steps.refl _) (argsL := [(.long v_c1), (.long q1), (.long (0 : Int64)), (.int (0 : Int32)), .null]) (rest := []) (lenOf own_pd6 rfl) rfl (by show 2 * 0 + _ ≤ _; exact Nat.le_of_eq rfl) (hb hby at_91) (fun _ _ => ⟨rfl, rfl, (by decide : 4 + 1 ≤ _), (by decide : 20 + 5 ≤ _)⟩)
      dsimp only [Pt.U, Pt.locs, Pt.cells, Pt.slots] at X23 l23 y23 z23 st23 hQ23
      subst l23 y23 z23
      obtain ⟨rfl, N23q, K23q, bvb23, nx23, sx23, Fl23, Fk23, Fg23, Ex23, Fc23, Fb23, Fr23, Fh23, Fe23⟩ := hQ23
      have S_Reserve_NONE_23 := own_staKeep S_Reserve_NONE_6 E_b3_6 K23q
      have S_Chain_NONE_23 := own_staKeep S_Chain_NONE_6 E_b3_6 K23q
      have E_bC_23 := E_bC_6.keep K23q
      have F_bC_record_23 := F_bC_record_6.keep K23q (fun q => ne_bC_b3 (List.mem_singleton.mp q))
      have E_b3_23 := E_b3_6.keep K23q
      have E_bva6_23 := Ex6.keep K23q
      have F_bva6_commit_23 := Fc6.keep K23q (fun q => (Ne.symm ne_b3_bva6) (List.mem_singleton.mp q))
      have F_bva6_balance_23 := Fb6.keep K23q (fun q => (Ne.symm ne_b3_bva6) (List.mem_singleton.mp q))
      have F_bva6_reserve_23 := Fr6.keep K23q (fun q => (Ne.symm ne_b3_bva6) (List.mem_singleton.mp q))
      have F_bva6_chain_23 := Fh6.keep K23q (fun q => (Ne.symm ne_b3_bva6) (List.mem_singleton.mp q))
      have F_bva6_earlier_23 := Fe6.keep K23q (fun q => (Ne.symm ne_b3_bva6) (List.mem_singleton.mp q))
      have ne_b3_bvb23 : b3 ≠ bvb23 := Nat.ne_of_lt (Nat.lt_of_lt_of_le E_b3_6.lt sx23)
      have ne_bC_bvb23 : bC ≠ bvb23 := Nat.ne_of_lt (Nat.lt_of_lt_of_le E_bC_6.lt sx23)
      have ne_bva6_bvb23 : bva6 ≠ bvb23 := Nat.ne_of_lt (Nat.lt_of_lt_of_le Ex6.lt sx23)
      have N23 := Fr.app N6 N23q
      have Z23 := Nat.le_trans Z6 K23q.1
      have hk23 := Nat.le_trans hk6 K23q.1
      have sz_bvb23 : h0.size ≤ bvb23 := Nat.le_trans K6.1 sx23
      have K23 := K6.trans K23q (fun x hx => by cases List.mem_singleton.mp hx; exact Or.inr sz_b3)
      obtain ⟨cq24, kq24, q24a, q24b, q24c⟩ := isOf hZ rfl E_b3_23
      obtain ⟨_, _, ⟨T24, L24, k24, n24⟩, -, X24, ⟨Lc24, hQ24, l24, y24, z24⟩, st24⟩ := X23.virtualBack hx (y := (⟨"com/example/tandem_ledger/tandemledger/Account", "post", "(JJJZLjava/util/function/LongSupplier;)V"⟩ : MethodName)) (z := (⟨"com/example/tandem_ledger/tandemledger/Account", "post", "(JJJZLjava/util/function/LongSupplier;)V"⟩ : MethodName)) hown (mvT hZ (hw _ (List.mem_of_getElem? (i := 62) rfl))) (mvT hZ (hw _ (List.mem_of_getElem? (i := 63) rfl))) (notFace_of_selects (args := #[]) (mvT hZ (hw _ (List.mem_of_getElem? (i := 65) rfl)))) (mvT hZ (hw _ (List.mem_of_getElem? (i := 65) rfl))) (mvT hZ (hw _ (List.mem_of_getElem? (i := 64) rfl))) (by decide) (backOf (W := 0) (own_rmPC2 l Z a0 hw [] b3 v_c2 q2 (0 : Int64) (0 : Int32) bvb23 v_c1 (.ref bva6) bR bC T23.heap n0 Z23 E_b3_23 Fl23 Fk23 Fg23 Fc23 Fe23 (Ne.symm ne_b3_bvb23) new_b3 h_B Fh23 Fr23 E_bC_23 F_bC_record_23 rfl) hZ (hw _ (List.mem_of_getElem? (i := 66) rfl)) (hw _ (List.mem_of_getElem? (i := 7) rfl)) (by decide) (by decide)) q24a q24c (g := (mkF m 103 #[.val (.long q0), .second, .val (.long q1), .second, .val (.long q2), .second, .val (.int p3), .val (.int p4), .val (.long v_o), .second, .val (.long v_c1), .second, .val (.long v_c2), .second, .val (.long v_q), .second, .val (.ref b3), .unset, .unset, .unset] [.null, (.int (0 : Int32)), (.long (0 : Int64)), (.long q2), (.long v_c2), (.ref b3)])) rfl (by rw [hml]; rfl) (Steps.refl _) (argsL := [(.long v_c2), (.long q2), (.long (0 : Int64)), (.int (0 : Int32)), .null]) (rest := []) (lenOf own_pd6 rfl) rfl (by show 2 * 0 + _ ≤ _; exact Nat.le_of_eq rfl) (hb hby at_103) (fun _ _ => ⟨rfl, rfl, (by decide : 5 + 1 ≤ _), (by decide : 25 + 5 ≤ _)⟩)
      dsimp only [Pt.U, Pt.locs, Pt.cells, Pt.slots] at X24 l24 y24 z24 st24 hQ24
      subst l24 y24 z24
      obtain ⟨rfl, N24q, K24q, bvc24, nx24, sx24, Fl24, Fk24, Fg24, Ex24, Fc24, Fb24, Fr24, Fh24, Fe24⟩ := hQ24
      have S_Reserve_NONE_24 := own_staKeep S_Reserve_NONE_23 E_b3_23 K24q
      have S_Chain_NONE_24 := own_staKeep S_Chain_NONE_23 E_b3_23 K24q
      have E_bC_24 := E_bC_23.keep K24q
      have F_bC_record_24 := F_bC_record_23.keep K24q (fun q => ne_bC_b3 (List.mem_singleton.mp q))
      have E_b3_24 := E_b3_23.keep K24q
      have E_bva6_24 := E_bva6_23.keep K24q
      have F_bva6_commit_24 := F_bva6_commit_23.keep K24q (fun q => (Ne.symm ne_b3_bva6) (List.mem_singleton.mp q))
      have F_bva6_balance_24 := F_bva6_balance_23.keep K24q (fun q => (Ne.symm ne_b3_bva6) (List.mem_singleton.mp q))
      have F_bva6_reserve_24 := F_bva6_reserve_23.keep K24q (fun q => (Ne.symm ne_b3_bva6) (List.mem_singleton.mp q))
      have F_bva6_chain_24 := F_bva6_chain_23.keep K24q (fun q => (Ne.symm ne_b3_bva6) (List.mem_singleton.mp q))
      have F_bva6_earlier_24 := F_bva6_earlier_23.keep K24q (fun q => (Ne.symm ne_b3_bva6) (List.mem_singleton.mp q))
      have E_bvb23_24 := Ex23.keep K24q
      have F_bvb23_commit_24 := Fc23.keep K24q (fun q => (Ne.symm ne_b3_bvb23) (List.mem_singleton.mp q))
      have F_bvb23_balance_24 := Fb23.keep K24q (fun q => (Ne.symm ne_b3_bvb23) (List.mem_singleton.mp q))
      have F_bvb23_reserve_24 := Fr23.keep K24q (fun q => (Ne.symm ne_b3_bvb23) (List.mem_singleton.mp q))
      have F_bvb23_chain_24 := Fh23.keep K24q (fun q => (Ne.symm ne_b3_bvb23) (List.mem_singleton.mp q))
      have F_bvb23_earlier_24 := Fe23.keep K24q (fun q => (Ne.symm ne_b3_bvb23) (List.mem_singleton.mp q))
      have ne_b3_bvc24 : b3 ≠ bvc24 := Nat.ne_of_lt (Nat.lt_of_lt_of_le E_b3_23.lt sx24)
      have ne_bC_bvc24 : bC ≠ bvc24 := Nat.ne_of_lt (Nat.lt_of_lt_of_le E_bC_23.lt sx24)
      have ne_bva6_bvc24 : bva6 ≠ bvc24 := Nat.ne_of_lt (Nat.lt_of_lt_of_le E_bva6_23.lt sx24)
      have ne_bvb23_bvc24 : bvb23 ≠ bvc24 := Nat.ne_of_lt (Nat.lt_of_lt_of_le Ex23.lt sx24)
      have N24 := Fr.app N23 N24q
      have Z24 := Nat.le_trans Z23 K24q.1
      have hk24 := Nat.le_trans hk23 K24q.1
      have sz_bvc24 : h0.size ≤ bvc24 := Nat.le_trans K23.1 sx24
      have K24 := K23.trans K24q (fun x hx => by cases List.mem_singleton.mp hx; exact Or.inr sz_b3)
      refine own_go (b := T24.setTop (mkF m 106 #[.val (.long q0), .second, .val (.long q1), .second, .val (.long q2), .second, .val (.int p3), .val (.int p4), .val (.long v_o), .second, .val (.long v_c1), .second, .val (.long v_c2), .second, .val (.long v_q), .second, .val (.ref b3), .unset, .unset, .unset] [])) (fun t k => ?_) ?_
      · show Steps p.tables e below (T6.setTop (mkF m 83 #[.val (.long q0), .second, .val (.long q1), .second, .val (.long q2), .second, .val (.int p3), .val (.int p4), .val (.long v_o), .second, .val (.long v_c1), .second, .val (.long v_c2), .second, .val (.long v_q), .second, .val (.ref b3), .unset, .unset, .unset] [])) _
        refine XS.aload X6.here hx rfl (hb hby at_83) rfl rfl ?_
        show Steps p.tables e below (T6.setTop (mkF m 85 #[.val (.long q0), .second, .val (.long q1), .second, .val (.long q2), .second, .val (.int p3), .val (.int p4), .val (.long v_o), .second, .val (.long v_c1), .second, .val (.long v_c2), .second, .val (.long v_q), .second, .val (.ref b3), .unset, .unset, .unset] [(.ref b3)])) _
        refine XS.lload X6.here hx rfl (hb hby at_85) rfl ?_
        show Steps p.tables e below (T6.setTop (mkF m 87 #[.val (.long q0), .second, .val (.long q1), .second, .val (.long q2), .second, .val (.int p3), .val (.int p4), .val (.long v_o), .second, .val (.long v_c1), .second, .val (.long v_c2), .second, .val (.long v_q), .second, .val (.ref b3), .unset, .unset, .unset] [(.long v_c1), (.ref b3)])) _
        refine XS.lloadN X6.here hx rfl (hb hby at_87) rfl ?_
        show Steps p.tables e below (T6.setTop (mkF m 88 #[.val (.long q0), .second, .val (.long q1), .second, .val (.long q2), .second, .val (.int p3), .val (.int p4), .val (.long v_o), .second, .val (.long v_c1), .second, .val (.long v_c2), .second, .val (.long v_q), .second, .val (.ref b3), .unset, .unset, .unset] [(.long q1), (.long v_c1), (.ref b3)])) _
        refine XS.lconst X6.here hx rfl (hb hby at_88) ?_
        show Steps p.tables e below (T6.setTop (mkF m 89 #[.val (.long q0), .second, .val (.long q1), .second, .val (.long q2), .second, .val (.int p3), .val (.int p4), .val (.long v_o), .second, .val (.long v_c1), .second, .val (.long v_c2), .second, .val (.long v_q), .second, .val (.ref b3), .unset, .unset, .unset] [(.long (0 : Int64)), (.long q1), (.long v_c1), (.ref b3)])) _
        refine XS.iconst X6.here hx rfl (hb hby at_89) ?_
        show Steps p.tables e below (T6.setTop (mkF m 90 #[.val (.long q0), .second, .val (.long q1), .second, .val (.long q2), .second, .val (.int p3), .val (.int p4), .val (.long v_o), .second, .val (.long v_c1), .second, .val (.long v_c2), .second, .val (.long v_q), .second, .val (.ref b3), .unset, .unset, .unset] [(.int (0 : Int32)), (.long (0 : Int64)), (.long q1), (.long v_c1), (.ref b3)])) _
        refine XS.aconstNull X6.here hx rfl (hb hby at_90) ?_
        show Steps p.tables e below (T6.setTop (mkF m 91 #[.val (.long q0), .second, .val (.long q1), .second, .val (.long q2), .second, .val (.int p3), .val (.int p4), .val (.long v_o), .second, .val (.long v_c1), .second, .val (.long v_c2), .second, .val (.long v_q), .second, .val (.ref b3), .unset, .unset, .unset] [.null, (.int (0 : Int32)), (.long (0 : Int64)), (.long q1), (.long v_c1), (.ref b3)])) _
        refine st23.trans ?_
        show Steps p.tables e below (T23.setTop (mkF m 94 #[.val (.long q0), .second, .val (.long q1), .second, .val (.long q2), .second, .val (.int p3), .val (.int p4), .val (.long v_o), .second, .val (.long v_c1), .second, .val (.long v_c2), .second, .val (.long v_q), .second, .val (.ref b3), .unset, .unset, .unset] [])) _
        refine XS.aload X23.here hx rfl (hb hby at_94) rfl rfl ?_
        show Steps p.tables e below (T23.setTop (mkF m 96 #[.val (.long q0), .second, .val (.long q1), .second, .val (.long q2), .second, .val (.int p3), .val (.int p4), .val (.long v_o), .second, .val (.long v_c1), .second, .val (.long v_c2), .second, .val (.long v_q), .second, .val (.ref b3), .unset, .unset, .unset] [(.ref b3)])) _
        refine XS.lload X23.here hx rfl (hb hby at_96) rfl ?_
        show Steps p.tables e below (T23.setTop (mkF m 98 #[.val (.long q0), .second, .val (.long q1), .second, .val (.long q2), .second, .val (.int p3), .val (.int p4), .val (.long v_o), .second, .val (.long v_c1), .second, .val (.long v_c2), .second, .val (.long v_q), .second, .val (.ref b3), .unset, .unset, .unset] [(.long v_c2), (.ref b3)])) _
        refine XS.lload X23.here hx rfl (hb hby at_98) rfl ?_
        show Steps p.tables e below (T23.setTop (mkF m 100 #[.val (.long q0), .second, .val (.long q1), .second, .val (.long q2), .second, .val (.int p3), .val (.int p4), .val (.long v_o), .second, .val (.long v_c1), .second, .val (.long v_c2), .second, .val (.long v_q), .second, .val (.ref b3), .unset, .unset, .unset] [(.long q2), (.long v_c2), (.ref b3)])) _
        refine XS.lconst X23.here hx rfl (hb hby at_100) ?_
        show Steps p.tables e below (T23.setTop (mkF m 101 #[.val (.long q0), .second, .val (.long q1), .second, .val (.long q2), .second, .val (.int p3), .val (.int p4), .val (.long v_o), .second, .val (.long v_c1), .second, .val (.long v_c2), .second, .val (.long v_q), .second, .val (.ref b3), .unset, .unset, .unset] [(.long (0 : Int64)), (.long q2), (.long v_c2), (.ref b3)])) _
        refine XS.iconst X23.here hx rfl (hb hby at_101) ?_
        show Steps p.tables e below (T23.setTop (mkF m 102 #[.val (.long q0), .second, .val (.long q1), .second, .val (.long q2), .second, .val (.int p3), .val (.int p4), .val (.long v_o), .second, .val (.long v_c1), .second, .val (.long v_c2), .second, .val (.long v_q), .second, .val (.ref b3), .unset, .unset, .unset] [(.int (0 : Int32)), (.long (0 : Int64)), (.long q2), (.long v_c2), (.ref b3)])) _
        refine XS.aconstNull X23.here hx rfl (hb hby at_102) ?_
        show Steps p.tables e below (T23.setTop (mkF m 103 #[.val (.long q0), .second, .val (.long q1), .second, .val (.long q2), .second, .val (.int p3), .val (.int p4), .val (.long v_o), .second, .val (.long v_c1), .second, .val (.long v_c2), .second, .val (.long v_q), .second, .val (.ref b3), .unset, .unset, .unset] [.null, (.int (0 : Int32)), (.long (0 : Int64)), (.long q2), (.long v_c2), (.ref b3)])) _
        refine st24.trans ?_
        show Steps p.tables e below (T24.setTop (mkF m 106 #[.val (.long q0), .second, .val (.long q1), .second, .val (.long q2), .second, .val (.int p3), .val (.int p4), .val (.long v_o), .second, .val (.long v_c1), .second, .val (.long v_c2), .second, .val (.long v_q), .second, .val (.ref b3), .unset, .unset, .unset] [])) t
        exact k
      by_cases h_Q2 : v_q < v_c2
      · by_cases h_Q1 : v_q < v_c1
        · obtain ⟨cq25, kq25, q25a, q25b, q25c⟩ := isOf hZ rfl E_b3_24
          obtain ⟨_, _, ⟨T25, L25, k25, n25⟩, -, X25, ⟨Lc25, hQ25, l25, y25, z25⟩, st25⟩ := X24.virtualBack hx (y := (⟨"com/example/tandem_ledger/tandemledger/Account", "at", "(J)Lcom/example/tandem_ledger/tandemledger/Account$Version;"⟩ : MethodName)) (z := (⟨"com/example/tandem_ledger/tandemledger/Account", "at", "(J)Lcom/example/tandem_ledger/tandemledger/Account$Version;"⟩ : MethodName)) hown (mvT hZ (hw _ (List.mem_of_getElem? (i := 82) rfl))) (mvT hZ (hw _ (List.mem_of_getElem? (i := 83) rfl))) (notFace_of_selects (args := #[]) (mvT hZ (hw _ (List.mem_of_getElem? (i := 85) rfl)))) (mvT hZ (hw _ (List.mem_of_getElem? (i := 85) rfl))) (mvT hZ (hw _ (List.mem_of_getElem? (i := 84) rfl))) (by decide) (backOf (W := 0) (own_rmAt3 l Z a0 hw [] b3 v_q bvc24 bvb23 bva6 v_c2 v_c1 v_o T24.heap n0 Z24 Fl24 Fc24 Fe24 h_Q2 F_bvb23_commit_24 F_bvb23_earlier_24 h_Q1 F_bva6_commit_24 (own_ge h_q)) hZ (hw _ (List.mem_of_getElem? (i := 86) rfl)) (hw _ (List.mem_of_getElem? (i := 7) rfl)) (by decide) (by decide)) q25a q25c (g := (mkF m 110 #[.val (.long q0), .second, .val (.long q1), .second, .val (.long q2), .second, .val (.int p3), .val (.int p4), .val (.long v_o), .second, .val (.long v_c1), .second, .val (.long v_c2), .second, .val (.long v_q), .second, .val (.ref b3), .unset, .unset, .unset] [(.long v_q), (.ref b3)])) rfl (by rw [hml]; rfl) (Steps.refl _) (argsL := [(.long v_q)]) (rest := []) (lenOf own_pd7 rfl) rfl (by show 2 * 0 + _ ≤ _; exact Nat.le_of_eq rfl) (hb hby at_110) (fun _ _ => ⟨rfl, rfl, (by decide : 6 + 0 ≤ _), (by decide : 30 + 0 ≤ _)⟩)
          dsimp only [Pt.U, Pt.locs, Pt.cells, Pt.slots] at X25 l25 y25 z25 st25 hQ25
          subst l25 y25 z25
          obtain ⟨rfl, N25q, e25⟩ := hQ25
          have N25 := Fr.app N24 N25q
          obtain ⟨cq26, kq26, q26a, q26b, q26c⟩ := isOf hZ e25 E_bva6_24
          obtain ⟨_, _, ⟨T26, L26, k26, n26⟩, -, X26, ⟨Lc26, hQ26, l26, y26, z26⟩, st26⟩ := X25.virtualBack hx (y := (⟨"com/example/tandem_ledger/tandemledger/Account$Version", "balance", "()J"⟩ : MethodName)) (z := (⟨"com/example/tandem_ledger/tandemledger/Account$Version", "balance", "()J"⟩ : MethodName)) hown (mvT hZ (hw _ (List.mem_of_getElem? (i := 87) rfl))) (mvT hZ (hw _ (List.mem_of_getElem? (i := 88) rfl))) (notFace_of_selects (args := #[]) (mvT hZ (hw _ (List.mem_of_getElem? (i := 90) rfl)))) (mvT hZ (hw _ (List.mem_of_getElem? (i := 90) rfl))) (mvT hZ (hw _ (List.mem_of_getElem? (i := 89) rfl))) (by decide) (backOf (W := 0) (own_rmBal l Z a0 hw [] bva6 (0 : Int64) T24.heap n0 Z24 F_bva6_balance_24) hZ (hw _ (List.mem_of_getElem? (i := 91) rfl)) (hw _ (List.mem_of_getElem? (i := 45) rfl)) (by decide) (by decide)) q26a q26c (g := (mkF m 156 #[.val (.long q0), .second, .val (.long q1), .second, .val (.long q2), .second, .val (.int p3), .val (.int p4), .val (.long v_o), .second, .val (.long v_c1), .second, .val (.long v_c2), .second, .val (.long v_q), .second, .val (.ref b3), .val (.ref bva6), .val (.long (0 : Int64)), .second] [(.ref bva6)])) rfl (by rw [hml]; rfl) (Steps.refl _) (argsL := []) (rest := []) (lenOf own_pd2 rfl) rfl (by show 2 * 0 + _ ≤ _; exact Nat.le_of_eq rfl) (hb hby at_156) (fun _ _ => ⟨rfl, e25, (by decide : 6 + 0 ≤ _), (by decide : 30 + 0 ≤ _)⟩)
          dsimp only [Pt.U, Pt.locs, Pt.cells, Pt.slots] at X26 l26 y26 z26 st26 hQ26
          subst l26 y26 z26
          obtain ⟨rfl, N26q, e26⟩ := hQ26
          have N26 := Fr.app N25 N26q
          obtain ⟨fs, hr, hrun, hended, hRE⟩ := Jvm.Stand.leaveW (s := s) X26 hS4 (by show _ ≤ T26.heap.size; rw [e26]; exact hk24) (v := some (.int (1 : Int32))) (fun h => by rw [Bd.returns] at h; cases h)
          refine ⟨_, _, ?_, hrun, hended, _, _, rfl, ?_, hRE.1, hRE.2.1, hRE.2.2.1, hRE.2.2.2.mono (by decide) (by decide)⟩
          · show Steps p.tables e below (T24.setTop (mkF m 106 #[.val (.long q0), .second, .val (.long q1), .second, .val (.long q2), .second, .val (.int p3), .val (.int p4), .val (.long v_o), .second, .val (.long v_c1), .second, .val (.long v_c2), .second, .val (.long v_q), .second, .val (.ref b3), .unset, .unset, .unset] [])) _
            refine XS.aload X24.here hx rfl (hb hby at_106) rfl rfl ?_
            show Steps p.tables e below (T24.setTop (mkF m 108 #[.val (.long q0), .second, .val (.long q1), .second, .val (.long q2), .second, .val (.int p3), .val (.int p4), .val (.long v_o), .second, .val (.long v_c1), .second, .val (.long v_c2), .second, .val (.long v_q), .second, .val (.ref b3), .unset, .unset, .unset] [(.ref b3)])) _
            refine XS.lload X24.here hx rfl (hb hby at_108) rfl ?_
            show Steps p.tables e below (T24.setTop (mkF m 110 #[.val (.long q0), .second, .val (.long q1), .second, .val (.long q2), .second, .val (.int p3), .val (.int p4), .val (.long v_o), .second, .val (.long v_c1), .second, .val (.long v_c2), .second, .val (.long v_q), .second, .val (.ref b3), .unset, .unset, .unset] [(.long v_q), (.ref b3)])) _
            refine st25.trans ?_
            show Steps p.tables e below (T25.setTop (mkF m 113 #[.val (.long q0), .second, .val (.long q1), .second, .val (.long q2), .second, .val (.int p3), .val (.int p4), .val (.long v_o), .second, .val (.long v_c1), .second, .val (.long v_c2), .second, .val (.long v_q), .second, .val (.ref b3), .unset, .unset, .unset] [(.ref bva6)])) _
            refine XS.astore X25.here hx rfl (hb hby at_113) rfl rfl (l' := #[.val (.long q0), .second, .val (.long q1), .second, .val (.long q2), .second, .val (.int p3), .val (.int p4), .val (.long v_o), .second, .val (.long v_c1), .second, .val (.long v_c2), .second, .val (.long v_q), .second, .val (.ref b3), .val (.ref bva6), .unset, .unset]) rfl ?_
            show Steps p.tables e below (T25.setTop (mkF m 115 #[.val (.long q0), .second, .val (.long q1), .second, .val (.long q2), .second, .val (.int p3), .val (.int p4), .val (.long v_o), .second, .val (.long v_c1), .second, .val (.long v_c2), .second, .val (.long v_q), .second, .val (.ref b3), .val (.ref bva6), .unset, .unset] [])) _
            refine XS.aload X25.here hx rfl (hb hby at_115) rfl rfl ?_
            show Steps p.tables e below (T25.setTop (mkF m 117 #[.val (.long q0), .second, .val (.long q1), .second, .val (.long q2), .second, .val (.int p3), .val (.int p4), .val (.long v_o), .second, .val (.long v_c1), .second, .val (.long v_c2), .second, .val (.long v_q), .second, .val (.ref b3), .val (.ref bva6), .unset, .unset] [(.ref bva6)])) _
            refine XS.ifnonnullYes X25.here hx rfl (pc0 := 117) (pc' := 122) rfl (hb hby at_117) rfl (by decide) (by decide) ?_
            show Steps p.tables e below (T25.setTop (mkF m 122 #[.val (.long q0), .second, .val (.long q1), .second, .val (.long q2), .second, .val (.int p3), .val (.int p4), .val (.long v_o), .second, .val (.long v_c1), .second, .val (.long v_c2), .second, .val (.long v_q), .second, .val (.ref b3), .val (.ref bva6), .unset, .unset] [])) _
            refine XS.lload X25.here hx rfl (hb hby at_122) rfl ?_
            show Steps p.tables e below (T25.setTop (mkF m 124 #[.val (.long q0), .second, .val (.long q1), .second, .val (.long q2), .second, .val (.int p3), .val (.int p4), .val (.long v_o), .second, .val (.long v_c1), .second, .val (.long v_c2), .second, .val (.long v_q), .second, .val (.ref b3), .val (.ref bva6), .unset, .unset] [(.long v_q)])) _
            refine XS.lload X25.here hx rfl (hb hby at_124) rfl ?_
            show Steps p.tables e below (T25.setTop (mkF m 126 #[.val (.long q0), .second, .val (.long q1), .second, .val (.long q2), .second, .val (.int p3), .val (.int p4), .val (.long v_o), .second, .val (.long v_c1), .second, .val (.long v_c2), .second, .val (.long v_q), .second, .val (.ref b3), .val (.ref bva6), .unset, .unset] [(.long v_c2), (.long v_q)])) _
            refine XS.lcmp X25.here hx rfl (hb hby at_126) rfl ?_
            show Steps p.tables e below (T25.setTop (mkF m 127 #[.val (.long q0), .second, .val (.long q1), .second, .val (.long q2), .second, .val (.int p3), .val (.int p4), .val (.long v_o), .second, .val (.long v_c1), .second, .val (.long v_c2), .second, .val (.long v_q), .second, .val (.ref b3), .val (.ref bva6), .unset, .unset] [(.int (lcmpW v_q v_c2))])) _
            refine XS.ifYes X25.here hx rfl (pc0 := 127) (pc' := 137) rfl (hb hby at_127) rfl ((if0 _ _).trans (tlt ((lw_lt _ _).mpr (h_Q2 : v_q < v_c2))).1) (by decide) (by decide) ?_
            show Steps p.tables e below (T25.setTop (mkF m 137 #[.val (.long q0), .second, .val (.long q1), .second, .val (.long q2), .second, .val (.int p3), .val (.int p4), .val (.long v_o), .second, .val (.long v_c1), .second, .val (.long v_c2), .second, .val (.long v_q), .second, .val (.ref b3), .val (.ref bva6), .unset, .unset] [])) _
            refine XS.lload X25.here hx rfl (hb hby at_137) rfl ?_
            show Steps p.tables e below (T25.setTop (mkF m 139 #[.val (.long q0), .second, .val (.long q1), .second, .val (.long q2), .second, .val (.int p3), .val (.int p4), .val (.long v_o), .second, .val (.long v_c1), .second, .val (.long v_c2), .second, .val (.long v_q), .second, .val (.ref b3), .val (.ref bva6), .unset, .unset] [(.long v_q)])) _
            refine XS.lload X25.here hx rfl (hb hby at_139) rfl ?_
            show Steps p.tables e below (T25.setTop (mkF m 141 #[.val (.long q0), .second, .val (.long q1), .second, .val (.long q2), .second, .val (.int p3), .val (.int p4), .val (.long v_o), .second, .val (.long v_c1), .second, .val (.long v_c2), .second, .val (.long v_q), .second, .val (.ref b3), .val (.ref bva6), .unset, .unset] [(.long v_c1), (.long v_q)])) _
            refine XS.lcmp X25.here hx rfl (hb hby at_141) rfl ?_
            show Steps p.tables e below (T25.setTop (mkF m 142 #[.val (.long q0), .second, .val (.long q1), .second, .val (.long q2), .second, .val (.int p3), .val (.int p4), .val (.long v_o), .second, .val (.long v_c1), .second, .val (.long v_c2), .second, .val (.long v_q), .second, .val (.ref b3), .val (.ref bva6), .unset, .unset] [(.int (lcmpW v_q v_c1))])) _
            refine XS.ifYes X25.here hx rfl (pc0 := 142) (pc' := 151) rfl (hb hby at_142) rfl ((if0 _ _).trans (tlt ((lw_lt _ _).mpr (h_Q1 : v_q < v_c1))).1) (by decide) (by decide) ?_
            show Steps p.tables e below (T25.setTop (mkF m 151 #[.val (.long q0), .second, .val (.long q1), .second, .val (.long q2), .second, .val (.int p3), .val (.int p4), .val (.long v_o), .second, .val (.long v_c1), .second, .val (.long v_c2), .second, .val (.long v_q), .second, .val (.ref b3), .val (.ref bva6), .unset, .unset] [])) _
            refine XS.lconst X25.here hx rfl (hb hby at_151) ?_
            show Steps p.tables e below (T25.setTop (mkF m 152 #[.val (.long q0), .second, .val (.long q1), .second, .val (.long q2), .second, .val (.int p3), .val (.int p4), .val (.long v_o), .second, .val (.long v_c1), .second, .val (.long v_c2), .second, .val (.long v_q), .second, .val (.ref b3), .val (.ref bva6), .unset, .unset] [(.long (0 : Int64))])) _
            refine XS.lstore X25.here hx rfl (hb hby at_152) rfl (l' := #[.val (.long q0), .second, .val (.long q1), .second, .val (.long q2), .second, .val (.int p3), .val (.int p4), .val (.long v_o), .second, .val (.long v_c1), .second, .val (.long v_c2), .second, .val (.long v_q), .second, .val (.ref b3), .val (.ref bva6), .val (.long (0 : Int64)), .second]) rfl ?_
            show Steps p.tables e below (T25.setTop (mkF m 154 #[.val (.long q0), .second, .val (.long q1), .second, .val (.long q2), .second, .val (.int p3), .val (.int p4), .val (.long v_o), .second, .val (.long v_c1), .second, .val (.long v_c2), .second, .val (.long v_q), .second, .val (.ref b3), .val (.ref bva6), .val (.long (0 : Int64)), .second] [])) _
            refine XS.aload X25.here hx rfl (hb hby at_154) rfl rfl ?_
            show Steps p.tables e below (T25.setTop (mkF m 156 #[.val (.long q0), .second, .val (.long q1), .second, .val (.long q2), .second, .val (.int p3), .val (.int p4), .val (.long v_o), .second, .val (.long v_c1), .second, .val (.long v_c2), .second, .val (.long v_q), .second, .val (.ref b3), .val (.ref bva6), .val (.long (0 : Int64)), .second] [(.ref bva6)])) _
            refine st26.trans ?_
            show Steps p.tables e below (T26.setTop (mkF m 159 #[.val (.long q0), .second, .val (.long q1), .second, .val (.long q2), .second, .val (.int p3), .val (.int p4), .val (.long v_o), .second, .val (.long v_c1), .second, .val (.long v_c2), .second, .val (.long v_q), .second, .val (.ref b3), .val (.ref bva6), .val (.long (0 : Int64)), .second] [(.long (0 : Int64))])) _
            refine XS.lload X26.here hx rfl (hb hby at_159) rfl ?_
            show Steps p.tables e below (T26.setTop (mkF m 161 #[.val (.long q0), .second, .val (.long q1), .second, .val (.long q2), .second, .val (.int p3), .val (.int p4), .val (.long v_o), .second, .val (.long v_c1), .second, .val (.long v_c2), .second, .val (.long v_q), .second, .val (.ref b3), .val (.ref bva6), .val (.long (0 : Int64)), .second] [(.long (0 : Int64)), (.long (0 : Int64))])) _
            refine XS.lcmp X26.here hx rfl (hb hby at_161) rfl ?_
            show Steps p.tables e below (T26.setTop (mkF m 162 #[.val (.long q0), .second, .val (.long q1), .second, .val (.long q2), .second, .val (.int p3), .val (.int p4), .val (.long v_o), .second, .val (.long v_c1), .second, .val (.long v_c2), .second, .val (.long v_q), .second, .val (.ref b3), .val (.ref bva6), .val (.long (0 : Int64)), .second] [(.int (lcmpW (0 : Int64) (0 : Int64)))])) _
            refine XS.ifNo X26.here hx rfl (hb hby at_162) rfl ((if0 _ _).trans (teq ((lw_eq _ _).mpr (rfl : (0 : Int64) = (0 : Int64)))).2) ?_
            show Steps p.tables e below (T26.setTop (mkF m 165 #[.val (.long q0), .second, .val (.long q1), .second, .val (.long q2), .second, .val (.int p3), .val (.int p4), .val (.long v_o), .second, .val (.long v_c1), .second, .val (.long v_c2), .second, .val (.long v_q), .second, .val (.ref b3), .val (.ref bva6), .val (.long (0 : Int64)), .second] [])) _
            refine XS.iconst X26.here hx rfl (hb hby at_165) ?_
            show Steps p.tables e below (T26.setTop (mkF m 166 #[.val (.long q0), .second, .val (.long q1), .second, .val (.long q2), .second, .val (.int p3), .val (.int p4), .val (.long v_o), .second, .val (.long v_c1), .second, .val (.long v_c2), .second, .val (.long v_q), .second, .val (.ref b3), .val (.ref bva6), .val (.long (0 : Int64)), .second] [(.int (1 : Int32))])) _
            refine XS.goto X26.here hx rfl (pc0 := 166) (pc' := 170) rfl (hb hby at_166) (by decide) (by decide) ?_
            show Steps p.tables e below (T26.setTop (mkF m 170 #[.val (.long q0), .second, .val (.long q1), .second, .val (.long q2), .second, .val (.int p3), .val (.int p4), .val (.long v_o), .second, .val (.long v_c1), .second, .val (.long v_c2), .second, .val (.long v_q), .second, .val (.ref b3), .val (.ref bva6), .val (.long (0 : Int64)), .second] [(.int (1 : Int32))])) _
            exact retN X26 hx (t := .boolean) Bd.returns (by simp) (hb hby at_170) hr
          · show own_Q0 n0 _ T26.heap _
            rw [e26]
            exact ⟨rfl, N26⟩
        · obtain ⟨cq27, kq27, q27a, q27b, q27c⟩ := isOf hZ rfl E_b3_24
          obtain ⟨_, _, ⟨T27, L27, k27, n27⟩, -, X27, ⟨Lc27, hQ27, l27, y27, z27⟩, st27⟩ := X24.virtualBack hx (y := (⟨"com/example/tandem_ledger/tandemledger/Account", "at", "(J)Lcom/example/tandem_ledger/tandemledger/Account$Version;"⟩ : MethodName)) (z := (⟨"com/example/tandem_ledger/tandemledger/Account", "at", "(J)Lcom/example/tandem_ledger/tandemledger/Account$Version;"⟩ : MethodName)) hown (mvT hZ (hw _ (List.mem_of_getElem? (i := 82) rfl))) (mvT hZ (hw _ (List.mem_of_getElem? (i := 83) rfl))) (notFace_of_selects (args := #[]) (mvT hZ (hw _ (List.mem_of_getElem? (i := 85) rfl)))) (mvT hZ (hw _ (List.mem_of_getElem? (i := 85) rfl))) (mvT hZ (hw _ (List.mem_of_getElem? (i := 84) rfl))) (by decide) (backOf (W := 0) (own_rmAt2 l Z a0 hw [] b3 v_q bvc24 bvb23 v_c2 v_c1 T24.heap n0 Z24 Fl24 Fc24 Fe24 h_Q2 F_bvb23_commit_24 h_Q1) hZ (hw _ (List.mem_of_getElem? (i := 86) rfl)) (hw _ (List.mem_of_getElem? (i := 7) rfl)) (by decide) (by decide)) q27a q27c (g := (mkF m 110 #[.val (.long q0), .second, .val (.long q1), .second, .val (.long q2), .second, .val (.int p3), .val (.int p4), .val (.long v_o), .second, .val (.long v_c1), .second, .val (.long v_c2), .second, .val (.long v_q), .second, .val (.ref b3), .unset, .unset, .unset] [(.long v_q), (.ref b3)])) rfl (by rw [hml]; rfl) (Steps.refl _) (argsL := [(.long v_q)]) (rest := []) (lenOf own_pd7 rfl) rfl (by show 2 * 0 + _ ≤ _; exact Nat.le_of_eq rfl) (hb hby at_110) (fun _ _ => ⟨rfl, rfl, (by decide : 6 + 0 ≤ _), (by decide : 30 + 0 ≤ _)⟩)
          dsimp only [Pt.U, Pt.locs, Pt.cells, Pt.slots] at X27 l27 y27 z27 st27 hQ27
          subst l27 y27 z27
          obtain ⟨rfl, N27q, e27⟩ := hQ27
          have N27 := Fr.app N24 N27q
          obtain ⟨cq28, kq28, q28a, q28b, q28c⟩ := isOf hZ e27 E_bvb23_24
          obtain ⟨_, _, ⟨T28, L28, k28, n28⟩, -, X28, ⟨Lc28, hQ28, l28, y28, z28⟩, st28⟩ := X27.virtualBack hx (y := (⟨"com/example/tandem_ledger/tandemledger/Account$Version", "balance", "()J"⟩ : MethodName)) (z := (⟨"com/example/tandem_ledger/tandemledger/Account$Version", "balance", "()J"⟩ : MethodName)) hown (mvT hZ (hw _ (List.mem_of_getElem? (i := 87) rfl))) (mvT hZ (hw _ (List.mem_of_getElem? (i := 88) rfl))) (notFace_of_selects (args := #[]) (mvT hZ (hw _ (List.mem_of_getElem? (i := 90) rfl)))) (mvT hZ (hw _ (List.mem_of_getElem? (i := 90) rfl))) (mvT hZ (hw _ (List.mem_of_getElem? (i := 89) rfl))) (by decide) (backOf (W := 0) (own_rmBal l Z a0 hw [] bvb23 q1 T24.heap n0 Z24 F_bvb23_balance_24) hZ (hw _ (List.mem_of_getElem? (i := 91) rfl)) (hw _ (List.mem_of_getElem? (i := 45) rfl)) (by decide) (by decide)) q28a q28c (g := (mkF m 156 #[.val (.long q0), .second, .val (.long q1), .second, .val (.long q2), .second, .val (.int p3), .val (.int p4), .val (.long v_o), .second, .val (.long v_c1), .second, .val (.long v_c2), .second, .val (.long v_q), .second, .val (.ref b3), .val (.ref bvb23), .val (.long q1), .second] [(.ref bvb23)])) rfl (by rw [hml]; rfl) (Steps.refl _) (argsL := []) (rest := []) (lenOf own_pd2 rfl) rfl (by show 2 * 0 + _ ≤ _; exact Nat.le_of_eq rfl) (hb hby at_156) (fun _ _ => ⟨rfl, e27, (by decide : 6 + 0 ≤ _), (by decide : 30 + 0 ≤ _)⟩)
          dsimp only [Pt.U, Pt.locs, Pt.cells, Pt.slots] at X28 l28 y28 z28 st28 hQ28
          subst l28 y28 z28
          obtain ⟨rfl, N28q, e28⟩ := hQ28
          have N28 := Fr.app N27 N28q
          obtain ⟨fs, hr, hrun, hended, hRE⟩ := Jvm.Stand.leaveW (s := s) X28 hS4 (by show _ ≤ T28.heap.size; rw [e28]; exact hk24) (v := some (.int (1 : Int32))) (fun h => by rw [Bd.returns] at h; cases h)
          refine ⟨_, _, ?_, hrun, hended, _, _, rfl, ?_, hRE.1, hRE.2.1, hRE.2.2.1, hRE.2.2.2.mono (by decide) (by decide)⟩
          · show Steps p.tables e below (T24.setTop (mkF m 106 #[.val (.long q0), .second, .val (.long q1), .second, .val (.long q2), .second, .val (.int p3), .val (.int p4), .val (.long v_o), .second, .val (.long v_c1), .second, .val (.long v_c2), .second, .val (.long v_q), .second, .val (.ref b3), .unset, .unset, .unset] [])) _
            refine XS.aload X24.here hx rfl (hb hby at_106) rfl rfl ?_
            show Steps p.tables e below (T24.setTop (mkF m 108 #[.val (.long q0), .second, .val (.long q1), .second, .val (.long q2), .second, .val (.int p3), .val (.int p4), .val (.long v_o), .second, .val (.long v_c1), .second, .val (.long v_c2), .second, .val (.long v_q), .second, .val (.ref b3), .unset, .unset, .unset] [(.ref b3)])) _
            refine XS.lload X24.here hx rfl (hb hby at_108) rfl ?_
            show Steps p.tables e below (T24.setTop (mkF m 110 #[.val (.long q0), .second, .val (.long q1), .second, .val (.long q2), .second, .val (.int p3), .val (.int p4), .val (.long v_o), .second, .val (.long v_c1), .second, .val (.long v_c2), .second, .val (.long v_q), .second, .val (.ref b3), .unset, .unset, .unset] [(.long v_q), (.ref b3)])) _
            refine st27.trans ?_
            show Steps p.tables e below (T27.setTop (mkF m 113 #[.val (.long q0), .second, .val (.long q1), .second, .val (.long q2), .second, .val (.int p3), .val (.int p4), .val (.long v_o), .second, .val (.long v_c1), .second, .val (.long v_c2), .second, .val (.long v_q), .second, .val (.ref b3), .unset, .unset, .unset] [(.ref bvb23)])) _
            refine XS.astore X27.here hx rfl (hb hby at_113) rfl rfl (l' := #[.val (.long q0), .second, .val (.long q1), .second, .val (.long q2), .second, .val (.int p3), .val (.int p4), .val (.long v_o), .second, .val (.long v_c1), .second, .val (.long v_c2), .second, .val (.long v_q), .second, .val (.ref b3), .val (.ref bvb23), .unset, .unset]) rfl ?_
            show Steps p.tables e below (T27.setTop (mkF m 115 #[.val (.long q0), .second, .val (.long q1), .second, .val (.long q2), .second, .val (.int p3), .val (.int p4), .val (.long v_o), .second, .val (.long v_c1), .second, .val (.long v_c2), .second, .val (.long v_q), .second, .val (.ref b3), .val (.ref bvb23), .unset, .unset] [])) _
            refine XS.aload X27.here hx rfl (hb hby at_115) rfl rfl ?_
            show Steps p.tables e below (T27.setTop (mkF m 117 #[.val (.long q0), .second, .val (.long q1), .second, .val (.long q2), .second, .val (.int p3), .val (.int p4), .val (.long v_o), .second, .val (.long v_c1), .second, .val (.long v_c2), .second, .val (.long v_q), .second, .val (.ref b3), .val (.ref bvb23), .unset, .unset] [(.ref bvb23)])) _
            refine XS.ifnonnullYes X27.here hx rfl (pc0 := 117) (pc' := 122) rfl (hb hby at_117) rfl (by decide) (by decide) ?_
            show Steps p.tables e below (T27.setTop (mkF m 122 #[.val (.long q0), .second, .val (.long q1), .second, .val (.long q2), .second, .val (.int p3), .val (.int p4), .val (.long v_o), .second, .val (.long v_c1), .second, .val (.long v_c2), .second, .val (.long v_q), .second, .val (.ref b3), .val (.ref bvb23), .unset, .unset] [])) _
            refine XS.lload X27.here hx rfl (hb hby at_122) rfl ?_
            show Steps p.tables e below (T27.setTop (mkF m 124 #[.val (.long q0), .second, .val (.long q1), .second, .val (.long q2), .second, .val (.int p3), .val (.int p4), .val (.long v_o), .second, .val (.long v_c1), .second, .val (.long v_c2), .second, .val (.long v_q), .second, .val (.ref b3), .val (.ref bvb23), .unset, .unset] [(.long v_q)])) _
            refine XS.lload X27.here hx rfl (hb hby at_124) rfl ?_
            show Steps p.tables e below (T27.setTop (mkF m 126 #[.val (.long q0), .second, .val (.long q1), .second, .val (.long q2), .second, .val (.int p3), .val (.int p4), .val (.long v_o), .second, .val (.long v_c1), .second, .val (.long v_c2), .second, .val (.long v_q), .second, .val (.ref b3), .val (.ref bvb23), .unset, .unset] [(.long v_c2), (.long v_q)])) _
            refine XS.lcmp X27.here hx rfl (hb hby at_126) rfl ?_
            show Steps p.tables e below (T27.setTop (mkF m 127 #[.val (.long q0), .second, .val (.long q1), .second, .val (.long q2), .second, .val (.int p3), .val (.int p4), .val (.long v_o), .second, .val (.long v_c1), .second, .val (.long v_c2), .second, .val (.long v_q), .second, .val (.ref b3), .val (.ref bvb23), .unset, .unset] [(.int (lcmpW v_q v_c2))])) _
            refine XS.ifYes X27.here hx rfl (pc0 := 127) (pc' := 137) rfl (hb hby at_127) rfl ((if0 _ _).trans (tlt ((lw_lt _ _).mpr (h_Q2 : v_q < v_c2))).1) (by decide) (by decide) ?_
            show Steps p.tables e below (T27.setTop (mkF m 137 #[.val (.long q0), .second, .val (.long q1), .second, .val (.long q2), .second, .val (.int p3), .val (.int p4), .val (.long v_o), .second, .val (.long v_c1), .second, .val (.long v_c2), .second, .val (.long v_q), .second, .val (.ref b3), .val (.ref bvb23), .unset, .unset] [])) _
            refine XS.lload X27.here hx rfl (hb hby at_137) rfl ?_
            show Steps p.tables e below (T27.setTop (mkF m 139 #[.val (.long q0), .second, .val (.long q1), .second, .val (.long q2), .second, .val (.int p3), .val (.int p4), .val (.long v_o), .second, .val (.long v_c1), .second, .val (.long v_c2), .second, .val (.long v_q), .second, .val (.ref b3), .val (.ref bvb23), .unset, .unset] [(.long v_q)])) _
            refine XS.lload X27.here hx rfl (hb hby at_139) rfl ?_
            show Steps p.tables e below (T27.setTop (mkF m 141 #[.val (.long q0), .second, .val (.long q1), .second, .val (.long q2), .second, .val (.int p3), .val (.int p4), .val (.long v_o), .second, .val (.long v_c1), .second, .val (.long v_c2), .second, .val (.long v_q), .second, .val (.ref b3), .val (.ref bvb23), .unset, .unset] [(.long v_c1), (.long v_q)])) _
            refine XS.lcmp X27.here hx rfl (hb hby at_141) rfl ?_
            show Steps p.tables e below (T27.setTop (mkF m 142 #[.val (.long q0), .second, .val (.long q1), .second, .val (.long q2), .second, .val (.int p3), .val (.int p4), .val (.long v_o), .second, .val (.long v_c1), .second, .val (.long v_c2), .second, .val (.long v_q), .second, .val (.ref b3), .val (.ref bvb23), .unset, .unset] [(.int (lcmpW v_q v_c1))])) _
            refine XS.ifNo X27.here hx rfl (hb hby at_142) rfl ((if0 _ _).trans (flt (mt (lw_lt _ _).mp (h_Q1 : ¬ (v_q < v_c1)))).1) ?_
            show Steps p.tables e below (T27.setTop (mkF m 145 #[.val (.long q0), .second, .val (.long q1), .second, .val (.long q2), .second, .val (.int p3), .val (.int p4), .val (.long v_o), .second, .val (.long v_c1), .second, .val (.long v_c2), .second, .val (.long v_q), .second, .val (.ref b3), .val (.ref bvb23), .unset, .unset] [])) _
            refine XS.lloadN X27.here hx rfl (hb hby at_145) rfl ?_
            show Steps p.tables e below (T27.setTop (mkF m 146 #[.val (.long q0), .second, .val (.long q1), .second, .val (.long q2), .second, .val (.int p3), .val (.int p4), .val (.long v_o), .second, .val (.long v_c1), .second, .val (.long v_c2), .second, .val (.long v_q), .second, .val (.ref b3), .val (.ref bvb23), .unset, .unset] [(.long q1)])) _
            refine XS.lstore X27.here hx rfl (hb hby at_146) rfl (l' := #[.val (.long q0), .second, .val (.long q1), .second, .val (.long q2), .second, .val (.int p3), .val (.int p4), .val (.long v_o), .second, .val (.long v_c1), .second, .val (.long v_c2), .second, .val (.long v_q), .second, .val (.ref b3), .val (.ref bvb23), .val (.long q1), .second]) rfl ?_
            show Steps p.tables e below (T27.setTop (mkF m 148 #[.val (.long q0), .second, .val (.long q1), .second, .val (.long q2), .second, .val (.int p3), .val (.int p4), .val (.long v_o), .second, .val (.long v_c1), .second, .val (.long v_c2), .second, .val (.long v_q), .second, .val (.ref b3), .val (.ref bvb23), .val (.long q1), .second] [])) _
            refine XS.goto X27.here hx rfl (pc0 := 148) (pc' := 154) rfl (hb hby at_148) (by decide) (by decide) ?_
            show Steps p.tables e below (T27.setTop (mkF m 154 #[.val (.long q0), .second, .val (.long q1), .second, .val (.long q2), .second, .val (.int p3), .val (.int p4), .val (.long v_o), .second, .val (.long v_c1), .second, .val (.long v_c2), .second, .val (.long v_q), .second, .val (.ref b3), .val (.ref bvb23), .val (.long q1), .second] [])) _
            refine XS.aload X27.here hx rfl (hb hby at_154) rfl rfl ?_
            show Steps p.tables e below (T27.setTop (mkF m 156 #[.val (.long q0), .second, .val (.long q1), .second, .val (.long q2), .second, .val (.int p3), .val (.int p4), .val (.long v_o), .second, .val (.long v_c1), .second, .val (.long v_c2), .second, .val (.long v_q), .second, .val (.ref b3), .val (.ref bvb23), .val (.long q1), .second] [(.ref bvb23)])) _
            refine st28.trans ?_
            show Steps p.tables e below (T28.setTop (mkF m 159 #[.val (.long q0), .second, .val (.long q1), .second, .val (.long q2), .second, .val (.int p3), .val (.int p4), .val (.long v_o), .second, .val (.long v_c1), .second, .val (.long v_c2), .second, .val (.long v_q), .second, .val (.ref b3), .val (.ref bvb23), .val (.long q1), .second] [(.long q1)])) _
            refine XS.lload X28.here hx rfl (hb hby at_159) rfl ?_
            show Steps p.tables e below (T28.setTop (mkF m 161 #[.val (.long q0), .second, .val (.long q1), .second, .val (.long q2), .second, .val (.int p3), .val (.int p4), .val (.long v_o), .second, .val (.long v_c1), .second, .val (.long v_c2), .second, .val (.long v_q), .second, .val (.ref b3), .val (.ref bvb23), .val (.long q1), .second] [(.long q1), (.long q1)])) _
            refine XS.lcmp X28.here hx rfl (hb hby at_161) rfl ?_
            show Steps p.tables e below (T28.setTop (mkF m 162 #[.val (.long q0), .second, .val (.long q1), .second, .val (.long q2), .second, .val (.int p3), .val (.int p4), .val (.long v_o), .second, .val (.long v_c1), .second, .val (.long v_c2), .second, .val (.long v_q), .second, .val (.ref b3), .val (.ref bvb23), .val (.long q1), .second] [(.int (lcmpW q1 q1))])) _
            refine XS.ifNo X28.here hx rfl (hb hby at_162) rfl ((if0 _ _).trans (teq ((lw_eq _ _).mpr (rfl : q1 = q1))).2) ?_
            show Steps p.tables e below (T28.setTop (mkF m 165 #[.val (.long q0), .second, .val (.long q1), .second, .val (.long q2), .second, .val (.int p3), .val (.int p4), .val (.long v_o), .second, .val (.long v_c1), .second, .val (.long v_c2), .second, .val (.long v_q), .second, .val (.ref b3), .val (.ref bvb23), .val (.long q1), .second] [])) _
            refine XS.iconst X28.here hx rfl (hb hby at_165) ?_
            show Steps p.tables e below (T28.setTop (mkF m 166 #[.val (.long q0), .second, .val (.long q1), .second, .val (.long q2), .second, .val (.int p3), .val (.int p4), .val (.long v_o), .second, .val (.long v_c1), .second, .val (.long v_c2), .second, .val (.long v_q), .second, .val (.ref b3), .val (.ref bvb23), .val (.long q1), .second] [(.int (1 : Int32))])) _
            refine XS.goto X28.here hx rfl (pc0 := 166) (pc' := 170) rfl (hb hby at_166) (by decide) (by decide) ?_
            show Steps p.tables e below (T28.setTop (mkF m 170 #[.val (.long q0), .second, .val (.long q1), .second, .val (.long q2), .second, .val (.int p3), .val (.int p4), .val (.long v_o), .second, .val (.long v_c1), .second, .val (.long v_c2), .second, .val (.long v_q), .second, .val (.ref b3), .val (.ref bvb23), .val (.long q1), .second] [(.int (1 : Int32))])) _
            exact retN X28 hx (t := .boolean) Bd.returns (by simp) (hb hby at_170) hr
          · show own_Q0 n0 _ T28.heap _
            rw [e28]
            exact ⟨rfl, N28⟩
      · obtain ⟨cq29, kq29, q29a, q29b, q29c⟩ := isOf hZ rfl E_b3_24
        obtain ⟨_, _, ⟨T29, L29, k29, n29⟩, -, X29, ⟨Lc29, hQ29, l29, y29, z29⟩, st29⟩ := X24.virtualBack hx (y := (⟨"com/example/tandem_ledger/tandemledger/Account", "at", "(J)Lcom/example/tandem_ledger/tandemledger/Account$Version;"⟩ : MethodName)) (z := (⟨"com/example/tandem_ledger/tandemledger/Account", "at", "(J)Lcom/example/tandem_ledger/tandemledger/Account$Version;"⟩ : MethodName)) hown (mvT hZ (hw _ (List.mem_of_getElem? (i := 82) rfl))) (mvT hZ (hw _ (List.mem_of_getElem? (i := 83) rfl))) (notFace_of_selects (args := #[]) (mvT hZ (hw _ (List.mem_of_getElem? (i := 85) rfl)))) (mvT hZ (hw _ (List.mem_of_getElem? (i := 85) rfl))) (mvT hZ (hw _ (List.mem_of_getElem? (i := 84) rfl))) (by decide) (backOf (W := 0) (own_rmAt1 l Z a0 hw [] b3 v_q bvc24 v_c2 T24.heap n0 Z24 Fl24 Fc24 h_Q2) hZ (hw _ (List.mem_of_getElem? (i := 86) rfl)) (hw _ (List.mem_of_getElem? (i := 7) rfl)) (by decide) (by decide)) q29a q29c (g := (mkF m 110 #[.val (.long q0), .second, .val (.long q1), .second, .val (.long q2), .second, .val (.int p3), .val (.int p4), .val (.long v_o), .second, .val (.long v_c1), .second, .val (.long v_c2), .second, .val (.long v_q), .second, .val (.ref b3), .unset, .unset, .unset] [(.long v_q), (.ref b3)])) rfl (by rw [hml]; rfl) (Steps.refl _) (argsL := [(.long v_q)]) (rest := []) (lenOf own_pd7 rfl) rfl (by show 2 * 0 + _ ≤ _; exact Nat.le_of_eq rfl) (hb hby at_110) (fun _ _ => ⟨rfl, rfl, (by decide : 6 + 0 ≤ _), (by decide : 30 + 0 ≤ _)⟩)
        dsimp only [Pt.U, Pt.locs, Pt.cells, Pt.slots] at X29 l29 y29 z29 st29 hQ29
        subst l29 y29 z29
        obtain ⟨rfl, N29q, e29⟩ := hQ29
        have N29 := Fr.app N24 N29q
        obtain ⟨cq30, kq30, q30a, q30b, q30c⟩ := isOf hZ e29 Ex24
        obtain ⟨_, _, ⟨T30, L30, k30, n30⟩, -, X30, ⟨Lc30, hQ30, l30, y30, z30⟩, st30⟩ := X29.virtualBack hx (y := (⟨"com/example/tandem_ledger/tandemledger/Account$Version", "balance", "()J"⟩ : MethodName)) (z := (⟨"com/example/tandem_ledger/tandemledger/Account$Version", "balance", "()J"⟩ : MethodName)) hown (mvT hZ (hw _ (List.mem_of_getElem? (i := 87) rfl))) (mvT hZ (hw _ (List.mem_of_getElem? (i := 88) rfl))) (notFace_of_selects (args := #[]) (mvT hZ (hw _ (List.mem_of_getElem? (i := 90) rfl)))) (mvT hZ (hw _ (List.mem_of_getElem? (i := 90) rfl))) (mvT hZ (hw _ (List.mem_of_getElem? (i := 89) rfl))) (by decide) (backOf (W := 0) (own_rmBal l Z a0 hw [] bvc24 q2 T24.heap n0 Z24 Fb24) hZ (hw _ (List.mem_of_getElem? (i := 91) rfl)) (hw _ (List.mem_of_getElem? (i := 45) rfl)) (by decide) (by decide)) q30a q30c (g := (mkF m 156 #[.val (.long q0), .second, .val (.long q1), .second, .val (.long q2), .second, .val (.int p3), .val (.int p4), .val (.long v_o), .second, .val (.long v_c1), .second, .val (.long v_c2), .second, .val (.long v_q), .second, .val (.ref b3), .val (.ref bvc24), .val (.long q2), .second] [(.ref bvc24)])) rfl (by rw [hml]; rfl) (Steps.refl _) (argsL := []) (rest := []) (lenOf own_pd2 rfl) rfl (by show 2 * 0 + _ ≤ _; exact Nat.le_of_eq rfl) (hb hby at_156) (fun _ _ => ⟨rfl, e29, (by decide : 6 + 0 ≤ _), (by decide : 30 + 0 ≤ _)⟩)
        dsimp only [Pt.U, Pt.locs, Pt.cells, Pt.slots] at X30 l30 y30 z30 st30 hQ30
        subst l30 y30 z30
        obtain ⟨rfl, N30q, e30⟩ := hQ30
        have N30 := Fr.app N29 N30q
        obtain ⟨fs, hr, hrun, hended, hRE⟩ := Jvm.Stand.leaveW (s := s) X30 hS4 (by show _ ≤ T30.heap.size; rw [e30]; exact hk24) (v := some (.int (1 : Int32))) (fun h => by rw [Bd.returns] at h; cases h)
        refine ⟨_, _, ?_, hrun, hended, _, _, rfl, ?_, hRE.1, hRE.2.1, hRE.2.2.1, hRE.2.2.2.mono (by decide) (by decide)⟩
        · show Steps p.tables e below (T24.setTop (mkF m 106 #[.val (.long q0), .second, .val (.long q1), .second, .val (.long q2), .second, .val (.int p3), .val (.int p4), .val (.long v_o), .second, .val (.long v_c1), .second, .val (.long v_c2), .second, .val (.long v_q), .second, .val (.ref b3), .unset, .unset, .unset] [])) _
          refine XS.aload X24.here hx rfl (hb hby at_106) rfl rfl ?_
          show Steps p.tables e below (T24.setTop (mkF m 108 #[.val (.long q0), .second, .val (.long q1), .second, .val (.long q2), .second, .val (.int p3), .val (.int p4), .val (.long v_o), .second, .val (.long v_c1), .second, .val (.long v_c2), .second, .val (.long v_q), .second, .val (.ref b3), .unset, .unset, .unset] [(.ref b3)])) _
          refine XS.lload X24.here hx rfl (hb hby at_108) rfl ?_
          show Steps p.tables e below (T24.setTop (mkF m 110 #[.val (.long q0), .second, .val (.long q1), .second, .val (.long q2), .second, .val (.int p3), .val (.int p4), .val (.long v_o), .second, .val (.long v_c1), .second, .val (.long v_c2), .second, .val (.long v_q), .second, .val (.ref b3), .unset, .unset, .unset] [(.long v_q), (.ref b3)])) _
          refine st29.trans ?_
          show Steps p.tables e below (T29.setTop (mkF m 113 #[.val (.long q0), .second, .val (.long q1), .second, .val (.long q2), .second, .val (.int p3), .val (.int p4), .val (.long v_o), .second, .val (.long v_c1), .second, .val (.long v_c2), .second, .val (.long v_q), .second, .val (.ref b3), .unset, .unset, .unset] [(.ref bvc24)])) _
          refine XS.astore X29.here hx rfl (hb hby at_113) rfl rfl (l' := #[.val (.long q0), .second, .val (.long q1), .second, .val (.long q2), .second, .val (.int p3), .val (.int p4), .val (.long v_o), .second, .val (.long v_c1), .second, .val (.long v_c2), .second, .val (.long v_q), .second, .val (.ref b3), .val (.ref bvc24), .unset, .unset]) rfl ?_
          show Steps p.tables e below (T29.setTop (mkF m 115 #[.val (.long q0), .second, .val (.long q1), .second, .val (.long q2), .second, .val (.int p3), .val (.int p4), .val (.long v_o), .second, .val (.long v_c1), .second, .val (.long v_c2), .second, .val (.long v_q), .second, .val (.ref b3), .val (.ref bvc24), .unset, .unset] [])) _
          refine XS.aload X29.here hx rfl (hb hby at_115) rfl rfl ?_
          show Steps p.tables e below (T29.setTop (mkF m 117 #[.val (.long q0), .second, .val (.long q1), .second, .val (.long q2), .second, .val (.int p3), .val (.int p4), .val (.long v_o), .second, .val (.long v_c1), .second, .val (.long v_c2), .second, .val (.long v_q), .second, .val (.ref b3), .val (.ref bvc24), .unset, .unset] [(.ref bvc24)])) _
          refine XS.ifnonnullYes X29.here hx rfl (pc0 := 117) (pc' := 122) rfl (hb hby at_117) rfl (by decide) (by decide) ?_
          show Steps p.tables e below (T29.setTop (mkF m 122 #[.val (.long q0), .second, .val (.long q1), .second, .val (.long q2), .second, .val (.int p3), .val (.int p4), .val (.long v_o), .second, .val (.long v_c1), .second, .val (.long v_c2), .second, .val (.long v_q), .second, .val (.ref b3), .val (.ref bvc24), .unset, .unset] [])) _
          refine XS.lload X29.here hx rfl (hb hby at_122) rfl ?_
          show Steps p.tables e below (T29.setTop (mkF m 124 #[.val (.long q0), .second, .val (.long q1), .second, .val (.long q2), .second, .val (.int p3), .val (.int p4), .val (.long v_o), .second, .val (.long v_c1), .second, .val (.long v_c2), .second, .val (.long v_q), .second, .val (.ref b3), .val (.ref bvc24), .unset, .unset] [(.long v_q)])) _
          refine XS.lload X29.here hx rfl (hb hby at_124) rfl ?_
          show Steps p.tables e below (T29.setTop (mkF m 126 #[.val (.long q0), .second, .val (.long q1), .second, .val (.long q2), .second, .val (.int p3), .val (.int p4), .val (.long v_o), .second, .val (.long v_c1), .second, .val (.long v_c2), .second, .val (.long v_q), .second, .val (.ref b3), .val (.ref bvc24), .unset, .unset] [(.long v_c2), (.long v_q)])) _
          refine XS.lcmp X29.here hx rfl (hb hby at_126) rfl ?_
          show Steps p.tables e below (T29.setTop (mkF m 127 #[.val (.long q0), .second, .val (.long q1), .second, .val (.long q2), .second, .val (.int p3), .val (.int p4), .val (.long v_o), .second, .val (.long v_c1), .second, .val (.long v_c2), .second, .val (.long v_q), .second, .val (.ref b3), .val (.ref bvc24), .unset, .unset] [(.int (lcmpW v_q v_c2))])) _
          refine XS.ifNo X29.here hx rfl (hb hby at_127) rfl ((if0 _ _).trans (flt (mt (lw_lt _ _).mp (h_Q2 : ¬ (v_q < v_c2)))).1) ?_
          show Steps p.tables e below (T29.setTop (mkF m 130 #[.val (.long q0), .second, .val (.long q1), .second, .val (.long q2), .second, .val (.int p3), .val (.int p4), .val (.long v_o), .second, .val (.long v_c1), .second, .val (.long v_c2), .second, .val (.long v_q), .second, .val (.ref b3), .val (.ref bvc24), .unset, .unset] [])) _
          refine XS.lload X29.here hx rfl (hb hby at_130) rfl ?_
          show Steps p.tables e below (T29.setTop (mkF m 132 #[.val (.long q0), .second, .val (.long q1), .second, .val (.long q2), .second, .val (.int p3), .val (.int p4), .val (.long v_o), .second, .val (.long v_c1), .second, .val (.long v_c2), .second, .val (.long v_q), .second, .val (.ref b3), .val (.ref bvc24), .unset, .unset] [(.long q2)])) _
          refine XS.lstore X29.here hx rfl (hb hby at_132) rfl (l' := #[.val (.long q0), .second, .val (.long q1), .second, .val (.long q2), .second, .val (.int p3), .val (.int p4), .val (.long v_o), .second, .val (.long v_c1), .second, .val (.long v_c2), .second, .val (.long v_q), .second, .val (.ref b3), .val (.ref bvc24), .val (.long q2), .second]) rfl ?_
          show Steps p.tables e below (T29.setTop (mkF m 134 #[.val (.long q0), .second, .val (.long q1), .second, .val (.long q2), .second, .val (.int p3), .val (.int p4), .val (.long v_o), .second, .val (.long v_c1), .second, .val (.long v_c2), .second, .val (.long v_q), .second, .val (.ref b3), .val (.ref bvc24), .val (.long q2), .second] [])) _
          refine XS.goto X29.here hx rfl (pc0 := 134) (pc' := 154) rfl (hb hby at_134) (by decide) (by decide) ?_
          show Steps p.tables e below (T29.setTop (mkF m 154 #[.val (.long q0), .second, .val (.long q1), .second, .val (.long q2), .second, .val (.int p3), .val (.int p4), .val (.long v_o), .second, .val (.long v_c1), .second, .val (.long v_c2), .second, .val (.long v_q), .second, .val (.ref b3), .val (.ref bvc24), .val (.long q2), .second] [])) _
          refine XS.aload X29.here hx rfl (hb hby at_154) rfl rfl ?_
          show Steps p.tables e below (T29.setTop (mkF m 156 #[.val (.long q0), .second, .val (.long q1), .second, .val (.long q2), .second, .val (.int p3), .val (.int p4), .val (.long v_o), .second, .val (.long v_c1), .second, .val (.long v_c2), .second, .val (.long v_q), .second, .val (.ref b3), .val (.ref bvc24), .val (.long q2), .second] [(.ref bvc24)])) _
          refine st30.trans ?_
          show Steps p.tables e below (T30.setTop (mkF m 159 #[.val (.long q0), .second, .val (.long q1), .second, .val (.long q2), .second, .val (.int p3), .val (.int p4), .val (.long v_o), .second, .val (.long v_c1), .second, .val (.long v_c2), .second, .val (.long v_q), .second, .val (.ref b3), .val (.ref bvc24), .val (.long q2), .second] [(.long q2)])) _
          refine XS.lload X30.here hx rfl (hb hby at_159) rfl ?_
          show Steps p.tables e below (T30.setTop (mkF m 161 #[.val (.long q0), .second, .val (.long q1), .second, .val (.long q2), .second, .val (.int p3), .val (.int p4), .val (.long v_o), .second, .val (.long v_c1), .second, .val (.long v_c2), .second, .val (.long v_q), .second, .val (.ref b3), .val (.ref bvc24), .val (.long q2), .second] [(.long q2), (.long q2)])) _
          refine XS.lcmp X30.here hx rfl (hb hby at_161) rfl ?_
          show Steps p.tables e below (T30.setTop (mkF m 162 #[.val (.long q0), .second, .val (.long q1), .second, .val (.long q2), .second, .val (.int p3), .val (.int p4), .val (.long v_o), .second, .val (.long v_c1), .second, .val (.long v_c2), .second, .val (.long v_q), .second, .val (.ref b3), .val (.ref bvc24), .val (.long q2), .second] [(.int (lcmpW q2 q2))])) _
          refine XS.ifNo X30.here hx rfl (hb hby at_162) rfl ((if0 _ _).trans (teq ((lw_eq _ _).mpr (rfl : q2 = q2))).2) ?_
          show Steps p.tables e below (T30.setTop (mkF m 165 #[.val (.long q0), .second, .val (.long q1), .second, .val (.long q2), .second, .val (.int p3), .val (.int p4), .val (.long v_o), .second, .val (.long v_c1), .second, .val (.long v_c2), .second, .val (.long v_q), .second, .val (.ref b3), .val (.ref bvc24), .val (.long q2), .second] [])) _
          refine XS.iconst X30.here hx rfl (hb hby at_165) ?_
          show Steps p.tables e below (T30.setTop (mkF m 166 #[.val (.long q0), .second, .val (.long q1), .second, .val (.long q2), .second, .val (.int p3), .val (.int p4), .val (.long v_o), .second, .val (.long v_c1), .second, .val (.long v_c2), .second, .val (.long v_q), .second, .val (.ref b3), .val (.ref bvc24), .val (.long q2), .second] [(.int (1 : Int32))])) _
          refine XS.goto X30.here hx rfl (pc0 := 166) (pc' := 170) rfl (hb hby at_166) (by decide) (by decide) ?_
          show Steps p.tables e below (T30.setTop (mkF m 170 #[.val (.long q0), .second, .val (.long q1), .second, .val (.long q2), .second, .val (.int p3), .val (.int p4), .val (.long v_o), .second, .val (.long v_c1), .second, .val (.long v_c2), .second, .val (.long v_q), .second, .val (.ref b3), .val (.ref bvc24), .val (.long q2), .second] [(.int (1 : Int32))])) _
          exact retN X30 hx (t := .boolean) Bd.returns (by simp) (hb hby at_170) hr
        · show own_Q0 n0 _ T30.heap _
          rw [e30]
          exact ⟨rfl, N30⟩
set_option maxRecDepth 65536 in
set_option maxHeartbeats 40000000 in
theorem comes_1 {Post : Tables → Env → Array Value → State → Outcome → State → Prop} (hpost : ∀ tb e args s v u, (limb_1_1.after args s (.returned v) u = true ∧ limb_1_2.after args s (.returned v) u = true ∧ True) → ReturnedEndW s (.returned v) u (Jvm.fieldLocs frame_1_writes args s ++ Jvm.arrayLocs frame_1_arrays args s ++ Jvm.staticLocs frame_1_statics s) 24 1152 → Post tb e args s (.returned v) u) :
    ArmFor flags0 classFile x code maxLocals ret World_1 tables_1 room_1 Calls_1 rest_1 Pre_1 Post := by
  intro l hfl _ _ p e ha hc hk s m args below hf hA hF happ hP
  obtain ⟨hcalls, hrest, hpre⟩ := hP
  obtain ⟨-, -, -, hnamed, -, -, -, hat⟩ := (Spec.applies_iff hf).mp happ
  obtain ⟨hg, hn⟩ := and_e (Cond.before_iff.mp (show (Jvm.Cond.and given_1 narrow_1).before args s = true from hpre))
  obtain ⟨gc0, gr0⟩ := and_e hg
  obtain ⟨gc1, gr1⟩ := and_e gr0
  obtain ⟨gc2, gr2⟩ := and_e gr1
  obtain ⟨gc3, gr3⟩ := and_e gr2
  obtain ⟨gc4, gr4⟩ := and_e gr3
  obtain ⟨w0, w1, w2, w3, w4, rfl⟩ : ∃ w0 w1 w2 w3 w4 : Value, args = #[w0, w1, w2, w3, w4] := by
    have hs : args.size = 5 := by simpa [Cond.value, given_1] using gc0
    obtain ⟨L⟩ := args
    match L, hs with
    | [w0, w1, w2, w3, w4], _ => exact ⟨w0, w1, w2, w3, w4, rfl⟩
  have hw := fun d (hd : d ∈ tables_1) => atoms_spec (ws := Jvm.Cond.code x code maxLocals ret :: tables_1) hat d (List.mem_cons_of_mem _ hd)
  obtain ⟨i0, ei0⟩ := isL_v gc1
  obtain rfl : w0 = (.long i0) := Option.some.inj ei0
  obtain ⟨i1, ei1⟩ := isL_v gc2
  obtain rfl : w1 = (.long i1) := Option.some.inj ei1
  obtain ⟨i2, ei2⟩ := isL_v gc3
  obtain rfl : w2 = (.long i2) := Option.some.inj ei2
  obtain ⟨i3, ei3⟩ := is_v gc4
  obtain rfl : w3 = (.int i3) := Option.some.inj ei3
  obtain ⟨i4, ei4⟩ := is_v gr4
  obtain rfl : w4 = (.int i4) := Option.some.inj ei4
  obtain ⟨na0, nb0⟩ := and_e hn
  obtain ⟨na1, nb1⟩ := and_e nb0
  obtain ⟨bR, evR⟩ := exa_v na0
  have S_R := Sta.start evR (Or.inr ⟨(hw _ (List.mem_of_getElem? (i := 20) rfl)), (hw _ (List.mem_of_getElem? (i := 21) rfl))⟩)
  obtain ⟨bC, evC⟩ := exa_v na1
  have E_C := Exa.start evC na1
  have S_C := Sta.start evC (Or.inr ⟨(hw _ (List.mem_of_getElem? (i := 23) rfl)), (hw _ (List.mem_of_getElem? (i := 24) rfl))⟩)
  have F_r := own_fldJ nb1 evC
  obtain ⟨n, o, h1, h2, h3, _, L, rfl, ⟨rfl, N⟩, hq⟩ := own_rm0 l s _ hw tables_1 i0 i1 i2 i3 i4 bR bC s.heap s.heap.size (Nat.le_refl _) S_R S_C E_C F_r p e ha hc hk s m _ below hf ((Spec.applies_iff_loose hf).mp happ).1 ⟨rfl, State.Warmed39.refl s, rfl⟩ trivial
  refine ⟨n, _, h1, h2, h3, hpost _ _ _ _ _ _ ⟨Cond.after_iff.mpr rfl, Cond.after_iff.mpr (eq_i res_at (Term.int_eval (1)) rfl), trivial⟩ ⟨hq.1, hq.2.1, hq.2.2.1, (hq.2.2.2.sift fun y hy => Or.inr (N y hy)).mono (by decide) (by decide)⟩⟩
theorem main_1_1 : Claimed_1_1 := comes_1 fun _ _ _ _ _ _ h hF => ⟨h.1, hF⟩
theorem main_1_2 : Claimed_1_2 := comes_1 fun _ _ _ _ _ _ h hF => ⟨h.2.1, hF⟩
end Jvm.Pilot.@@N@@
namespace Jvm.Pilot.@@N@@
open Jvm Jvm.ClassFile Sem Op Lib Jvm.Free Jvm.Stand Jvm.Pilot.@@N@@.Jvm.D
/-! MADE BY PROGRAM (witnessworld.py) out of the Statement's table words and the real class files: 18 classes; the members and pool entries that the words name. The judged class is class 1, her method 1. -/
namespace start1
open Jvm.ClassFile
def u (s : String) : CpInfo := .utf8 (stringToUtf16 s)
/-- a pool by its gaps: so many unusable entries, then the entry; so many at the end -/
def gap : Nat → List CpInfo → List CpInfo
  | 0, r => r
  | n + 1, r => .unusable :: gap n r
def poolList (es : List (Nat × CpInfo)) (last : Nat) : List CpInfo := es.foldr (fun e r => gap e.1 (e.2 :: r)) (gap last [])
def pool (es : List (Nat × CpInfo)) (last : Nat) : Array CpInfo := ⟨poolList es last⟩
def fileOf (pool : Array CpInfo) (this : Nat) (attrs : Array Attribute := #[]) (ms : Array MethodInfo := #[]) (fl : Nat := 33) (sup : Nat := 0) (ifs : Array Nat := #[]) (fds : Array FieldInfo := #[]) : ClassFile where
  minorVersion := 0
  majorVersion := 65
  constantPool := pool
  accessFlags := fl
  thisClass := this
  superClass := sup
  interfaces := ifs
  fields := fds
  methods := ms
  attributes := attrs
def own_res (n : Nat) (es : List (Nat × Resolved)) : Array (Option Resolved) := ⟨(List.range n).map fun i => (es.find? fun q => q.1 == i).map fun q => q.2⟩
def plain (name : String) (sup : Option ClassId) : Class where
  name := name
  kind := .ordinary
  loader := none
  accessFlags := 33
  super := sup
  interfaces := #[]
  cf := none
  fields := #[]
  methods := #[]
  instanceTypes := #[]
  staticTypes := #[]
  resolved := #[]
  callSites := []
  init := .initialized
  statics := none
  mirror := none

def pool0 : Array CpInfo := pool [(5, u "<init>"), (0, u "()V"), (1, .class_ 10), (1, u "java/lang/Object")] 113

def k0c0 : Code := { maxStack := 0, maxLocals := 1, code := object_method_1_code, exceptionTable := #[], attributes := #[] }
def k0m0 : Method := { name := "<init>", desc := "()V", sig := { parameters := [], returnType := none }, accessFlags := 1, code := some k0c0 }
/-- java/lang/Object -/
def k0 : Class := { plain "java/lang/Object" none with
  accessFlags := 33
  interfaces := #[]
  cf := some (fileOf pool0 8 #[] #[{ accessFlags := 1, nameIndex := 5, descriptorIndex := 6, attributes := #[] }] 33 0 #[] #[])
  fields := #[]
  methods := #[k0m0]
  instanceTypes := #[]
  staticTypes := #[]
  resolved := Array.replicate 124 none
  statics := none }

def pool1 : Array CpInfo := pool [(2, .class_ 4), (1, u "java/lang/Object"), (0, u "<init>"), (0, u "()V"), (2, .long 9223372036854775775), (1, .methodref 12 13), (0, .class_ 14), (0, .nameAndType 15 16), (0, u "java/lang/Math"), (0, u "min"), (0, u "(JJ)J"), (0, .long 9223372036854775807), (1, .class_ 20), (0, u "com/example/tandem_ledger/tandemledger/Account"), (0, .string 22), (0, u "a"), (0, .methodref 19 24), (0, .nameAndType 5 25), (0, u "(Ljava/lang/String;ZJJ)V"), (0, .methodref 19 27), (0, .nameAndType 28 29), (0, u "post"), (0, u "(JJJZLjava/util/function/LongSupplier;)V"), (0, .methodref 19 31), (0, .nameAndType 32 33), (0, u "at"), (0, u "(J)Lcom/example/tandem_ledger/tandemledger/Account$Version;"), (0, .methodref 35 36), (0, .class_ 37), (0, .nameAndType 38 39), (0, u "com/example/tandem_ledger/tandemledger/Account$Version"), (0, u "balance"), (0, u "()J"), (0, .class_ 41), (0, u "com/example/tandem_ledger/tandemledger/AccountAtPinLaw"), (2, u "law"), (0, u "(JJJII)Z")] 7

def k1m0 : Method := { name := "<init>", desc := "()V", sig := { parameters := [], returnType := none }, accessFlags := 1, code := none }
def k1c1 : Code := { maxStack := 9, maxLocals := 20, code := code, exceptionTable := #[], attributes := #[] }
def k1m1 : Method := { name := "law", desc := "(JJJII)Z", sig := { parameters := [.long, .long, .long, .int, .int], returnType := some .boolean }, accessFlags := 9, code := some k1c1 }
/-- com/example/tandem_ledger/tandemledger/AccountAtPinLaw -/
def k1 : Class := { plain "com/example/tandem_ledger/tandemledger/AccountAtPinLaw" (some 0) with
  accessFlags := 49
  interfaces := #[]
  cf := some (fileOf pool1 40 #[] #[{ accessFlags := 1, nameIndex := 5, descriptorIndex := 6, attributes := #[] }, { accessFlags := 9, nameIndex := 44, descriptorIndex := 45, attributes := #[] }] 49 2 #[] #[])
  fields := #[]
  methods := #[k1m0, k1m1]
  instanceTypes := #[]
  staticTypes := #[]
  resolved := Array.replicate 53 none
  statics := none }

def pool2 : Array CpInfo := pool [(1, .class_ 2), (0, u "java/lang/Math"), (1, .class_ 6), (1, u "java/lang/Object"), (0, u "<init>"), (0, u "()V"), (89, .class_ 100), (1, u "java/lang/Math$RandomNumberGeneratorHolder"), (20, u "(JJ)J"), (50, u "negativeZeroFloatBits"), (0, u "J"), (2, u "negativeZeroDoubleBits"), (24, u "min"), (43, u "$assertionsDisabled"), (0, u "Z"), (91, u "twoToTheDoubleScaleDown"), (0, u "D"), (4, u "twoToTheDoubleScaleUp"), (9, u "E"), (3, u "PI"), (2, u "TAU"), (2, u "DEGREES_TO_RADIANS"), (0, u "RADIANS_TO_DEGREES")] 94

def k2m0 : Method := { name := "<init>", desc := "()V", sig := { parameters := [], returnType := none }, accessFlags := 2, code := none }
def k2c1 : Code := { maxStack := 4, maxLocals := 4, code := jdk_29_method_70_code, exceptionTable := #[], attributes := #[] }
def k2m1 : Method := { name := "min", desc := "(JJ)J", sig := { parameters := [.long, .long], returnType := some .long }, accessFlags := 9, code := some k2c1 }
/-- java/lang/Math -/
def k2 : Class := { plain "java/lang/Math" (some 0) with
  accessFlags := 49
  interfaces := #[]
  cf := some (fileOf pool2 1 #[.nestMembers #[98]] #[{ accessFlags := 2, nameIndex := 7, descriptorIndex := 8, attributes := #[] }, { accessFlags := 9, nameIndex := 201, descriptorIndex := 121, attributes := #[] }] 49 4 #[] #[{ accessFlags := 25, nameIndex := 354, descriptorIndex := 339, attributes := #[] }, { accessFlags := 25, nameIndex := 358, descriptorIndex := 339, attributes := #[] }, { accessFlags := 25, nameIndex := 361, descriptorIndex := 339, attributes := #[] }, { accessFlags := 26, nameIndex := 364, descriptorIndex := 339, attributes := #[] }, { accessFlags := 26, nameIndex := 365, descriptorIndex := 339, attributes := #[] }, { accessFlags := 26, nameIndex := 172, descriptorIndex := 173, attributes := #[] }, { accessFlags := 26, nameIndex := 176, descriptorIndex := 173, attributes := #[] }, { accessFlags := 8, nameIndex := 344, descriptorIndex := 339, attributes := #[] }, { accessFlags := 8, nameIndex := 338, descriptorIndex := 339, attributes := #[] }, { accessFlags := 4120, nameIndex := 245, descriptorIndex := 246, attributes := #[] }])
  fields := #[{ name := "E", type := .double, accessFlags := 25, slot := 0, constantValue := 0 }, { name := "PI", type := .double, accessFlags := 25, slot := 1, constantValue := 0 }, { name := "TAU", type := .double, accessFlags := 25, slot := 2, constantValue := 0 }, { name := "DEGREES_TO_RADIANS", type := .double, accessFlags := 26, slot := 3, constantValue := 0 }, { name := "RADIANS_TO_DEGREES", type := .double, accessFlags := 26, slot := 4, constantValue := 0 }, { name := "negativeZeroFloatBits", type := .long, accessFlags := 26, slot := 5, constantValue := 0 }, { name := "negativeZeroDoubleBits", type := .long, accessFlags := 26, slot := 6, constantValue := 0 }, { name := "twoToTheDoubleScaleUp", type := .double, accessFlags := 8, slot := 7, constantValue := 0 }, { name := "twoToTheDoubleScaleDown", type := .double, accessFlags := 8, slot := 8, constantValue := 0 }, { name := "$assertionsDisabled", type := .boolean, accessFlags := 4120, slot := 9, constantValue := 0 }]
  methods := #[k2m0, k2m1]
  instanceTypes := #[]
  staticTypes := #[.double, .double, .double, .double, .double, .long, .long, .double, .double, .boolean]
  resolved := Array.replicate 460 none
  statics := none }

def pool3 : Array CpInfo := pool [(1, .fieldref 2 3), (0, .class_ 4), (0, .nameAndType 5 6), (0, u "com/example/tandem_ledger/tandemledger/Reserve"), (0, u "NONE"), (0, u "Lcom/example/tandem_ledger/tandemledger/Reserve;"), (0, .fieldref 8 9), (0, .class_ 10), (0, .nameAndType 5 11), (0, u "com/example/tandem_ledger/tandemledger/Chain"), (0, u "Lcom/example/tandem_ledger/tandemledger/Chain;"), (0, .methodref 13 14), (0, .class_ 15), (0, .nameAndType 16 17), (0, u "com/example/tandem_ledger/tandemledger/Account"), (0, u "<init>"), (0, u "(Ljava/lang/String;ZJJJLcom/example/tandem_ledger/tandemledger/Reserve;Lcom/example/tandem_ledger/tandemledger/Chain;)V"), (0, .methodref 19 20), (0, .class_ 21), (0, .nameAndType 16 22), (0, u "java/lang/Object"), (0, u "()V"), (0, .fieldref 13 24), (0, .nameAndType 25 26), (0, u "kept"), (0, u "I"), (0, .fieldref 13 28), (0, .nameAndType 29 26), (0, u "keptAfterLettingGo"), (0, .fieldref 13 31), (0, .nameAndType 32 33), (0, u "name"), (0, u "Ljava/lang/String;"), (0, .fieldref 13 35), (0, .nameAndType 36 37), (0, u "hasFloor"), (0, u "Z"), (0, .fieldref 13 39), (0, .nameAndType 40 41), (0, u "floor"), (0, u "J"), (0, .fieldref 13 43), (0, .nameAndType 44 41), (0, u "opened"), (0, .class_ 46), (0, u "com/example/tandem_ledger/tandemledger/Account$Version"), (0, .methodref 45 48), (0, .nameAndType 16 49), (0, u "(JJLcom/example/tandem_ledger/tandemledger/Reserve;Lcom/example/tandem_ledger/tandemledger/Chain;Lcom/example/tandem_ledger/tandemledger/Account$Version;)V"), (0, .fieldref 13 51), (0, .nameAndType 52 53), (0, u "latest"), (0, u "Lcom/example/tandem_ledger/tandemledger/Account$Version;"), (8, u "NAME"), (0, u "Ljava/util/regex/Pattern;"), (33, .fieldref 45 98), (0, .nameAndType 99 11), (0, u "chain"), (0, .methodref 8 101), (0, .nameAndType 102 103), (0, u "record"), (0, u "()J"), (7, .fieldref 45 112), (0, .nameAndType 113 6), (0, u "reserve"), (0, .methodref 13 115), (0, .nameAndType 116 117), (0, u "change"), (0, u "(JJLcom/example/tandem_ledger/tandemledger/Reserve;Lcom/example/tandem_ledger/tandemledger/Chain;Ljava/util/function/LongSupplier;)V"), (3, .fieldref 45 122), (0, .nameAndType 123 41), (0, u "commit"), (0, .fieldref 45 125), (0, .nameAndType 126 53), (0, u "earlier"), (20, u "(Ljava/lang/String;ZJJ)V"), (7, u "post"), (0, u "(JJJZLjava/util/function/LongSupplier;)V"), (9, u "at"), (0, u "(J)Lcom/example/tandem_ledger/tandemledger/Account$Version;")] 22

def k3c0 : Code := { maxStack := 11, maxLocals := 7, code := prog_1_method_1_code, exceptionTable := #[], attributes := #[] }
def k3m0 : Method := { name := "<init>", desc := "(Ljava/lang/String;ZJJ)V", sig := { parameters := [(.object "java/lang/String"), .boolean, .long, .long], returnType := none }, accessFlags := 0, code := some k3c0 }
def k3c1 : Code := { maxStack := 10, maxLocals := 11, code := prog_1_method_2_code, exceptionTable := #[], attributes := #[] }
def k3m1 : Method := { name := "<init>", desc := "(Ljava/lang/String;ZJJJLcom/example/tandem_ledger/tandemledger/Reserve;Lcom/example/tandem_ledger/tandemledger/Chain;)V", sig := { parameters := [(.object "java/lang/String"), .boolean, .long, .long, .long, (.object "com/example/tandem_ledger/tandemledger/Reserve"), (.object "com/example/tandem_ledger/tandemledger/Chain")], returnType := none }, accessFlags := 0, code := some k3c1 }
def k3c2 : Code := { maxStack := 8, maxLocals := 11, code := prog_1_method_9_code, exceptionTable := #[], attributes := #[] }
def k3m2 : Method := { name := "post", desc := "(JJJZLjava/util/function/LongSupplier;)V", sig := { parameters := [.long, .long, .long, .boolean, (.object "java/util/function/LongSupplier")], returnType := none }, accessFlags := 0, code := some k3c2 }
def k3c3 : Code := { maxStack := 10, maxLocals := 10, code := prog_1_method_12_code, exceptionTable := #[], attributes := #[] }
def k3m3 : Method := { name := "change", desc := "(JJLcom/example/tandem_ledger/tandemledger/Reserve;Lcom/example/tandem_ledger/tandemledger/Chain;Ljava/util/function/LongSupplier;)V", sig := { parameters := [.long, .long, (.object "com/example/tandem_ledger/tandemledger/Reserve"), (.object "com/example/tandem_ledger/tandemledger/Chain"), (.object "java/util/function/LongSupplier")], returnType := none }, accessFlags := 2, code := some k3c3 }
def k3c4 : Code := { maxStack := 4, maxLocals := 4, code := prog_1_method_17_code, exceptionTable := #[], attributes := #[] }
def k3m4 : Method := { name := "at", desc := "(J)Lcom/example/tandem_ledger/tandemledger/Account$Version;", sig := { parameters := [.long], returnType := some (.object "com/example/tandem_ledger/tandemledger/Account$Version") }, accessFlags := 0, code := some k3c4 }
/-- com/example/tandem_ledger/tandemledger/Account -/
def k3 : Class := { plain "com/example/tandem_ledger/tandemledger/Account" (some 0) with
  accessFlags := 48
  interfaces := #[]
  cf := some (fileOf pool3 13 #[.nestMembers #[45]] #[{ accessFlags := 0, nameIndex := 16, descriptorIndex := 147, attributes := #[] }, { accessFlags := 0, nameIndex := 16, descriptorIndex := 17, attributes := #[] }, { accessFlags := 0, nameIndex := 155, descriptorIndex := 156, attributes := #[] }, { accessFlags := 2, nameIndex := 116, descriptorIndex := 117, attributes := #[] }, { accessFlags := 0, nameIndex := 166, descriptorIndex := 167, attributes := #[] }] 48 19 #[] #[{ accessFlags := 26, nameIndex := 62, descriptorIndex := 63, attributes := #[] }, { accessFlags := 18, nameIndex := 32, descriptorIndex := 33, attributes := #[] }, { accessFlags := 18, nameIndex := 36, descriptorIndex := 37, attributes := #[] }, { accessFlags := 18, nameIndex := 40, descriptorIndex := 41, attributes := #[] }, { accessFlags := 18, nameIndex := 44, descriptorIndex := 41, attributes := #[] }, { accessFlags := 66, nameIndex := 52, descriptorIndex := 53, attributes := #[] }, { accessFlags := 2, nameIndex := 25, descriptorIndex := 26, attributes := #[] }, { accessFlags := 2, nameIndex := 29, descriptorIndex := 26, attributes := #[] }])
  fields := #[{ name := "NAME", type := (.object "java/util/regex/Pattern"), accessFlags := 26, slot := 0, constantValue := 0 }, { name := "name", type := (.object "java/lang/String"), accessFlags := 18, slot := 0, constantValue := 0 }, { name := "hasFloor", type := .boolean, accessFlags := 18, slot := 1, constantValue := 0 }, { name := "floor", type := .long, accessFlags := 18, slot := 2, constantValue := 0 }, { name := "opened", type := .long, accessFlags := 18, slot := 3, constantValue := 0 }, { name := "latest", type := (.object "com/example/tandem_ledger/tandemledger/Account$Version"), accessFlags := 66, slot := 4, constantValue := 0 }, { name := "kept", type := .int, accessFlags := 2, slot := 5, constantValue := 0 }, { name := "keptAfterLettingGo", type := .int, accessFlags := 2, slot := 6, constantValue := 0 }]
  methods := #[k3m0, k3m1, k3m2, k3m3, k3m4]
  instanceTypes := #[(.object "java/lang/String"), .boolean, .long, .long, (.object "com/example/tandem_ledger/tandemledger/Account$Version"), .int, .int]
  staticTypes := #[(.object "java/util/regex/Pattern")]
  resolved := own_res 190 [(45, .cls 12), (47, .method ⟨12, 0⟩), (97, .field 12 3), (111, .field 12 2), (121, .field 12 0), (124, .field 12 4)]
  statics := none }

def pool4 : Array CpInfo := pool [(1, .class_ 2), (0, u "java/io/Serializable"), (0, .class_ 4), (0, u "java/lang/Object")] 2

/-- java/io/Serializable -/
def k4 : Class := { plain "java/io/Serializable" (some 0) with
  accessFlags := 1537
  interfaces := #[]
  cf := some (fileOf pool4 1 #[] #[] 1537 3 #[] #[])
  fields := #[]
  methods := #[]
  instanceTypes := #[]
  staticTypes := #[]
  resolved := Array.replicate 7 none
  statics := none }

def pool5 : Array CpInfo := pool [(1, .class_ 2), (0, u "java/lang/Comparable"), (0, .class_ 4), (0, u "java/lang/Object")] 7

/-- java/lang/Comparable -/
def k5 : Class := { plain "java/lang/Comparable" (some 0) with
  accessFlags := 1537
  interfaces := #[]
  cf := some (fileOf pool5 1 #[] #[] 1537 3 #[] #[])
  fields := #[]
  methods := #[]
  instanceTypes := #[]
  staticTypes := #[]
  resolved := Array.replicate 12 none
  statics := none }

def pool6 : Array CpInfo := pool [(2, .class_ 4), (1, u "java/lang/CharSequence"), (42, .class_ 48), (0, u "java/lang/CharSequence$1CodePointIterator"), (10, .class_ 60), (0, u "java/lang/CharSequence$1CharIterator"), (5, .class_ 67), (0, u "java/lang/Object")] 63

/-- java/lang/CharSequence -/
def k6 : Class := { plain "java/lang/CharSequence" (some 0) with
  accessFlags := 1537
  interfaces := #[]
  cf := some (fileOf pool6 2 #[.nestMembers #[47, 59]] #[] 1537 66 #[] #[])
  fields := #[]
  methods := #[]
  instanceTypes := #[]
  staticTypes := #[]
  resolved := Array.replicate 131 none
  statics := none }

def pool7 : Array CpInfo := pool [(1, .class_ 2), (0, u "java/lang/constant/Constable"), (0, .class_ 4), (0, u "java/lang/Object")] 6

/-- java/lang/constant/Constable -/
def k7 : Class := { plain "java/lang/constant/Constable" (some 0) with
  accessFlags := 1537
  interfaces := #[]
  cf := some (fileOf pool7 1 #[] #[] 1537 3 #[] #[])
  fields := #[]
  methods := #[]
  instanceTypes := #[]
  staticTypes := #[]
  resolved := Array.replicate 11 none
  statics := none }

def pool8 : Array CpInfo := pool [(1, .class_ 2), (0, u "java/lang/constant/ConstantDesc"), (0, .class_ 4), (0, u "java/lang/Object")] 32

/-- java/lang/constant/ConstantDesc -/
def k8 : Class := { plain "java/lang/constant/ConstantDesc" (some 0) with
  accessFlags := 1537
  interfaces := #[]
  cf := some (fileOf pool8 1 #[] #[] 1537 3 #[] #[])
  fields := #[]
  methods := #[]
  instanceTypes := #[]
  staticTypes := #[]
  resolved := Array.replicate 37 none
  statics := none }

def pool9 : Array CpInfo := pool [(2, .class_ 4), (1, u "java/lang/Object"), (0, u "<init>"), (0, u "()V"), (3, .class_ 12), (1, u "java/lang/String"), (0, u "value"), (0, u "[B"), (2, u "coder"), (0, u "B"), (2, u "hash"), (0, u "I"), (2, u "hashIsZero"), (0, u "Z"), (13, u "COMPACT_STRINGS"), (534, .class_ 576), (0, u "java/lang/CharSequence"), (22, u "CASE_INSENSITIVE_ORDER"), (0, u "Ljava/util/Comparator;"), (500, u "serialPersistentFields"), (0, u "[Ljava/io/ObjectStreamField;"), (0, .class_ 1104), (0, u "java/lang/String$CaseInsensitiveComparator"), (1, .class_ 1107), (0, u "java/io/Serializable"), (0, .class_ 1109), (0, u "java/lang/Comparable"), (0, .class_ 1111), (0, u "java/lang/constant/Constable"), (0, .class_ 1113), (0, u "java/lang/constant/ConstantDesc"), (2, u "serialVersionUID"), (0, u "J"), (3, u "REPL"), (0, u "C"), (2, u "LATIN1"), (1, u "UTF16")] 323

def k9m0 : Method := { name := "<init>", desc := "()V", sig := { parameters := [], returnType := none }, accessFlags := 1, code := none }
/-- java/lang/String -/
def k9 : Class := { plain "java/lang/String" (some 0) with
  accessFlags := 49
  interfaces := #[4, 5, 6, 7, 8]
  cf := some (fileOf pool9 10 #[.nestMembers #[1103]] #[{ accessFlags := 1, nameIndex := 5, descriptorIndex := 6, attributes := #[] }] 49 2 #[1106, 1108, 575, 1110, 1112] #[{ accessFlags := 18, nameIndex := 13, descriptorIndex := 14, attributes := #[] }, { accessFlags := 18, nameIndex := 17, descriptorIndex := 18, attributes := #[] }, { accessFlags := 2, nameIndex := 21, descriptorIndex := 22, attributes := #[] }, { accessFlags := 2, nameIndex := 25, descriptorIndex := 26, attributes := #[] }, { accessFlags := 26, nameIndex := 1116, descriptorIndex := 1117, attributes := #[] }, { accessFlags := 24, nameIndex := 40, descriptorIndex := 26, attributes := #[] }, { accessFlags := 26, nameIndex := 1101, descriptorIndex := 1102, attributes := #[] }, { accessFlags := 26, nameIndex := 1121, descriptorIndex := 1122, attributes := #[] }, { accessFlags := 25, nameIndex := 599, descriptorIndex := 600, attributes := #[] }, { accessFlags := 24, nameIndex := 1125, descriptorIndex := 18, attributes := #[] }, { accessFlags := 24, nameIndex := 1127, descriptorIndex := 18, attributes := #[] }])
  fields := #[{ name := "value", type := (.array .byte), accessFlags := 18, slot := 0, constantValue := 0 }, { name := "coder", type := .byte, accessFlags := 18, slot := 1, constantValue := 0 }, { name := "hash", type := .int, accessFlags := 2, slot := 2, constantValue := 0 }, { name := "hashIsZero", type := .boolean, accessFlags := 2, slot := 3, constantValue := 0 }, { name := "serialVersionUID", type := .long, accessFlags := 26, slot := 0, constantValue := 0 }, { name := "COMPACT_STRINGS", type := .boolean, accessFlags := 24, slot := 1, constantValue := 0 }, { name := "serialPersistentFields", type := (.array (.object "java/io/ObjectStreamField")), accessFlags := 26, slot := 2, constantValue := 0 }, { name := "REPL", type := .char, accessFlags := 26, slot := 3, constantValue := 0 }, { name := "CASE_INSENSITIVE_ORDER", type := (.object "java/util/Comparator"), accessFlags := 25, slot := 4, constantValue := 0 }, { name := "LATIN1", type := .byte, accessFlags := 24, slot := 5, constantValue := 0 }, { name := "UTF16", type := .byte, accessFlags := 24, slot := 6, constantValue := 0 }]
  methods := #[k9m0]
  instanceTypes := #[(.array .byte), .byte, .int, .boolean]
  staticTypes := #[.long, .boolean, (.array (.object "java/io/ObjectStreamField")), .char, (.object "java/util/Comparator"), .byte, .byte]
  resolved := Array.replicate 1451 none
  statics := none }

def pool10 : Array CpInfo := pool [(2, .class_ 4), (1, u "java/lang/Object"), (3, .class_ 10), (1, u "com/example/tandem_ledger/tandemledger/Reserve"), (0, u "total"), (0, u "J"), (2, u "expiries"), (0, u "[J"), (2, u "numbers"), (2, u "cumulative"), (143, u "NONE"), (0, u "Lcom/example/tandem_ledger/tandemledger/Reserve;")] 49

/-- com/example/tandem_ledger/tandemledger/Reserve -/
def k10 : Class := { plain "com/example/tandem_ledger/tandemledger/Reserve" (some 0) with
  accessFlags := 48
  interfaces := #[]
  cf := some (fileOf pool10 8 #[] #[] 48 2 #[] #[{ accessFlags := 24, nameIndex := 166, descriptorIndex := 167, attributes := #[] }, { accessFlags := 18, nameIndex := 11, descriptorIndex := 12, attributes := #[] }, { accessFlags := 18, nameIndex := 15, descriptorIndex := 16, attributes := #[] }, { accessFlags := 18, nameIndex := 19, descriptorIndex := 16, attributes := #[] }, { accessFlags := 18, nameIndex := 22, descriptorIndex := 16, attributes := #[] }])
  fields := #[{ name := "NONE", type := (.object "com/example/tandem_ledger/tandemledger/Reserve"), accessFlags := 24, slot := 0, constantValue := 0 }, { name := "total", type := .long, accessFlags := 18, slot := 0, constantValue := 0 }, { name := "expiries", type := (.array .long), accessFlags := 18, slot := 1, constantValue := 0 }, { name := "numbers", type := (.array .long), accessFlags := 18, slot := 2, constantValue := 0 }, { name := "cumulative", type := (.array .long), accessFlags := 18, slot := 3, constantValue := 0 }]
  methods := #[]
  instanceTypes := #[.long, (.array .long), (.array .long), (.array .long)]
  staticTypes := #[(.object "com/example/tandem_ledger/tandemledger/Reserve")]
  resolved := Array.replicate 217 none
  statics := some 0 }

def pool11 : Array CpInfo := pool [(2, .class_ 4), (1, u "java/lang/Object"), (2, .fieldref 8 9), (0, .class_ 10), (0, .nameAndType 11 12), (0, u "com/example/tandem_ledger/tandemledger/Chain"), (0, u "record"), (0, u "J"), (2, u "rank"), (2, u "jump"), (0, u "Lcom/example/tandem_ledger/tandemledger/Chain;"), (29, u "()J"), (32, u "NONE")] 35

def k11c0 : Code := { maxStack := 2, maxLocals := 1, code := prog_15_method_4_code, exceptionTable := #[], attributes := #[] }
def k11m0 : Method := { name := "record", desc := "()J", sig := { parameters := [], returnType := some .long }, accessFlags := 0, code := some k11c0 }
/-- com/example/tandem_ledger/tandemledger/Chain -/
def k11 : Class := { plain "com/example/tandem_ledger/tandemledger/Chain" (some 0) with
  accessFlags := 48
  interfaces := #[]
  cf := some (fileOf pool11 8 #[] #[{ accessFlags := 0, nameIndex := 11, descriptorIndex := 49, attributes := #[] }] 48 2 #[] #[{ accessFlags := 24, nameIndex := 82, descriptorIndex := 19, attributes := #[] }, { accessFlags := 18, nameIndex := 11, descriptorIndex := 12, attributes := #[] }, { accessFlags := 18, nameIndex := 15, descriptorIndex := 12, attributes := #[] }, { accessFlags := 18, nameIndex := 18, descriptorIndex := 19, attributes := #[] }])
  fields := #[{ name := "NONE", type := (.object "com/example/tandem_ledger/tandemledger/Chain"), accessFlags := 24, slot := 0, constantValue := 0 }, { name := "record", type := .long, accessFlags := 18, slot := 0, constantValue := 0 }, { name := "rank", type := .long, accessFlags := 18, slot := 1, constantValue := 0 }, { name := "jump", type := (.object "com/example/tandem_ledger/tandemledger/Chain"), accessFlags := 18, slot := 2, constantValue := 0 }]
  methods := #[k11m0]
  instanceTypes := #[.long, .long, (.object "com/example/tandem_ledger/tandemledger/Chain")]
  staticTypes := #[(.object "com/example/tandem_ledger/tandemledger/Chain")]
  resolved := Array.replicate 118 none
  statics := some 1 }

def pool12 : Array CpInfo := pool [(1, .methodref 2 3), (0, .class_ 4), (0, .nameAndType 5 6), (0, u "java/lang/Object"), (0, u "<init>"), (0, u "()V"), (0, .fieldref 8 9), (0, .class_ 10), (0, .nameAndType 11 12), (0, u "com/example/tandem_ledger/tandemledger/Account$Version"), (0, u "commit"), (0, u "J"), (0, .fieldref 8 14), (0, .nameAndType 15 12), (0, u "balance"), (0, .fieldref 8 17), (0, .nameAndType 18 19), (0, u "reserve"), (0, u "Lcom/example/tandem_ledger/tandemledger/Reserve;"), (0, .fieldref 8 21), (0, .nameAndType 22 23), (0, u "chain"), (0, u "Lcom/example/tandem_ledger/tandemledger/Chain;"), (0, .fieldref 8 25), (0, .nameAndType 26 27), (0, u "earlier"), (0, u "Lcom/example/tandem_ledger/tandemledger/Account$Version;"), (0, u "(JJLcom/example/tandem_ledger/tandemledger/Reserve;Lcom/example/tandem_ledger/tandemledger/Chain;Lcom/example/tandem_ledger/tandemledger/Account$Version;)V"), (2, u "()J"), (5, .class_ 38), (0, u "com/example/tandem_ledger/tandemledger/Account")] 2

def k12c0 : Code := { maxStack := 3, maxLocals := 8, code := prog_2_method_1_code, exceptionTable := #[], attributes := #[] }
def k12m0 : Method := { name := "<init>", desc := "(JJLcom/example/tandem_ledger/tandemledger/Reserve;Lcom/example/tandem_ledger/tandemledger/Chain;Lcom/example/tandem_ledger/tandemledger/Account$Version;)V", sig := { parameters := [.long, .long, (.object "com/example/tandem_ledger/tandemledger/Reserve"), (.object "com/example/tandem_ledger/tandemledger/Chain"), (.object "com/example/tandem_ledger/tandemledger/Account$Version")], returnType := none }, accessFlags := 2, code := some k12c0 }
def k12c1 : Code := { maxStack := 2, maxLocals := 1, code := prog_2_method_2_code, exceptionTable := #[], attributes := #[] }
def k12m1 : Method := { name := "balance", desc := "()J", sig := { parameters := [], returnType := some .long }, accessFlags := 0, code := some k12c1 }
/-- com/example/tandem_ledger/tandemledger/Account$Version -/
def k12 : Class := { plain "com/example/tandem_ledger/tandemledger/Account$Version" (some 0) with
  accessFlags := 48
  interfaces := #[]
  cf := some (fileOf pool12 8 #[.nestHost 37] #[{ accessFlags := 2, nameIndex := 5, descriptorIndex := 28, attributes := #[] }, { accessFlags := 0, nameIndex := 15, descriptorIndex := 31, attributes := #[] }] 48 2 #[] #[{ accessFlags := 18, nameIndex := 11, descriptorIndex := 12, attributes := #[] }, { accessFlags := 18, nameIndex := 15, descriptorIndex := 12, attributes := #[] }, { accessFlags := 18, nameIndex := 18, descriptorIndex := 19, attributes := #[] }, { accessFlags := 18, nameIndex := 22, descriptorIndex := 23, attributes := #[] }, { accessFlags := 66, nameIndex := 26, descriptorIndex := 27, attributes := #[] }])
  fields := #[{ name := "commit", type := .long, accessFlags := 18, slot := 0, constantValue := 0 }, { name := "balance", type := .long, accessFlags := 18, slot := 1, constantValue := 0 }, { name := "reserve", type := (.object "com/example/tandem_ledger/tandemledger/Reserve"), accessFlags := 18, slot := 2, constantValue := 0 }, { name := "chain", type := (.object "com/example/tandem_ledger/tandemledger/Chain"), accessFlags := 18, slot := 3, constantValue := 0 }, { name := "earlier", type := (.object "com/example/tandem_ledger/tandemledger/Account$Version"), accessFlags := 66, slot := 4, constantValue := 0 }]
  methods := #[k12m0, k12m1]
  instanceTypes := #[.long, .long, (.object "com/example/tandem_ledger/tandemledger/Reserve"), (.object "com/example/tandem_ledger/tandemledger/Chain"), (.object "com/example/tandem_ledger/tandemledger/Account$Version")]
  staticTypes := #[]
  resolved := Array.replicate 41 none
  statics := none }

def pool13 : Array CpInfo := pool [(1, u "java/lang/Cloneable"), (0, .class_ 1), (0, u "java/lang/Object"), (0, .class_ 3)] 3

/-- java/lang/Cloneable -/
def k13 : Class := { plain "java/lang/Cloneable" (some 0) with
  accessFlags := 1537
  interfaces := #[]
  cf := some (fileOf pool13 2 #[] #[] 1537 4 #[] #[])
  fields := #[]
  methods := #[]
  instanceTypes := #[]
  staticTypes := #[]
  resolved := Array.replicate 8 none
  statics := none }

/-- the primitive byte -/
def k14 : Class := { plain "byte" none with kind := .primitive 'B', accessFlags := 0x411 }
/-- [B -/
def k15 : Class := { plain "[B" (some 0) with kind := .array 14 .byte, interfaces := #[13, 4], accessFlags := 1041 }

/-- the primitive int -/
def k16 : Class := { plain "int" none with kind := .primitive 'I', accessFlags := 0x411 }
/-- [I -/
def k17 : Class := { plain "[I" (some 0) with kind := .array 16 .int, interfaces := #[13, 4], accessFlags := 1041 }

def heap : Heap := #[{ cls := 10, slots := #[.ref 2], vm := .statics 10 },
  { cls := 11, slots := #[.ref 3], vm := .statics 11 },
  { cls := 10, slots := #[.long 0, .null, .null, .null], vm := .none },
  { cls := 11, slots := #[.long 0, .long 0, .null], vm := .none }]
def classes : Array Class := #[k0, k1, k2, k3, k4, k5, k6, k7, k8, k9, k10, k11, k12, k13, k14, k15, k16, k17]
def interned : List (Array UInt16 × Addr) := []
def slotsUsed : Nat := 9
def theMethod : MethodId := ⟨1, 1⟩
def args0 : Array Value := #[.long 5, .long 7, .long 9, .int 3, .int 4]
def aboutOver (below : List Frame) : State where
  vm := { classes := classes, interned := interned.toArray }
  heap := heap
  slotsUsed := slotsUsed
  threads := #[{ frames := .invoking theMethod args0 :: below }]
def below0 : List Frame := [.native { method := ⟨0, 0⟩, args := #[] }]
def about1 : State := aboutOver below0
def p0 : Program := .bare "" "" ""
def e0 : Env := launch0.env 0 0 0
theorem w_frames : about1.frames = Frame.invoking theMethod args0 :: below0 := rfl
set_option maxRecDepth 65536 in
theorem w_args : argsFit about1.vm theMethod args0 = true := by decide +kernel
set_option maxRecDepth 65536 in
theorem w_heap : heapFits about1 = true := by decide +kernel
set_option maxRecDepth 65536 in
theorem w_runnable : about1.curStatus? = some .runnable := by decide +kernel
set_option maxRecDepth 65536 in
theorem w_alone : about1.alone = true := by decide +kernel
set_option maxRecDepth 65536 in
theorem w_named : about1.methodNamed? x = some theMethod := by decide +kernel
set_option maxRecDepth 65536 in
theorem w_hears : about1.hears theMethod below0 = true := by decide +kernel
set_option maxRecDepth 65536 in
theorem w_ripe : about1.ripe theMethod args0 below0 = true := by decide +kernel
theorem w_running : about1.status = .running := rfl
set_option maxRecDepth 65536 in
theorem w_room : about1.hasRoom e0.platform room_1 = true :=
  launch0.hasRoom_least _ room_1 (by decide +kernel) (by decide +kernel) (by decide +kernel) (by decide +kernel) (by decide +kernel) (by decide +kernel)
theorem allAtoms_all (ts : List Jvm.Cond) (a : Array Jvm.Value) (st : Jvm.State) : (allAtoms ts).before a st = ts.all (fun c => c.before a st) := by
  induction ts with
  | nil => rfl
  | cons c t ih =>
    show (Jvm.Cond.and c (allAtoms t)).before a st = _
    rw [Jvm.Cond.before_and, ih, List.all_cons]
def words1 : List Jvm.Cond := Jvm.Cond.code x code maxLocals ret :: tables_1
/-- a 'code' word, met by the world's own term for the bytes: nothing is compared byte by byte -/
theorem code_word {y : MethodName} {bytes : ByteArray} {mx : Nat} {rt : Option FieldType} {a : Array Value} {s : State} {m : MethodId} {meth : Method} {c : Code} (h1 : s.methodNamed? y = some m) (h2 : s.vm.method? m = some meth) (h3 : meth.code = some c) (h4 : c.code = bytes)
    (h5 : (c.maxLocals == mx && c.exceptionTable.isEmpty && decide (c.maxStack ≤ mostOperands) && decide (meth.sig.returnType = rt) && !meth.locks && decide (parseMethodDescriptor y.desc = some meth.sig)) = true) : (Jvm.Cond.code y bytes mx rt).before a s = true := by
  simp only [Bool.and_eq_true, beq_iff_eq, Bool.not_eq_true', decide_eq_true_eq] at h5
  obtain ⟨⟨⟨⟨⟨g1, g2⟩, g3⟩, g4⟩, g5⟩, g6⟩ := h5
  simp [Cond.before, Cond.holds, Cond.value, h1, h2, h3, h4, g1, g2, g3, g4, g5, g6]
def isCode : Jvm.Cond → Bool
  | .code _ _ _ _ => true
  | _ => false
theorem all_split {L : List Jvm.Cond} {P : Jvm.Cond → Bool} (h1 : L.all (fun c => isCode c || P c) = true) (h2 : ∀ c ∈ L.filter isCode, P c = true) : L.all P = true := by
  refine List.all_eq_true.mpr fun c hc => ?_
  have h := List.all_eq_true.mp h1 c hc
  rcases Bool.eq_false_or_eq_true (isCode c) with hi | hi
  · exact h2 c (List.mem_filter.mpr ⟨hc, hi⟩)
  · simpa [hi] using h
set_option maxRecDepth 65536 in
theorem w_c0 : (Jvm.Cond.code x code maxLocals ret).before args0 about1 = true := code_word (m := ⟨1, 1⟩) (meth := k1m1) (c := k1c1) (by decide +kernel) rfl rfl rfl (by decide +kernel)
set_option maxRecDepth 65536 in
theorem w_c1 : (Jvm.Cond.code ({ cls := "java/lang/Math", name := "min", desc := "(JJ)J" } : Jvm.MethodName) jdk_29_method_70_code (4 : Nat) (Option.some Jvm.ClassFile.FieldType.long)).before args0 about1 = true := code_word (m := ⟨2, 1⟩) (meth := k2m1) (c := k2c1) (by decide +kernel) rfl rfl rfl (by decide +kernel)
set_option maxRecDepth 65536 in
theorem w_c2 : (Jvm.Cond.code ({ cls := "com/example/tandem_ledger/tandemledger/Account", name := "<init>", desc := "(Ljava/lang/String;ZJJ)V" } : Jvm.MethodName) prog_1_method_1_code (7 : Nat) (Option.none : Option Jvm.ClassFile.FieldType)).before args0 about1 = true := code_word (m := ⟨3, 0⟩) (meth := k3m0) (c := k3c0) (by decide +kernel) rfl rfl rfl (by decide +kernel)
set_option maxRecDepth 65536 in
theorem w_c3 : (Jvm.Cond.code ({ cls := "com/example/tandem_ledger/tandemledger/Account", name := "<init>", desc := "(Ljava/lang/String;ZJJJLcom/example/tandem_ledger/tandemledger/Reserve;Lcom/example/tandem_ledger/tandemledger/Chain;)V" } : Jvm.MethodName) prog_1_method_2_code (11 : Nat) (Option.none : Option Jvm.ClassFile.FieldType)).before args0 about1 = true := code_word (m := ⟨3, 1⟩) (meth := k3m1) (c := k3c1) (by decide +kernel) rfl rfl rfl (by decide +kernel)
set_option maxRecDepth 65536 in
theorem w_c4 : (Jvm.Cond.code ({ cls := "java/lang/Object", name := "<init>", desc := "()V" } : Jvm.MethodName) object_method_1_code (1 : Nat) (Option.none : Option Jvm.ClassFile.FieldType)).before args0 about1 = true := code_word (m := ⟨0, 0⟩) (meth := k0m0) (c := k0c0) (by decide +kernel) rfl rfl rfl (by decide +kernel)
set_option maxRecDepth 65536 in
theorem w_c5 : (Jvm.Cond.code ({ cls := "com/example/tandem_ledger/tandemledger/Account$Version", name := "<init>", desc := "(JJLcom/example/tandem_ledger/tandemledger/Reserve;Lcom/example/tandem_ledger/tandemledger/Chain;Lcom/example/tandem_ledger/tandemledger/Account$Version;)V" } : Jvm.MethodName) prog_2_method_1_code (8 : Nat) (Option.none : Option Jvm.ClassFile.FieldType)).before args0 about1 = true := code_word (m := ⟨12, 0⟩) (meth := k12m0) (c := k12c0) (by decide +kernel) rfl rfl rfl (by decide +kernel)
set_option maxRecDepth 65536 in
theorem w_c6 : (Jvm.Cond.code ({ cls := "com/example/tandem_ledger/tandemledger/Account", name := "post", desc := "(JJJZLjava/util/function/LongSupplier;)V" } : Jvm.MethodName) prog_1_method_9_code (11 : Nat) (Option.none : Option Jvm.ClassFile.FieldType)).before args0 about1 = true := code_word (m := ⟨3, 2⟩) (meth := k3m2) (c := k3c2) (by decide +kernel) rfl rfl rfl (by decide +kernel)
set_option maxRecDepth 65536 in
theorem w_c7 : (Jvm.Cond.code ({ cls := "com/example/tandem_ledger/tandemledger/Chain", name := "record", desc := "()J" } : Jvm.MethodName) prog_15_method_4_code (1 : Nat) (Option.some Jvm.ClassFile.FieldType.long)).before args0 about1 = true := code_word (m := ⟨11, 0⟩) (meth := k11m0) (c := k11c0) (by decide +kernel) rfl rfl rfl (by decide +kernel)
set_option maxRecDepth 65536 in
theorem w_c8 : (Jvm.Cond.code ({ cls := "com/example/tandem_ledger/tandemledger/Account", name := "change", desc := "(JJLcom/example/tandem_ledger/tandemledger/Reserve;Lcom/example/tandem_ledger/tandemledger/Chain;Ljava/util/function/LongSupplier;)V" } : Jvm.MethodName) prog_1_method_12_code (10 : Nat) (Option.none : Option Jvm.ClassFile.FieldType)).before args0 about1 = true := code_word (m := ⟨3, 3⟩) (meth := k3m3) (c := k3c3) (by decide +kernel) rfl rfl rfl (by decide +kernel)
set_option maxRecDepth 65536 in
theorem w_c9 : (Jvm.Cond.code ({ cls := "com/example/tandem_ledger/tandemledger/Account", name := "at", desc := "(J)Lcom/example/tandem_ledger/tandemledger/Account$Version;" } : Jvm.MethodName) prog_1_method_17_code (4 : Nat) (Option.some (Jvm.ClassFile.FieldType.object "com/example/tandem_ledger/tandemledger/Account$Version"))).before args0 about1 = true := code_word (m := ⟨3, 4⟩) (meth := k3m4) (c := k3c4) (by decide +kernel) rfl rfl rfl (by decide +kernel)
set_option maxRecDepth 65536 in
theorem w_c10 : (Jvm.Cond.code ({ cls := "com/example/tandem_ledger/tandemledger/Account$Version", name := "balance", desc := "()J" } : Jvm.MethodName) prog_2_method_2_code (1 : Nat) (Option.some Jvm.ClassFile.FieldType.long)).before args0 about1 = true := code_word (m := ⟨12, 1⟩) (meth := k12m1) (c := k12c1) (by decide +kernel) rfl rfl rfl (by decide +kernel)
def codes1 : List Jvm.Cond := [Jvm.Cond.code x code maxLocals ret, Jvm.Cond.code ({ cls := "java/lang/Math", name := "min", desc := "(JJ)J" } : Jvm.MethodName) jdk_29_method_70_code (4 : Nat) (Option.some Jvm.ClassFile.FieldType.long), Jvm.Cond.code ({ cls := "com/example/tandem_ledger/tandemledger/Account", name := "<init>", desc := "(Ljava/lang/String;ZJJ)V" } : Jvm.MethodName) prog_1_method_1_code (7 : Nat) (Option.none : Option Jvm.ClassFile.FieldType), Jvm.Cond.code ({ cls := "com/example/tandem_ledger/tandemledger/Account", name := "<init>", desc := "(Ljava/lang/String;ZJJJLcom/example/tandem_ledger/tandemledger/Reserve;Lcom/example/tandem_ledger/tandemledger/Chain;)V" } : Jvm.MethodName) prog_1_method_2_code (11 : Nat) (Option.none : Option Jvm.ClassFile.FieldType), Jvm.Cond.code ({ cls := "java/lang/Object", name := "<init>", desc := "()V" } : Jvm.MethodName) object_method_1_code (1 : Nat) (Option.none : Option Jvm.ClassFile.FieldType), Jvm.Cond.code ({ cls := "com/example/tandem_ledger/tandemledger/Account$Version", name := "<init>", desc := "(JJLcom/example/tandem_ledger/tandemledger/Reserve;Lcom/example/tandem_ledger/tandemledger/Chain;Lcom/example/tandem_ledger/tandemledger/Account$Version;)V" } : Jvm.MethodName) prog_2_method_1_code (8 : Nat) (Option.none : Option Jvm.ClassFile.FieldType), Jvm.Cond.code ({ cls := "com/example/tandem_ledger/tandemledger/Account", name := "post", desc := "(JJJZLjava/util/function/LongSupplier;)V" } : Jvm.MethodName) prog_1_method_9_code (11 : Nat) (Option.none : Option Jvm.ClassFile.FieldType), Jvm.Cond.code ({ cls := "com/example/tandem_ledger/tandemledger/Chain", name := "record", desc := "()J" } : Jvm.MethodName) prog_15_method_4_code (1 : Nat) (Option.some Jvm.ClassFile.FieldType.long), Jvm.Cond.code ({ cls := "com/example/tandem_ledger/tandemledger/Account", name := "change", desc := "(JJLcom/example/tandem_ledger/tandemledger/Reserve;Lcom/example/tandem_ledger/tandemledger/Chain;Ljava/util/function/LongSupplier;)V" } : Jvm.MethodName) prog_1_method_12_code (10 : Nat) (Option.none : Option Jvm.ClassFile.FieldType), Jvm.Cond.code ({ cls := "com/example/tandem_ledger/tandemledger/Account", name := "at", desc := "(J)Lcom/example/tandem_ledger/tandemledger/Account$Version;" } : Jvm.MethodName) prog_1_method_17_code (4 : Nat) (Option.some (Jvm.ClassFile.FieldType.object "com/example/tandem_ledger/tandemledger/Account$Version")), Jvm.Cond.code ({ cls := "com/example/tandem_ledger/tandemledger/Account$Version", name := "balance", desc := "()J" } : Jvm.MethodName) prog_2_method_2_code (1 : Nat) (Option.some Jvm.ClassFile.FieldType.long)]
set_option maxRecDepth 65536 in
theorem codes_eq : words1.filter isCode = codes1 := rfl
theorem w_codes : ∀ c ∈ words1.filter isCode, c.before args0 about1 = true := by
  rw [codes_eq]
  intro c hc
  simp only [codes1, List.mem_cons, List.not_mem_nil, or_false] at hc
  rcases hc with rfl | rfl | rfl | rfl | rfl | rfl | rfl | rfl | rfl | rfl | rfl
  · exact w_c0
  · exact w_c1
  · exact w_c2
  · exact w_c3
  · exact w_c4
  · exact w_c5
  · exact w_c6
  · exact w_c7
  · exact w_c8
  · exact w_c9
  · exact w_c10
set_option maxRecDepth 65536 in
theorem w_t1 : (words1.take 24).all (fun c => isCode c || c.before args0 about1) = true := by decide +kernel
set_option maxRecDepth 65536 in
theorem w_t2 : ((words1.drop 24).take 24).all (fun c => isCode c || c.before args0 about1) = true := by decide +kernel
set_option maxRecDepth 65536 in
theorem w_t3 : (((words1.drop 24).drop 24).take 24).all (fun c => isCode c || c.before args0 about1) = true := by decide +kernel
set_option maxRecDepth 65536 in
theorem w_t4 : (((words1.drop 24).drop 24).drop 24).all (fun c => isCode c || c.before args0 about1) = true := by decide +kernel
theorem w_tables : (allAtoms (Jvm.Cond.code x code maxLocals ret :: tables_1)).before args0 about1 = true := by
  rw [allAtoms_all]
  show words1.all (fun c => c.before args0 about1) = true
  refine all_split ?_ w_codes
  rw [← List.take_append_drop 24 words1, List.all_append, w_t1, ← List.take_append_drop 24 (words1.drop 24), List.all_append, w_t2, ← List.take_append_drop 24 ((words1.drop 24).drop 24), List.all_append, w_t3, w_t4]
  rfl
set_option maxRecDepth 65536 in
theorem w_case : (Jvm.Cond.and given_1 narrow_1).before args0 about1 = true := by decide +kernel
theorem w_applies : (headSpec (Jvm.Cond.code x code maxLocals ret :: tables_1) room_1).applies x e0.platform about1 = true :=
  (Spec.applies_iff w_frames).mpr ⟨w_running, w_runnable, w_alone, w_named, w_hears, w_ripe, w_room, w_tables⟩
theorem atStart : AtStart classFile x code maxLocals ret World_1 tables_1 room_1 Calls_1 rest_1 Pre_1 launch0 p0 e0 about1 theMethod args0 below0 :=
  ⟨lists_1, trivial, launch0.admits_env _ _ _, launch0.least_env, fairChoices_fair.cas, fairChoices_fair.clock, w_frames, w_args, w_heap, w_applies, trivial, trivial, w_case⟩
end start1
theorem witness_1 : WitnessClaimed_1 := ⟨start1.p0, start1.e0, start1.about1, start1.theMethod, start1.args0, start1.below0, start1.atStart⟩
end Jvm.Pilot.@@N@@
