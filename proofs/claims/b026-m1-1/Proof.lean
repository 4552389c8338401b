import JvmDerived
import JvmDerived.Pilot.@@N@@Statement
import JvmDerived.Pilot.@@N@@Code
set_option linter.unusedVariables false
set_option linter.unusedSimpArgs false
namespace Jvm.RoadKit
open Sem ClassFile Op Lib Jvm.Stand Jvm.Free Jvm.LawKit
section New
variable {p : Program} {l : Launch} {e : Env} {R : Room} {s : State} {m : MethodId} {args : Array Value} {below : List Frame} {meth : Method} {c : Code} {T : State} {locs : List Loc} {cells slots : Nat}
theorem retI (X : Stand p l e R s m args below meth c T locs cells slots) (hx : p.tables.exec = Jvm.exec) {pc : Nat} {Ls : Array Slot} {z : Int32} {rest : List Value} (hret : meth.sig.returnType = some .int) (hd : decode c.code pc = .ok (.ireturn, 1)) {fs : List Frame}
    (hl : ∀ (f : JFrame) (acts : List Action), f.method = m → f.locked = none → f.entered = [] → (doReturn e (T.setTop f) acts (some (.int z))).1 = T.setFrames fs) : Steps p.tables e below (T.setTop (mkF m pc Ls (.int z :: rest))) (T.setFrames fs) := by
  have hm' : T.vm.method? m = some meth := X.method'
  have hn : narrow .int (.int z) = .int z := rfl
  show Steps p.tables e below (T.setTop { method := m, pc := pc, locals := Ls, stack := _ :: rest, locked := none }) _
  jvm_step X.here [X.here.top, hx, hd, hm', hret, hn]
  first | (intro acts; rw [hl _ acts rfl rfl rfl]) | rw [hl _ _ rfl rfl rfl]
  exact Steps.refl _
end New
end Jvm.RoadKit
namespace Jvm.Pilot.@@N@@
open Jvm Jvm.ClassFile Sem Op Lib Jvm.Free Jvm.Stand Jvm.LawKit Jvm.RoadKit Bundle Jvm.Pilot.@@N@@.Jvm.D
/-- a step ahead of a run that ends -/
theorem own_go {p : Program} {e : Env} {below : List Frame} {P : State → Outcome → Prop} {a b : State} (h : ∀ t, Steps p.tables e below b t → Steps p.tables e below a t) (k : ∃ s₂ o, Steps p.tables e below b s₂ ∧ P s₂ o) : ∃ s₂ o, Steps p.tables e below a s₂ ∧ P s₂ o := by
  obtain ⟨t, o, h1, h2⟩ := k; exact ⟨t, o, h t h1, h2⟩
def own_F (x : Int32) : Int32 := if x = (10 : Int32) then (1 : Int32) else if x = (11 : Int32) then (1 : Int32) else if x = (12 : Int32) then (1 : Int32) else if x = (13 : Int32) then (1 : Int32) else if x = (28 : Int32) then (1 : Int32) else if x = (29 : Int32) then (1 : Int32) else if x = (30 : Int32) then (1 : Int32) else if x = (133 : Int32) then (1 : Int32) else if x = (8232 : Int32) then (1 : Int32) else if x = (8233 : Int32) then (1 : Int32) else (0 : Int32)
def own_G3 (x : Int32) : Int32 := if x = (133 : Int32) then (1 : Int32) else if x = (8232 : Int32) then (1 : Int32) else if x = (8233 : Int32) then (1 : Int32) else (0 : Int32)
def own_G2 (x : Int32) : Int32 := if x < (28 : Int32) then own_G3 x else if (30 : Int32) < x then own_G3 x else (1 : Int32)
def own_G (x : Int32) : Int32 := if x < (10 : Int32) then own_G2 x else if (13 : Int32) < x then own_G2 x else (1 : Int32)
set_option maxHeartbeats 40000000 in
theorem own_same (x : Int32) : own_F x = own_G x := by
  have e (n : Int32) : x = n ↔ x.toInt = n.toInt := Int32.toInt_inj.symm
  have e10 : (10 : Int32).toInt = 10 := rfl
  have e11 : (11 : Int32).toInt = 11 := rfl
  have e12 : (12 : Int32).toInt = 12 := rfl
  have e13 : (13 : Int32).toInt = 13 := rfl
  have e28 : (28 : Int32).toInt = 28 := rfl
  have e29 : (29 : Int32).toInt = 29 := rfl
  have e30 : (30 : Int32).toInt = 30 := rfl
  have e133 : (133 : Int32).toInt = 133 := rfl
  have e8232 : (8232 : Int32).toInt = 8232 := rfl
  have e8233 : (8233 : Int32).toInt = 8233 := rfl
  simp only [own_F, own_G, own_G2, own_G3, Int32.lt_iff_toInt_lt, e, e10, e11, e12, e13, e28, e29, e30, e133, e8232, e8233]
  generalize x.toInt = z
  repeat' split
  all_goals first | rfl | omega
theorem own_miss {x : Int32} (h10 : ¬ x = (10 : Int32)) (h11 : ¬ x = (11 : Int32)) (h12 : ¬ x = (12 : Int32)) (h13 : ¬ x = (13 : Int32)) (h28 : ¬ x = (28 : Int32)) (h29 : ¬ x = (29 : Int32)) (h30 : ¬ x = (30 : Int32)) (h133 : ¬ x = (133 : Int32)) (h8232 : ¬ x = (8232 : Int32)) (h8233 : ¬ x = (8233 : Int32)) : Array.find? (fun z => z.1 == x.toInt) (#[(10, 91), (11, 91), (12, 91), (13, 91), (28, 91), (29, 91), (30, 91), (133, 91), (8232, 91), (8233, 91)] : Array (Int × Int)) = none := by
  have e (n : Int32) (h : ¬ x = n) : ¬ n.toInt = x.toInt := fun q => h (Int32.toInt_inj.mp q.symm)
  have e10 : ¬ (10 : Int) = x.toInt := e 10 h10
  have e11 : ¬ (11 : Int) = x.toInt := e 11 h11
  have e12 : ¬ (12 : Int) = x.toInt := e 12 h12
  have e13 : ¬ (13 : Int) = x.toInt := e 13 h13
  have e28 : ¬ (28 : Int) = x.toInt := e 28 h28
  have e29 : ¬ (29 : Int) = x.toInt := e 29 h29
  have e30 : ¬ (30 : Int) = x.toInt := e 30 h30
  have e133 : ¬ (133 : Int) = x.toInt := e 133 h133
  have e8232 : ¬ (8232 : Int) = x.toInt := e 8232 h8232
  have e8233 : ¬ (8233 : Int) = x.toInt := e 8233 h8233
  rw [Array.find?_eq_none]
  intro z hz
  simp only [List.mem_toArray, List.mem_cons, List.not_mem_nil, or_false] at hz
  rcases hz with rfl | rfl | rfl | rfl | rfl | rfl | rfl | rfl | rfl | rfl <;> simp only [beq_iff_eq] <;> assumption
theorem own_pd0 : parseMethodDescriptor "(I)C" = some ⟨[.int], some .char⟩ := by decide +kernel
theorem own_pd1 : parseMethodDescriptor "(C)Z" = some ⟨[.char], some .boolean⟩ := by decide +kernel
theorem own_pn0 : plainName "com/example/tandem_ledger/tandemledger/text/LineBreaksIsLineBreakPinLaw" = true := by first | (simp [plainName, overriddenIn]; done) | decide +kernel
theorem own_pn1 : plainName "com/example/tandem_ledger/tandemledger/text/LineBreaks" = true := by first | (simp [plainName, overriddenIn]; done) | decide +kernel
def own_Q1 (h0 : Heap) (n0 : Nat) (v : Option Value) (h : Heap) (L : List Loc) : Prop := (∃ z : Int32, v = some (.int z)) ∧ Fr n0 L ∧ h = h0
theorem d_own_rm1_0 : decode method_3_code 0 = .ok (.iload_n 0, 1) := by decide +kernel
theorem d_own_rm1_1 : decode method_3_code 1 = .ok (.iconst 3, 1) := by decide +kernel
theorem d_own_rm1_2 : decode method_3_code 2 = .ok (.iand, 1) := by decide +kernel
theorem d_own_rm1_3 : decode method_3_code 3 = .ok (.istore_n 1, 1) := by decide +kernel
theorem d_own_rm1_4 : decode method_3_code 4 = .ok (.iload_n 0, 1) := by decide +kernel
theorem d_own_rm1_5 : decode method_3_code 5 = .ok (.iconst 2, 1) := by decide +kernel
theorem d_own_rm1_6 : decode method_3_code 6 = .ok (.iushr, 1) := by decide +kernel
theorem d_own_rm1_7 : decode method_3_code 7 = .ok (.bipush 7, 2) := by decide +kernel
theorem d_own_rm1_9 : decode method_3_code 9 = .ok (.iand, 1) := by decide +kernel
theorem d_own_rm1_10 : decode method_3_code 10 = .ok (.istore_n 2, 1) := by decide +kernel
theorem d_own_rm1_11 : decode method_3_code 11 = .ok (.iload_n 1, 1) := by decide +kernel
theorem d_own_rm1_12 : decode method_3_code 12 = .ok (.ifCond .ne 9, 3) := by decide +kernel
theorem d_own_rm1_15 : decode method_3_code 15 = .ok (.bipush 8, 2) := by decide +kernel
theorem d_own_rm1_17 : decode method_3_code 17 = .ok (.iload_n 2, 1) := by decide +kernel
theorem d_own_rm1_18 : decode method_3_code 18 = .ok (.iadd, 1) := by decide +kernel
theorem d_own_rm1_19 : decode method_3_code 19 = .ok (.i2c, 1) := by decide +kernel
theorem d_own_rm1_20 : decode method_3_code 20 = .ok (.ireturn, 1) := by decide +kernel
theorem d_own_rm1_21 : decode method_3_code 21 = .ok (.iload_n 1, 1) := by decide +kernel
theorem d_own_rm1_22 : decode method_3_code 22 = .ok (.iconst 1, 1) := by decide +kernel
theorem d_own_rm1_23 : decode method_3_code 23 = .ok (.if_icmp .ne 9, 3) := by decide +kernel
theorem d_own_rm1_26 : decode method_3_code 26 = .ok (.bipush 26, 2) := by decide +kernel
theorem d_own_rm1_28 : decode method_3_code 28 = .ok (.iload_n 2, 1) := by decide +kernel
theorem d_own_rm1_29 : decode method_3_code 29 = .ok (.iadd, 1) := by decide +kernel
theorem d_own_rm1_30 : decode method_3_code 30 = .ok (.i2c, 1) := by decide +kernel
theorem d_own_rm1_31 : decode method_3_code 31 = .ok (.ireturn, 1) := by decide +kernel
theorem d_own_rm1_32 : decode method_3_code 32 = .ok (.iload_n 1, 1) := by decide +kernel
theorem d_own_rm1_33 : decode method_3_code 33 = .ok (.iconst 2, 1) := by decide +kernel
theorem d_own_rm1_34 : decode method_3_code 34 = .ok (.if_icmp .ne 12, 3) := by decide +kernel
theorem d_own_rm1_37 : decode method_3_code 37 = .ok (.sipush 131, 3) := by decide +kernel
theorem d_own_rm1_40 : decode method_3_code 40 = .ok (.iload_n 2, 1) := by decide +kernel
theorem d_own_rm1_41 : decode method_3_code 41 = .ok (.iconst 3, 1) := by decide +kernel
theorem d_own_rm1_42 : decode method_3_code 42 = .ok (.iand, 1) := by decide +kernel
theorem d_own_rm1_43 : decode method_3_code 43 = .ok (.iadd, 1) := by decide +kernel
theorem d_own_rm1_44 : decode method_3_code 44 = .ok (.i2c, 1) := by decide +kernel
theorem d_own_rm1_45 : decode method_3_code 45 = .ok (.ireturn, 1) := by decide +kernel
theorem d_own_rm1_46 : decode method_3_code 46 = .ok (.sipush 8230, 3) := by decide +kernel
theorem d_own_rm1_49 : decode method_3_code 49 = .ok (.iload_n 2, 1) := by decide +kernel
theorem d_own_rm1_50 : decode method_3_code 50 = .ok (.iadd, 1) := by decide +kernel
theorem d_own_rm1_51 : decode method_3_code 51 = .ok (.i2c, 1) := by decide +kernel
theorem d_own_rm1_52 : decode method_3_code 52 = .ok (.ireturn, 1) := by decide +kernel
theorem ef_own_rm1 (m : MethodId) (x0 : Int32) : entryFrame m #[(.int x0)] 3 = mkF m 0 #[.val (.int x0), .unset, .unset] [] := by first | (simp [entryFrame, mkF, argsToLocals, Value.category]; done) | rfl
set_option maxRecDepth 65536 in
set_option maxHeartbeats 40000000 in
theorem own_rm1 (l : Launch) (Z : State) (a0 : Array Value) (hw : ∀ d ∈ tables_1, d.before a0 Z = true) (ws : List Jvm.Cond) (p0 : Int32)  (h0 : Heap) (n0 : Nat) (Z0 : n0 ≤ h0.size)  :
    MetFree l (⟨"com/example/tandem_ledger/tandemledger/text/LineBreaksIsLineBreakPinLaw", "near", "(I)C"⟩ : MethodName) (head1 (Jvm.Cond.code (⟨"com/example/tandem_ledger/tandemledger/text/LineBreaksIsLineBreakPinLaw", "near", "(I)C"⟩ : MethodName) method_3_code 3 (some .char) :: ws) ({ frames := 0, cells := 0, slots := 0, locals := 0 } : Room)) (fun a U => a = #[(.int p0)] ∧ Z.Warmed39 U.vm ∧ U.heap = h0) (fun _ _ _ _ _ => True) (fun _ U o U' => ∃ v L, o = .returned v ∧ own_Q1 h0 n0 v U'.heap L ∧ FrameEnd U o U' L ({ frames := 0, cells := 0, slots := 0, locals := 0 } : Room).cells ({ frames := 0, cells := 0, slots := 0, locals := 0 } : Room).slots) := by
  refine MetFree.of_bodySF (plainFor_of_name own_pn0) hisR ?_
  intro p e s m args below meth c s₁ Bd hml0 hP hK
  obtain ⟨rfl, hZ, hh⟩ := hP
  have hx := Bd.exec
  have hby := Bd.bytes
  have hml : c.maxLocals = 3 := hml0
  have hown : s.vm.findClass "com/example/tandem_ledger/tandemledger/text/LineBreaksIsLineBreakPinLaw" = some m.cls := findClass_of_methodNamed Bd.named
  have hnm := (name_of_methodNamed Bd.named Bd.method).1
  have X0 : Stand p l e ({ frames := 0, cells := 0, slots := 0, locals := 0 } : Room) s m #[(.int p0)] below meth c s₁ [] 0 0 := Stand.of_body Bd
  have e0 : s₁.heap = h0 := by rw [← hh, Bd.state]; rfl
  have N0 := Fr.nil n0
  refine own_go (b := s₁.setTop (mkF m 0 #[.val (.int p0), .unset, .unset] [])) (fun t k => castTop (ef_own_rm1 m p0) k) ?_
  refine own_go (b := s₁.setTop (mkF m 12 #[.val (.int p0), .val (.int (p0 &&& (3 : Int32))), .val (.int (((p0.toUInt32 >>> ((2 : Int32) &&& 31).toUInt32).toInt32) &&& (7 : Int32)))] [(.int (p0 &&& (3 : Int32)))])) (fun t k => ?_) ?_
  · show Steps p.tables e below (s₁.setTop (mkF m 0 #[.val (.int p0), .unset, .unset] [])) _
    refine XS.iloadN X0.here hx rfl (hb hby d_own_rm1_0) rfl ?_
    show Steps p.tables e below (s₁.setTop (mkF m 1 #[.val (.int p0), .unset, .unset] [(.int p0)])) _
    refine XS.iconst X0.here hx rfl (hb hby d_own_rm1_1) ?_
    show Steps p.tables e below (s₁.setTop (mkF m 2 #[.val (.int p0), .unset, .unset] [(.int (3 : Int32)), (.int p0)])) _
    refine XS.iand X0.here hx rfl (hb hby d_own_rm1_2) rfl ?_
    show Steps p.tables e below (s₁.setTop (mkF m 3 #[.val (.int p0), .unset, .unset] [(.int (p0 &&& (3 : Int32)))])) _
    refine XS.istoreN X0.here hx rfl (hb hby d_own_rm1_3) rfl (l' := #[.val (.int p0), .val (.int (p0 &&& (3 : Int32))), .unset]) rfl ?_
    show Steps p.tables e below (s₁.setTop (mkF m 4 #[.val (.int p0), .val (.int (p0 &&& (3 : Int32))), .unset] [])) _
    refine XS.iloadN X0.here hx rfl (hb hby d_own_rm1_4) rfl ?_
    show Steps p.tables e below (s₁.setTop (mkF m 5 #[.val (.int p0), .val (.int (p0 &&& (3 : Int32))), .unset] [(.int p0)])) _
    refine XS.iconst X0.here hx rfl (hb hby d_own_rm1_5) ?_
    show Steps p.tables e below (s₁.setTop (mkF m 6 #[.val (.int p0), .val (.int (p0 &&& (3 : Int32))), .unset] [(.int (2 : Int32)), (.int p0)])) _
    refine XS.iushr X0.here hx rfl (hb hby d_own_rm1_6) rfl ?_
    show Steps p.tables e below (s₁.setTop (mkF m 7 #[.val (.int p0), .val (.int (p0 &&& (3 : Int32))), .unset] [(.int ((p0.toUInt32 >>> ((2 : Int32) &&& 31).toUInt32).toInt32))])) _
    refine XS.bipush X0.here hx rfl (hb hby d_own_rm1_7) ?_
    show Steps p.tables e below (s₁.setTop (mkF m 9 #[.val (.int p0), .val (.int (p0 &&& (3 : Int32))), .unset] [(.int (7 : Int32)), (.int ((p0.toUInt32 >>> ((2 : Int32) &&& 31).toUInt32).toInt32))])) _
    refine XS.iand X0.here hx rfl (hb hby d_own_rm1_9) rfl ?_
    show Steps p.tables e below (s₁.setTop (mkF m 10 #[.val (.int p0), .val (.int (p0 &&& (3 : Int32))), .unset] [(.int (((p0.toUInt32 >>> ((2 : Int32) &&& 31).toUInt32).toInt32) &&& (7 : Int32)))])) _
    refine XS.istoreN X0.here hx rfl (hb hby d_own_rm1_10) rfl (l' := #[.val (.int p0), .val (.int (p0 &&& (3 : Int32))), .val (.int (((p0.toUInt32 >>> ((2 : Int32) &&& 31).toUInt32).toInt32) &&& (7 : Int32)))]) rfl ?_
    show Steps p.tables e below (s₁.setTop (mkF m 11 #[.val (.int p0), .val (.int (p0 &&& (3 : Int32))), .val (.int (((p0.toUInt32 >>> ((2 : Int32) &&& 31).toUInt32).toInt32) &&& (7 : Int32)))] [])) _
    refine XS.iloadN X0.here hx rfl (hb hby d_own_rm1_11) rfl ?_
    show Steps p.tables e below (s₁.setTop (mkF m 12 #[.val (.int p0), .val (.int (p0 &&& (3 : Int32))), .val (.int (((p0.toUInt32 >>> ((2 : Int32) &&& 31).toUInt32).toInt32) &&& (7 : Int32)))] [(.int (p0 &&& (3 : Int32)))])) t
    exact k
  by_cases hc12_1 : (p0 &&& (3 : Int32)) = (0 : Int32)
  · obtain ⟨fs, hr, hrun, hended, hW, hsame⟩ := X0.leave (v := some (.int (nar .char (((8 : Int32) + (((p0.toUInt32 >>> ((2 : Int32) &&& 31).toUInt32).toInt32) &&& (7 : Int32))).toUInt32.toUInt16.toUInt32.toInt32)))) (fun h => by rw [Bd.returns] at h; cases h)
    refine ⟨_, _, ?_, hrun, hended, _, _, rfl, ?_, ⟨_, rfl⟩, hW, hsame.mono (by decide) (by decide)⟩
    · show Steps p.tables e below (s₁.setTop (mkF m 12 #[.val (.int p0), .val (.int (p0 &&& (3 : Int32))), .val (.int (((p0.toUInt32 >>> ((2 : Int32) &&& 31).toUInt32).toInt32) &&& (7 : Int32)))] [(.int (p0 &&& (3 : Int32)))])) _
      refine XS.ifNo X0.here hx rfl (hb hby d_own_rm1_12) rfl ((if0 _ _).trans (teq hc12_1).2) ?_
      show Steps p.tables e below (s₁.setTop (mkF m 15 #[.val (.int p0), .val (.int (p0 &&& (3 : Int32))), .val (.int (((p0.toUInt32 >>> ((2 : Int32) &&& 31).toUInt32).toInt32) &&& (7 : Int32)))] [])) _
      refine XS.bipush X0.here hx rfl (hb hby d_own_rm1_15) ?_
      show Steps p.tables e below (s₁.setTop (mkF m 17 #[.val (.int p0), .val (.int (p0 &&& (3 : Int32))), .val (.int (((p0.toUInt32 >>> ((2 : Int32) &&& 31).toUInt32).toInt32) &&& (7 : Int32)))] [(.int (8 : Int32))])) _
      refine XS.iloadN X0.here hx rfl (hb hby d_own_rm1_17) rfl ?_
      show Steps p.tables e below (s₁.setTop (mkF m 18 #[.val (.int p0), .val (.int (p0 &&& (3 : Int32))), .val (.int (((p0.toUInt32 >>> ((2 : Int32) &&& 31).toUInt32).toInt32) &&& (7 : Int32)))] [(.int (((p0.toUInt32 >>> ((2 : Int32) &&& 31).toUInt32).toInt32) &&& (7 : Int32))), (.int (8 : Int32))])) _
      refine XS.iadd X0.here hx rfl (hb hby d_own_rm1_18) rfl ?_
      show Steps p.tables e below (s₁.setTop (mkF m 19 #[.val (.int p0), .val (.int (p0 &&& (3 : Int32))), .val (.int (((p0.toUInt32 >>> ((2 : Int32) &&& 31).toUInt32).toInt32) &&& (7 : Int32)))] [(.int ((8 : Int32) + (((p0.toUInt32 >>> ((2 : Int32) &&& 31).toUInt32).toInt32) &&& (7 : Int32))))])) _
      refine XS.i2c X0.here hx rfl (hb hby d_own_rm1_19) rfl ?_
      show Steps p.tables e below (s₁.setTop (mkF m 20 #[.val (.int p0), .val (.int (p0 &&& (3 : Int32))), .val (.int (((p0.toUInt32 >>> ((2 : Int32) &&& 31).toUInt32).toInt32) &&& (7 : Int32)))] [(.int (((8 : Int32) + (((p0.toUInt32 >>> ((2 : Int32) &&& 31).toUInt32).toInt32) &&& (7 : Int32))).toUInt32.toUInt16.toUInt32.toInt32))])) _
      exact retN X0 hx (t := .char) Bd.returns (by simp) (hb hby d_own_rm1_20) hr
    · show own_Q1 h0 n0 _ s₁.heap _
      rw [e0]
      exact ⟨⟨_, rfl⟩, N0, rfl⟩
  · refine own_go (b := s₁.setTop (mkF m 23 #[.val (.int p0), .val (.int (p0 &&& (3 : Int32))), .val (.int (((p0.toUInt32 >>> ((2 : Int32) &&& 31).toUInt32).toInt32) &&& (7 : Int32)))] [(.int (1 : Int32)), (.int (p0 &&& (3 : Int32)))])) (fun t k => ?_) ?_
    · show Steps p.tables e below (s₁.setTop (mkF m 12 #[.val (.int p0), .val (.int (p0 &&& (3 : Int32))), .val (.int (((p0.toUInt32 >>> ((2 : Int32) &&& 31).toUInt32).toInt32) &&& (7 : Int32)))] [(.int (p0 &&& (3 : Int32)))])) _
      refine XS.ifYes X0.here hx rfl (pc0 := 12) (pc' := 21) rfl (hb hby d_own_rm1_12) rfl ((if0 _ _).trans (feq hc12_1).2) (by decide) (by decide) ?_
      show Steps p.tables e below (s₁.setTop (mkF m 21 #[.val (.int p0), .val (.int (p0 &&& (3 : Int32))), .val (.int (((p0.toUInt32 >>> ((2 : Int32) &&& 31).toUInt32).toInt32) &&& (7 : Int32)))] [])) _
      refine XS.iloadN X0.here hx rfl (hb hby d_own_rm1_21) rfl ?_
      show Steps p.tables e below (s₁.setTop (mkF m 22 #[.val (.int p0), .val (.int (p0 &&& (3 : Int32))), .val (.int (((p0.toUInt32 >>> ((2 : Int32) &&& 31).toUInt32).toInt32) &&& (7 : Int32)))] [(.int (p0 &&& (3 : Int32)))])) _
      refine XS.iconst X0.here hx rfl (hb hby d_own_rm1_22) ?_
      show Steps p.tables e below (s₁.setTop (mkF m 23 #[.val (.int p0), .val (.int (p0 &&& (3 : Int32))), .val (.int (((p0.toUInt32 >>> ((2 : Int32) &&& 31).toUInt32).toInt32) &&& (7 : Int32)))] [(.int (1 : Int32)), (.int (p0 &&& (3 : Int32)))])) t
      exact k
    by_cases hc23_2 : (p0 &&& (3 : Int32)) = (1 : Int32)
    · obtain ⟨fs, hr, hrun, hended, hW, hsame⟩ := X0.leave (v := some (.int (nar .char (((26 : Int32) + (((p0.toUInt32 >>> ((2 : Int32) &&& 31).toUInt32).toInt32) &&& (7 : Int32))).toUInt32.toUInt16.toUInt32.toInt32)))) (fun h => by rw [Bd.returns] at h; cases h)
      refine ⟨_, _, ?_, hrun, hended, _, _, rfl, ?_, ⟨_, rfl⟩, hW, hsame.mono (by decide) (by decide)⟩
      · show Steps p.tables e below (s₁.setTop (mkF m 23 #[.val (.int p0), .val (.int (p0 &&& (3 : Int32))), .val (.int (((p0.toUInt32 >>> ((2 : Int32) &&& 31).toUInt32).toInt32) &&& (7 : Int32)))] [(.int (1 : Int32)), (.int (p0 &&& (3 : Int32)))])) _
        refine XS.icmpNo X0.here hx rfl (hb hby d_own_rm1_23) rfl (teq hc23_2).2 ?_
        show Steps p.tables e below (s₁.setTop (mkF m 26 #[.val (.int p0), .val (.int (p0 &&& (3 : Int32))), .val (.int (((p0.toUInt32 >>> ((2 : Int32) &&& 31).toUInt32).toInt32) &&& (7 : Int32)))] [])) _
        refine XS.bipush X0.here hx rfl (hb hby d_own_rm1_26) ?_
        show Steps p.tables e below (s₁.setTop (mkF m 28 #[.val (.int p0), .val (.int (p0 &&& (3 : Int32))), .val (.int (((p0.toUInt32 >>> ((2 : Int32) &&& 31).toUInt32).toInt32) &&& (7 : Int32)))] [(.int (26 : Int32))])) _
        refine XS.iloadN X0.here hx rfl (hb hby d_own_rm1_28) rfl ?_
        show Steps p.tables e below (s₁.setTop (mkF m 29 #[.val (.int p0), .val (.int (p0 &&& (3 : Int32))), .val (.int (((p0.toUInt32 >>> ((2 : Int32) &&& 31).toUInt32).toInt32) &&& (7 : Int32)))] [(.int (((p0.toUInt32 >>> ((2 : Int32) &&& 31).toUInt32).toInt32) &&& (7 : Int32))), (.int (26 : Int32))])) _
        refine XS.iadd X0.here hx rfl (hb hby d_own_rm1_29) rfl ?_
        show Steps p.tables e below (s₁.setTop (mkF m 30 #[.val (.int p0), .val (.int (p0 &&& (3 : Int32))), .val (.int (((p0.toUInt32 >>> ((2 : Int32) &&& 31).toUInt32).toInt32) &&& (7 : Int32)))] [(.int ((26 : Int32) + (((p0.toUInt32 >>> ((2 : Int32) &&& 31).toUInt32).toInt32) &&& (7 : Int32))))])) _
        refine XS.i2c X0.here hx rfl (hb hby d_own_rm1_30) rfl ?_
        show Steps p.tables e below (s₁.setTop (mkF m 31 #[.val (.int p0), .val (.int (p0 &&& (3 : Int32))), .val (.int (((p0.toUInt32 >>> ((2 : Int32) &&& 31).toUInt32).toInt32) &&& (7 : Int32)))] [(.int (((26 : Int32) + (((p0.toUInt32 >>> ((2 : Int32) &&& 31).toUInt32).toInt32) &&& (7 : Int32))).toUInt32.toUInt16.toUInt32.toInt32))])) _
        exact retN X0 hx (t := .char) Bd.returns (by simp) (hb hby d_own_rm1_31) hr
      · show own_Q1 h0 n0 _ s₁.heap _
        rw [e0]
        exact ⟨⟨_, rfl⟩, N0, rfl⟩
    · refine own_go (b := s₁.setTop (mkF m 34 #[.val (.int p0), .val (.int (p0 &&& (3 : Int32))), .val (.int (((p0.toUInt32 >>> ((2 : Int32) &&& 31).toUInt32).toInt32) &&& (7 : Int32)))] [(.int (2 : Int32)), (.int (p0 &&& (3 : Int32)))])) (fun t k => ?_) ?_
      · show Steps p.tables e below (s₁.setTop (mkF m 23 #[.val (.int p0), .val (.int (p0 &&& (3 : Int32))), .val (.int (((p0.toUInt32 >>> ((2 : Int32) &&& 31).toUInt32).toInt32) &&& (7 : Int32)))] [(.int (1 : Int32)), (.int (p0 &&& (3 : Int32)))])) _
        refine XS.icmpYes X0.here hx rfl (pc0 := 23) (pc' := 32) rfl (hb hby d_own_rm1_23) rfl (feq hc23_2).2 (by decide) (by decide) ?_
        show Steps p.tables e below (s₁.setTop (mkF m 32 #[.val (.int p0), .val (.int (p0 &&& (3 : Int32))), .val (.int (((p0.toUInt32 >>> ((2 : Int32) &&& 31).toUInt32).toInt32) &&& (7 : Int32)))] [])) _
        refine XS.iloadN X0.here hx rfl (hb hby d_own_rm1_32) rfl ?_
        show Steps p.tables e below (s₁.setTop (mkF m 33 #[.val (.int p0), .val (.int (p0 &&& (3 : Int32))), .val (.int (((p0.toUInt32 >>> ((2 : Int32) &&& 31).toUInt32).toInt32) &&& (7 : Int32)))] [(.int (p0 &&& (3 : Int32)))])) _
        refine XS.iconst X0.here hx rfl (hb hby d_own_rm1_33) ?_
        show Steps p.tables e below (s₁.setTop (mkF m 34 #[.val (.int p0), .val (.int (p0 &&& (3 : Int32))), .val (.int (((p0.toUInt32 >>> ((2 : Int32) &&& 31).toUInt32).toInt32) &&& (7 : Int32)))] [(.int (2 : Int32)), (.int (p0 &&& (3 : Int32)))])) t
        exact k
      by_cases hc34_3 : (p0 &&& (3 : Int32)) = (2 : Int32)
      · obtain ⟨fs, hr, hrun, hended, hW, hsame⟩ := X0.leave (v := some (.int (nar .char (((131 : Int32) + ((((p0.toUInt32 >>> ((2 : Int32) &&& 31).toUInt32).toInt32) &&& (7 : Int32)) &&& (3 : Int32))).toUInt32.toUInt16.toUInt32.toInt32)))) (fun h => by rw [Bd.returns] at h; cases h)
        refine ⟨_, _, ?_, hrun, hended, _, _, rfl, ?_, ⟨_, rfl⟩, hW, hsame.mono (by decide) (by decide)⟩
        · show Steps p.tables e below (s₁.setTop (mkF m 34 #[.val (.int p0), .val (.int (p0 &&& (3 : Int32))), .val (.int (((p0.toUInt32 >>> ((2 : Int32) &&& 31).toUInt32).toInt32) &&& (7 : Int32)))] [(.int (2 : Int32)), (.int (p0 &&& (3 : Int32)))])) _
          refine XS.icmpNo X0.here hx rfl (hb hby d_own_rm1_34) rfl (teq hc34_3).2 ?_
          show Steps p.tables e below (s₁.setTop (mkF m 37 #[.val (.int p0), .val (.int (p0 &&& (3 : Int32))), .val (.int (((p0.toUInt32 >>> ((2 : Int32) &&& 31).toUInt32).toInt32) &&& (7 : Int32)))] [])) _
          refine XS.sipush X0.here hx rfl (hb hby d_own_rm1_37) ?_
          show Steps p.tables e below (s₁.setTop (mkF m 40 #[.val (.int p0), .val (.int (p0 &&& (3 : Int32))), .val (.int (((p0.toUInt32 >>> ((2 : Int32) &&& 31).toUInt32).toInt32) &&& (7 : Int32)))] [(.int (131 : Int32))])) _
          refine XS.iloadN X0.here hx rfl (hb hby d_own_rm1_40) rfl ?_
          show Steps p.tables e below (s₁.setTop (mkF m 41 #[.val (.int p0), .val (.int (p0 &&& (3 : Int32))), .val (.int (((p0.toUInt32 >>> ((2 : Int32) &&& 31).toUInt32).toInt32) &&& (7 : Int32)))] [(.int (((p0.toUInt32 >>> ((2 : Int32) &&& 31).toUInt32).toInt32) &&& (7 : Int32))), (.int (131 : Int32))])) _
          refine XS.iconst X0.here hx rfl (hb hby d_own_rm1_41) ?_
          show Steps p.tables e below (s₁.setTop (mkF m 42 #[.val (.int p0), .val (.int (p0 &&& (3 : Int32))), .val (.int (((p0.toUInt32 >>> ((2 : Int32) &&& 31).toUInt32).toInt32) &&& (7 : Int32)))] [(.int (3 : Int32)), (.int (((p0.toUInt32 >>> ((2 : Int32) &&& 31).toUInt32).toInt32) &&& (7 : Int32))), (.int (131 : Int32))])) _
          refine XS.iand X0.here hx rfl (hb hby d_own_rm1_42) rfl ?_
          show Steps p.tables e below (s₁.setTop (mkF m 43 #[.val (.int p0), .val (.int (p0 &&& (3 : Int32))), .val (.int (((p0.toUInt32 >>> ((2 : Int32) &&& 31).toUInt32).toInt32) &&& (7 : Int32)))] [(.int ((((p0.toUInt32 >>> ((2 : Int32) &&& 31).toUInt32).toInt32) &&& (7 : Int32)) &&& (3 : Int32))), (.int (131 : Int32))])) _
          refine XS.iadd X0.here hx rfl (hb hby d_own_rm1_43) rfl ?_
          show Steps p.tables e below (s₁.setTop (mkF m 44 #[.val (.int p0), .val (.int (p0 &&& (3 : Int32))), .val (.int (((p0.toUInt32 >>> ((2 : Int32) &&& 31).toUInt32).toInt32) &&& (7 : Int32)))] [(.int ((131 : Int32) + ((((p0.toUInt32 >>> ((2 : Int32) &&& 31).toUInt32).toInt32) &&& (7 : Int32)) &&& (3 : Int32))))])) _
          refine XS.i2c X0.here hx rfl (hb hby d_own_rm1_44) rfl ?_
          show Steps p.tables e below (s₁.setTop (mkF m 45 #[.val (.int p0), .val (.int (p0 &&& (3 : Int32))), .val (.int (((p0.toUInt32 >>> ((2 : Int32) &&& 31).toUInt32).toInt32) &&& (7 : Int32)))] [(.int (((131 : Int32) + ((((p0.toUInt32 >>> ((2 : Int32) &&& 31).toUInt32).toInt32) &&& (7 : Int32)) &&& (3 : Int32))).toUInt32.toUInt16.toUInt32.toInt32))])) _
          exact retN X0 hx (t := .char) Bd.returns (by simp) (hb hby d_own_rm1_45) hr
        · show own_Q1 h0 n0 _ s₁.heap _
          rw [e0]
          exact ⟨⟨_, rfl⟩, N0, rfl⟩
      · obtain ⟨fs, hr, hrun, hended, hW, hsame⟩ := X0.leave (v := some (.int (nar .char (((8230 : Int32) + (((p0.toUInt32 >>> ((2 : Int32) &&& 31).toUInt32).toInt32) &&& (7 : Int32))).toUInt32.toUInt16.toUInt32.toInt32)))) (fun h => by rw [Bd.returns] at h; cases h)
        refine ⟨_, _, ?_, hrun, hended, _, _, rfl, ?_, ⟨_, rfl⟩, hW, hsame.mono (by decide) (by decide)⟩
        · show Steps p.tables e below (s₁.setTop (mkF m 34 #[.val (.int p0), .val (.int (p0 &&& (3 : Int32))), .val (.int (((p0.toUInt32 >>> ((2 : Int32) &&& 31).toUInt32).toInt32) &&& (7 : Int32)))] [(.int (2 : Int32)), (.int (p0 &&& (3 : Int32)))])) _
          refine XS.icmpYes X0.here hx rfl (pc0 := 34) (pc' := 46) rfl (hb hby d_own_rm1_34) rfl (feq hc34_3).2 (by decide) (by decide) ?_
          show Steps p.tables e below (s₁.setTop (mkF m 46 #[.val (.int p0), .val (.int (p0 &&& (3 : Int32))), .val (.int (((p0.toUInt32 >>> ((2 : Int32) &&& 31).toUInt32).toInt32) &&& (7 : Int32)))] [])) _
          refine XS.sipush X0.here hx rfl (hb hby d_own_rm1_46) ?_
          show Steps p.tables e below (s₁.setTop (mkF m 49 #[.val (.int p0), .val (.int (p0 &&& (3 : Int32))), .val (.int (((p0.toUInt32 >>> ((2 : Int32) &&& 31).toUInt32).toInt32) &&& (7 : Int32)))] [(.int (8230 : Int32))])) _
          refine XS.iloadN X0.here hx rfl (hb hby d_own_rm1_49) rfl ?_
          show Steps p.tables e below (s₁.setTop (mkF m 50 #[.val (.int p0), .val (.int (p0 &&& (3 : Int32))), .val (.int (((p0.toUInt32 >>> ((2 : Int32) &&& 31).toUInt32).toInt32) &&& (7 : Int32)))] [(.int (((p0.toUInt32 >>> ((2 : Int32) &&& 31).toUInt32).toInt32) &&& (7 : Int32))), (.int (8230 : Int32))])) _
          refine XS.iadd X0.here hx rfl (hb hby d_own_rm1_50) rfl ?_
          show Steps p.tables e below (s₁.setTop (mkF m 51 #[.val (.int p0), .val (.int (p0 &&& (3 : Int32))), .val (.int (((p0.toUInt32 >>> ((2 : Int32) &&& 31).toUInt32).toInt32) &&& (7 : Int32)))] [(.int ((8230 : Int32) + (((p0.toUInt32 >>> ((2 : Int32) &&& 31).toUInt32).toInt32) &&& (7 : Int32))))])) _
          refine XS.i2c X0.here hx rfl (hb hby d_own_rm1_51) rfl ?_
          show Steps p.tables e below (s₁.setTop (mkF m 52 #[.val (.int p0), .val (.int (p0 &&& (3 : Int32))), .val (.int (((p0.toUInt32 >>> ((2 : Int32) &&& 31).toUInt32).toInt32) &&& (7 : Int32)))] [(.int (((8230 : Int32) + (((p0.toUInt32 >>> ((2 : Int32) &&& 31).toUInt32).toInt32) &&& (7 : Int32))).toUInt32.toUInt16.toUInt32.toInt32))])) _
          exact retN X0 hx (t := .char) Bd.returns (by simp) (hb hby d_own_rm1_52) hr
        · show own_Q1 h0 n0 _ s₁.heap _
          rw [e0]
          exact ⟨⟨_, rfl⟩, N0, rfl⟩
def own_Q2 (p0 : Int32) (h0 : Heap) (n0 : Nat) (v : Option Value) (h : Heap) (L : List Loc) : Prop := v = some (.int (own_F p0)) ∧ Fr n0 L ∧ h = h0
theorem d_own_rm2_0 : decode prog_108_method_3_code 0 = .ok (.iload_n 0, 1) := by decide +kernel
theorem d_own_rm2_1 : decode prog_108_method_3_code 1 = .ok (.lookupswitch 95 #[(10, 91), (11, 91), (12, 91), (13, 91), (28, 91), (29, 91), (30, 91), (133, 91), (8232, 91), (8233, 91)], 91) := by decide +kernel
theorem d_own_rm2_92 : decode prog_108_method_3_code 92 = .ok (.iconst 1, 1) := by decide +kernel
theorem d_own_rm2_93 : decode prog_108_method_3_code 93 = .ok (.goto 4, 3) := by decide +kernel
theorem d_own_rm2_96 : decode prog_108_method_3_code 96 = .ok (.iconst 0, 1) := by decide +kernel
theorem d_own_rm2_97 : decode prog_108_method_3_code 97 = .ok (.ireturn, 1) := by decide +kernel
theorem ef_own_rm2 (m : MethodId) (x0 : Int32) : entryFrame m #[(.int x0)] 1 = mkF m 0 #[.val (.int x0)] [] := by first | (simp [entryFrame, mkF, argsToLocals, Value.category]; done) | rfl
set_option maxRecDepth 65536 in
set_option maxHeartbeats 40000000 in
theorem own_rm2 (l : Launch) (Z : State) (a0 : Array Value) (hw : ∀ d ∈ tables_1, d.before a0 Z = true) (ws : List Jvm.Cond) (p0 : Int32)  (h0 : Heap) (n0 : Nat) (Z0 : n0 ≤ h0.size)  :
    MetFree l (⟨"com/example/tandem_ledger/tandemledger/text/LineBreaks", "isLineBreak", "(C)Z"⟩ : MethodName) (head1 (Jvm.Cond.code (⟨"com/example/tandem_ledger/tandemledger/text/LineBreaks", "isLineBreak", "(C)Z"⟩ : MethodName) prog_108_method_3_code 1 (some .boolean) :: ws) ({ frames := 0, cells := 0, slots := 0, locals := 0 } : Room)) (fun a U => a = #[(.int p0)] ∧ Z.Warmed39 U.vm ∧ U.heap = h0) (fun _ _ _ _ _ => True) (fun _ U o U' => ∃ v L, o = .returned v ∧ own_Q2 p0 h0 n0 v U'.heap L ∧ FrameEnd U o U' L ({ frames := 0, cells := 0, slots := 0, locals := 0 } : Room).cells ({ frames := 0, cells := 0, slots := 0, locals := 0 } : Room).slots) := by
  refine MetFree.of_bodySF (plainFor_of_name own_pn1) hisR ?_
  intro p e s m args below meth c s₁ Bd hml0 hP hK
  obtain ⟨rfl, hZ, hh⟩ := hP
  have hx := Bd.exec
  have hby := Bd.bytes
  have hml : c.maxLocals = 1 := hml0
  have hown : s.vm.findClass "com/example/tandem_ledger/tandemledger/text/LineBreaks" = some m.cls := findClass_of_methodNamed Bd.named
  have hnm := (name_of_methodNamed Bd.named Bd.method).1
  have X0 : Stand p l e ({ frames := 0, cells := 0, slots := 0, locals := 0 } : Room) s m #[(.int p0)] below meth c s₁ [] 0 0 := Stand.of_body Bd
  have e0 : s₁.heap = h0 := by rw [← hh, Bd.state]; rfl
  have N0 := Fr.nil n0
  refine own_go (b := s₁.setTop (mkF m 0 #[.val (.int p0)] [])) (fun t k => castTop (ef_own_rm2 m p0) k) ?_
  refine own_go (b := s₁.setTop (mkF m 1 #[.val (.int p0)] [(.int p0)])) (fun t k => ?_) ?_
  · show Steps p.tables e below (s₁.setTop (mkF m 0 #[.val (.int p0)] [])) _
    refine XS.iloadN X0.here hx rfl (hb hby d_own_rm2_0) rfl ?_
    show Steps p.tables e below (s₁.setTop (mkF m 1 #[.val (.int p0)] [(.int p0)])) t
    exact k
  by_cases hk10_1 : p0 = (10 : Int32)
  · refine own_go (b := s₁.setTop (mkF m 92 #[.val (.int p0)] [])) (fun t k => X0.lookupswitchHit hx (g := (mkF m 1 #[.val (.int p0)] [(.int p0)])) rfl rfl (hb hby d_own_rm2_1) (by decide) (a := 10) (off := 91) (by rw [hk10_1]; rfl) (by show (0 : Int) ≤ ((1 : Nat) : Int) + 91; decide) t k) ?_
    obtain ⟨fs, hr, hrun, hended, hW, hsame⟩ := X0.leave (v := some (.int (1 : Int32))) (fun h => by rw [Bd.returns] at h; cases h)
    refine ⟨_, _, ?_, hrun, hended, _, _, rfl, ?_, ⟨_, rfl⟩, hW, hsame.mono (by decide) (by decide)⟩
    · show Steps p.tables e below (s₁.setTop (mkF m 92 #[.val (.int p0)] [])) _
      refine XS.iconst X0.here hx rfl (hb hby d_own_rm2_92) ?_
      show Steps p.tables e below (s₁.setTop (mkF m 93 #[.val (.int p0)] [(.int (1 : Int32))])) _
      refine XS.goto X0.here hx rfl (pc0 := 93) (pc' := 97) rfl (hb hby d_own_rm2_93) (by decide) (by decide) ?_
      show Steps p.tables e below (s₁.setTop (mkF m 97 #[.val (.int p0)] [(.int (1 : Int32))])) _
      exact retN X0 hx (t := .boolean) Bd.returns (by simp) (hb hby d_own_rm2_97) hr
    · show own_Q2 p0 h0 n0 _ s₁.heap _
      rw [e0]
      exact ⟨by simp only [own_F, if_pos hk10_1], N0, rfl⟩
  by_cases hk11_2 : p0 = (11 : Int32)
  · refine own_go (b := s₁.setTop (mkF m 92 #[.val (.int p0)] [])) (fun t k => X0.lookupswitchHit hx (g := (mkF m 1 #[.val (.int p0)] [(.int p0)])) rfl rfl (hb hby d_own_rm2_1) (by decide) (a := 11) (off := 91) (by rw [hk11_2]; rfl) (by show (0 : Int) ≤ ((1 : Nat) : Int) + 91; decide) t k) ?_
    obtain ⟨fs, hr, hrun, hended, hW, hsame⟩ := X0.leave (v := some (.int (1 : Int32))) (fun h => by rw [Bd.returns] at h; cases h)
    refine ⟨_, _, ?_, hrun, hended, _, _, rfl, ?_, ⟨_, rfl⟩, hW, hsame.mono (by decide) (by decide)⟩
    · show Steps p.tables e below (s₁.setTop (mkF m 92 #[.val (.int p0)] [])) _
      refine XS.iconst X0.here hx rfl (hb hby d_own_rm2_92) ?_
      show Steps p.tables e below (s₁.setTop (mkF m 93 #[.val (.int p0)] [(.int (1 : Int32))])) _
      refine XS.goto X0.here hx rfl (pc0 := 93) (pc' := 97) rfl (hb hby d_own_rm2_93) (by decide) (by decide) ?_
      show Steps p.tables e below (s₁.setTop (mkF m 97 #[.val (.int p0)] [(.int (1 : Int32))])) _
      exact retN X0 hx (t := .boolean) Bd.returns (by simp) (hb hby d_own_rm2_97) hr
    · show own_Q2 p0 h0 n0 _ s₁.heap _
      rw [e0]
      exact ⟨by simp only [own_F, if_neg hk10_1, if_pos hk11_2], N0, rfl⟩
  by_cases hk12_3 : p0 = (12 : Int32)
  · refine own_go (b := s₁.setTop (mkF m 92 #[.val (.int p0)] [])) (fun t k => X0.lookupswitchHit hx (g := (mkF m 1 #[.val (.int p0)] [(.int p0)])) rfl rfl (hb hby d_own_rm2_1) (by decide) (a := 12) (off := 91) (by rw [hk12_3]; rfl) (by show (0 : Int) ≤ ((1 : Nat) : Int) + 91; decide) t k) ?_
    obtain ⟨fs, hr, hrun, hended, hW, hsame⟩ := X0.leave (v := some (.int (1 : Int32))) (fun h => by rw [Bd.returns] at h; cases h)
    refine ⟨_, _, ?_, hrun, hended, _, _, rfl, ?_, ⟨_, rfl⟩, hW, hsame.mono (by decide) (by decide)⟩
    · show Steps p.tables e below (s₁.setTop (mkF m 92 #[.val (.int p0)] [])) _
      refine XS.iconst X0.here hx rfl (hb hby d_own_rm2_92) ?_
      show Steps p.tables e below (s₁.setTop (mkF m 93 #[.val (.int p0)] [(.int (1 : Int32))])) _
      refine XS.goto X0.here hx rfl (pc0 := 93) (pc' := 97) rfl (hb hby d_own_rm2_93) (by decide) (by decide) ?_
      show Steps p.tables e below (s₁.setTop (mkF m 97 #[.val (.int p0)] [(.int (1 : Int32))])) _
      exact retN X0 hx (t := .boolean) Bd.returns (by simp) (hb hby d_own_rm2_97) hr
    · show own_Q2 p0 h0 n0 _ s₁.heap _
      rw [e0]
      exact ⟨by simp only [own_F, if_neg hk10_1, if_neg hk11_2, if_pos hk12_3], N0, rfl⟩
  by_cases hk13_4 : p0 = (13 : Int32)
  · refine own_go (b := s₁.setTop (mkF m 92 #[.val (.int p0)] [])) (fun t k => X0.lookupswitchHit hx (g := (mkF m 1 #[.val (.int p0)] [(.int p0)])) rfl rfl (hb hby d_own_rm2_1) (by decide) (a := 13) (off := 91) (by rw [hk13_4]; rfl) (by show (0 : Int) ≤ ((1 : Nat) : Int) + 91; decide) t k) ?_
    obtain ⟨fs, hr, hrun, hended, hW, hsame⟩ := X0.leave (v := some (.int (1 : Int32))) (fun h => by rw [Bd.returns] at h; cases h)
    refine ⟨_, _, ?_, hrun, hended, _, _, rfl, ?_, ⟨_, rfl⟩, hW, hsame.mono (by decide) (by decide)⟩
    · show Steps p.tables e below (s₁.setTop (mkF m 92 #[.val (.int p0)] [])) _
      refine XS.iconst X0.here hx rfl (hb hby d_own_rm2_92) ?_
      show Steps p.tables e below (s₁.setTop (mkF m 93 #[.val (.int p0)] [(.int (1 : Int32))])) _
      refine XS.goto X0.here hx rfl (pc0 := 93) (pc' := 97) rfl (hb hby d_own_rm2_93) (by decide) (by decide) ?_
      show Steps p.tables e below (s₁.setTop (mkF m 97 #[.val (.int p0)] [(.int (1 : Int32))])) _
      exact retN X0 hx (t := .boolean) Bd.returns (by simp) (hb hby d_own_rm2_97) hr
    · show own_Q2 p0 h0 n0 _ s₁.heap _
      rw [e0]
      exact ⟨by simp only [own_F, if_neg hk10_1, if_neg hk11_2, if_neg hk12_3, if_pos hk13_4], N0, rfl⟩
  by_cases hk28_5 : p0 = (28 : Int32)
  · refine own_go (b := s₁.setTop (mkF m 92 #[.val (.int p0)] [])) (fun t k => X0.lookupswitchHit hx (g := (mkF m 1 #[.val (.int p0)] [(.int p0)])) rfl rfl (hb hby d_own_rm2_1) (by decide) (a := 28) (off := 91) (by rw [hk28_5]; rfl) (by show (0 : Int) ≤ ((1 : Nat) : Int) + 91; decide) t k) ?_
    obtain ⟨fs, hr, hrun, hended, hW, hsame⟩ := X0.leave (v := some (.int (1 : Int32))) (fun h => by rw [Bd.returns] at h; cases h)
    refine ⟨_, _, ?_, hrun, hended, _, _, rfl, ?_, ⟨_, rfl⟩, hW, hsame.mono (by decide) (by decide)⟩
    · show Steps p.tables e below (s₁.setTop (mkF m 92 #[.val (.int p0)] [])) _
      refine XS.iconst X0.here hx rfl (hb hby d_own_rm2_92) ?_
      show Steps p.tables e below (s₁.setTop (mkF m 93 #[.val (.int p0)] [(.int (1 : Int32))])) _
      refine XS.goto X0.here hx rfl (pc0 := 93) (pc' := 97) rfl (hb hby d_own_rm2_93) (by decide) (by decide) ?_
      show Steps p.tables e below (s₁.setTop (mkF m 97 #[.val (.int p0)] [(.int (1 : Int32))])) _
      exact retN X0 hx (t := .boolean) Bd.returns (by simp) (hb hby d_own_rm2_97) hr
    · show own_Q2 p0 h0 n0 _ s₁.heap _
      rw [e0]
      exact ⟨by simp only [own_F, if_neg hk10_1, if_neg hk11_2, if_neg hk12_3, if_neg hk13_4, if_pos hk28_5], N0, rfl⟩
  by_cases hk29_6 : p0 = (29 : Int32)
  · refine own_go (b := s₁.setTop (mkF m 92 #[.val (.int p0)] [])) (fun t k => X0.lookupswitchHit hx (g := (mkF m 1 #[.val (.int p0)] [(.int p0)])) rfl rfl (hb hby d_own_rm2_1) (by decide) (a := 29) (off := 91) (by rw [hk29_6]; rfl) (by show (0 : Int) ≤ ((1 : Nat) : Int) + 91; decide) t k) ?_
    obtain ⟨fs, hr, hrun, hended, hW, hsame⟩ := X0.leave (v := some (.int (1 : Int32))) (fun h => by rw [Bd.returns] at h; cases h)
    refine ⟨_, _, ?_, hrun, hended, _, _, rfl, ?_, ⟨_, rfl⟩, hW, hsame.mono (by decide) (by decide)⟩
    · show Steps p.tables e below (s₁.setTop (mkF m 92 #[.val (.int p0)] [])) _
      refine XS.iconst X0.here hx rfl (hb hby d_own_rm2_92) ?_
      show Steps p.tables e below (s₁.setTop (mkF m 93 #[.val (.int p0)] [(.int (1 : Int32))])) _
      refine XS.goto X0.here hx rfl (pc0 := 93) (pc' := 97) rfl (hb hby d_own_rm2_93) (by decide) (by decide) ?_
      show Steps p.tables e below (s₁.setTop (mkF m 97 #[.val (.int p0)] [(.int (1 : Int32))])) _
      exact retN X0 hx (t := .boolean) Bd.returns (by simp) (hb hby d_own_rm2_97) hr
    · show own_Q2 p0 h0 n0 _ s₁.heap _
      rw [e0]
      exact ⟨by simp only [own_F, if_neg hk10_1, if_neg hk11_2, if_neg hk12_3, if_neg hk13_4, if_neg hk28_5, if_pos hk29_6], N0, rfl⟩
  by_cases hk30_7 : p0 = (30 : Int32)
  · refine own_go (b := s₁.setTop (mkF m 92 #[.val (.int p0)] [])) (fun t k => X0.lookupswitchHit hx (g := (mkF m 1 #[.val (.int p0)] [(.int p0)])) rfl rfl (hb hby d_own_rm2_1) (by decide) (a := 30) (off := 91) (by rw [hk30_7]; rfl) (by show (0 : Int) ≤ ((1 : Nat) : Int) + 91; decide) t k) ?_
    obtain ⟨fs, hr, hrun, hended, hW, hsame⟩ := X0.leave (v := some (.int (1 : Int32))) (fun h => by rw [Bd.returns] at h; cases h)
    refine ⟨_, _, ?_, hrun, hended, _, _, rfl, ?_, ⟨_, rfl⟩, hW, hsame.mono (by decide) (by decide)⟩
    · show Steps p.tables e below (s₁.setTop (mkF m 92 #[.val (.int p0)] [])) _
      refine XS.iconst X0.here hx rfl (hb hby d_own_rm2_92) ?_
      show Steps p.tables e below (s₁.setTop (mkF m 93 #[.val (.int p0)] [(.int (1 : Int32))])) _
      refine XS.goto X0.here hx rfl (pc0 := 93) (pc' := 97) rfl (hb hby d_own_rm2_93) (by decide) (by decide) ?_
      show Steps p.tables e below (s₁.setTop (mkF m 97 #[.val (.int p0)] [(.int (1 : Int32))])) _
      exact retN X0 hx (t := .boolean) Bd.returns (by simp) (hb hby d_own_rm2_97) hr
    · show own_Q2 p0 h0 n0 _ s₁.heap _
      rw [e0]
      exact ⟨by simp only [own_F, if_neg hk10_1, if_neg hk11_2, if_neg hk12_3, if_neg hk13_4, if_neg hk28_5, if_neg hk29_6, if_pos hk30_7], N0, rfl⟩
  by_cases hk133_8 : p0 = (133 : Int32)
  · refine own_go (b := s₁.setTop (mkF m 92 #[.val (.int p0)] [])) (fun t k => X0.lookupswitchHit hx (g := (mkF m 1 #[.val (.int p0)] [(.int p0)])) rfl rfl (hb hby d_own_rm2_1) (by decide) (a := 133) (off := 91) (by rw [hk133_8]; rfl) (by show (0 : Int) ≤ ((1 : Nat) : Int) + 91; decide) t k) ?_
    obtain ⟨fs, hr, hrun, hended, hW, hsame⟩ := X0.leave (v := some (.int (1 : Int32))) (fun h => by rw [Bd.returns] at h; cases h)
    refine ⟨_, _, ?_, hrun, hended, _, _, rfl, ?_, ⟨_, rfl⟩, hW, hsame.mono (by decide) (by decide)⟩
    · show Steps p.tables e below (s₁.setTop (mkF m 92 #[.val (.int p0)] [])) _
      refine XS.iconst X0.here hx rfl (hb hby d_own_rm2_92) ?_
      show Steps p.tables e below (s₁.setTop (mkF m 93 #[.val (.int p0)] [(.int (1 : Int32))])) _
      refine XS.goto X0.here hx rfl (pc0 := 93) (pc' := 97) rfl (hb hby d_own_rm2_93) (by decide) (by decide) ?_
      show Steps p.tables e below (s₁.setTop (mkF m 97 #[.val (.int p0)] [(.int (1 : Int32))])) _
      exact retN X0 hx (t := .boolean) Bd.returns (by simp) (hb hby d_own_rm2_97) hr
    · show own_Q2 p0 h0 n0 _ s₁.heap _
      rw [e0]
      exact ⟨by simp only [own_F, if_neg hk10_1, if_neg hk11_2, if_neg hk12_3, if_neg hk13_4, if_neg hk28_5, if_neg hk29_6, if_neg hk30_7, if_pos hk133_8], N0, rfl⟩
  by_cases hk8232_9 : p0 = (8232 : Int32)
  · refine own_go (b := s₁.setTop (mkF m 92 #[.val (.int p0)] [])) (fun t k => X0.lookupswitchHit hx (g := (mkF m 1 #[.val (.int p0)] [(.int p0)])) rfl rfl (hb hby d_own_rm2_1) (by decide) (a := 8232) (off := 91) (by rw [hk8232_9]; rfl) (by show (0 : Int) ≤ ((1 : Nat) : Int) + 91; decide) t k) ?_
    obtain ⟨fs, hr, hrun, hended, hW, hsame⟩ := X0.leave (v := some (.int (1 : Int32))) (fun h => by rw [Bd.returns] at h; cases h)
    refine ⟨_, _, ?_, hrun, hended, _, _, rfl, ?_, ⟨_, rfl⟩, hW, hsame.mono (by decide) (by decide)⟩
    · show Steps p.tables e below (s₁.setTop (mkF m 92 #[.val (.int p0)] [])) _
      refine XS.iconst X0.here hx rfl (hb hby d_own_rm2_92) ?_
      show Steps p.tables e below (s₁.setTop (mkF m 93 #[.val (.int p0)] [(.int (1 : Int32))])) _
      refine XS.goto X0.here hx rfl (pc0 := 93) (pc' := 97) rfl (hb hby d_own_rm2_93) (by decide) (by decide) ?_
      show Steps p.tables e below (s₁.setTop (mkF m 97 #[.val (.int p0)] [(.int (1 : Int32))])) _
      exact retN X0 hx (t := .boolean) Bd.returns (by simp) (hb hby d_own_rm2_97) hr
    · show own_Q2 p0 h0 n0 _ s₁.heap _
      rw [e0]
      exact ⟨by simp only [own_F, if_neg hk10_1, if_neg hk11_2, if_neg hk12_3, if_neg hk13_4, if_neg hk28_5, if_neg hk29_6, if_neg hk30_7, if_neg hk133_8, if_pos hk8232_9], N0, rfl⟩
  by_cases hk8233_10 : p0 = (8233 : Int32)
  · refine own_go (b := s₁.setTop (mkF m 92 #[.val (.int p0)] [])) (fun t k => X0.lookupswitchHit hx (g := (mkF m 1 #[.val (.int p0)] [(.int p0)])) rfl rfl (hb hby d_own_rm2_1) (by decide) (a := 8233) (off := 91) (by rw [hk8233_10]; rfl) (by show (0 : Int) ≤ ((1 : Nat) : Int) + 91; decide) t k) ?_
    obtain ⟨fs, hr, hrun, hended, hW, hsame⟩ := X0.leave (v := some (.int (1 : Int32))) (fun h => by rw [Bd.returns] at h; cases h)
    refine ⟨_, _, ?_, hrun, hended, _, _, rfl, ?_, ⟨_, rfl⟩, hW, hsame.mono (by decide) (by decide)⟩
    · show Steps p.tables e below (s₁.setTop (mkF m 92 #[.val (.int p0)] [])) _
      refine XS.iconst X0.here hx rfl (hb hby d_own_rm2_92) ?_
      show Steps p.tables e below (s₁.setTop (mkF m 93 #[.val (.int p0)] [(.int (1 : Int32))])) _
      refine XS.goto X0.here hx rfl (pc0 := 93) (pc' := 97) rfl (hb hby d_own_rm2_93) (by decide) (by decide) ?_
      show Steps p.tables e below (s₁.setTop (mkF m 97 #[.val (.int p0)] [(.int (1 : Int32))])) _
      exact retN X0 hx (t := .boolean) Bd.returns (by simp) (hb hby d_own_rm2_97) hr
    · show own_Q2 p0 h0 n0 _ s₁.heap _
      rw [e0]
      exact ⟨by simp only [own_F, if_neg hk10_1, if_neg hk11_2, if_neg hk12_3, if_neg hk13_4, if_neg hk28_5, if_neg hk29_6, if_neg hk30_7, if_neg hk133_8, if_neg hk8232_9, if_pos hk8233_10], N0, rfl⟩
  refine own_go (b := s₁.setTop (mkF m 96 #[.val (.int p0)] [])) (fun t k => X0.lookupswitchMiss hx (g := (mkF m 1 #[.val (.int p0)] [(.int p0)])) rfl rfl (hb hby d_own_rm2_1) (by decide) (own_miss hk10_1 hk11_2 hk12_3 hk13_4 hk28_5 hk29_6 hk30_7 hk133_8 hk8232_9 hk8233_10) (by show (0 : Int) ≤ ((1 : Nat) : Int) + 95; decide) t k) ?_
  obtain ⟨fs, hr, hrun, hended, hW, hsame⟩ := X0.leave (v := some (.int (0 : Int32))) (fun h => by rw [Bd.returns] at h; cases h)
  refine ⟨_, _, ?_, hrun, hended, _, _, rfl, ?_, ⟨_, rfl⟩, hW, hsame.mono (by decide) (by decide)⟩
  · show Steps p.tables e below (s₁.setTop (mkF m 96 #[.val (.int p0)] [])) _
    refine XS.iconst X0.here hx rfl (hb hby d_own_rm2_96) ?_
    show Steps p.tables e below (s₁.setTop (mkF m 97 #[.val (.int p0)] [(.int (0 : Int32))])) _
    exact retN X0 hx (t := .boolean) Bd.returns (by simp) (hb hby d_own_rm2_97) hr
  · show own_Q2 p0 h0 n0 _ s₁.heap _
    rw [e0]
    exact ⟨by simp only [own_F, if_neg hk10_1, if_neg hk11_2, if_neg hk12_3, if_neg hk13_4, if_neg hk28_5, if_neg hk29_6, if_neg hk30_7, if_neg hk133_8, if_neg hk8232_9, if_neg hk8233_10], N0, rfl⟩
def own_Q3 (p0 : Int32) (h0 : Heap) (n0 : Nat) (v : Option Value) (h : Heap) (L : List Loc) : Prop := v = some (.int (own_G p0)) ∧ Fr n0 L ∧ h = h0
theorem d_own_rm3_0 : decode method_2_code 0 = .ok (.iload_n 0, 1) := by decide +kernel
theorem d_own_rm3_1 : decode method_2_code 1 = .ok (.istore_n 1, 1) := by decide +kernel
theorem d_own_rm3_2 : decode method_2_code 2 = .ok (.iload_n 1, 1) := by decide +kernel
theorem d_own_rm3_3 : decode method_2_code 3 = .ok (.bipush 10, 2) := by decide +kernel
theorem d_own_rm3_5 : decode method_2_code 5 = .ok (.if_icmp .lt 11, 3) := by decide +kernel
theorem d_own_rm3_8 : decode method_2_code 8 = .ok (.iload_n 1, 1) := by decide +kernel
theorem d_own_rm3_9 : decode method_2_code 9 = .ok (.bipush 13, 2) := by decide +kernel
theorem d_own_rm3_11 : decode method_2_code 11 = .ok (.if_icmp .gt 5, 3) := by decide +kernel
theorem d_own_rm3_14 : decode method_2_code 14 = .ok (.iconst 1, 1) := by decide +kernel
theorem d_own_rm3_15 : decode method_2_code 15 = .ok (.ireturn, 1) := by decide +kernel
theorem d_own_rm3_16 : decode method_2_code 16 = .ok (.iload_n 1, 1) := by decide +kernel
theorem d_own_rm3_17 : decode method_2_code 17 = .ok (.bipush 28, 2) := by decide +kernel
theorem d_own_rm3_19 : decode method_2_code 19 = .ok (.if_icmp .lt 11, 3) := by decide +kernel
theorem d_own_rm3_22 : decode method_2_code 22 = .ok (.iload_n 1, 1) := by decide +kernel
theorem d_own_rm3_23 : decode method_2_code 23 = .ok (.bipush 30, 2) := by decide +kernel
theorem d_own_rm3_25 : decode method_2_code 25 = .ok (.if_icmp .gt 5, 3) := by decide +kernel
theorem d_own_rm3_28 : decode method_2_code 28 = .ok (.iconst 1, 1) := by decide +kernel
theorem d_own_rm3_29 : decode method_2_code 29 = .ok (.ireturn, 1) := by decide +kernel
theorem d_own_rm3_30 : decode method_2_code 30 = .ok (.iload_n 1, 1) := by decide +kernel
theorem d_own_rm3_31 : decode method_2_code 31 = .ok (.sipush 133, 3) := by decide +kernel
theorem d_own_rm3_34 : decode method_2_code 34 = .ok (.if_icmp .ne 5, 3) := by decide +kernel
theorem d_own_rm3_37 : decode method_2_code 37 = .ok (.iconst 1, 1) := by decide +kernel
theorem d_own_rm3_38 : decode method_2_code 38 = .ok (.ireturn, 1) := by decide +kernel
theorem d_own_rm3_39 : decode method_2_code 39 = .ok (.iload_n 1, 1) := by decide +kernel
theorem d_own_rm3_40 : decode method_2_code 40 = .ok (.sipush 8232, 3) := by decide +kernel
theorem d_own_rm3_43 : decode method_2_code 43 = .ok (.if_icmp .eq 10, 3) := by decide +kernel
theorem d_own_rm3_46 : decode method_2_code 46 = .ok (.iload_n 1, 1) := by decide +kernel
theorem d_own_rm3_47 : decode method_2_code 47 = .ok (.sipush 8233, 3) := by decide +kernel
theorem d_own_rm3_50 : decode method_2_code 50 = .ok (.if_icmp .ne 7, 3) := by decide +kernel
theorem d_own_rm3_53 : decode method_2_code 53 = .ok (.iconst 1, 1) := by decide +kernel
theorem d_own_rm3_54 : decode method_2_code 54 = .ok (.goto 4, 3) := by decide +kernel
theorem d_own_rm3_57 : decode method_2_code 57 = .ok (.iconst 0, 1) := by decide +kernel
theorem d_own_rm3_58 : decode method_2_code 58 = .ok (.ireturn, 1) := by decide +kernel
theorem ef_own_rm3 (m : MethodId) (x0 : Int32) : entryFrame m #[(.int x0)] 2 = mkF m 0 #[.val (.int x0), .unset] [] := by first | (simp [entryFrame, mkF, argsToLocals, Value.category]; done) | rfl
set_option maxRecDepth 65536 in
set_option maxHeartbeats 40000000 in
theorem own_rm3 (l : Launch) (Z : State) (a0 : Array Value) (hw : ∀ d ∈ tables_1, d.before a0 Z = true) (ws : List Jvm.Cond) (p0 : Int32)  (h0 : Heap) (n0 : Nat) (Z0 : n0 ≤ h0.size)  :
    MetFree l (⟨"com/example/tandem_ledger/tandemledger/text/LineBreaksIsLineBreakPinLaw", "ref", "(C)Z"⟩ : MethodName) (head1 (Jvm.Cond.code (⟨"com/example/tandem_ledger/tandemledger/text/LineBreaksIsLineBreakPinLaw", "ref", "(C)Z"⟩ : MethodName) method_2_code 2 (some .boolean) :: ws) ({ frames := 0, cells := 0, slots := 0, locals := 0 } : Room)) (fun a U => a = #[(.int p0)] ∧ Z.Warmed39 U.vm ∧ U.heap = h0) (fun _ _ _ _ _ => True) (fun _ U o U' => ∃ v L, o = .returned v ∧ own_Q3 p0 h0 n0 v U'.heap L ∧ FrameEnd U o U' L ({ frames := 0, cells := 0, slots := 0, locals := 0 } : Room).cells ({ frames := 0, cells := 0, slots := 0, locals := 0 } : Room).slots) := by
  refine MetFree.of_bodySF (plainFor_of_name own_pn0) hisR ?_
  intro p e s m args below meth c s₁ Bd hml0 hP hK
  obtain ⟨rfl, hZ, hh⟩ := hP
  have hx := Bd.exec
  have hby := Bd.bytes
  have hml : c.maxLocals = 2 := hml0
  have hown : s.vm.findClass "com/example/tandem_ledger/tandemledger/text/LineBreaksIsLineBreakPinLaw" = some m.cls := findClass_of_methodNamed Bd.named
  have hnm := (name_of_methodNamed Bd.named Bd.method).1
  have X0 : Stand p l e ({ frames := 0, cells := 0, slots := 0, locals := 0 } : Room) s m #[(.int p0)] below meth c s₁ [] 0 0 := Stand.of_body Bd
  have e0 : s₁.heap = h0 := by rw [← hh, Bd.state]; rfl
  have N0 := Fr.nil n0
  refine own_go (b := s₁.setTop (mkF m 0 #[.val (.int p0), .unset] [])) (fun t k => castTop (ef_own_rm3 m p0) k) ?_
  refine own_go (b := s₁.setTop (mkF m 5 #[.val (.int p0), .val (.int p0)] [(.int (10 : Int32)), (.int p0)])) (fun t k => ?_) ?_
  · show Steps p.tables e below (s₁.setTop (mkF m 0 #[.val (.int p0), .unset] [])) _
    refine XS.iloadN X0.here hx rfl (hb hby d_own_rm3_0) rfl ?_
    show Steps p.tables e below (s₁.setTop (mkF m 1 #[.val (.int p0), .unset] [(.int p0)])) _
    refine XS.istoreN X0.here hx rfl (hb hby d_own_rm3_1) rfl (l' := #[.val (.int p0), .val (.int p0)]) rfl ?_
    show Steps p.tables e below (s₁.setTop (mkF m 2 #[.val (.int p0), .val (.int p0)] [])) _
    refine XS.iloadN X0.here hx rfl (hb hby d_own_rm3_2) rfl ?_
    show Steps p.tables e below (s₁.setTop (mkF m 3 #[.val (.int p0), .val (.int p0)] [(.int p0)])) _
    refine XS.bipush X0.here hx rfl (hb hby d_own_rm3_3) ?_
    show Steps p.tables e below (s₁.setTop (mkF m 5 #[.val (.int p0), .val (.int p0)] [(.int (10 : Int32)), (.int p0)])) t
    exact k
  by_cases hc5_1 : p0 < (10 : Int32)
  · refine own_go (b := s₁.setTop (mkF m 19 #[.val (.int p0), .val (.int p0)] [(.int (28 : Int32)), (.int p0)])) (fun t k => ?_) ?_
    · show Steps p.tables e below (s₁.setTop (mkF m 5 #[.val (.int p0), .val (.int p0)] [(.int (10 : Int32)), (.int p0)])) _
      refine XS.icmpYes X0.here hx rfl (pc0 := 5) (pc' := 16) rfl (hb hby d_own_rm3_5) rfl (tlt hc5_1).1 (by decide) (by decide) ?_
      show Steps p.tables e below (s₁.setTop (mkF m 16 #[.val (.int p0), .val (.int p0)] [])) _
      refine XS.iloadN X0.here hx rfl (hb hby d_own_rm3_16) rfl ?_
      show Steps p.tables e below (s₁.setTop (mkF m 17 #[.val (.int p0), .val (.int p0)] [(.int p0)])) _
      refine XS.bipush X0.here hx rfl (hb hby d_own_rm3_17) ?_
      show Steps p.tables e below (s₁.setTop (mkF m 19 #[.val (.int p0), .val (.int p0)] [(.int (28 : Int32)), (.int p0)])) t
      exact k
    by_cases hc19_2 : p0 < (28 : Int32)
    · refine own_go (b := s₁.setTop (mkF m 34 #[.val (.int p0), .val (.int p0)] [(.int (133 : Int32)), (.int p0)])) (fun t k => ?_) ?_
      · show Steps p.tables e below (s₁.setTop (mkF m 19 #[.val (.int p0), .val (.int p0)] [(.int (28 : Int32)), (.int p0)])) _
        refine XS.icmpYes X0.here hx rfl (pc0 := 19) (pc' := 30) rfl (hb hby d_own_rm3_19) rfl (tlt hc19_2).1 (by decide) (by decide) ?_
        show Steps p.tables e below (s₁.setTop (mkF m 30 #[.val (.int p0), .val (.int p0)] [])) _
        refine XS.iloadN X0.here hx rfl (hb hby d_own_rm3_30) rfl ?_
        show Steps p.tables e below (s₁.setTop (mkF m 31 #[.val (.int p0), .val (.int p0)] [(.int p0)])) _
        refine XS.sipush X0.here hx rfl (hb hby d_own_rm3_31) ?_
        show Steps p.tables e below (s₁.setTop (mkF m 34 #[.val (.int p0), .val (.int p0)] [(.int (133 : Int32)), (.int p0)])) t
        exact k
      by_cases hc34_3 : p0 = (133 : Int32)
      · obtain ⟨fs, hr, hrun, hended, hW, hsame⟩ := X0.leave (v := some (.int (1 : Int32))) (fun h => by rw [Bd.returns] at h; cases h)
        refine ⟨_, _, ?_, hrun, hended, _, _, rfl, ?_, ⟨_, rfl⟩, hW, hsame.mono (by decide) (by decide)⟩
        · show Steps p.tables e below (s₁.setTop (mkF m 34 #[.val (.int p0), .val (.int p0)] [(.int (133 : Int32)), (.int p0)])) _
          refine XS.icmpNo X0.here hx rfl (hb hby d_own_rm3_34) rfl (teq hc34_3).2 ?_
          show Steps p.tables e below (s₁.setTop (mkF m 37 #[.val (.int p0), .val (.int p0)] [])) _
          refine XS.iconst X0.here hx rfl (hb hby d_own_rm3_37) ?_
          show Steps p.tables e below (s₁.setTop (mkF m 38 #[.val (.int p0), .val (.int p0)] [(.int (1 : Int32))])) _
          exact retN X0 hx (t := .boolean) Bd.returns (by simp) (hb hby d_own_rm3_38) hr
        · show own_Q3 p0 h0 n0 _ s₁.heap _
          rw [e0]
          exact ⟨by simp only [own_G, own_G2, own_G3, if_pos hc5_1, if_pos hc19_2, if_pos hc34_3], N0, rfl⟩
      · refine own_go (b := s₁.setTop (mkF m 43 #[.val (.int p0), .val (.int p0)] [(.int (8232 : Int32)), (.int p0)])) (fun t k => ?_) ?_
        · show Steps p.tables e below (s₁.setTop (mkF m 34 #[.val (.int p0), .val (.int p0)] [(.int (133 : Int32)), (.int p0)])) _
          refine XS.icmpYes X0.here hx rfl (pc0 := 34) (pc' := 39) rfl (hb hby d_own_rm3_34) rfl (feq hc34_3).2 (by decide) (by decide) ?_
          show Steps p.tables e below (s₁.setTop (mkF m 39 #[.val (.int p0), .val (.int p0)] [])) _
          refine XS.iloadN X0.here hx rfl (hb hby d_own_rm3_39) rfl ?_
          show Steps p.tables e below (s₁.setTop (mkF m 40 #[.val (.int p0), .val (.int p0)] [(.int p0)])) _
          refine XS.sipush X0.here hx rfl (hb hby d_own_rm3_40) ?_
          show Steps p.tables e below (s₁.setTop (mkF m 43 #[.val (.int p0), .val (.int p0)] [(.int (8232 : Int32)), (.int p0)])) t
          exact k
        by_cases hc43_4 : p0 = (8232 : Int32)
        · obtain ⟨fs, hr, hrun, hended, hW, hsame⟩ := X0.leave (v := some (.int (1 : Int32))) (fun h => by rw [Bd.returns] at h; cases h)
          refine ⟨_, _, ?_, hrun, hended, _, _, rfl, ?_, ⟨_, rfl⟩, hW, hsame.mono (by decide) (by decide)⟩
          · show Steps p.tables e below (s₁.setTop (mkF m 43 #[.val (.int p0), .val (.int p0)] [(.int (8232 : Int32)), (.int p0)])) _
            refine XS.icmpYes X0.here hx rfl (pc0 := 43) (pc' := 53) rfl (hb hby d_own_rm3_43) rfl (teq hc43_4).1 (by decide) (by decide) ?_
            show Steps p.tables e below (s₁.setTop (mkF m 53 #[.val (.int p0), .val (.int p0)] [])) _
            refine XS.iconst X0.here hx rfl (hb hby d_own_rm3_53) ?_
            show Steps p.tables e below (s₁.setTop (mkF m 54 #[.val (.int p0), .val (.int p0)] [(.int (1 : Int32))])) _
            refine XS.goto X0.here hx rfl (pc0 := 54) (pc' := 58) rfl (hb hby d_own_rm3_54) (by decide) (by decide) ?_
            show Steps p.tables e below (s₁.setTop (mkF m 58 #[.val (.int p0), .val (.int p0)] [(.int (1 : Int32))])) _
            exact retN X0 hx (t := .boolean) Bd.returns (by simp) (hb hby d_own_rm3_58) hr
          · show own_Q3 p0 h0 n0 _ s₁.heap _
            rw [e0]
            exact ⟨by simp only [own_G, own_G2, own_G3, if_pos hc5_1, if_pos hc19_2, if_neg hc34_3, if_pos hc43_4], N0, rfl⟩
        · refine own_go (b := s₁.setTop (mkF m 50 #[.val (.int p0), .val (.int p0)] [(.int (8233 : Int32)), (.int p0)])) (fun t k => ?_) ?_
          · show Steps p.tables e below (s₁.setTop (mkF m 43 #[.val (.int p0), .val (.int p0)] [(.int (8232 : Int32)), (.int p0)])) _
            refine XS.icmpNo X0.here hx rfl (hb hby d_own_rm3_43) rfl (feq hc43_4).1 ?_
            show Steps p.tables e below (s₁.setTop (mkF m 46 #[.val (.int p0), .val (.int p0)] [])) _
            refine XS.iloadN X0.here hx rfl (hb hby d_own_rm3_46) rfl ?_
            show Steps p.tables e below (s₁.setTop (mkF m 47 #[.val (.int p0), .val (.int p0)] [(.int p0)])) _
            refine XS.sipush X0.here hx rfl (hb hby d_own_rm3_47) ?_
            show Steps p.tables e below (s₁.setTop (mkF m 50 #[.val (.int p0), .val (.int p0)] [(.int (8233 : Int32)), (.int p0)])) t
            exact k
          by_cases hc50_5 : p0 = (8233 : Int32)
          · obtain ⟨fs, hr, hrun, hended, hW, hsame⟩ := X0.leave (v := some (.int (1 : Int32))) (fun h => by rw [Bd.returns] at h; cases h)
            refine ⟨_, _, ?_, hrun, hended, _, _, rfl, ?_, ⟨_, rfl⟩, hW, hsame.mono (by decide) (by decide)⟩
            · show Steps p.tables e below (s₁.setTop (mkF m 50 #[.val (.int p0), .val (.int p0)] [(.int (8233 : Int32)), (.int p0)])) _
              refine XS.icmpNo X0.here hx rfl (hb hby d_own_rm3_50) rfl (teq hc50_5).2 ?_
              show Steps p.tables e below (s₁.setTop (mkF m 53 #[.val (.int p0), .val (.int p0)] [])) _
              refine XS.iconst X0.here hx rfl (hb hby d_own_rm3_53) ?_
              show Steps p.tables e below (s₁.setTop (mkF m 54 #[.val (.int p0), .val (.int p0)] [(.int (1 : Int32))])) _
              refine XS.goto X0.here hx rfl (pc0 := 54) (pc' := 58) rfl (hb hby d_own_rm3_54) (by decide) (by decide) ?_
              show Steps p.tables e below (s₁.setTop (mkF m 58 #[.val (.int p0), .val (.int p0)] [(.int (1 : Int32))])) _
              exact retN X0 hx (t := .boolean) Bd.returns (by simp) (hb hby d_own_rm3_58) hr
            · show own_Q3 p0 h0 n0 _ s₁.heap _
              rw [e0]
              exact ⟨by simp only [own_G, own_G2, own_G3, if_pos hc5_1, if_pos hc19_2, if_neg hc34_3, if_neg hc43_4, if_pos hc50_5], N0, rfl⟩
          · obtain ⟨fs, hr, hrun, hended, hW, hsame⟩ := X0.leave (v := some (.int (0 : Int32))) (fun h => by rw [Bd.returns] at h; cases h)
            refine ⟨_, _, ?_, hrun, hended, _, _, rfl, ?_, ⟨_, rfl⟩, hW, hsame.mono (by decide) (by decide)⟩
            · show Steps p.tables e below (s₁.setTop (mkF m 50 #[.val (.int p0), .val (.int p0)] [(.int (8233 : Int32)), (.int p0)])) _
              refine XS.icmpYes X0.here hx rfl (pc0 := 50) (pc' := 57) rfl (hb hby d_own_rm3_50) rfl (feq hc50_5).2 (by decide) (by decide) ?_
              show Steps p.tables e below (s₁.setTop (mkF m 57 #[.val (.int p0), .val (.int p0)] [])) _
              refine XS.iconst X0.here hx rfl (hb hby d_own_rm3_57) ?_
              show Steps p.tables e below (s₁.setTop (mkF m 58 #[.val (.int p0), .val (.int p0)] [(.int (0 : Int32))])) _
              exact retN X0 hx (t := .boolean) Bd.returns (by simp) (hb hby d_own_rm3_58) hr
            · show own_Q3 p0 h0 n0 _ s₁.heap _
              rw [e0]
              exact ⟨by simp only [own_G, own_G2, own_G3, if_pos hc5_1, if_pos hc19_2, if_neg hc34_3, if_neg hc43_4, if_neg hc50_5], N0, rfl⟩
    · refine own_go (b := s₁.setTop (mkF m 25 #[.val (.int p0), .val (.int p0)] [(.int (30 : Int32)), (.int p0)])) (fun t k => ?_) ?_
      · show Steps p.tables e below (s₁.setTop (mkF m 19 #[.val (.int p0), .val (.int p0)] [(.int (28 : Int32)), (.int p0)])) _
        refine XS.icmpNo X0.here hx rfl (hb hby d_own_rm3_19) rfl (flt hc19_2).1 ?_
        show Steps p.tables e below (s₁.setTop (mkF m 22 #[.val (.int p0), .val (.int p0)] [])) _
        refine XS.iloadN X0.here hx rfl (hb hby d_own_rm3_22) rfl ?_
        show Steps p.tables e below (s₁.setTop (mkF m 23 #[.val (.int p0), .val (.int p0)] [(.int p0)])) _
        refine XS.bipush X0.here hx rfl (hb hby d_own_rm3_23) ?_
        show Steps p.tables e below (s₁.setTop (mkF m 25 #[.val (.int p0), .val (.int p0)] [(.int (30 : Int32)), (.int p0)])) t
        exact k
      by_cases hc25_6 : (30 : Int32) < p0
      · refine own_go (b := s₁.setTop (mkF m 34 #[.val (.int p0), .val (.int p0)] [(.int (133 : Int32)), (.int p0)])) (fun t k => ?_) ?_
        · show Steps p.tables e below (s₁.setTop (mkF m 25 #[.val (.int p0), .val (.int p0)] [(.int (30 : Int32)), (.int p0)])) _
          refine XS.icmpYes X0.here hx rfl (pc0 := 25) (pc' := 30) rfl (hb hby d_own_rm3_25) rfl (tlt hc25_6).2.2.1 (by decide) (by decide) ?_
          show Steps p.tables e below (s₁.setTop (mkF m 30 #[.val (.int p0), .val (.int p0)] [])) _
          refine XS.iloadN X0.here hx rfl (hb hby d_own_rm3_30) rfl ?_
          show Steps p.tables e below (s₁.setTop (mkF m 31 #[.val (.int p0), .val (.int p0)] [(.int p0)])) _
          refine XS.sipush X0.here hx rfl (hb hby d_own_rm3_31) ?_
          show Steps p.tables e below (s₁.setTop (mkF m 34 #[.val (.int p0), .val (.int p0)] [(.int (133 : Int32)), (.int p0)])) t
          exact k
        by_cases hc34_7 : p0 = (133 : Int32)
        · obtain ⟨fs, hr, hrun, hended, hW, hsame⟩ := X0.leave (v := some (.int (1 : Int32))) (fun h => by rw [Bd.returns] at h; cases h)
          refine ⟨_, _, ?_, hrun, hended, _, _, rfl, ?_, ⟨_, rfl⟩, hW, hsame.mono (by decide) (by decide)⟩
          · show Steps p.tables e below (s₁.setTop (mkF m 34 #[.val (.int p0), .val (.int p0)] [(.int (133 : Int32)), (.int p0)])) _
            refine XS.icmpNo X0.here hx rfl (hb hby d_own_rm3_34) rfl (teq hc34_7).2 ?_
            show Steps p.tables e below (s₁.setTop (mkF m 37 #[.val (.int p0), .val (.int p0)] [])) _
            refine XS.iconst X0.here hx rfl (hb hby d_own_rm3_37) ?_
            show Steps p.tables e below (s₁.setTop (mkF m 38 #[.val (.int p0), .val (.int p0)] [(.int (1 : Int32))])) _
            exact retN X0 hx (t := .boolean) Bd.returns (by simp) (hb hby d_own_rm3_38) hr
          · show own_Q3 p0 h0 n0 _ s₁.heap _
            rw [e0]
            exact ⟨by simp only [own_G, own_G2, own_G3, if_pos hc5_1, if_neg hc19_2, if_pos hc25_6, if_pos hc34_7], N0, rfl⟩
        · refine own_go (b := s₁.setTop (mkF m 43 #[.val (.int p0), .val (.int p0)] [(.int (8232 : Int32)), (.int p0)])) (fun t k => ?_) ?_
          · show Steps p.tables e below (s₁.setTop (mkF m 34 #[.val (.int p0), .val (.int p0)] [(.int (133 : Int32)), (.int p0)])) _
            refine XS.icmpYes X0.here hx rfl (pc0 := 34) (pc' := 39) rfl (hb hby d_own_rm3_34) rfl (feq hc34_7).2 (by decide) (by decide) ?_
            show Steps p.tables e below (s₁.setTop (mkF m 39 #[.val (.int p0), .val (.int p0)] [])) _
            refine XS.iloadN X0.here hx rfl (hb hby d_own_rm3_39) rfl ?_
            show Steps p.tables e below (s₁.setTop (mkF m 40 #[.val (.int p0), .val (.int p0)] [(.int p0)])) _
            refine XS.sipush X0.here hx rfl (hb hby d_own_rm3_40) ?_
            show Steps p.tables e below (s₁.setTop (mkF m 43 #[.val (.int p0), .val (.int p0)] [(.int (8232 : Int32)), (.int p0)])) t
            exact k
          by_cases hc43_8 : p0 = (8232 : Int32)
          · obtain ⟨fs, hr, hrun, hended, hW, hsame⟩ := X0.leave (v := some (.int (1 : Int32))) (fun h => by rw [Bd.returns] at h; cases h)
            refine ⟨_, _, ?_, hrun, hended, _, _, rfl, ?_, ⟨_, rfl⟩, hW, hsame.mono (by decide) (by decide)⟩
            · show Steps p.tables e below (s₁.setTop (mkF m 43 #[.val (.int p0), .val (.int p0)] [(.int (8232 : Int32)), (.int p0)])) _
              refine XS.icmpYes X0.here hx rfl (pc0 := 43) (pc' := 53) rfl (hb hby d_own_rm3_43) rfl (teq hc43_8).1 (by decide) (by decide) ?_
              show Steps p.tables e below (s₁.setTop (mkF m 53 #[.val (.int p0), .val (.int p0)] [])) _
              refine XS.iconst X0.here hx rfl (hb hby d_own_rm3_53) ?_
              show Steps p.tables e below (s₁.setTop (mkF m 54 #[.val (.int p0), .val (.int p0)] [(.int (1 : Int32))])) _
              refine XS.goto X0.here hx rfl (pc0 := 54) (pc' := 58) rfl (hb hby d_own_rm3_54) (by decide) (by decide) ?_
              show Steps p.tables e below (s₁.setTop (mkF m 58 #[.val (.int p0), .val (.int p0)] [(.int (1 : Int32))])) _
              exact retN X0 hx (t := .boolean) Bd.returns (by simp) (hb hby d_own_rm3_58) hr
            · show own_Q3 p0 h0 n0 _ s₁.heap _
              rw [e0]
              exact ⟨by simp only [own_G, own_G2, own_G3, if_pos hc5_1, if_neg hc19_2, if_pos hc25_6, if_neg hc34_7, if_pos hc43_8], N0, rfl⟩
          · refine own_go (b := s₁.setTop (mkF m 50 #[.val (.int p0), .val (.int p0)] [(.int (8233 : Int32)), (.int p0)])) (fun t k => ?_) ?_
            · show Steps p.tables e below (s₁.setTop (mkF m 43 #[.val (.int p0), .val (.int p0)] [(.int (8232 : Int32)), (.int p0)])) _
              refine XS.icmpNo X0.here hx rfl (hb hby d_own_rm3_43) rfl (feq hc43_8).1 ?_
              show Steps p.tables e below (s₁.setTop (mkF m 46 #[.val (.int p0), .val (.int p0)] [])) _
              refine XS.iloadN X0.here hx rfl (hb hby d_own_rm3_46) rfl ?_
              show Steps p.tables e below (s₁.setTop (mkF m 47 #[.val (.int p0), .val (.int p0)] [(.int p0)])) _
              refine XS.sipush X0.here hx rfl (hb hby d_own_rm3_47) ?_
              show Steps p.tables e below (s₁.setTop (mkF m 50 #[.val (.int p0), .val (.int p0)] [(.int (8233 : Int32)), (.int p0)])) t
              exact k
            by_cases hc50_9 : p0 = (8233 : Int32)
            · obtain ⟨fs, hr, hrun, hended, hW, hsame⟩ := X0.leave (v := some (.int (1 : Int32))) (fun h => by rw [Bd.returns] at h; cases h)
              refine ⟨_, _, ?_, hrun, hended, _, _, rfl, ?_, ⟨_, rfl⟩, hW, hsame.mono (by decide) (by decide)⟩
              · show Steps p.tables e below (s₁.setTop (mkF m 50 #[.val (.int p0), .val (.int p0)] [(.int (8233 : Int32)), (.int p0)])) _
                refine XS.icmpNo X0.here hx rfl (hb hby d_own_rm3_50) rfl (teq hc50_9).2 ?_
                show Steps p.tables e below (s₁.setTop (mkF m 53 #[.val (.int p0), .val (.int p0)] [])) _
                refine XS.iconst X0.here hx rfl (hb hby d_own_rm3_53) ?_
                show Steps p.tables e below (s₁.setTop (mkF m 54 #[.val (.int p0), .val (.int p0)] [(.int (1 : Int32))])) _
                refine XS.goto X0.here hx rfl (pc0 := 54) (pc' := 58) rfl (hb hby d_own_rm3_54) (by decide) (by decide) ?_
                show Steps p.tables e below (s₁.setTop (mkF m 58 #[.val (.int p0), .val (.int p0)] [(.int (1 : Int32))])) _
                exact retN X0 hx (t := .boolean) Bd.returns (by simp) (hb hby d_own_rm3_58) hr
              · show own_Q3 p0 h0 n0 _ s₁.heap _
                rw [e0]
                exact ⟨by simp only [own_G, own_G2, own_G3, if_pos hc5_1, if_neg hc19_2, if_pos hc25_6, if_neg hc34_7, if_neg hc43_8, if_pos hc50_9], N0, rfl⟩
            · obtain ⟨fs, hr, hrun, hended, hW, hsame⟩ := X0.leave (v := some (.int (0 : Int32))) (fun h => by rw [Bd.returns] at h; cases h)
              refine ⟨_, _, ?_, hrun, hended, _, _, rfl, ?_, ⟨_, rfl⟩, hW, hsame.mono (by decide) (by decide)⟩
              · show Steps p.tables e below (s₁.setTop (mkF m 50 #[.val (.int p0), .val (.int p0)] [(.int (8233 : Int32)), (.int p0)])) _
                refine XS.icmpYes X0.here hx rfl (pc0 := 50) (pc' := 57) rfl (hb hby d_own_rm3_50) rfl (feq hc50_9).2 (by decide) (by decide) ?_
                show Steps p.tables e below (s₁.setTop (mkF m 57 #[.val (.int p0), .val (.int p0)] [])) _
                refine XS.iconst X0.here hx rfl (hb hby d_own_rm3_57) ?_
                show Steps p.tables e below (s₁.setTop (mkF m 58 #[.val (.int p0), .val (.int p0)] [(.int (0 : Int32))])) _
                exact retN X0 hx (t := .boolean) Bd.returns (by simp) (hb hby d_own_rm3_58) hr
              · show own_Q3 p0 h0 n0 _ s₁.heap _
                rw [e0]
                exact ⟨by simp only [own_G, own_G2, own_G3, if_pos hc5_1, if_neg hc19_2, if_pos hc25_6, if_neg hc34_7, if_neg hc43_8, if_neg hc50_9], N0, rfl⟩
      · obtain ⟨fs, hr, hrun, hended, hW, hsame⟩ := X0.leave (v := some (.int (1 : Int32))) (fun h => by rw [Bd.returns] at h; cases h)
        refine ⟨_, _, ?_, hrun, hended, _, _, rfl, ?_, ⟨_, rfl⟩, hW, hsame.mono (by decide) (by decide)⟩
        · show Steps p.tables e below (s₁.setTop (mkF m 25 #[.val (.int p0), .val (.int p0)] [(.int (30 : Int32)), (.int p0)])) _
          refine XS.icmpNo X0.here hx rfl (hb hby d_own_rm3_25) rfl (flt hc25_6).2.2.1 ?_
          show Steps p.tables e below (s₁.setTop (mkF m 28 #[.val (.int p0), .val (.int p0)] [])) _
          refine XS.iconst X0.here hx rfl (hb hby d_own_rm3_28) ?_
          show Steps p.tables e below (s₁.setTop (mkF m 29 #[.val (.int p0), .val (.int p0)] [(.int (1 : Int32))])) _
          exact retN X0 hx (t := .boolean) Bd.returns (by simp) (hb hby d_own_rm3_29) hr
        · show own_Q3 p0 h0 n0 _ s₁.heap _
          rw [e0]
          exact ⟨by simp only [own_G, own_G2, own_G3, if_pos hc5_1, if_neg hc19_2, if_neg hc25_6], N0, rfl⟩
  · refine own_go (b := s₁.setTop (mkF m 11 #[.val (.int p0), .val (.int p0)] [(.int (13 : Int32)), (.int p0)])) (fun t k => ?_) ?_
    · show Steps p.tables e below (s₁.setTop (mkF m 5 #[.val (.int p0), .val (.int p0)] [(.int (10 : Int32)), (.int p0)])) _
      refine XS.icmpNo X0.here hx rfl (hb hby d_own_rm3_5) rfl (flt hc5_1).1 ?_
      show Steps p.tables e below (s₁.setTop (mkF m 8 #[.val (.int p0), .val (.int p0)] [])) _
      refine XS.iloadN X0.here hx rfl (hb hby d_own_rm3_8) rfl ?_
      show Steps p.tables e below (s₁.setTop (mkF m 9 #[.val (.int p0), .val (.int p0)] [(.int p0)])) _
      refine XS.bipush X0.here hx rfl (hb hby d_own_rm3_9) ?_
      show Steps p.tables e below (s₁.setTop (mkF m 11 #[.val (.int p0), .val (.int p0)] [(.int (13 : Int32)), (.int p0)])) t
      exact k
    by_cases hc11_10 : (13 : Int32) < p0
    · refine own_go (b := s₁.setTop (mkF m 19 #[.val (.int p0), .val (.int p0)] [(.int (28 : Int32)), (.int p0)])) (fun t k => ?_) ?_
      · show Steps p.tables e below (s₁.setTop (mkF m 11 #[.val (.int p0), .val (.int p0)] [(.int (13 : Int32)), (.int p0)])) _
        refine XS.icmpYes X0.here hx rfl (pc0 := 11) (pc' := 16) rfl (hb hby d_own_rm3_11) rfl (tlt hc11_10).2.2.1 (by decide) (by decide) ?_
        show Steps p.tables e below (s₁.setTop (mkF m 16 #[.val (.int p0), .val (.int p0)] [])) _
        refine XS.iloadN X0.here hx rfl (hb hby d_own_rm3_16) rfl ?_
        show Steps p.tables e below (s₁.setTop (mkF m 17 #[.val (.int p0), .val (.int p0)] [(.int p0)])) _
        refine XS.bipush X0.here hx rfl (hb hby d_own_rm3_17) ?_
        show Steps p.tables e below (s₁.setTop (mkF m 19 #[.val (.int p0), .val (.int p0)] [(.int (28 : Int32)), (.int p0)])) t
        exact k
      by_cases hc19_11 : p0 < (28 : Int32)
      · refine own_go (b := s₁.setTop (mkF m 34 #[.val (.int p0), .val (.int p0)] [(.int (133 : Int32)), (.int p0)])) (fun t k => ?_) ?_
        · show Steps p.tables e below (s₁.setTop (mkF m 19 #[.val (.int p0), .val (.int p0)] [(.int (28 : Int32)), (.int p0)])) _
          refine XS.icmpYes X0.here hx rfl (pc0 := 19) (pc' := 30) rfl (hb hby d_own_rm3_19) rfl (tlt hc19_11).1 (by decide) (by decide) ?_
          show Steps p.tables e below (s₁.setTop (mkF m 30 #[.val (.int p0), .val (.int p0)] [])) _
          refine XS.iloadN X0.here hx rfl (hb hby d_own_rm3_30) rfl ?_
          show Steps p.tables e below (s₁.setTop (mkF m 31 #[.val (.int p0), .val (.int p0)] [(.int p0)])) _
          refine XS.sipush X0.here hx rfl (hb hby d_own_rm3_31) ?_
          show Steps p.tables e below (s₁.setTop (mkF m 34 #[.val (.int p0), .val (.int p0)] [(.int (133 : Int32)), (.int p0)])) t
          exact k
        by_cases hc34_12 : p0 = (133 : Int32)
        · obtain ⟨fs, hr, hrun, hended, hW, hsame⟩ := X0.leave (v := some (.int (1 : Int32))) (fun h => by rw [Bd.returns] at h; cases h)
          refine ⟨_, _, ?_, hrun, hended, _, _, rfl, ?_, ⟨_, rfl⟩, hW, hsame.mono (by decide) (by decide)⟩
          · show Steps p.tables e below (s₁.setTop (mkF m 34 #[.val (.int p0), .val (.int p0)] [(.int (133 : Int32)), (.int p0)])) _
            refine XS.icmpNo X0.here hx rfl (hb hby d_own_rm3_34) rfl (teq hc34_12).2 ?_
            show Steps p.tables e below (s₁.setTop (mkF m 37 #[.val (.int p0), .val (.int p0)] [])) _
            refine XS.iconst X0.here hx rfl (hb hby d_own_rm3_37) ?_
            show Steps p.tables e below (s₁.setTop (mkF m 38 #[.val (.int p0), .val (.int p0)] [(.int (1 : Int32))])) _
            exact retN X0 hx (t := .boolean) Bd.returns (by simp) (hb hby d_own_rm3_38) hr
          · show own_Q3 p0 h0 n0 _ s₁.heap _
            rw [e0]
            exact ⟨by simp only [own_G, own_G2, own_G3, if_neg hc5_1, if_pos hc11_10, if_pos hc19_11, if_pos hc34_12], N0, rfl⟩
        · refine own_go (b := s₁.setTop (mkF m 43 #[.val (.int p0), .val (.int p0)] [(.int (8232 : Int32)), (.int p0)])) (fun t k => ?_) ?_
          · show Steps p.tables e below (s₁.setTop (mkF m 34 #[.val (.int p0), .val (.int p0)] [(.int (133 : Int32)), (.int p0)])) _
            refine XS.icmpYes X0.here hx rfl (pc0 := 34) (pc' := 39) rfl (hb hby d_own_rm3_34) rfl (feq hc34_12).2 (by decide) (by decide) ?_
            show Steps p.tables e below (s₁.setTop (mkF m 39 #[.val (.int p0), .val (.int p0)] [])) _
            refine XS.iloadN X0.here hx rfl (hb hby d_own_rm3_39) rfl ?_
            show Steps p.tables e below (s₁.setTop (mkF m 40 #[.val (.int p0), .val (.int p0)] [(.int p0)])) _
            refine XS.sipush X0.here hx rfl (hb hby d_own_rm3_40) ?_
            show Steps p.tables e below (s₁.setTop (mkF m 43 #[.val (.int p0), .val (.int p0)] [(.int (8232 : Int32)), (.int p0)])) t
            exact k
          by_cases hc43_13 : p0 = (8232 : Int32)
          · obtain ⟨fs, hr, hrun, hended, hW, hsame⟩ := X0.leave (v := some (.int (1 : Int32))) (fun h => by rw [Bd.returns] at h; cases h)
            refine ⟨_, _, ?_, hrun, hended, _, _, rfl, ?_, ⟨_, rfl⟩, hW, hsame.mono (by decide) (by decide)⟩
            · show Steps p.tables e below (s₁.setTop (mkF m 43 #[.val (.int p0), .val (.int p0)] [(.int (8232 : Int32)), (.int p0)])) _
              refine XS.icmpYes X0.here hx rfl (pc0 := 43) (pc' := 53) rfl (hb hby d_own_rm3_43) rfl (teq hc43_13).1 (by decide) (by decide) ?_
              show Steps p.tables e below (s₁.setTop (mkF m 53 #[.val (.int p0), .val (.int p0)] [])) _
              refine XS.iconst X0.here hx rfl (hb hby d_own_rm3_53) ?_
              show Steps p.tables e below (s₁.setTop (mkF m 54 #[.val (.int p0), .val (.int p0)] [(.int (1 : Int32))])) _
              refine XS.goto X0.here hx rfl (pc0 := 54) (pc' := 58) rfl (hb hby d_own_rm3_54) (by decide) (by decide) ?_
              show Steps p.tables e below (s₁.setTop (mkF m 58 #[.val (.int p0), .val (.int p0)] [(.int (1 : Int32))])) _
              exact retN X0 hx (t := .boolean) Bd.returns (by simp) (hb hby d_own_rm3_58) hr
            · show own_Q3 p0 h0 n0 _ s₁.heap _
              rw [e0]
              exact ⟨by simp only [own_G, own_G2, own_G3, if_neg hc5_1, if_pos hc11_10, if_pos hc19_11, if_neg hc34_12, if_pos hc43_13], N0, rfl⟩
          · refine own_go (b := s₁.setTop (mkF m 50 #[.val (.int p0), .val (.int p0)] [(.int (8233 : Int32)), (.int p0)])) (fun t k => ?_) ?_
            · show Steps p.tables e below (s₁.setTop (mkF m 43 #[.val (.int p0), .val (.int p0)] [(.int (8232 : Int32)), (.int p0)])) _
              refine XS.icmpNo X0.here hx rfl (hb hby d_own_rm3_43) rfl (feq hc43_13).1 ?_
              show Steps p.tables e below (s₁.setTop (mkF m 46 #[.val (.int p0), .val (.int p0)] [])) _
              refine XS.iloadN X0.here hx rfl (hb hby d_own_rm3_46) rfl ?_
              show Steps p.tables e below (s₁.setTop (mkF m 47 #[.val (.int p0), .val (.int p0)] [(.int p0)])) _
              refine XS.sipush X0.here hx rfl (hb hby d_own_rm3_47) ?_
              show Steps p.tables e below (s₁.setTop (mkF m 50 #[.val (.int p0), .val (.int p0)] [(.int (8233 : Int32)), (.int p0)])) t
              exact k
            by_cases hc50_14 : p0 = (8233 : Int32)
            · obtain ⟨fs, hr, hrun, hended, hW, hsame⟩ := X0.leave (v := some (.int (1 : Int32))) (fun h => by rw [Bd.returns] at h; cases h)
              refine ⟨_, _, ?_, hrun, hended, _, _, rfl, ?_, ⟨_, rfl⟩, hW, hsame.mono (by decide) (by decide)⟩
              · show Steps p.tables e below (s₁.setTop (mkF m 50 #[.val (.int p0), .val (.int p0)] [(.int (8233 : Int32)), (.int p0)])) _
                refine XS.icmpNo X0.here hx rfl (hb hby d_own_rm3_50) rfl (teq hc50_14).2 ?_
                show Steps p.tables e below (s₁.setTop (mkF m 53 #[.val (.int p0), .val (.int p0)] [])) _
                refine XS.iconst X0.here hx rfl (hb hby d_own_rm3_53) ?_
                show Steps p.tables e below (s₁.setTop (mkF m 54 #[.val (.int p0), .val (.int p0)] [(.int (1 : Int32))])) _
                refine XS.goto X0.here hx rfl (pc0 := 54) (pc' := 58) rfl (hb hby d_own_rm3_54) (by decide) (by decide) ?_
                show Steps p.tables e below (s₁.setTop (mkF m 58 #[.val (.int p0), .val (.int p0)] [(.int (1 : Int32))])) _
                exact retN X0 hx (t := .boolean) Bd.returns (by simp) (hb hby d_own_rm3_58) hr
              · show own_Q3 p0 h0 n0 _ s₁.heap _
                rw [e0]
                exact ⟨by simp only [own_G, own_G2, own_G3, if_neg hc5_1, if_pos hc11_10, if_pos hc19_11, if_neg hc34_12, if_neg hc43_13, if_pos hc50_14], N0, rfl⟩
            · obtain ⟨fs, hr, hrun, hended, hW, hsame⟩ := X0.leave (v := some (.int (0 : Int32))) (fun h => by rw [Bd.returns] at h; cases h)
              refine ⟨_, _, ?_, hrun, hended, _, _, rfl, ?_, ⟨_, rfl⟩, hW, hsame.mono (by decide) (by decide)⟩
              · show Steps p.tables e below (s₁.setTop (mkF m 50 #[.val (.int p0), .val (.int p0)] [(.int (8233 : Int32)), (.int p0)])) _
                refine XS.icmpYes X0.here hx rfl (pc0 := 50) (pc' := 57) rfl (hb hby d_own_rm3_50) rfl (feq hc50_14).2 (by decide) (by decide) ?_
                show Steps p.tables e below (s₁.setTop (mkF m 57 #[.val (.int p0), .val (.int p0)] [])) _
                refine XS.iconst X0.here hx rfl (hb hby d_own_rm3_57) ?_
                show Steps p.tables e below (s₁.setTop (mkF m 58 #[.val (.int p0), .val (.int p0)] [(.int (0 : Int32))])) _
                exact retN X0 hx (t := .boolean) Bd.returns (by simp) (hb hby d_own_rm3_58) hr
              · show own_Q3 p0 h0 n0 _ s₁.heap _
                rw [e0]
                exact ⟨by simp only [own_G, own_G2, own_G3, if_neg hc5_1, if_pos hc11_10, if_pos hc19_11, if_neg hc34_12, if_neg hc43_13, if_neg hc50_14], N0, rfl⟩
      · refine own_go (b := s₁.setTop (mkF m 25 #[.val (.int p0), .val (.int p0)] [(.int (30 : Int32)), (.int p0)])) (fun t k => ?_) ?_
        · show Steps p.tables e below (s₁.setTop (mkF m 19 #[.val (.int p0), .val (.int p0)] [(.int (28 : Int32)), (.int p0)])) _
          refine XS.icmpNo X0.here hx rfl (hb hby d_own_rm3_19) rfl (flt hc19_11).1 ?_
          show Steps p.tables e below (s₁.setTop (mkF m 22 #[.val (.int p0), .val (.int p0)] [])) _
          refine XS.iloadN X0.here hx rfl (hb hby d_own_rm3_22) rfl ?_
          show Steps p.tables e below (s₁.setTop (mkF m 23 #[.val (.int p0), .val (.int p0)] [(.int p0)])) _
          refine XS.bipush X0.here hx rfl (hb hby d_own_rm3_23) ?_
          show Steps p.tables e below (s₁.setTop (mkF m 25 #[.val (.int p0), .val (.int p0)] [(.int (30 : Int32)), (.int p0)])) t
          exact k
        by_cases hc25_15 : (30 : Int32) < p0
        · refine own_go (b := s₁.setTop (mkF m 34 #[.val (.int p0), .val (.int p0)] [(.int (133 : Int32)), (.int p0)])) (fun t k => ?_) ?_
          · show Steps p.tables e below (s₁.setTop (mkF m 25 #[.val (.int p0), .val (.int p0)] [(.int (30 : Int32)), (.int p0)])) _
            refine XS.icmpYes X0.here hx rfl (pc0 := 25) (pc' := 30) rfl (hb hby d_own_rm3_25) rfl (tlt hc25_15).2.2.1 (by decide) (by decide) ?_
            show Steps p.tables e below (s₁.setTop (mkF m 30 #[.val (.int p0), .val (.int p0)] [])) _
            refine XS.iloadN X0.here hx rfl (hb hby d_own_rm3_30) rfl ?_
            show Steps p.tables e below (s₁.setTop (mkF m 31 #[.val (.int p0), .val (.int p0)] [(.int p0)])) _
            refine XS.sipush X0.here hx rfl (hb hby d_own_rm3_31) ?_
            show Steps p.tables e below (s₁.setTop (mkF m 34 #[.val (.int p0), .val (.int p0)] [(.int (133 : Int32)), (.int p0)])) t
            exact k
          by_cases hc34_16 : p0 = (133 : Int32)
          · obtain ⟨fs, hr, hrun, hended, hW, hsame⟩ := X0.leave (v := some (.int (1 : Int32))) (fun h => by rw [Bd.returns] at h; cases h)
            refine ⟨_, _, ?_, hrun, hended, _, _, rfl, ?_, ⟨_, rfl⟩, hW, hsame.mono (by decide) (by decide)⟩
            · show Steps p.tables e below (s₁.setTop (mkF m 34 #[.val (.int p0), .val (.int p0)] [(.int (133 : Int32)), (.int p0)])) _
              refine XS.icmpNo X0.here hx rfl (hb hby d_own_rm3_34) rfl (teq hc34_16).2 ?_
              show Steps p.tables e below (s₁.setTop (mkF m 37 #[.val (.int p0), .val (.int p0)] [])) _
              refine XS.iconst X0.here hx rfl (hb hby d_own_rm3_37) ?_
              show Steps p.tables e below (s₁.setTop (mkF m 38 #[.val (.int p0), .val (.int p0)] [(.int (1 : Int32))])) _
              exact retN X0 hx (t := .boolean) Bd.returns (by simp) (hb hby d_own_rm3_38) hr
            · show own_Q3 p0 h0 n0 _ s₁.heap _
              rw [e0]
              exact ⟨by simp only [own_G, own_G2, own_G3, if_neg hc5_1, if_pos hc11_10, if_neg hc19_11, if_pos hc25_15, if_pos hc34_16], N0, rfl⟩
          · refine own_go (b := s₁.setTop (mkF m 43 #[.val (.int p0), .val (.int p0)] [(.int (8232 : Int32)), (.int p0)])) (fun t k => ?_) ?_
            · show Steps p.tables e below (s₁.setTop (mkF m 34 #[.val (.int p0), .val (.int p0)] [(.int (133 : Int32)), (.int p0)])) _
              refine XS.icmpYes X0.here hx rfl (pc0 := 34) (pc' := 39) rfl (hb hby d_own_rm3_34) rfl (feq hc34_16).2 (by decide) (by decide) ?_
              show Steps p.tables e below (s₁.setTop (mkF m 39 #[.val (.int p0), .val (.int p0)] [])) _
              refine XS.iloadN X0.here hx rfl (hb hby d_own_rm3_39) rfl ?_
              show Steps p.tables e below (s₁.setTop (mkF m 40 #[.val (.int p0), .val (.int p0)] [(.int p0)])) _
              refine XS.sipush X0.here hx rfl (hb hby d_own_rm3_40) ?_
              show Steps p.tables e below (s₁.setTop (mkF m 43 #[.val (.int p0), .val (.int p0)] [(.int (8232 : Int32)), (.int p0)])) t
              exact k
            by_cases hc43_17 : p0 = (8232 : Int32)
            · obtain ⟨fs, hr, hrun, hended, hW, hsame⟩ := X0.leave (v := some (.int (1 : Int32))) (fun h => by rw [Bd.returns] at h; cases h)
              refine ⟨_, _, ?_, hrun, hended, _, _, rfl, ?_, ⟨_, rfl⟩, hW, hsame.mono (by decide) (by decide)⟩
              · show Steps p.tables e below (s₁.setTop (mkF m 43 #[.val (.int p0), .val (.int p0)] [(.int (8232 : Int32)), (.int p0)])) _
                refine XS.icmpYes X0.here hx rfl (pc0 := 43) (pc' := 53) rfl (hb hby d_own_rm3_43) rfl (teq hc43_17).1 (by decide) (by decide) ?_
                show Steps p.tables e below (s₁.setTop (mkF m 53 #[.val (.int p0), .val (.int p0)] [])) _
                refine XS.iconst X0.here hx rfl (hb hby d_own_rm3_53) ?_
                show Steps p.tables e below (s₁.setTop (mkF m 54 #[.val (.int p0), .val (.int p0)] [(.int (1 : Int32))])) _
                refine XS.goto X0.here hx rfl (pc0 := 54) (pc' := 58) rfl (hb hby d_own_rm3_54) (by decide) (by decide) ?_
                show Steps p.tables e below (s₁.setTop (mkF m 58 #[.val (.int p0), .val (.int p0)] [(.int (1 : Int32))])) _
                exact retN X0 hx (t := .boolean) Bd.returns (by simp) (hb hby d_own_rm3_58) hr
              · show own_Q3 p0 h0 n0 _ s₁.heap _
                rw [e0]
                exact ⟨by simp only [own_G, own_G2, own_G3, if_neg hc5_1, if_pos hc11_10, if_neg hc19_11, if_pos hc25_15, if_neg hc34_16, if_pos hc43_17], N0, rfl⟩
            · refine own_go (b := s₁.setTop (mkF m 50 #[.val (.int p0), .val (.int p0)] [(.int (8233 : Int32)), (.int p0)])) (fun t k => ?_) ?_
              · show Steps p.tables e below (s₁.setTop (mkF m 43 #[.val (.int p0), .val (.int p0)] [(.int (8232 : Int32)), (.int p0)])) _
                refine XS.icmpNo X0.here hx rfl (hb hby d_own_rm3_43) rfl (feq hc43_17).1 ?_
                show Steps p.tables e below (s₁.setTop (mkF m 46 #[.val (.int p0), .val (.int p0)] [])) _
                refine XS.iloadN X0.here hx rfl (hb hby d_own_rm3_46) rfl ?_
                show Steps p.tables e below (s₁.setTop (mkF m 47 #[.val (.int p0), .val (.int p0)] [(.int p0)])) _
                refine XS.sipush X0.here hx rfl (hb hby d_own_rm3_47) ?_
                show Steps p.tables e below (s₁.setTop (mkF m 50 #[.val (.int p0), .val (.int p0)] [(.int (8233 : Int32)), (.int p0)])) t
                exact k
              by_cases hc50_18 : p0 = (8233 : Int32)
              · obtain ⟨fs, hr, hrun, hended, hW, hsame⟩ := X0.leave (v := some (.int (1 : Int32))) (fun h => by rw [Bd.returns] at h; cases h)
                refine ⟨_, _, ?_, hrun, hended, _, _, rfl, ?_, ⟨_, rfl⟩, hW, hsame.mono (by decide) (by decide)⟩
                · show Steps p.tables e below (s₁.setTop (mkF m 50 #[.val (.int p0), .val (.int p0)] [(.int (8233 : Int32)), (.int p0)])) _
                  refine XS.icmpNo X0.here hx rfl (hb hby d_own_rm3_50) rfl (teq hc50_18).2 ?_
                  show Steps p.tables e below (s₁.setTop (mkF m 53 #[.val (.int p0), .val (.int p0)] [])) _
                  refine XS.iconst X0.here hx rfl (hb hby d_own_rm3_53) ?_
                  show Steps p.tables e below (s₁.setTop (mkF m 54 #[.val (.int p0), .val (.int p0)] [(.int (1 : Int32))])) _
                  refine XS.goto X0.here hx rfl (pc0 := 54) (pc' := 58) rfl (hb hby d_own_rm3_54) (by decide) (by decide) ?_
                  show Steps p.tables e below (s₁.setTop (mkF m 58 #[.val (.int p0), .val (.int p0)] [(.int (1 : Int32))])) _
                  exact retN X0 hx (t := .boolean) Bd.returns (by simp) (hb hby d_own_rm3_58) hr
                · show own_Q3 p0 h0 n0 _ s₁.heap _
                  rw [e0]
                  exact ⟨by simp only [own_G, own_G2, own_G3, if_neg hc5_1, if_pos hc11_10, if_neg hc19_11, if_pos hc25_15, if_neg hc34_16, if_neg hc43_17, if_pos hc50_18], N0, rfl⟩
              · obtain ⟨fs, hr, hrun, hended, hW, hsame⟩ := X0.leave (v := some (.int (0 : Int32))) (fun h => by rw [Bd.returns] at h; cases h)
                refine ⟨_, _, ?_, hrun, hended, _, _, rfl, ?_, ⟨_, rfl⟩, hW, hsame.mono (by decide) (by decide)⟩
                · show Steps p.tables e below (s₁.setTop (mkF m 50 #[.val (.int p0), .val (.int p0)] [(.int (8233 : Int32)), (.int p0)])) _
                  refine XS.icmpYes X0.here hx rfl (pc0 := 50) (pc' := 57) rfl (hb hby d_own_rm3_50) rfl (feq hc50_18).2 (by decide) (by decide) ?_
                  show Steps p.tables e below (s₁.setTop (mkF m 57 #[.val (.int p0), .val (.int p0)] [])) _
                  refine XS.iconst X0.here hx rfl (hb hby d_own_rm3_57) ?_
                  show Steps p.tables e below (s₁.setTop (mkF m 58 #[.val (.int p0), .val (.int p0)] [(.int (0 : Int32))])) _
                  exact retN X0 hx (t := .boolean) Bd.returns (by simp) (hb hby d_own_rm3_58) hr
                · show own_Q3 p0 h0 n0 _ s₁.heap _
                  rw [e0]
                  exact ⟨by simp only [own_G, own_G2, own_G3, if_neg hc5_1, if_pos hc11_10, if_neg hc19_11, if_pos hc25_15, if_neg hc34_16, if_neg hc43_17, if_neg hc50_18], N0, rfl⟩
        · obtain ⟨fs, hr, hrun, hended, hW, hsame⟩ := X0.leave (v := some (.int (1 : Int32))) (fun h => by rw [Bd.returns] at h; cases h)
          refine ⟨_, _, ?_, hrun, hended, _, _, rfl, ?_, ⟨_, rfl⟩, hW, hsame.mono (by decide) (by decide)⟩
          · show Steps p.tables e below (s₁.setTop (mkF m 25 #[.val (.int p0), .val (.int p0)] [(.int (30 : Int32)), (.int p0)])) _
            refine XS.icmpNo X0.here hx rfl (hb hby d_own_rm3_25) rfl (flt hc25_15).2.2.1 ?_
            show Steps p.tables e below (s₁.setTop (mkF m 28 #[.val (.int p0), .val (.int p0)] [])) _
            refine XS.iconst X0.here hx rfl (hb hby d_own_rm3_28) ?_
            show Steps p.tables e below (s₁.setTop (mkF m 29 #[.val (.int p0), .val (.int p0)] [(.int (1 : Int32))])) _
            exact retN X0 hx (t := .boolean) Bd.returns (by simp) (hb hby d_own_rm3_29) hr
          · show own_Q3 p0 h0 n0 _ s₁.heap _
            rw [e0]
            exact ⟨by simp only [own_G, own_G2, own_G3, if_neg hc5_1, if_pos hc11_10, if_neg hc19_11, if_neg hc25_15], N0, rfl⟩
    · obtain ⟨fs, hr, hrun, hended, hW, hsame⟩ := X0.leave (v := some (.int (1 : Int32))) (fun h => by rw [Bd.returns] at h; cases h)
      refine ⟨_, _, ?_, hrun, hended, _, _, rfl, ?_, ⟨_, rfl⟩, hW, hsame.mono (by decide) (by decide)⟩
      · show Steps p.tables e below (s₁.setTop (mkF m 11 #[.val (.int p0), .val (.int p0)] [(.int (13 : Int32)), (.int p0)])) _
        refine XS.icmpNo X0.here hx rfl (hb hby d_own_rm3_11) rfl (flt hc11_10).2.2.1 ?_
        show Steps p.tables e below (s₁.setTop (mkF m 14 #[.val (.int p0), .val (.int p0)] [])) _
        refine XS.iconst X0.here hx rfl (hb hby d_own_rm3_14) ?_
        show Steps p.tables e below (s₁.setTop (mkF m 15 #[.val (.int p0), .val (.int p0)] [(.int (1 : Int32))])) _
        exact retN X0 hx (t := .boolean) Bd.returns (by simp) (hb hby d_own_rm3_15) hr
      · show own_Q3 p0 h0 n0 _ s₁.heap _
        rw [e0]
        exact ⟨by simp only [own_G, own_G2, own_G3, if_neg hc5_1, if_neg hc11_10], N0, rfl⟩
def own_Q0 (n0 : Nat) (v : Option Value) (h : Heap) (L : List Loc) : Prop := v = some (.int (1 : Int32)) ∧ Fr n0 L
theorem ef_own_rm0 (m : MethodId) (x0 : Int32) (x1 : Int32) : entryFrame m #[(.int x0), (.int x1)] maxLocals = mkF m 0 #[.val (.int x0), .val (.int x1), .unset, .unset, .unset, .unset] [] := by first | (simp [entryFrame, mkF, argsToLocals, Value.category, maxLocals]; done) | rfl
set_option maxRecDepth 65536 in
set_option maxHeartbeats 40000000 in
theorem own_rm0 (l : Launch) (Z : State) (a0 : Array Value) (hw : ∀ d ∈ tables_1, d.before a0 Z = true) (ws : List Jvm.Cond) (p0 : Int32) (p1 : Int32)  (h0 : Heap) (n0 : Nat) (Z0 : n0 ≤ h0.size)  :
    MetFree l x (head1 (Jvm.Cond.code x code maxLocals ret :: ws) room_1) (fun a U => a = #[(.int p0), (.int p1)] ∧ Z.Warmed39 U.vm ∧ U.heap = h0) (fun _ _ _ _ _ => True) (fun _ U o U' => ∃ v L, o = .returned v ∧ own_Q0 n0 v U'.heap L ∧ FrameEnd U o U' L room_1.cells room_1.slots) := by
  refine MetFree.of_bodySF (plainFor_of_name own_pn0) hisR ?_
  intro p e s m args below meth c s₁ Bd hml0 hP hK
  obtain ⟨rfl, hZ, hh⟩ := hP
  have hx := Bd.exec
  have hby := Bd.bytes
  have hml : c.maxLocals = 6 := hml0
  have hown : s.vm.findClass "com/example/tandem_ledger/tandemledger/text/LineBreaksIsLineBreakPinLaw" = some m.cls := findClass_of_methodNamed Bd.named
  have hnm := (name_of_methodNamed Bd.named Bd.method).1
  have X0 : Stand p l e room_1 s m #[(.int p0), (.int p1)] below meth c s₁ [] 0 0 := Stand.of_body Bd
  have e0 : s₁.heap = h0 := by rw [← hh, Bd.state]; rfl
  have N0 := Fr.nil n0
  refine own_go (b := s₁.setTop (mkF m 0 #[.val (.int p0), .val (.int p1), .unset, .unset, .unset, .unset] [])) (fun t k => castTop (ef_own_rm0 m p0 p1) k) ?_
  obtain ⟨_, _, ⟨T1, L1, k1, n1⟩, -, X1, ⟨Lc1, hQ1, l1, y1, z1⟩, st1⟩ := Jvm.LawKit.callS X0 hx (y := (⟨"com/example/tandem_ledger/tandemledger/text/LineBreaksIsLineBreakPinLaw", "near", "(I)C"⟩ : MethodName)) hown (mvT hZ (hw _ (List.mem_of_getElem? (i := 0) rfl))) (mvT hZ (hw _ (List.mem_of_getElem? (i := 1) rfl))) (mvT hZ (hw _ (List.mem_of_getElem? (i := 2) rfl))) (mvT hZ (hw _ (List.mem_of_getElem? (i := 3) rfl))) (by decide) (backOf (W := 0) (own_rm1 l Z a0 hw [] p1  h0 n0 Z0 ) hZ (hw _ (List.mem_of_getElem? (i := 3) rfl)) (hw _ (List.mem_of_getElem? (i := 2) rfl)) (by decide) (by decide)) (g := (mkF m 4 #[.val (.int p0), .val (.int p1), .val (.int (p0.toUInt32.toUInt16.toUInt32.toInt32)), .unset, .unset, .unset] [(.int p1)])) rfl (by rw [hml]; rfl) (argsL := [(.int p1)]) (rest := []) (lenOf own_pd0 rfl) rfl (by show 2 * 0 + _ ≤ _; exact Nat.le_of_eq rfl) (hb hby at_4) (fun _ _ => ⟨rfl, e0, (by decide : 0 + 0 ≤ _), (by decide : 0 + 0 ≤ _)⟩)
  dsimp only [Pt.U, Pt.locs, Pt.cells, Pt.slots] at X1 l1 y1 z1 st1 hQ1
  subst l1 y1 z1
  obtain ⟨⟨z1', rfl⟩, N1q, e1⟩ := hQ1
  have N1 := Fr.app N0 N1q
  obtain ⟨_, _, ⟨T2, L2, k2, n2⟩, -, X2, ⟨Lc2, hQ2, l2, y2, z2⟩, st2⟩ := Jvm.LawKit.callS X1 hx (y := (⟨"com/example/tandem_ledger/tandemledger/text/LineBreaks", "isLineBreak", "(C)Z"⟩ : MethodName)) hown (mvT hZ (hw _ (List.mem_of_getElem? (i := 4) rfl))) (mvT hZ (hw _ (List.mem_of_getElem? (i := 5) rfl))) (mvT hZ (hw _ (List.mem_of_getElem? (i := 6) rfl))) (mvT hZ (hw _ (List.mem_of_getElem? (i := 7) rfl))) (by decide) (backOf (W := 0) (own_rm2 l Z a0 hw [] (p0.toUInt32.toUInt16.toUInt32.toInt32)  h0 n0 Z0 ) hZ (hw _ (List.mem_of_getElem? (i := 7) rfl)) (hw _ (List.mem_of_getElem? (i := 6) rfl)) (by decide) (by decide)) (g := (mkF m 9 #[.val (.int p0), .val (.int p1), .val (.int (p0.toUInt32.toUInt16.toUInt32.toInt32)), .val (.int z1'), .unset, .unset] [(.int (p0.toUInt32.toUInt16.toUInt32.toInt32))])) rfl (by rw [hml]; rfl) (argsL := [(.int (p0.toUInt32.toUInt16.toUInt32.toInt32))]) (rest := []) (lenOf own_pd1 rfl) rfl (by show 2 * 0 + _ ≤ _; exact Nat.le_of_eq rfl) (hb hby at_9) (fun _ _ => ⟨rfl, e1, (by decide : 0 + 0 ≤ _), (by decide : 0 + 0 ≤ _)⟩)
  dsimp only [Pt.U, Pt.locs, Pt.cells, Pt.slots] at X2 l2 y2 z2 st2 hQ2
  subst l2 y2 z2
  obtain ⟨rfl, N2q, e2⟩ := hQ2
  have N2 := Fr.app N1 N2q
  obtain ⟨_, _, ⟨T3, L3, k3, n3⟩, -, X3, ⟨Lc3, hQ3, l3, y3, z3⟩, st3⟩ := Jvm.LawKit.callS X2 hx (y := (⟨"com/example/tandem_ledger/tandemledger/text/LineBreaksIsLineBreakPinLaw", "ref", "(C)Z"⟩ : MethodName)) hown (mvT hZ (hw _ (List.mem_of_getElem? (i := 8) rfl))) (mvT hZ (hw _ (List.mem_of_getElem? (i := 9) rfl))) (mvT hZ (hw _ (List.mem_of_getElem? (i := 2) rfl))) (mvT hZ (hw _ (List.mem_of_getElem? (i := 10) rfl))) (by decide) (backOf (W := 1) (own_rm3 l Z a0 hw [] (p0.toUInt32.toUInt16.toUInt32.toInt32)  h0 n0 Z0 ) hZ (hw _ (List.mem_of_getElem? (i := 10) rfl)) (hw _ (List.mem_of_getElem? (i := 2) rfl)) (by decide) (by decide)) (g := (mkF m 13 #[.val (.int p0), .val (.int p1), .val (.int (p0.toUInt32.toUInt16.toUInt32.toInt32)), .val (.int z1'), .unset, .unset] [(.int (p0.toUInt32.toUInt16.toUInt32.toInt32)), (.int (own_F (p0.toUInt32.toUInt16.toUInt32.toInt32)))])) rfl (by rw [hml]; rfl) (argsL := [(.int (p0.toUInt32.toUInt16.toUInt32.toInt32))]) (rest := [(.int (own_F (p0.toUInt32.toUInt16.toUInt32.toInt32)))]) (lenOf own_pd1 rfl) rfl (by show 2 * 0 + _ ≤ _; exact Nat.le_of_eq rfl) (hb hby at_13) (fun _ _ => ⟨rfl, e2, (by decide : 0 + 0 ≤ _), (by decide : 0 + 0 ≤ _)⟩)
  dsimp only [Pt.U, Pt.locs, Pt.cells, Pt.slots] at X3 l3 y3 z3 st3 hQ3
  subst l3 y3 z3
  obtain ⟨rfl, N3q, e3⟩ := hQ3
  have N3 := Fr.app N2 N3q
  obtain ⟨_, _, ⟨T4, L4, k4, n4⟩, -, X4, ⟨Lc4, hQ4, l4, y4, z4⟩, st4⟩ := Jvm.LawKit.callS X3 hx (y := (⟨"com/example/tandem_ledger/tandemledger/text/LineBreaks", "isLineBreak", "(C)Z"⟩ : MethodName)) hown (mvT hZ (hw _ (List.mem_of_getElem? (i := 4) rfl))) (mvT hZ (hw _ (List.mem_of_getElem? (i := 5) rfl))) (mvT hZ (hw _ (List.mem_of_getElem? (i := 6) rfl))) (mvT hZ (hw _ (List.mem_of_getElem? (i := 7) rfl))) (by decide) (backOf (W := 0) (own_rm2 l Z a0 hw [] z1'  h0 n0 Z0 ) hZ (hw _ (List.mem_of_getElem? (i := 7) rfl)) (hw _ (List.mem_of_getElem? (i := 6) rfl)) (by decide) (by decide)) (g := (mkF m 27 #[.val (.int p0), .val (.int p1), .val (.int (p0.toUInt32.toUInt16.toUInt32.toInt32)), .val (.int z1'), .val (.int (1 : Int32)), .unset] [(.int z1')])) rfl (by rw [hml]; rfl) (argsL := [(.int z1')]) (rest := []) (lenOf own_pd1 rfl) rfl (by show 2 * 0 + _ ≤ _; exact Nat.le_of_eq rfl) (hb hby at_27) (fun _ _ => ⟨rfl, e3, (by decide : 0 + 0 ≤ _), (by decide : 0 + 0 ≤ _)⟩)
  dsimp only [Pt.U, Pt.locs, Pt.cells, Pt.slots] at X4 l4 y4 z4 st4 hQ4
  subst l4 y4 z4
  obtain ⟨rfl, N4q, e4⟩ := hQ4
  have N4 := Fr.app N3 N4q
  obtain ⟨_, _, ⟨T5, L5, k5, n5⟩, -, X5, ⟨Lc5, hQ5, l5, y5, z5⟩, st5⟩ := Jvm.LawKit.callS X4 hx (y := (⟨"com/example/tandem_ledger/tandemledger/text/LineBreaksIsLineBreakPinLaw", "ref", "(C)Z"⟩ : MethodName)) hown (mvT hZ (hw _ (List.mem_of_getElem? (i := 8) rfl))) (mvT hZ (hw _ (List.mem_of_getElem? (i := 9) rfl))) (mvT hZ (hw _ (List.mem_of_getElem? (i := 2) rfl))) (mvT hZ (hw _ (List.mem_of_getElem? (i := 10) rfl))) (by decide) (backOf (W := 1) (own_rm3 l Z a0 hw [] z1'  h0 n0 Z0 ) hZ (hw _ (List.mem_of_getElem? (i := 10) rfl)) (hw _ (List.mem_of_getElem? (i := 2) rfl)) (by decide) (by decide)) (g := (mkF m 31 #[.val (.int p0), .val (.int p1), .val (.int (p0.toUInt32.toUInt16.toUInt32.toInt32)), .val (.int z1'), .val (.int (1 : Int32)), .unset] [(.int z1'), (.int (own_F z1'))])) rfl (by rw [hml]; rfl) (argsL := [(.int z1')]) (rest := [(.int (own_F z1'))]) (lenOf own_pd1 rfl) rfl (by show 2 * 0 + _ ≤ _; exact Nat.le_of_eq rfl) (hb hby at_31) (fun _ _ => ⟨rfl, e4, (by decide : 0 + 0 ≤ _), (by decide : 0 + 0 ≤ _)⟩)
  dsimp only [Pt.U, Pt.locs, Pt.cells, Pt.slots] at X5 l5 y5 z5 st5 hQ5
  subst l5 y5 z5
  obtain ⟨rfl, N5q, e5⟩ := hQ5
  have N5 := Fr.app N4 N5q
  obtain ⟨fs, hr, hrun, hended, hW, hsame⟩ := X5.leave (v := some (.int (1 : Int32))) (fun h => by rw [Bd.returns] at h; cases h)
  refine ⟨_, _, ?_, hrun, hended, _, _, rfl, ?_, ⟨_, rfl⟩, hW, hsame.mono (by decide) (by decide)⟩
  · show Steps p.tables e below (s₁.setTop (mkF m 0 #[.val (.int p0), .val (.int p1), .unset, .unset, .unset, .unset] [])) _
    refine XS.iloadN X0.here hx rfl (hb hby at_0) rfl ?_
    show Steps p.tables e below (s₁.setTop (mkF m 1 #[.val (.int p0), .val (.int p1), .unset, .unset, .unset, .unset] [(.int p0)])) _
    refine XS.i2c X0.here hx rfl (hb hby at_1) rfl ?_
    show Steps p.tables e below (s₁.setTop (mkF m 2 #[.val (.int p0), .val (.int p1), .unset, .unset, .unset, .unset] [(.int (p0.toUInt32.toUInt16.toUInt32.toInt32))])) _
    refine XS.istoreN X0.here hx rfl (hb hby at_2) rfl (l' := #[.val (.int p0), .val (.int p1), .val (.int (p0.toUInt32.toUInt16.toUInt32.toInt32)), .unset, .unset, .unset]) rfl ?_
    show Steps p.tables e below (s₁.setTop (mkF m 3 #[.val (.int p0), .val (.int p1), .val (.int (p0.toUInt32.toUInt16.toUInt32.toInt32)), .unset, .unset, .unset] [])) _
    refine XS.iloadN X0.here hx rfl (hb hby at_3) rfl ?_
    show Steps p.tables e below (s₁.setTop (mkF m 4 #[.val (.int p0), .val (.int p1), .val (.int (p0.toUInt32.toUInt16.toUInt32.toInt32)), .unset, .unset, .unset] [(.int p1)])) _
    refine st1 _ ?_
    show Steps p.tables e below (T1.setTop (mkF m 7 #[.val (.int p0), .val (.int p1), .val (.int (p0.toUInt32.toUInt16.toUInt32.toInt32)), .unset, .unset, .unset] [(.int z1')])) _
    refine XS.istoreN X1.here hx rfl (hb hby at_7) rfl (l' := #[.val (.int p0), .val (.int p1), .val (.int (p0.toUInt32.toUInt16.toUInt32.toInt32)), .val (.int z1'), .unset, .unset]) rfl ?_
    show Steps p.tables e below (T1.setTop (mkF m 8 #[.val (.int p0), .val (.int p1), .val (.int (p0.toUInt32.toUInt16.toUInt32.toInt32)), .val (.int z1'), .unset, .unset] [])) _
    refine XS.iloadN X1.here hx rfl (hb hby at_8) rfl ?_
    show Steps p.tables e below (T1.setTop (mkF m 9 #[.val (.int p0), .val (.int p1), .val (.int (p0.toUInt32.toUInt16.toUInt32.toInt32)), .val (.int z1'), .unset, .unset] [(.int (p0.toUInt32.toUInt16.toUInt32.toInt32))])) _
    refine st2 _ ?_
    show Steps p.tables e below (T2.setTop (mkF m 12 #[.val (.int p0), .val (.int p1), .val (.int (p0.toUInt32.toUInt16.toUInt32.toInt32)), .val (.int z1'), .unset, .unset] [(.int (own_F (p0.toUInt32.toUInt16.toUInt32.toInt32)))])) _
    refine XS.iloadN X2.here hx rfl (hb hby at_12) rfl ?_
    show Steps p.tables e below (T2.setTop (mkF m 13 #[.val (.int p0), .val (.int p1), .val (.int (p0.toUInt32.toUInt16.toUInt32.toInt32)), .val (.int z1'), .unset, .unset] [(.int (p0.toUInt32.toUInt16.toUInt32.toInt32)), (.int (own_F (p0.toUInt32.toUInt16.toUInt32.toInt32)))])) _
    refine st3 _ ?_
    show Steps p.tables e below (T3.setTop (mkF m 16 #[.val (.int p0), .val (.int p1), .val (.int (p0.toUInt32.toUInt16.toUInt32.toInt32)), .val (.int z1'), .unset, .unset] [(.int (own_G (p0.toUInt32.toUInt16.toUInt32.toInt32))), (.int (own_F (p0.toUInt32.toUInt16.toUInt32.toInt32)))])) _
    refine XS.icmpNo X3.here hx rfl (hb hby at_16) rfl (teq (own_same _ : (own_F (p0.toUInt32.toUInt16.toUInt32.toInt32)) = (own_G (p0.toUInt32.toUInt16.toUInt32.toInt32)))).2 ?_
    show Steps p.tables e below (T3.setTop (mkF m 19 #[.val (.int p0), .val (.int p1), .val (.int (p0.toUInt32.toUInt16.toUInt32.toInt32)), .val (.int z1'), .unset, .unset] [])) _
    refine XS.iconst X3.here hx rfl (hb hby at_19) ?_
    show Steps p.tables e below (T3.setTop (mkF m 20 #[.val (.int p0), .val (.int p1), .val (.int (p0.toUInt32.toUInt16.toUInt32.toInt32)), .val (.int z1'), .unset, .unset] [(.int (1 : Int32))])) _
    refine XS.goto X3.here hx rfl (pc0 := 20) (pc' := 24) rfl (hb hby at_20) (by decide) (by decide) ?_
    show Steps p.tables e below (T3.setTop (mkF m 24 #[.val (.int p0), .val (.int p1), .val (.int (p0.toUInt32.toUInt16.toUInt32.toInt32)), .val (.int z1'), .unset, .unset] [(.int (1 : Int32))])) _
    refine XS.istore X3.here hx rfl (hb hby at_24) rfl (l' := #[.val (.int p0), .val (.int p1), .val (.int (p0.toUInt32.toUInt16.toUInt32.toInt32)), .val (.int z1'), .val (.int (1 : Int32)), .unset]) rfl ?_
    show Steps p.tables e below (T3.setTop (mkF m 26 #[.val (.int p0), .val (.int p1), .val (.int (p0.toUInt32.toUInt16.toUInt32.toInt32)), .val (.int z1'), .val (.int (1 : Int32)), .unset] [])) _
    refine XS.iloadN X3.here hx rfl (hb hby at_26) rfl ?_
    show Steps p.tables e below (T3.setTop (mkF m 27 #[.val (.int p0), .val (.int p1), .val (.int (p0.toUInt32.toUInt16.toUInt32.toInt32)), .val (.int z1'), .val (.int (1 : Int32)), .unset] [(.int z1')])) _
    refine st4 _ ?_
    show Steps p.tables e below (T4.setTop (mkF m 30 #[.val (.int p0), .val (.int p1), .val (.int (p0.toUInt32.toUInt16.toUInt32.toInt32)), .val (.int z1'), .val (.int (1 : Int32)), .unset] [(.int (own_F z1'))])) _
    refine XS.iloadN X4.here hx rfl (hb hby at_30) rfl ?_
    show Steps p.tables e below (T4.setTop (mkF m 31 #[.val (.int p0), .val (.int p1), .val (.int (p0.toUInt32.toUInt16.toUInt32.toInt32)), .val (.int z1'), .val (.int (1 : Int32)), .unset] [(.int z1'), (.int (own_F z1'))])) _
    refine st5 _ ?_
    show Steps p.tables e below (T5.setTop (mkF m 34 #[.val (.int p0), .val (.int p1), .val (.int (p0.toUInt32.toUInt16.toUInt32.toInt32)), .val (.int z1'), .val (.int (1 : Int32)), .unset] [(.int (own_G z1')), (.int (own_F z1'))])) _
    refine XS.icmpNo X5.here hx rfl (hb hby at_34) rfl (teq (own_same _ : (own_F z1') = (own_G z1'))).2 ?_
    show Steps p.tables e below (T5.setTop (mkF m 37 #[.val (.int p0), .val (.int p1), .val (.int (p0.toUInt32.toUInt16.toUInt32.toInt32)), .val (.int z1'), .val (.int (1 : Int32)), .unset] [])) _
    refine XS.iconst X5.here hx rfl (hb hby at_37) ?_
    show Steps p.tables e below (T5.setTop (mkF m 38 #[.val (.int p0), .val (.int p1), .val (.int (p0.toUInt32.toUInt16.toUInt32.toInt32)), .val (.int z1'), .val (.int (1 : Int32)), .unset] [(.int (1 : Int32))])) _
    refine XS.goto X5.here hx rfl (pc0 := 38) (pc' := 42) rfl (hb hby at_38) (by decide) (by decide) ?_
    show Steps p.tables e below (T5.setTop (mkF m 42 #[.val (.int p0), .val (.int p1), .val (.int (p0.toUInt32.toUInt16.toUInt32.toInt32)), .val (.int z1'), .val (.int (1 : Int32)), .unset] [(.int (1 : Int32))])) _
    refine XS.istore X5.here hx rfl (hb hby at_42) rfl (l' := #[.val (.int p0), .val (.int p1), .val (.int (p0.toUInt32.toUInt16.toUInt32.toInt32)), .val (.int z1'), .val (.int (1 : Int32)), .val (.int (1 : Int32))]) rfl ?_
    show Steps p.tables e below (T5.setTop (mkF m 44 #[.val (.int p0), .val (.int p1), .val (.int (p0.toUInt32.toUInt16.toUInt32.toInt32)), .val (.int z1'), .val (.int (1 : Int32)), .val (.int (1 : Int32))] [])) _
    refine XS.iload X5.here hx rfl (hb hby at_44) rfl ?_
    show Steps p.tables e below (T5.setTop (mkF m 46 #[.val (.int p0), .val (.int p1), .val (.int (p0.toUInt32.toUInt16.toUInt32.toInt32)), .val (.int z1'), .val (.int (1 : Int32)), .val (.int (1 : Int32))] [(.int (1 : Int32))])) _
    refine XS.ifNo X5.here hx rfl (hb hby at_46) rfl ((if0 _ _).trans (feq ((by decide) : ¬ ((1 : Int32) = (0 : Int32)))).1) ?_
    show Steps p.tables e below (T5.setTop (mkF m 49 #[.val (.int p0), .val (.int p1), .val (.int (p0.toUInt32.toUInt16.toUInt32.toInt32)), .val (.int z1'), .val (.int (1 : Int32)), .val (.int (1 : Int32))] [])) _
    refine XS.iload X5.here hx rfl (hb hby at_49) rfl ?_
    show Steps p.tables e below (T5.setTop (mkF m 51 #[.val (.int p0), .val (.int p1), .val (.int (p0.toUInt32.toUInt16.toUInt32.toInt32)), .val (.int z1'), .val (.int (1 : Int32)), .val (.int (1 : Int32))] [(.int (1 : Int32))])) _
    refine XS.ifNo X5.here hx rfl (hb hby at_51) rfl ((if0 _ _).trans (feq ((by decide) : ¬ ((1 : Int32) = (0 : Int32)))).1) ?_
    show Steps p.tables e below (T5.setTop (mkF m 54 #[.val (.int p0), .val (.int p1), .val (.int (p0.toUInt32.toUInt16.toUInt32.toInt32)), .val (.int z1'), .val (.int (1 : Int32)), .val (.int (1 : Int32))] [])) _
    refine XS.iconst X5.here hx rfl (hb hby at_54) ?_
    show Steps p.tables e below (T5.setTop (mkF m 55 #[.val (.int p0), .val (.int p1), .val (.int (p0.toUInt32.toUInt16.toUInt32.toInt32)), .val (.int z1'), .val (.int (1 : Int32)), .val (.int (1 : Int32))] [(.int (1 : Int32))])) _
    refine XS.goto X5.here hx rfl (pc0 := 55) (pc' := 59) rfl (hb hby at_55) (by decide) (by decide) ?_
    show Steps p.tables e below (T5.setTop (mkF m 59 #[.val (.int p0), .val (.int p1), .val (.int (p0.toUInt32.toUInt16.toUInt32.toInt32)), .val (.int z1'), .val (.int (1 : Int32)), .val (.int (1 : Int32))] [(.int (1 : Int32))])) _
    exact retN X5 hx (t := .boolean) Bd.returns (by simp) (hb hby at_59) hr
  · show own_Q0 n0 _ T5.heap _
    rw [e5]
    exact ⟨rfl, N5⟩
set_option maxRecDepth 65536 in
set_option maxHeartbeats 40000000 in
theorem comes_1 {Post : Tables → Env → Array Value → State → Outcome → State → Prop} (hpost : ∀ tb e args s v u, (limb_1_1.after args s (.returned v) u = true ∧ limb_1_2.after args s (.returned v) u = true ∧ True) → FrameEnd s (.returned v) u (Jvm.fieldLocs frame_1_writes args s ++ Jvm.arrayLocs frame_1_arrays args s ++ Jvm.staticLocs frame_1_statics s) 0 0 → Post tb e args s (.returned v) u) :
    ArmFor flags0 classFile x code maxLocals ret World_1 tables_1 room_1 Calls_1 rest_1 Pre_1 Post := by
  intro l hfl _ _ p e ha hc hk s m args below hf hA hF happ hP
  obtain ⟨hcalls, hrest, hpre⟩ := hP
  obtain ⟨-, -, -, hnamed, -, -, -, hat⟩ := (Spec.applies_iff hf).mp happ
  obtain ⟨hg, hn⟩ := and_e (Cond.before_iff.mp (show (Jvm.Cond.and given_1 narrow_1).before args s = true from hpre))
  obtain ⟨gc0, gr0⟩ := and_e hg
  obtain ⟨gc1, gr1⟩ := and_e gr0
  obtain ⟨w0, w1, rfl⟩ : ∃ w0 w1 : Value, args = #[w0, w1] := by
    have hs : args.size = 2 := by simpa [Cond.value, given_1] using gc0
    obtain ⟨L⟩ := args
    match L, hs with
    | [w0, w1], _ => exact ⟨w0, w1, rfl⟩
  have hw := fun d (hd : d ∈ tables_1) => atoms_spec (ws := Jvm.Cond.code x code maxLocals ret :: tables_1) hat d (List.mem_cons_of_mem _ hd)
  obtain ⟨i0, ei0⟩ := is_v gc1
  obtain rfl : w0 = (.int i0) := Option.some.inj ei0
  obtain ⟨i1, ei1⟩ := is_v gr1
  obtain rfl : w1 = (.int i1) := Option.some.inj ei1
  obtain ⟨n, o, h1, h2, h3, _, L, rfl, ⟨rfl, N⟩, hq⟩ := own_rm0 l s _ hw tables_1 i0 i1  s.heap s.heap.size (Nat.le_refl _)  p e ha hc hk s m _ below hf ((Spec.applies_iff_loose hf).mp happ).1 ⟨rfl, State.Warmed39.refl s, rfl⟩ trivial
  refine ⟨n, _, h1, h2, h3, hpost _ _ _ _ _ _ ⟨Cond.after_iff.mpr rfl, Cond.after_iff.mpr (eq_i res_at (Term.int_eval (1)) rfl), trivial⟩ ⟨hq.1, hq.2.1, (hq.2.2.sift fun y hy => Or.inr (N y hy)).mono (by decide) (by decide)⟩⟩
theorem main_1_1 : Claimed_1_1 := comes_1 fun _ _ _ _ _ _ h hF => ⟨h.1, hF⟩
theorem main_1_2 : Claimed_1_2 := comes_1 fun _ _ _ _ _ _ h hF => ⟨h.2.1, hF⟩
end Jvm.Pilot.@@N@@
namespace Jvm.Pilot.@@N@@
open Jvm Jvm.ClassFile Sem Op Lib Jvm.Free Jvm.Stand Jvm.Pilot.@@N@@.Jvm.D
/-! MADE BY PROGRAM (witnessworld.py) out of the Statement's table words and the real class files: 9 classes; the members and pool entries that the words name. The judged class is class 1, her method 3. -/
namespace start1
open Jvm.ClassFile
def u (s : String) : CpInfo := .utf8 (stringToUtf16 s)
/-- a pool by its gaps: so many unusable entries, then the entry; so many at the end -/
def gap : Nat → List CpInfo → List CpInfo
  | 0, r => r
  | n + 1, r => .unusable :: gap n r
def poolList (es : List (Nat × CpInfo)) (last : Nat) : List CpInfo := es.foldr (fun e r => gap e.1 (e.2 :: r)) (gap last [])
def pool (es : List (Nat × CpInfo)) (last : Nat) : Array CpInfo := ⟨poolList es last⟩
def fileOf (pool : Array CpInfo) (this : Nat) (attrs : Array Attribute := #[]) (ms : Array MethodInfo := #[]) (fl : Nat := 33) (sup : Nat := 0) (ifs : Array Nat := #[]) (fds : Array FieldInfo := #[]) : ClassFile where
  minorVersion := 0
  majorVersion := 65
  constantPool := pool
  accessFlags := fl
  thisClass := this
  superClass := sup
  interfaces := ifs
  fields := fds
  methods := ms
  attributes := attrs
def plain (name : String) (sup : Option ClassId) : Class where
  name := name
  kind := .ordinary
  loader := none
  accessFlags := 33
  super := sup
  interfaces := #[]
  cf := none
  fields := #[]
  methods := #[]
  instanceTypes := #[]
  staticTypes := #[]
  resolved := #[]
  callSites := []
  init := .initialized
  statics := none
  mirror := none

def pool0 : Array CpInfo := pool [(5, u "<init>"), (0, u "()V"), (1, .class_ 10), (1, u "java/lang/Object")] 113

def k0m0 : Method := { name := "<init>", desc := "()V", sig := { parameters := [], returnType := none }, accessFlags := 1, code := none }
/-- java/lang/Object -/
def k0 : Class := { plain "java/lang/Object" none with
  accessFlags := 33
  interfaces := #[]
  cf := some (fileOf pool0 8 #[] #[{ accessFlags := 1, nameIndex := 5, descriptorIndex := 6, attributes := #[] }] 33 0 #[] #[])
  fields := #[]
  methods := #[k0m0]
  instanceTypes := #[]
  staticTypes := #[]
  resolved := Array.replicate 124 none
  statics := none }

def pool1 : Array CpInfo := pool [(2, .class_ 4), (1, u "java/lang/Object"), (0, u "<init>"), (0, u "()V"), (0, .methodref 8 9), (0, .class_ 10), (0, .nameAndType 11 12), (0, u "com/example/tandem_ledger/tandemledger/text/LineBreaksIsLineBreakPinLaw"), (0, u "near"), (0, u "(I)C"), (0, .methodref 14 15), (0, .class_ 16), (0, .nameAndType 17 18), (0, u "com/example/tandem_ledger/tandemledger/text/LineBreaks"), (0, u "isLineBreak"), (0, u "(C)Z"), (0, .methodref 8 20), (0, .nameAndType 21 18), (0, u "ref"), (3, u "law"), (0, u "(II)Z")] 2

def k1m0 : Method := { name := "<init>", desc := "()V", sig := { parameters := [], returnType := none }, accessFlags := 2, code := none }
def k1c1 : Code := { maxStack := 2, maxLocals := 2, code := method_2_code, exceptionTable := #[], attributes := #[] }
def k1m1 : Method := { name := "ref", desc := "(C)Z", sig := { parameters := [.char], returnType := some .boolean }, accessFlags := 10, code := some k1c1 }
def k1c2 : Code := { maxStack := 3, maxLocals := 3, code := method_3_code, exceptionTable := #[], attributes := #[] }
def k1m2 : Method := { name := "near", desc := "(I)C", sig := { parameters := [.int], returnType := some .char }, accessFlags := 10, code := some k1c2 }
def k1c3 : Code := { maxStack := 2, maxLocals := 6, code := code, exceptionTable := #[], attributes := #[] }
def k1m3 : Method := { name := "law", desc := "(II)Z", sig := { parameters := [.int, .int], returnType := some .boolean }, accessFlags := 9, code := some k1c3 }
/-- com/example/tandem_ledger/tandemledger/text/LineBreaksIsLineBreakPinLaw -/
def k1 : Class := { plain "com/example/tandem_ledger/tandemledger/text/LineBreaksIsLineBreakPinLaw" (some 0) with
  accessFlags := 49
  interfaces := #[]
  cf := some (fileOf pool1 8 #[] #[{ accessFlags := 2, nameIndex := 5, descriptorIndex := 6, attributes := #[] }, { accessFlags := 10, nameIndex := 21, descriptorIndex := 18, attributes := #[] }, { accessFlags := 10, nameIndex := 11, descriptorIndex := 12, attributes := #[] }, { accessFlags := 9, nameIndex := 25, descriptorIndex := 26, attributes := #[] }] 49 2 #[] #[])
  fields := #[]
  methods := #[k1m0, k1m1, k1m2, k1m3]
  instanceTypes := #[]
  staticTypes := #[]
  resolved := Array.replicate 29 none
  statics := none }

def pool2 : Array CpInfo := pool [(2, .class_ 4), (1, u "java/lang/Object"), (0, u "<init>"), (0, u "()V"), (11, .class_ 20), (1, u "com/example/tandem_ledger/tandemledger/text/LineBreaks"), (0, u "isLineBreak"), (0, u "(C)Z")] 7

def k2m0 : Method := { name := "<init>", desc := "()V", sig := { parameters := [], returnType := none }, accessFlags := 2, code := none }
def k2c1 : Code := { maxStack := 1, maxLocals := 1, code := prog_108_method_3_code, exceptionTable := #[], attributes := #[] }
def k2m1 : Method := { name := "isLineBreak", desc := "(C)Z", sig := { parameters := [.char], returnType := some .boolean }, accessFlags := 9, code := some k2c1 }
/-- com/example/tandem_ledger/tandemledger/text/LineBreaks -/
def k2 : Class := { plain "com/example/tandem_ledger/tandemledger/text/LineBreaks" (some 0) with
  accessFlags := 49
  interfaces := #[]
  cf := some (fileOf pool2 18 #[] #[{ accessFlags := 2, nameIndex := 5, descriptorIndex := 6, attributes := #[] }, { accessFlags := 9, nameIndex := 21, descriptorIndex := 22, attributes := #[] }] 49 2 #[] #[])
  fields := #[]
  methods := #[k2m0, k2m1]
  instanceTypes := #[]
  staticTypes := #[]
  resolved := Array.replicate 30 none
  statics := none }

def pool3 : Array CpInfo := pool [(1, u "java/lang/Cloneable"), (0, .class_ 1), (0, u "java/lang/Object"), (0, .class_ 3)] 3

/-- java/lang/Cloneable -/
def k3 : Class := { plain "java/lang/Cloneable" (some 0) with
  accessFlags := 1537
  interfaces := #[]
  cf := some (fileOf pool3 2 #[] #[] 1537 4 #[] #[])
  fields := #[]
  methods := #[]
  instanceTypes := #[]
  staticTypes := #[]
  resolved := Array.replicate 8 none
  statics := none }

def pool4 : Array CpInfo := pool [(1, u "java/io/Serializable"), (0, .class_ 1), (0, u "java/lang/Object"), (0, .class_ 3)] 3

/-- java/io/Serializable -/
def k4 : Class := { plain "java/io/Serializable" (some 0) with
  accessFlags := 1537
  interfaces := #[]
  cf := some (fileOf pool4 2 #[] #[] 1537 4 #[] #[])
  fields := #[]
  methods := #[]
  instanceTypes := #[]
  staticTypes := #[]
  resolved := Array.replicate 8 none
  statics := none }

/-- the primitive byte -/
def k5 : Class := { plain "byte" none with kind := .primitive 'B', accessFlags := 0x411 }
/-- [B -/
def k6 : Class := { plain "[B" (some 0) with kind := .array 5 .byte, interfaces := #[3, 4], accessFlags := 1041 }

/-- the primitive int -/
def k7 : Class := { plain "int" none with kind := .primitive 'I', accessFlags := 0x411 }
/-- [I -/
def k8 : Class := { plain "[I" (some 0) with kind := .array 7 .int, interfaces := #[3, 4], accessFlags := 1041 }

def heap : Heap := #[]
def classes : Array Class := #[k0, k1, k2, k3, k4, k5, k6, k7, k8]
def interned : List (Array UInt16 × Addr) := []
def slotsUsed : Nat := 0
def theMethod : MethodId := ⟨1, 3⟩
def args0 : Array Value := #[.int 5, .int 7]
def aboutOver (below : List Frame) : State where
  vm := { classes := classes, interned := interned.toArray }
  heap := heap
  slotsUsed := slotsUsed
  threads := #[{ frames := .invoking theMethod args0 :: below }]
def below0 : List Frame := [.native { method := ⟨0, 0⟩, args := #[] }]
def about1 : State := aboutOver below0
def p0 : Program := .bare "" "" ""
def e0 : Env := launch0.env 0 0 0
theorem w_frames : about1.frames = Frame.invoking theMethod args0 :: below0 := rfl
set_option maxRecDepth 65536 in
theorem w_args : argsFit about1.vm theMethod args0 = true := by decide +kernel
set_option maxRecDepth 65536 in
theorem w_heap : heapFits about1 = true := by decide +kernel
set_option maxRecDepth 65536 in
theorem w_runnable : about1.curStatus? = some .runnable := by decide +kernel
set_option maxRecDepth 65536 in
theorem w_alone : about1.alone = true := by decide +kernel
set_option maxRecDepth 65536 in
theorem w_named : about1.methodNamed? x = some theMethod := by decide +kernel
set_option maxRecDepth 65536 in
theorem w_hears : about1.hears theMethod below0 = true := by decide +kernel
set_option maxRecDepth 65536 in
theorem w_ripe : about1.ripe theMethod args0 below0 = true := by decide +kernel
theorem w_running : about1.status = .running := rfl
set_option maxRecDepth 65536 in
theorem w_room : about1.hasRoom e0.platform room_1 = true :=
  launch0.hasRoom_least _ room_1 (by decide +kernel) (by decide +kernel) (by decide +kernel) (by decide +kernel) (by decide +kernel) (by decide +kernel)
theorem allAtoms_all (ts : List Jvm.Cond) (a : Array Jvm.Value) (st : Jvm.State) : (allAtoms ts).before a st = ts.all (fun c => c.before a st) := by
  induction ts with
  | nil => rfl
  | cons c t ih =>
    show (Jvm.Cond.and c (allAtoms t)).before a st = _
    rw [Jvm.Cond.before_and, ih, List.all_cons]
def words1 : List Jvm.Cond := Jvm.Cond.code x code maxLocals ret :: tables_1
/-- a 'code' word, met by the world's own term for the bytes: nothing is compared byte by byte -/
theorem code_word {y : MethodName} {bytes : ByteArray} {mx : Nat} {rt : Option FieldType} {a : Array Value} {s : State} {m : MethodId} {meth : Method} {c : Code} (h1 : s.methodNamed? y = some m) (h2 : s.vm.method? m = some meth) (h3 : meth.code = some c) (h4 : c.code = bytes)
    (h5 : (c.maxLocals == mx && c.exceptionTable.isEmpty && decide (c.maxStack ≤ mostOperands) && decide (meth.sig.returnType = rt) && !meth.locks && decide (parseMethodDescriptor y.desc = some meth.sig)) = true) : (Jvm.Cond.code y bytes mx rt).before a s = true := by
  simp only [Bool.and_eq_true, beq_iff_eq, Bool.not_eq_true', decide_eq_true_eq] at h5
  obtain ⟨⟨⟨⟨⟨g1, g2⟩, g3⟩, g4⟩, g5⟩, g6⟩ := h5
  simp [Cond.before, Cond.holds, Cond.value, h1, h2, h3, h4, g1, g2, g3, g4, g5, g6]
def isCode : Jvm.Cond → Bool
  | .code _ _ _ _ => true
  | _ => false
theorem all_split {L : List Jvm.Cond} {P : Jvm.Cond → Bool} (h1 : L.all (fun c => isCode c || P c) = true) (h2 : ∀ c ∈ L.filter isCode, P c = true) : L.all P = true := by
  refine List.all_eq_true.mpr fun c hc => ?_
  have h := List.all_eq_true.mp h1 c hc
  rcases Bool.eq_false_or_eq_true (isCode c) with hi | hi
  · exact h2 c (List.mem_filter.mpr ⟨hc, hi⟩)
  · simpa [hi] using h
set_option maxRecDepth 65536 in
theorem w_c0 : (Jvm.Cond.code x code maxLocals ret).before args0 about1 = true := code_word (m := ⟨1, 3⟩) (meth := k1m3) (c := k1c3) (by decide +kernel) rfl rfl rfl (by decide +kernel)
set_option maxRecDepth 65536 in
theorem w_c1 : (Jvm.Cond.code ({ cls := "com/example/tandem_ledger/tandemledger/text/LineBreaksIsLineBreakPinLaw", name := "near", desc := "(I)C" } : Jvm.MethodName) method_3_code (3 : Nat) (Option.some Jvm.ClassFile.FieldType.char)).before args0 about1 = true := code_word (m := ⟨1, 2⟩) (meth := k1m2) (c := k1c2) (by decide +kernel) rfl rfl rfl (by decide +kernel)
set_option maxRecDepth 65536 in
theorem w_c2 : (Jvm.Cond.code ({ cls := "com/example/tandem_ledger/tandemledger/text/LineBreaks", name := "isLineBreak", desc := "(C)Z" } : Jvm.MethodName) prog_108_method_3_code (1 : Nat) (Option.some Jvm.ClassFile.FieldType.boolean)).before args0 about1 = true := code_word (m := ⟨2, 1⟩) (meth := k2m1) (c := k2c1) (by decide +kernel) rfl rfl rfl (by decide +kernel)
set_option maxRecDepth 65536 in
theorem w_c3 : (Jvm.Cond.code ({ cls := "com/example/tandem_ledger/tandemledger/text/LineBreaksIsLineBreakPinLaw", name := "ref", desc := "(C)Z" } : Jvm.MethodName) method_2_code (2 : Nat) (Option.some Jvm.ClassFile.FieldType.boolean)).before args0 about1 = true := code_word (m := ⟨1, 1⟩) (meth := k1m1) (c := k1c1) (by decide +kernel) rfl rfl rfl (by decide +kernel)
def codes1 : List Jvm.Cond := [Jvm.Cond.code x code maxLocals ret, Jvm.Cond.code ({ cls := "com/example/tandem_ledger/tandemledger/text/LineBreaksIsLineBreakPinLaw", name := "near", desc := "(I)C" } : Jvm.MethodName) method_3_code (3 : Nat) (Option.some Jvm.ClassFile.FieldType.char), Jvm.Cond.code ({ cls := "com/example/tandem_ledger/tandemledger/text/LineBreaks", name := "isLineBreak", desc := "(C)Z" } : Jvm.MethodName) prog_108_method_3_code (1 : Nat) (Option.some Jvm.ClassFile.FieldType.boolean), Jvm.Cond.code ({ cls := "com/example/tandem_ledger/tandemledger/text/LineBreaksIsLineBreakPinLaw", name := "ref", desc := "(C)Z" } : Jvm.MethodName) method_2_code (2 : Nat) (Option.some Jvm.ClassFile.FieldType.boolean)]
set_option maxRecDepth 65536 in
theorem codes_eq : words1.filter isCode = codes1 := rfl
theorem w_codes : ∀ c ∈ words1.filter isCode, c.before args0 about1 = true := by
  rw [codes_eq]
  intro c hc
  simp only [codes1, List.mem_cons, List.not_mem_nil, or_false] at hc
  rcases hc with rfl | rfl | rfl | rfl
  · exact w_c0
  · exact w_c1
  · exact w_c2
  · exact w_c3
set_option maxRecDepth 65536 in
theorem w_t1 : words1.all (fun c => isCode c || c.before args0 about1) = true := by decide +kernel
theorem w_tables : (allAtoms (Jvm.Cond.code x code maxLocals ret :: tables_1)).before args0 about1 = true := by
  rw [allAtoms_all]
  show words1.all (fun c => c.before args0 about1) = true
  refine all_split ?_ w_codes
  rw [w_t1]
set_option maxRecDepth 65536 in
theorem w_case : (Jvm.Cond.and given_1 narrow_1).before args0 about1 = true := by decide +kernel
theorem w_applies : (headSpec (Jvm.Cond.code x code maxLocals ret :: tables_1) room_1).applies x e0.platform about1 = true :=
  (Spec.applies_iff w_frames).mpr ⟨w_running, w_runnable, w_alone, w_named, w_hears, w_ripe, w_room, w_tables⟩
theorem atStart : AtStart classFile x code maxLocals ret World_1 tables_1 room_1 Calls_1 rest_1 Pre_1 launch0 p0 e0 about1 theMethod args0 below0 :=
  ⟨lists_1, trivial, launch0.admits_env _ _ _, launch0.least_env, fairChoices_fair.cas, fairChoices_fair.clock, w_frames, w_args, w_heap, w_applies, trivial, trivial, w_case⟩
end start1
theorem witness_1 : WitnessClaimed_1 := ⟨start1.p0, start1.e0, start1.about1, start1.theMethod, start1.args0, start1.below0, start1.atStart⟩
end Jvm.Pilot.@@N@@
