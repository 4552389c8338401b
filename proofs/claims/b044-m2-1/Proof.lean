import JvmDerived
import JvmDerived.Pilot.@@N@@Statement
import JvmDerived.Pilot.@@N@@Code
set_option linter.unusedVariables false
set_option linter.unusedSimpArgs false
@@BLOCK:NumsL.lean.txt@@
namespace Jvm.RoadKit
open Sem ClassFile Op Lib Jvm.Stand Jvm.Free Jvm.LawKit
section New
variable {p : Program} {l : Launch} {e : Env} {R : Room} {s : State} {m : MethodId} {args : Array Value} {below : List Frame} {meth : Method} {c : Code} {T : State} {locs : List Loc} {cells slots : Nat}
theorem retI (X : Stand p l e R s m args below meth c T locs cells slots) (hx : p.tables.exec = Jvm.exec) {pc : Nat} {Ls : Array Slot} {z : Int32} {rest : List Value} (hret : meth.sig.returnType = some .int) (hd : decode c.code pc = .ok (.ireturn, 1)) {fs : List Frame}
    (hl : ∀ (f : JFrame) (acts : List Action), f.method = m → f.locked = none → f.entered = [] → (doReturn e (T.setTop f) acts (some (.int z))).1 = T.setFrames fs) : Steps p.tables e below (T.setTop (mkF m pc Ls (.int z :: rest))) (T.setFrames fs) := by
  have hm' : T.vm.method? m = some meth := X.method'
  have hn : narrow .int (.int z) = .int z := rfl
  show Steps p.tables e below (T.setTop { method := m, pc := pc, locals := Ls, stack := _ :: rest, locked := none }) _
  jvm_step X.here [X.here.top, hx, hd, hm', hret, hn]
  first | (intro acts; rw [hl _ acts rfl rfl rfl]) | rw [hl _ _ rfl rfl rfl]
  exact Steps.refl _
end New
end Jvm.RoadKit
namespace Jvm.Pilot.@@N@@
open Jvm Jvm.ClassFile Sem Op Lib Jvm.Free Jvm.Stand Jvm.LawKit Jvm.RoadKit Bundle Jvm.Pilot.@@N@@.Jvm.D
/-- a step ahead of a run that ends -/
theorem own_go {p : Program} {e : Env} {below : List Frame} {P : State → Outcome → Prop} {a b : State} (h : ∀ t, Steps p.tables e below b t → Steps p.tables e below a t) (k : ∃ s₂ o, Steps p.tables e below b s₂ ∧ P s₂ o) : ∃ s₂ o, Steps p.tables e below a s₂ ∧ P s₂ o := by
  obtain ⟨t, o, h1, h2⟩ := k; exact ⟨t, o, h t h1, h2⟩
theorem own_rem (x y : Int32) : (x - (x / y) * y).toInt = x.toInt.tmod y.toInt := by
  have a := (x % y).toInt_lt; have b := (x % y).le_toInt
  rw [Int32.toInt_mod] at a b
  rw [Int32.toInt_sub, Int32.toInt_mul, Int32.toInt_div, ← Int.sub_bmod_bmod, ← Int.bmod_mul_bmod]
  simp only [Int.bmod_bmod, Int.bmod_mul_bmod, Int.sub_bmod_bmod]
  have h : x.toInt - x.toInt.tdiv y.toInt * y.toInt = x.toInt.tmod y.toInt := by
    have := Int.mul_tdiv_add_tmod x.toInt y.toInt
    rw [Int.mul_comm]; omega
  rw [h]
  exact Int.bmod_eq_of_le (by omega) (by omega)
/-- x % k for 0 <= x and a small k > 0 -/
theorem own_rem_pos {x y : Int32} (hx : 0 ≤ x.toInt) : (x - (x / y) * y).toInt = x.toInt % y.toInt := by rw [own_rem, Int.tmod_eq_emod_of_nonneg hx]
theorem own_mask31 (x : Int32) : 0 ≤ (x &&& (2147483647 : Int32)).toInt := by
  have e1 : (x &&& (2147483647 : Int32)).toInt = x.toInt % 2 ^ 31 := Jvm.Kit.i32_mask x 2147483647 (k := 31) (by decide) (by decide)
  rw [e1]; exact Int.emod_nonneg _ (by decide)
theorem own_mod7 (x : Int32) : ((x &&& (2147483647 : Int32)) - ((x &&& (2147483647 : Int32)) / (7 : Int32)) * (7 : Int32)) = (0 : Int32) ∨ ((x &&& (2147483647 : Int32)) - ((x &&& (2147483647 : Int32)) / (7 : Int32)) * (7 : Int32)) = (1 : Int32) ∨ ((x &&& (2147483647 : Int32)) - ((x &&& (2147483647 : Int32)) / (7 : Int32)) * (7 : Int32)) = (2 : Int32) ∨ ((x &&& (2147483647 : Int32)) - ((x &&& (2147483647 : Int32)) / (7 : Int32)) * (7 : Int32)) = (3 : Int32) ∨ ((x &&& (2147483647 : Int32)) - ((x &&& (2147483647 : Int32)) / (7 : Int32)) * (7 : Int32)) = (4 : Int32) ∨ ((x &&& (2147483647 : Int32)) - ((x &&& (2147483647 : Int32)) / (7 : Int32)) * (7 : Int32)) = (5 : Int32) ∨ ((x &&& (2147483647 : Int32)) - ((x &&& (2147483647 : Int32)) / (7 : Int32)) * (7 : Int32)) = (6 : Int32) := by
  have h1 := own_mask31 x
  have e0 : (7 : Int32).toInt = 7 := rfl
  have h2 := own_rem_pos (y := (7 : Int32)) h1
  rw [e0] at h2
  have l0 : (0 : Int32).toInt = 0 := rfl
  have l1 : (1 : Int32).toInt = 1 := rfl
  have l2 : (2 : Int32).toInt = 2 := rfl
  have l3 : (3 : Int32).toInt = 3 := rfl
  have l4 : (4 : Int32).toInt = 4 := rfl
  have l5 : (5 : Int32).toInt = 5 := rfl
  have l6 : (6 : Int32).toInt = 6 := rfl
  simp only [← Int32.toInt_inj, h2, l0, l1, l2, l3, l4, l5, l6]
  omega
def own_p5 (e : Int32) : Int32 := if e = (0 : Int32) then (1 : Int32) else if e = (1 : Int32) then (5 : Int32) else if e = (2 : Int32) then (25 : Int32) else if e = (3 : Int32) then (125 : Int32) else if e = (4 : Int32) then (625 : Int32) else if e = (5 : Int32) then (3125 : Int32) else (15625 : Int32)
theorem own_in7 {e : Int32} (he : (e = (0 : Int32) ∨ e = (1 : Int32) ∨ e = (2 : Int32) ∨ e = (3 : Int32) ∨ e = (4 : Int32) ∨ e = (5 : Int32) ∨ e = (6 : Int32))) : ¬ e < 0 ∧ e < (7 : Int32) := by
  rcases he with rfl | rfl | rfl | rfl | rfl | rfl | rfl <;> decide
theorem own_six {e : Int32} (he : (e = (0 : Int32) ∨ e = (1 : Int32) ∨ e = (2 : Int32) ∨ e = (3 : Int32) ∨ e = (4 : Int32) ∨ e = (5 : Int32) ∨ e = (6 : Int32))) : (((6 : Int32) - e) = (0 : Int32) ∨ ((6 : Int32) - e) = (1 : Int32) ∨ ((6 : Int32) - e) = (2 : Int32) ∨ ((6 : Int32) - e) = (3 : Int32) ∨ ((6 : Int32) - e) = (4 : Int32) ∨ ((6 : Int32) - e) = (5 : Int32) ∨ ((6 : Int32) - e) = (6 : Int32)) := by
  rcases he with rfl | rfl | rfl | rfl | rfl | rfl | rfl <;> decide
theorem own_bt1 {va7 vb7 : Int32} (ha7 : (va7 = (0 : Int32) ∨ va7 = (1 : Int32) ∨ va7 = (2 : Int32) ∨ va7 = (3 : Int32) ∨ va7 = (4 : Int32) ∨ va7 = (5 : Int32) ∨ va7 = (6 : Int32))) (hb7 : (vb7 = (0 : Int32) ∨ vb7 = (1 : Int32) ∨ vb7 = (2 : Int32) ∨ vb7 = (3 : Int32) ∨ vb7 = (4 : Int32) ∨ vb7 = (5 : Int32) ∨ vb7 = (6 : Int32))) : (0 : Int32) < (((1 : Int32) <<< (va7 &&& 31)) * (own_p5 vb7)) := by
  rcases ha7 with rfl | rfl | rfl | rfl | rfl | rfl | rfl <;> rcases hb7 with rfl | rfl | rfl | rfl | rfl | rfl | rfl <;> decide
theorem own_bt2 {va7 vb7 : Int32} (ha7 : (va7 = (0 : Int32) ∨ va7 = (1 : Int32) ∨ va7 = (2 : Int32) ∨ va7 = (3 : Int32) ∨ va7 = (4 : Int32) ∨ va7 = (5 : Int32) ∨ va7 = (6 : Int32))) (hb7 : (vb7 = (0 : Int32) ∨ vb7 = (1 : Int32) ∨ vb7 = (2 : Int32) ∨ vb7 = (3 : Int32) ∨ vb7 = (4 : Int32) ∨ vb7 = (5 : Int32) ∨ vb7 = (6 : Int32))) : (((1 : Int32) <<< (va7 &&& 31)) * (own_p5 vb7)) ≠ 0 := by
  rcases ha7 with rfl | rfl | rfl | rfl | rfl | rfl | rfl <;> rcases hb7 with rfl | rfl | rfl | rfl | rfl | rfl | rfl <;> decide
theorem own_bt3 {va7 vb7 : Int32} (ha7 : (va7 = (0 : Int32) ∨ va7 = (1 : Int32) ∨ va7 = (2 : Int32) ∨ va7 = (3 : Int32) ∨ va7 = (4 : Int32) ∨ va7 = (5 : Int32) ∨ va7 = (6 : Int32))) (hb7 : (vb7 = (0 : Int32) ∨ vb7 = (1 : Int32) ∨ vb7 = (2 : Int32) ∨ vb7 = (3 : Int32) ∨ vb7 = (4 : Int32) ∨ vb7 = (5 : Int32) ∨ vb7 = (6 : Int32))) : ((1000000 : Int32) - ((1000000 : Int32) / (((1 : Int32) <<< (va7 &&& 31)) * (own_p5 vb7))) * (((1 : Int32) <<< (va7 &&& 31)) * (own_p5 vb7))) = (0 : Int32) := by
  rcases ha7 with rfl | rfl | rfl | rfl | rfl | rfl | rfl <;> rcases hb7 with rfl | rfl | rfl | rfl | rfl | rfl | rfl <;> decide
theorem own_bt4 {va7 vb7 : Int32} (ha7 : (va7 = (0 : Int32) ∨ va7 = (1 : Int32) ∨ va7 = (2 : Int32) ∨ va7 = (3 : Int32) ∨ va7 = (4 : Int32) ∨ va7 = (5 : Int32) ∨ va7 = (6 : Int32))) (hb7 : (vb7 = (0 : Int32) ∨ vb7 = (1 : Int32) ∨ vb7 = (2 : Int32) ∨ vb7 = (3 : Int32) ∨ vb7 = (4 : Int32) ∨ vb7 = (5 : Int32) ∨ vb7 = (6 : Int32))) : (((1000000 : Int32) / (((1 : Int32) <<< (va7 &&& 31)) * (own_p5 vb7))).toInt64) = ((((1 : Int32) <<< (((6 : Int32) - va7) &&& 31)) * (own_p5 ((6 : Int32) - vb7))).toInt64) := by
  rcases ha7 with rfl | rfl | rfl | rfl | rfl | rfl | rfl <;> rcases hb7 with rfl | rfl | rfl | rfl | rfl | rfl | rfl <;> decide
theorem own_bt5 {va7 vb7 : Int32} (ha7 : (va7 = (0 : Int32) ∨ va7 = (1 : Int32) ∨ va7 = (2 : Int32) ∨ va7 = (3 : Int32) ∨ va7 = (4 : Int32) ∨ va7 = (5 : Int32) ∨ va7 = (6 : Int32))) (hb7 : (vb7 = (0 : Int32) ∨ vb7 = (1 : Int32) ∨ vb7 = (2 : Int32) ∨ vb7 = (3 : Int32) ∨ vb7 = (4 : Int32) ∨ vb7 = (5 : Int32) ∨ vb7 = (6 : Int32))) : ((((1000000 : Int32) / (((1 : Int32) <<< (va7 &&& 31)) * (own_p5 vb7))).toInt64) * ((((1 : Int32) <<< (va7 &&& 31)) * (own_p5 vb7)).toInt64)) = (1000000 : Int64) := by
  rcases ha7 with rfl | rfl | rfl | rfl | rfl | rfl | rfl <;> rcases hb7 with rfl | rfl | rfl | rfl | rfl | rfl | rfl <;> decide
theorem own_pd0 : parseMethodDescriptor "(I)I" = some ⟨[.int], some .int⟩ := by decide +kernel
theorem own_pd1 : parseMethodDescriptor "(I)J" = some ⟨[.int], some .long⟩ := by decide +kernel
theorem own_pn0 : plainName "com/example/careful_allocator/carefulallocator/can/FrameTimingBitTimePinLaw" = true := by first | (simp [plainName, overriddenIn]; done) | decide +kernel
theorem own_pn1 : plainName "com/example/careful_allocator/carefulallocator/can/FrameTiming" = true := by first | (simp [plainName, overriddenIn]; done) | decide +kernel
def own_Q1 (p0 : Int32) (h0 : Heap) (n0 : Nat) (v : Option Value) (h : Heap) (L : List Loc) : Prop := v = some (.int (own_p5 p0)) ∧ Fr n0 L ∧ h0.size ≤ h.size
theorem d_own_rm1_0 : decode method_3_code 0 = .ok (.bipush 7, 2) := by decide +kernel
theorem d_own_rm1_2 : decode method_3_code 2 = .ok (.newarray .int, 2) := by decide +kernel
theorem d_own_rm1_4 : decode method_3_code 4 = .ok (.dup, 1) := by decide +kernel
theorem d_own_rm1_5 : decode method_3_code 5 = .ok (.iconst 0, 1) := by decide +kernel
theorem d_own_rm1_6 : decode method_3_code 6 = .ok (.iconst 1, 1) := by decide +kernel
theorem d_own_rm1_7 : decode method_3_code 7 = .ok (.iastore, 1) := by decide +kernel
theorem d_own_rm1_8 : decode method_3_code 8 = .ok (.dup, 1) := by decide +kernel
theorem d_own_rm1_9 : decode method_3_code 9 = .ok (.iconst 1, 1) := by decide +kernel
theorem d_own_rm1_10 : decode method_3_code 10 = .ok (.iconst 5, 1) := by decide +kernel
theorem d_own_rm1_11 : decode method_3_code 11 = .ok (.iastore, 1) := by decide +kernel
theorem d_own_rm1_12 : decode method_3_code 12 = .ok (.dup, 1) := by decide +kernel
theorem d_own_rm1_13 : decode method_3_code 13 = .ok (.iconst 2, 1) := by decide +kernel
theorem d_own_rm1_14 : decode method_3_code 14 = .ok (.bipush 25, 2) := by decide +kernel
theorem d_own_rm1_16 : decode method_3_code 16 = .ok (.iastore, 1) := by decide +kernel
theorem d_own_rm1_17 : decode method_3_code 17 = .ok (.dup, 1) := by decide +kernel
theorem d_own_rm1_18 : decode method_3_code 18 = .ok (.iconst 3, 1) := by decide +kernel
theorem d_own_rm1_19 : decode method_3_code 19 = .ok (.bipush 125, 2) := by decide +kernel
theorem d_own_rm1_21 : decode method_3_code 21 = .ok (.iastore, 1) := by decide +kernel
theorem d_own_rm1_22 : decode method_3_code 22 = .ok (.dup, 1) := by decide +kernel
theorem d_own_rm1_23 : decode method_3_code 23 = .ok (.iconst 4, 1) := by decide +kernel
theorem d_own_rm1_24 : decode method_3_code 24 = .ok (.sipush 625, 3) := by decide +kernel
theorem d_own_rm1_27 : decode method_3_code 27 = .ok (.iastore, 1) := by decide +kernel
theorem d_own_rm1_28 : decode method_3_code 28 = .ok (.dup, 1) := by decide +kernel
theorem d_own_rm1_29 : decode method_3_code 29 = .ok (.iconst 5, 1) := by decide +kernel
theorem d_own_rm1_30 : decode method_3_code 30 = .ok (.sipush 3125, 3) := by decide +kernel
theorem d_own_rm1_33 : decode method_3_code 33 = .ok (.iastore, 1) := by decide +kernel
theorem d_own_rm1_34 : decode method_3_code 34 = .ok (.dup, 1) := by decide +kernel
theorem d_own_rm1_35 : decode method_3_code 35 = .ok (.bipush 6, 2) := by decide +kernel
theorem d_own_rm1_37 : decode method_3_code 37 = .ok (.sipush 15625, 3) := by decide +kernel
theorem d_own_rm1_40 : decode method_3_code 40 = .ok (.iastore, 1) := by decide +kernel
theorem d_own_rm1_41 : decode method_3_code 41 = .ok (.astore_n 1, 1) := by decide +kernel
theorem d_own_rm1_42 : decode method_3_code 42 = .ok (.aload_n 1, 1) := by decide +kernel
theorem d_own_rm1_43 : decode method_3_code 43 = .ok (.iload_n 0, 1) := by decide +kernel
theorem d_own_rm1_44 : decode method_3_code 44 = .ok (.iaload, 1) := by decide +kernel
theorem d_own_rm1_45 : decode method_3_code 45 = .ok (.ireturn, 1) := by decide +kernel
theorem ef_own_rm1 (m : MethodId) (x0 : Int32) : entryFrame m #[(.int x0)] 2 = mkF m 0 #[.val (.int x0), .unset] [] := by first | (simp [entryFrame, mkF, argsToLocals, Value.category]; done) | rfl
set_option maxRecDepth 65536 in
set_option maxHeartbeats 40000000 in
theorem own_rm1 (l : Launch) (Z : State) (a0 : Array Value) (hw : ∀ d ∈ tables_1, d.before a0 Z = true) (ws : List Jvm.Cond) (p0 : Int32)  (h0 : Heap) (n0 : Nat) (Z0 : n0 ≤ h0.size) (he : (p0 = (0 : Int32) ∨ p0 = (1 : Int32) ∨ p0 = (2 : Int32) ∨ p0 = (3 : Int32) ∨ p0 = (4 : Int32) ∨ p0 = (5 : Int32) ∨ p0 = (6 : Int32))) :
    MetFree l (⟨"com/example/careful_allocator/carefulallocator/can/FrameTimingBitTimePinLaw", "powerOfFive", "(I)I"⟩ : MethodName) (head1 (Jvm.Cond.code (⟨"com/example/careful_allocator/carefulallocator/can/FrameTimingBitTimePinLaw", "powerOfFive", "(I)I"⟩ : MethodName) method_3_code 2 (some .int) :: ws) ({ frames := 0, cells := 1, slots := 7, locals := 0 } : Room)) (fun a U => a = #[(.int p0)] ∧ Z.Warmed39 U.vm ∧ U.heap = h0) (fun _ _ _ _ _ => True) (fun _ U o U' => ∃ v L, o = .returned v ∧ own_Q1 p0 h0 n0 v U'.heap L ∧ FrameEnd U o U' L ({ frames := 0, cells := 1, slots := 7, locals := 0 } : Room).cells ({ frames := 0, cells := 1, slots := 7, locals := 0 } : Room).slots) := by
  refine MetFree.of_bodySF (plainFor_of_name own_pn0) hisR ?_
  intro p e s m args below meth c s₁ Bd hml0 hP hK
  obtain ⟨rfl, hZ, hh⟩ := hP
  have hx := Bd.exec
  have hby := Bd.bytes
  have hml : c.maxLocals = 2 := hml0
  have hown : s.vm.findClass "com/example/careful_allocator/carefulallocator/can/FrameTimingBitTimePinLaw" = some m.cls := findClass_of_methodNamed Bd.named
  have hnm := (name_of_methodNamed Bd.named Bd.method).1
  have X0 : Stand p l e ({ frames := 0, cells := 1, slots := 7, locals := 0 } : Room) s m #[(.int p0)] below meth c s₁ [] 0 0 := Stand.of_body Bd
  have e0 : s₁.heap = h0 := by rw [← hh, Bd.state]; rfl
  have N0 := Fr.nil n0
  refine own_go (b := s₁.setTop (mkF m 0 #[.val (.int p0), .unset] [])) (fun t k => castTop (ef_own_rm1 m p0) k) ?_
  obtain ⟨T1, h1, k1, X1, e1, E1, A1, st1⟩ := newP X0 hx hZ (hw _ (List.mem_of_getElem? (i := 5) rfl)) e0 (g := (mkF m 2 #[.val (.int p0), .unset] [(.int (7 : Int32))])) rfl (hb hby d_own_rm1_2) rfl (by decide) (cap := 7) (by decide) (by decide) (by decide) (by decide)
  obtain ⟨b1, g1⟩ : ∃ z, z = h0.size := ⟨_, rfl⟩
  rw [← g1] at A1 st1
  have new_b1 : n0 ≤ b1 := Nat.le_trans Z0 (Nat.le_of_eq g1.symm)
  have sz_b1 : h0.size ≤ b1 := Nat.le_trans (Keep.refl h0 []).1 (Nat.le_of_eq g1.symm)
  have Z1 := Nat.le_trans Z0 E1.1
  have K1 := (Keep.refl h0 []).ext E1
  have V_b1 : Arv Z h1 b1 k1 .int (7 : Int32) [(.int (0 : Int32)), (.int (0 : Int32)), (.int (0 : Int32)), (.int (0 : Int32)), (.int (0 : Int32)), (.int (0 : Int32)), (.int (0 : Int32))] (.int (0 : Int32)) := (Arv.new A1 (by decide)).pad (pad_rep [] (.int (0 : Int32)) 7)
  obtain ⟨cl2, Ar2, q2, Sz2, M2, Hs2, Gs2⟩ := V_b1
  have hin2 : ¬ ((0 : Int32) < 0 ∨ cl2.slots.size ≤ ((0 : Int32)).toNatClampNeg) := inb_of Sz2 ⟨by decide, by decide⟩
  obtain ⟨T3, h3, X3, e3, W3, st3⟩ := stI X1 hx hZ e1 Ar2 (j := (0 : Int32)) hin2 (g := (mkF m 7 #[.val (.int p0), .unset] [(.int (1 : Int32)), (.int (0 : Int32)), (.ref b1), (.ref b1)])) rfl rfl (hb hby d_own_rm1_7)
  have Z3 := Nat.le_trans Z1 (Keep.of_wr W3).1
  have K3 := K1.wr W3 (Or.inr sz_b1)
  have N3 := Fr.snoc X3 N0 new_b1
  have V_b1_3 : Arv Z h3 b1 k1 .int (7 : Int32) [(.int (1 : Int32)), (.int (0 : Int32)), (.int (0 : Int32)), (.int (0 : Int32)), (.int (0 : Int32)), (.int (0 : Int32)), (.int (0 : Int32))] (.int (0 : Int32)) := Arv.set Ar2 q2 Sz2 M2 Hs2 Gs2 rfl W3 0 rfl (Nat.le_of_ble_eq_true rfl)
  obtain ⟨cl4, Ar4, q4, Sz4, M4, Hs4, Gs4⟩ := V_b1_3
  have hin4 : ¬ ((1 : Int32) < 0 ∨ cl4.slots.size ≤ ((1 : Int32)).toNatClampNeg) := inb_of Sz4 ⟨by decide, by decide⟩
  obtain ⟨T5, h5, X5, e5, W5, st5⟩ := stI X3 hx hZ e3 Ar4 (j := (1 : Int32)) hin4 (g := (mkF m 11 #[.val (.int p0), .unset] [(.int (5 : Int32)), (.int (1 : Int32)), (.ref b1), (.ref b1)])) rfl rfl (hb hby d_own_rm1_11)
  have Z5 := Nat.le_trans Z3 (Keep.of_wr W5).1
  have K5 := K3.wr W5 (Or.inr sz_b1)
  have N5 := Fr.snoc X5 N3 new_b1
  have V_b1_5 : Arv Z h5 b1 k1 .int (7 : Int32) [(.int (1 : Int32)), (.int (5 : Int32)), (.int (0 : Int32)), (.int (0 : Int32)), (.int (0 : Int32)), (.int (0 : Int32)), (.int (0 : Int32))] (.int (0 : Int32)) := Arv.set Ar4 q4 Sz4 M4 Hs4 Gs4 rfl W5 1 rfl (Nat.le_of_ble_eq_true rfl)
  obtain ⟨cl6, Ar6, q6, Sz6, M6, Hs6, Gs6⟩ := V_b1_5
  have hin6 : ¬ ((2 : Int32) < 0 ∨ cl6.slots.size ≤ ((2 : Int32)).toNatClampNeg) := inb_of Sz6 ⟨by decide, by decide⟩
  obtain ⟨T7, h7, X7, e7, W7, st7⟩ := stI X5 hx hZ e5 Ar6 (j := (2 : Int32)) hin6 (g := (mkF m 16 #[.val (.int p0), .unset] [(.int (25 : Int32)), (.int (2 : Int32)), (.ref b1), (.ref b1)])) rfl rfl (hb hby d_own_rm1_16)
  have Z7 := Nat.le_trans Z5 (Keep.of_wr W7).1
  have K7 := K5.wr W7 (Or.inr sz_b1)
  have N7 := Fr.snoc X7 N5 new_b1
  have V_b1_7 : Arv Z h7 b1 k1 .int (7 : Int32) [(.int (1 : Int32)), (.int (5 : Int32)), (.int (25 : Int32)), (.int (0 : Int32)), (.int (0 : Int32)), (.int (0 : Int32)), (.int (0 : Int32))] (.int (0 : Int32)) := Arv.set Ar6 q6 Sz6 M6 Hs6 Gs6 rfl W7 2 rfl (Nat.le_of_ble_eq_true rfl)
  obtain ⟨cl8, Ar8, q8, Sz8, M8, Hs8, Gs8⟩ := V_b1_7
  have hin8 : ¬ ((3 : Int32) < 0 ∨ cl8.slots.size ≤ ((3 : Int32)).toNatClampNeg) := inb_of Sz8 ⟨by decide, by decide⟩
  obtain ⟨T9, h9, X9, e9, W9, st9⟩ := stI X7 hx hZ e7 Ar8 (j := (3 : Int32)) hin8 (g := (mkF m 21 #[.val (.int p0), .unset] [(.int (125 : Int32)), (.int (3 : Int32)), (.ref b1), (.ref b1)])) rfl rfl (hb hby d_own_rm1_21)
  have Z9 := Nat.le_trans Z7 (Keep.of_wr W9).1
  have K9 := K7.wr W9 (Or.inr sz_b1)
  have N9 := Fr.snoc X9 N7 new_b1
  have V_b1_9 : Arv Z h9 b1 k1 .int (7 : Int32) [(.int (1 : Int32)), (.int (5 : Int32)), (.int (25 : Int32)), (.int (125 : Int32)), (.int (0 : Int32)), (.int (0 : Int32)), (.int (0 : Int32))] (.int (0 : Int32)) := Arv.set Ar8 q8 Sz8 M8 Hs8 Gs8 rfl W9 3 rfl (Nat.le_of_ble_eq_true rfl)
  obtain ⟨cl10, Ar10, q10, Sz10, M10, Hs10, Gs10⟩ := V_b1_9
  have hin10 : ¬ ((4 : Int32) < 0 ∨ cl10.slots.size ≤ ((4 : Int32)).toNatClampNeg) := inb_of Sz10 ⟨by decide, by decide⟩
  obtain ⟨T11, h11, X11, e11, W11, st11⟩ := stI X9 hx hZ e9 Ar10 (j := (4 : Int32)) hin10 (g := (mkF m 27 #[.val (.int p0), .unset] [(.int (625 : Int32)), (.int (4 : Int32)), (.ref b1), (.ref b1)])) rfl rfl (hb hby d_own_rm1_27)
  have Z11 := Nat.le_trans Z9 (Keep.of_wr W11).1
  have K11 := K9.wr W11 (Or.inr sz_b1)
  have N11 := Fr.snoc X11 N9 new_b1
  have V_b1_11 : Arv Z h11 b1 k1 .int (7 : Int32) [(.int (1 : Int32)), (.int (5 : Int32)), (.int (25 : Int32)), (.int (125 : Int32)), (.int (625 : Int32)), (.int (0 : Int32)), (.int (0 : Int32))] (.int (0 : Int32)) := Arv.set Ar10 q10 Sz10 M10 Hs10 Gs10 rfl W11 4 rfl (Nat.le_of_ble_eq_true rfl)
  obtain ⟨cl12, Ar12, q12, Sz12, M12, Hs12, Gs12⟩ := V_b1_11
  have hin12 : ¬ ((5 : Int32) < 0 ∨ cl12.slots.size ≤ ((5 : Int32)).toNatClampNeg) := inb_of Sz12 ⟨by decide, by decide⟩
  obtain ⟨T13, h13, X13, e13, W13, st13⟩ := stI X11 hx hZ e11 Ar12 (j := (5 : Int32)) hin12 (g := (mkF m 33 #[.val (.int p0), .unset] [(.int (3125 : Int32)), (.int (5 : Int32)), (.ref b1), (.ref b1)])) rfl rfl (hb hby d_own_rm1_33)
  have Z13 := Nat.le_trans Z11 (Keep.of_wr W13).1
  have K13 := K11.wr W13 (Or.inr sz_b1)
  have N13 := Fr.snoc X13 N11 new_b1
  have V_b1_13 : Arv Z h13 b1 k1 .int (7 : Int32) [(.int (1 : Int32)), (.int (5 : Int32)), (.int (25 : Int32)), (.int (125 : Int32)), (.int (625 : Int32)), (.int (3125 : Int32)), (.int (0 : Int32))] (.int (0 : Int32)) := Arv.set Ar12 q12 Sz12 M12 Hs12 Gs12 rfl W13 5 rfl (Nat.le_of_ble_eq_true rfl)
  obtain ⟨cl14, Ar14, q14, Sz14, M14, Hs14, Gs14⟩ := V_b1_13
  have hin14 : ¬ ((6 : Int32) < 0 ∨ cl14.slots.size ≤ ((6 : Int32)).toNatClampNeg) := inb_of Sz14 ⟨by decide, by decide⟩
  obtain ⟨T15, h15, X15, e15, W15, st15⟩ := stI X13 hx hZ e13 Ar14 (j := (6 : Int32)) hin14 (g := (mkF m 40 #[.val (.int p0), .unset] [(.int (15625 : Int32)), (.int (6 : Int32)), (.ref b1), (.ref b1)])) rfl rfl (hb hby d_own_rm1_40)
  have Z15 := Nat.le_trans Z13 (Keep.of_wr W15).1
  have K15 := K13.wr W15 (Or.inr sz_b1)
  have N15 := Fr.snoc X15 N13 new_b1
  have V_b1_15 : Arv Z h15 b1 k1 .int (7 : Int32) [(.int (1 : Int32)), (.int (5 : Int32)), (.int (25 : Int32)), (.int (125 : Int32)), (.int (625 : Int32)), (.int (3125 : Int32)), (.int (15625 : Int32))] (.int (0 : Int32)) := Arv.set Ar14 q14 Sz14 M14 Hs14 Gs14 rfl W15 6 rfl (Nat.le_of_ble_eq_true rfl)
  obtain ⟨cl16, Ar16, -, Sz16, M16, Hs16, Gs16⟩ := V_b1_15
  have hin16 : ¬ (p0 < 0 ∨ cl16.slots.size ≤ p0.toNatClampNeg) := inb_of Sz16 (own_in7 he)
  have hat16 : cl16.slots[p0.toNatClampNeg]? = some (.int (own_p5 p0)) := (Hs16 p0.toNatClampNeg (by have := hin16; omega)).trans (by rcases he with rfl | rfl | rfl | rfl | rfl | rfl | rfl <;> rfl)
  obtain ⟨fs, hr, hrun, hended, hW, hsame⟩ := X15.leave (v := some (.int (own_p5 p0))) (fun h => by rw [Bd.returns] at h; cases h)
  refine ⟨_, _, ?_, hrun, hended, _, _, rfl, ?_, ⟨_, rfl⟩, hW, hsame.mono (by decide) (by decide)⟩
  · show Steps p.tables e below (s₁.setTop (mkF m 0 #[.val (.int p0), .unset] [])) _
    refine XS.bipush X0.here hx rfl (hb hby d_own_rm1_0) ?_
    show Steps p.tables e below (s₁.setTop (mkF m 2 #[.val (.int p0), .unset] [(.int (7 : Int32))])) _
    refine st1 _ ?_
    show Steps p.tables e below (T1.setTop (mkF m 4 #[.val (.int p0), .unset] [(.ref b1)])) _
    refine XS.dup X1.here hx rfl (hb hby d_own_rm1_4) rfl rfl ?_
    show Steps p.tables e below (T1.setTop (mkF m 5 #[.val (.int p0), .unset] [(.ref b1), (.ref b1)])) _
    refine XS.iconst X1.here hx rfl (hb hby d_own_rm1_5) ?_
    show Steps p.tables e below (T1.setTop (mkF m 6 #[.val (.int p0), .unset] [(.int (0 : Int32)), (.ref b1), (.ref b1)])) _
    refine XS.iconst X1.here hx rfl (hb hby d_own_rm1_6) ?_
    show Steps p.tables e below (T1.setTop (mkF m 7 #[.val (.int p0), .unset] [(.int (1 : Int32)), (.int (0 : Int32)), (.ref b1), (.ref b1)])) _
    refine st3 _ ?_
    show Steps p.tables e below (T3.setTop (mkF m 8 #[.val (.int p0), .unset] [(.ref b1)])) _
    refine XS.dup X3.here hx rfl (hb hby d_own_rm1_8) rfl rfl ?_
    show Steps p.tables e below (T3.setTop (mkF m 9 #[.val (.int p0), .unset] [(.ref b1), (.ref b1)])) _
    refine XS.iconst X3.here hx rfl (hb hby d_own_rm1_9) ?_
    show Steps p.tables e below (T3.setTop (mkF m 10 #[.val (.int p0), .unset] [(.int (1 : Int32)), (.ref b1), (.ref b1)])) _
    refine XS.iconst X3.here hx rfl (hb hby d_own_rm1_10) ?_
    show Steps p.tables e below (T3.setTop (mkF m 11 #[.val (.int p0), .unset] [(.int (5 : Int32)), (.int (1 : Int32)), (.ref b1), (.ref b1)])) _
    refine st5 _ ?_
    show Steps p.tables e below (T5.setTop (mkF m 12 #[.val (.int p0), .unset] [(.ref b1)])) _
    refine XS.dup X5.here hx rfl (hb hby d_own_rm1_12) rfl rfl ?_
    show Steps p.tables e below (T5.setTop (mkF m 13 #[.val (.int p0), .unset] [(.ref b1), (.ref b1)])) _
    refine XS.iconst X5.here hx rfl (hb hby d_own_rm1_13) ?_
    show Steps p.tables e below (T5.setTop (mkF m 14 #[.val (.int p0), .unset] [(.int (2 : Int32)), (.ref b1), (.ref b1)])) _
    refine XS.bipush X5.here hx rfl (hb hby d_own_rm1_14) ?_
    show Steps p.tables e below (T5.setTop (mkF m 16 #[.val (.int p0), .unset] [(.int (25 : Int32)), (.int (2 : Int32)), (.ref b1), (.ref b1)])) _
    refine st7 _ ?_
    show Steps p.tables e below (T7.setTop (mkF m 17 #[.val (.int p0), .unset] [(.ref b1)])) _
    refine XS.dup X7.here hx rfl (hb hby d_own_rm1_17) rfl rfl ?_
    show Steps p.tables e below (T7.setTop (mkF m 18 #[.val (.int p0), .unset] [(.ref b1), (.ref b1)])) _
    refine XS.iconst X7.here hx rfl (hb hby d_own_rm1_18) ?_
    show Steps p.tables e below (T7.setTop (mkF m 19 #[.val (.int p0), .unset] [(.int (3 : Int32)), (.ref b1), (.ref b1)])) _
    refine XS.bipush X7.here hx rfl (hb hby d_own_rm1_19) ?_
    show Steps p.tables e below (T7.setTop (mkF m 21 #[.val (.int p0), .unset] [(.int (125 : Int32)), (.int (3 : Int32)), (.ref b1), (.ref b1)])) _
    refine st9 _ ?_
    show Steps p.tables e below (T9.setTop (mkF m 22 #[.val (.int p0), .unset] [(.ref b1)])) _
    refine XS.dup X9.here hx rfl (hb hby d_own_rm1_22) rfl rfl ?_
    show Steps p.tables e below (T9.setTop (mkF m 23 #[.val (.int p0), .unset] [(.ref b1), (.ref b1)])) _
    refine XS.iconst X9.here hx rfl (hb hby d_own_rm1_23) ?_
    show Steps p.tables e below (T9.setTop (mkF m 24 #[.val (.int p0), .unset] [(.int (4 : Int32)), (.ref b1), (.ref b1)])) _
    refine XS.sipush X9.here hx rfl (hb hby d_own_rm1_24) ?_
    show Steps p.tables e below (T9.setTop (mkF m 27 #[.val (.int p0), .unset] [(.int (625 : Int32)), (.int (4 : Int32)), (.ref b1), (.ref b1)])) _
    refine st11 _ ?_
    show Steps p.tables e below (T11.setTop (mkF m 28 #[.val (.int p0), .unset] [(.ref b1)])) _
    refine XS.dup X11.here hx rfl (hb hby d_own_rm1_28) rfl rfl ?_
    show Steps p.tables e below (T11.setTop (mkF m 29 #[.val (.int p0), .unset] [(.ref b1), (.ref b1)])) _
    refine XS.iconst X11.here hx rfl (hb hby d_own_rm1_29) ?_
    show Steps p.tables e below (T11.setTop (mkF m 30 #[.val (.int p0), .unset] [(.int (5 : Int32)), (.ref b1), (.ref b1)])) _
    refine XS.sipush X11.here hx rfl (hb hby d_own_rm1_30) ?_
    show Steps p.tables e below (T11.setTop (mkF m 33 #[.val (.int p0), .unset] [(.int (3125 : Int32)), (.int (5 : Int32)), (.ref b1), (.ref b1)])) _
    refine st13 _ ?_
    show Steps p.tables e below (T13.setTop (mkF m 34 #[.val (.int p0), .unset] [(.ref b1)])) _
    refine XS.dup X13.here hx rfl (hb hby d_own_rm1_34) rfl rfl ?_
    show Steps p.tables e below (T13.setTop (mkF m 35 #[.val (.int p0), .unset] [(.ref b1), (.ref b1)])) _
    refine XS.bipush X13.here hx rfl (hb hby d_own_rm1_35) ?_
    show Steps p.tables e below (T13.setTop (mkF m 37 #[.val (.int p0), .unset] [(.int (6 : Int32)), (.ref b1), (.ref b1)])) _
    refine XS.sipush X13.here hx rfl (hb hby d_own_rm1_37) ?_
    show Steps p.tables e below (T13.setTop (mkF m 40 #[.val (.int p0), .unset] [(.int (15625 : Int32)), (.int (6 : Int32)), (.ref b1), (.ref b1)])) _
    refine st15 _ ?_
    show Steps p.tables e below (T15.setTop (mkF m 41 #[.val (.int p0), .unset] [(.ref b1)])) _
    refine XS.astoreN X15.here hx rfl (hb hby d_own_rm1_41) rfl rfl (l' := #[.val (.int p0), .val (.ref b1)]) rfl ?_
    show Steps p.tables e below (T15.setTop (mkF m 42 #[.val (.int p0), .val (.ref b1)] [])) _
    refine XS.aloadN X15.here hx rfl (hb hby d_own_rm1_42) rfl rfl ?_
    show Steps p.tables e below (T15.setTop (mkF m 43 #[.val (.int p0), .val (.ref b1)] [(.ref b1)])) _
    refine XS.iloadN X15.here hx rfl (hb hby d_own_rm1_43) rfl ?_
    show Steps p.tables e below (T15.setTop (mkF m 44 #[.val (.int p0), .val (.ref b1)] [(.int p0), (.ref b1)])) _
    refine X15.iaload hx (j := p0) (v := (.int (own_p5 p0))) (by rw [e15]; exact Ar16.1) (State.isArrayOf_alike hZ.alike Ar16.2.1) Ar16.2.2 hin16 hat16 (g := (mkF m 44 #[.val (.int p0), .val (.ref b1)] [(.int p0), (.ref b1)])) rfl rfl (hb hby d_own_rm1_44) _ ?_
    show Steps p.tables e below (T15.setTop (mkF m 45 #[.val (.int p0), .val (.ref b1)] [(.int (own_p5 p0))])) _
    exact retI X15 hx Bd.returns (hb hby d_own_rm1_45) hr
  · show own_Q1 p0 h0 n0 _ T15.heap _
    rw [e15]
    exact ⟨rfl, N15, K15.1⟩
def own_Q2 (p0 : Int32) (h0 : Heap) (n0 : Nat) (v : Option Value) (h : Heap) (L : List Loc) : Prop := v = some (.long (((1000000 : Int32) / p0).toInt64)) ∧ Fr n0 L ∧ h = h0
theorem d_own_rm2_0 : decode prog_16_method_3_code 0 = .ok (.iload_n 0, 1) := by decide +kernel
theorem d_own_rm2_1 : decode prog_16_method_3_code 1 = .ok (.ifCond .le 10, 3) := by decide +kernel
theorem d_own_rm2_4 : decode prog_16_method_3_code 4 = .ok (.ldc 26, 2) := by decide +kernel
theorem d_own_rm2_6 : decode prog_16_method_3_code 6 = .ok (.iload_n 0, 1) := by decide +kernel
theorem d_own_rm2_7 : decode prog_16_method_3_code 7 = .ok (.irem, 1) := by decide +kernel
theorem d_own_rm2_8 : decode prog_16_method_3_code 8 = .ok (.ifCond .eq 17, 3) := by decide +kernel
theorem d_own_rm2_25 : decode prog_16_method_3_code 25 = .ok (.ldc 26, 2) := by decide +kernel
theorem d_own_rm2_27 : decode prog_16_method_3_code 27 = .ok (.iload_n 0, 1) := by decide +kernel
theorem d_own_rm2_28 : decode prog_16_method_3_code 28 = .ok (.idiv, 1) := by decide +kernel
theorem d_own_rm2_29 : decode prog_16_method_3_code 29 = .ok (.i2l, 1) := by decide +kernel
theorem d_own_rm2_30 : decode prog_16_method_3_code 30 = .ok (.lreturn, 1) := by decide +kernel
theorem ef_own_rm2 (m : MethodId) (x0 : Int32) : entryFrame m #[(.int x0)] 1 = mkF m 0 #[.val (.int x0)] [] := by first | (simp [entryFrame, mkF, argsToLocals, Value.category]; done) | rfl
set_option maxRecDepth 65536 in
set_option maxHeartbeats 40000000 in
theorem own_rm2 (l : Launch) (Z : State) (a0 : Array Value) (hw : ∀ d ∈ tables_1, d.before a0 Z = true) (ws : List Jvm.Cond) (p0 : Int32)  (h0 : Heap) (n0 : Nat) (Z0 : n0 ≤ h0.size) (hpos : (0 : Int32) < p0) (hnz : p0 ≠ 0) (hrem : ((1000000 : Int32) - ((1000000 : Int32) / p0) * p0) = (0 : Int32)) :
    MetFree l (⟨"com/example/careful_allocator/carefulallocator/can/FrameTiming", "bitTime", "(I)J"⟩ : MethodName) (head1 (Jvm.Cond.code (⟨"com/example/careful_allocator/carefulallocator/can/FrameTiming", "bitTime", "(I)J"⟩ : MethodName) prog_16_method_3_code 1 (some .long) :: ws) ({ frames := 0, cells := 0, slots := 0, locals := 0 } : Room)) (fun a U => a = #[(.int p0)] ∧ Z.Warmed39 U.vm ∧ U.heap = h0) (fun _ _ _ _ _ => True) (fun _ U o U' => ∃ v L, o = .returned v ∧ own_Q2 p0 h0 n0 v U'.heap L ∧ FrameEnd U o U' L ({ frames := 0, cells := 0, slots := 0, locals := 0 } : Room).cells ({ frames := 0, cells := 0, slots := 0, locals := 0 } : Room).slots) := by
  refine MetFree.of_bodySF (plainFor_of_name own_pn1) hisR ?_
  intro p e s m args below meth c s₁ Bd hml0 hP hK
  obtain ⟨rfl, hZ, hh⟩ := hP
  have hx := Bd.exec
  have hby := Bd.bytes
  have hml : c.maxLocals = 1 := hml0
  have hown : s.vm.findClass "com/example/careful_allocator/carefulallocator/can/FrameTiming" = some m.cls := findClass_of_methodNamed Bd.named
  have hnm := (name_of_methodNamed Bd.named Bd.method).1
  have X0 : Stand p l e ({ frames := 0, cells := 0, slots := 0, locals := 0 } : Room) s m #[(.int p0)] below meth c s₁ [] 0 0 := Stand.of_body Bd
  have e0 : s₁.heap = h0 := by rw [← hh, Bd.state]; rfl
  have N0 := Fr.nil n0
  refine own_go (b := s₁.setTop (mkF m 0 #[.val (.int p0)] [])) (fun t k => castTop (ef_own_rm2 m p0) k) ?_
  obtain ⟨fs, hr, hrun, hended, hW, hsame⟩ := X0.leave (v := some (.long (((1000000 : Int32) / p0).toInt64))) (fun h => by rw [Bd.returns] at h; cases h)
  refine ⟨_, _, ?_, hrun, hended, _, _, rfl, ?_, ⟨_, rfl⟩, hW, hsame.mono (by decide) (by decide)⟩
  · show Steps p.tables e below (s₁.setTop (mkF m 0 #[.val (.int p0)] [])) _
    refine XS.iloadN X0.here hx rfl (hb hby d_own_rm2_0) rfl ?_
    show Steps p.tables e below (s₁.setTop (mkF m 1 #[.val (.int p0)] [(.int p0)])) _
    refine XS.ifNo X0.here hx rfl (hb hby d_own_rm2_1) rfl ((if0 _ _).trans (tlt (hpos : (0 : Int32) < p0)).2.2.2) ?_
    show Steps p.tables e below (s₁.setTop (mkF m 4 #[.val (.int p0)] [])) _
    refine X0.ldcInt hx hown (mvT hZ (hw _ (List.mem_of_getElem? (i := 10) rfl))) (g := (mkF m 4 #[.val (.int p0)] [])) rfl (hb hby d_own_rm2_4) _ ?_
    show Steps p.tables e below (s₁.setTop (mkF m 6 #[.val (.int p0)] [(.int (1000000 : Int32))])) _
    refine XS.iloadN X0.here hx rfl (hb hby d_own_rm2_6) rfl ?_
    show Steps p.tables e below (s₁.setTop (mkF m 7 #[.val (.int p0)] [(.int p0), (.int (1000000 : Int32))])) _
    refine XS.irem X0.here hx rfl (hb hby d_own_rm2_7) rfl hnz ?_
    show Steps p.tables e below (s₁.setTop (mkF m 8 #[.val (.int p0)] [(.int ((1000000 : Int32) - ((1000000 : Int32) / p0) * p0))])) _
    refine XS.ifYes X0.here hx rfl (pc0 := 8) (pc' := 25) rfl (hb hby d_own_rm2_8) rfl ((if0 _ _).trans (teq (hrem : ((1000000 : Int32) - ((1000000 : Int32) / p0) * p0) = (0 : Int32))).1) (by decide) (by decide) ?_
    show Steps p.tables e below (s₁.setTop (mkF m 25 #[.val (.int p0)] [])) _
    refine X0.ldcInt hx hown (mvT hZ (hw _ (List.mem_of_getElem? (i := 10) rfl))) (g := (mkF m 25 #[.val (.int p0)] [])) rfl (hb hby d_own_rm2_25) _ ?_
    show Steps p.tables e below (s₁.setTop (mkF m 27 #[.val (.int p0)] [(.int (1000000 : Int32))])) _
    refine XS.iloadN X0.here hx rfl (hb hby d_own_rm2_27) rfl ?_
    show Steps p.tables e below (s₁.setTop (mkF m 28 #[.val (.int p0)] [(.int p0), (.int (1000000 : Int32))])) _
    refine XS.idiv X0.here hx rfl (hb hby d_own_rm2_28) rfl hnz ?_
    show Steps p.tables e below (s₁.setTop (mkF m 29 #[.val (.int p0)] [(.int ((1000000 : Int32) / p0))])) _
    refine XS.i2l X0.here hx rfl (hb hby d_own_rm2_29) rfl ?_
    show Steps p.tables e below (s₁.setTop (mkF m 30 #[.val (.int p0)] [(.long (((1000000 : Int32) / p0).toInt64))])) _
    jvm_step X0.here [X0.here.top, hx, (hb hby d_own_rm2_30), X0.method', Bd.returns, narrow]
    first | (intro acts; rw [hr _ acts rfl rfl rfl]) | rw [hr _ _ rfl rfl rfl]
    exact Steps.refl _
  · show own_Q2 p0 h0 n0 _ s₁.heap _
    rw [e0]
    exact ⟨rfl, N0, rfl⟩
def own_Q0 (n0 : Nat) (v : Option Value) (h : Heap) (L : List Loc) : Prop := v = some (.int (1 : Int32)) ∧ Fr n0 L
theorem ef_own_rm0 (m : MethodId) (x0 : Int32) (x1 : Int32) : entryFrame m #[(.int x0), (.int x1)] maxLocals = mkF m 0 #[.val (.int x0), .val (.int x1), .unset, .unset, .unset, .unset, .unset, .unset, .unset] [] := by first | (simp [entryFrame, mkF, argsToLocals, Value.category, maxLocals]; done) | rfl
set_option maxRecDepth 65536 in
set_option maxHeartbeats 40000000 in
theorem own_rm0 (l : Launch) (Z : State) (a0 : Array Value) (hw : ∀ d ∈ tables_1, d.before a0 Z = true) (ws : List Jvm.Cond) (p0 : Int32) (p1 : Int32)  (h0 : Heap) (n0 : Nat) (Z0 : n0 ≤ h0.size)  :
    MetFree l x (head1 (Jvm.Cond.code x code maxLocals ret :: ws) room_1) (fun a U => a = #[(.int p0), (.int p1)] ∧ Z.Warmed39 U.vm ∧ U.heap = h0) (fun _ _ _ _ _ => True) (fun _ U o U' => ∃ v L, o = .returned v ∧ own_Q0 n0 v U'.heap L ∧ FrameEnd U o U' L room_1.cells room_1.slots) := by
  refine MetFree.of_bodySF (plainFor_of_name own_pn0) hisR ?_
  intro p e s m args below meth c s₁ Bd hml0 hP hK
  obtain ⟨rfl, hZ, hh⟩ := hP
  have hx := Bd.exec
  have hby := Bd.bytes
  have hml : c.maxLocals = 9 := hml0
  have hown : s.vm.findClass "com/example/careful_allocator/carefulallocator/can/FrameTimingBitTimePinLaw" = some m.cls := findClass_of_methodNamed Bd.named
  have hnm := (name_of_methodNamed Bd.named Bd.method).1
  have X0 : Stand p l e room_1 s m #[(.int p0), (.int p1)] below meth c s₁ [] 0 0 := Stand.of_body Bd
  have e0 : s₁.heap = h0 := by rw [← hh, Bd.state]; rfl
  have N0 := Fr.nil n0
  refine own_go (b := s₁.setTop (mkF m 0 #[.val (.int p0), .val (.int p1), .unset, .unset, .unset, .unset, .unset, .unset, .unset] [])) (fun t k => castTop (ef_own_rm0 m p0 p1) k) ?_
  refine own_go (b := s₁.setTop (mkF m 7 #[.val (.int p0), .val (.int p1), .unset, .unset, .unset, .unset, .unset, .unset, .unset] [(.int ((p0 &&& (2147483647 : Int32)) - ((p0 &&& (2147483647 : Int32)) / (7 : Int32)) * (7 : Int32)))])) (fun t k => ?_) ?_
  · show Steps p.tables e below (s₁.setTop (mkF m 0 #[.val (.int p0), .val (.int p1), .unset, .unset, .unset, .unset, .unset, .unset, .unset] [])) _
    refine XS.iloadN X0.here hx rfl (hb hby at_0) rfl ?_
    show Steps p.tables e below (s₁.setTop (mkF m 1 #[.val (.int p0), .val (.int p1), .unset, .unset, .unset, .unset, .unset, .unset, .unset] [(.int p0)])) _
    refine X0.ldcInt hx hown (mvT hZ (hw _ (List.mem_of_getElem? (i := 0) rfl))) (g := (mkF m 1 #[.val (.int p0), .val (.int p1), .unset, .unset, .unset, .unset, .unset, .unset, .unset] [(.int p0)])) rfl (hb hby at_1) _ ?_
    show Steps p.tables e below (s₁.setTop (mkF m 3 #[.val (.int p0), .val (.int p1), .unset, .unset, .unset, .unset, .unset, .unset, .unset] [(.int (2147483647 : Int32)), (.int p0)])) _
    refine XS.iand X0.here hx rfl (hb hby at_3) rfl ?_
    show Steps p.tables e below (s₁.setTop (mkF m 4 #[.val (.int p0), .val (.int p1), .unset, .unset, .unset, .unset, .unset, .unset, .unset] [(.int (p0 &&& (2147483647 : Int32)))])) _
    refine XS.bipush X0.here hx rfl (hb hby at_4) ?_
    show Steps p.tables e below (s₁.setTop (mkF m 6 #[.val (.int p0), .val (.int p1), .unset, .unset, .unset, .unset, .unset, .unset, .unset] [(.int (7 : Int32)), (.int (p0 &&& (2147483647 : Int32)))])) _
    refine XS.irem X0.here hx rfl (hb hby at_6) rfl (by decide) ?_
    show Steps p.tables e below (s₁.setTop (mkF m 7 #[.val (.int p0), .val (.int p1), .unset, .unset, .unset, .unset, .unset, .unset, .unset] [(.int ((p0 &&& (2147483647 : Int32)) - ((p0 &&& (2147483647 : Int32)) / (7 : Int32)) * (7 : Int32)))])) t
    exact k
  have ha7 := own_mod7 p0
  generalize ((p0 &&& (2147483647 : Int32)) - ((p0 &&& (2147483647 : Int32)) / (7 : Int32)) * (7 : Int32)) = va7 at ha7 ⊢
  refine own_go (b := s₁.setTop (mkF m 15 #[.val (.int p0), .val (.int p1), .val (.int va7), .unset, .unset, .unset, .unset, .unset, .unset] [(.int ((p1 &&& (2147483647 : Int32)) - ((p1 &&& (2147483647 : Int32)) / (7 : Int32)) * (7 : Int32)))])) (fun t k => ?_) ?_
  · show Steps p.tables e below (s₁.setTop (mkF m 7 #[.val (.int p0), .val (.int p1), .unset, .unset, .unset, .unset, .unset, .unset, .unset] [(.int va7)])) _
    refine XS.istoreN X0.here hx rfl (hb hby at_7) rfl (l' := #[.val (.int p0), .val (.int p1), .val (.int va7), .unset, .unset, .unset, .unset, .unset, .unset]) rfl ?_
    show Steps p.tables e below (s₁.setTop (mkF m 8 #[.val (.int p0), .val (.int p1), .val (.int va7), .unset, .unset, .unset, .unset, .unset, .unset] [])) _
    refine XS.iloadN X0.here hx rfl (hb hby at_8) rfl ?_
    show Steps p.tables e below (s₁.setTop (mkF m 9 #[.val (.int p0), .val (.int p1), .val (.int va7), .unset, .unset, .unset, .unset, .unset, .unset] [(.int p1)])) _
    refine X0.ldcInt hx hown (mvT hZ (hw _ (List.mem_of_getElem? (i := 0) rfl))) (g := (mkF m 9 #[.val (.int p0), .val (.int p1), .val (.int va7), .unset, .unset, .unset, .unset, .unset, .unset] [(.int p1)])) rfl (hb hby at_9) _ ?_
    show Steps p.tables e below (s₁.setTop (mkF m 11 #[.val (.int p0), .val (.int p1), .val (.int va7), .unset, .unset, .unset, .unset, .unset, .unset] [(.int (2147483647 : Int32)), (.int p1)])) _
    refine XS.iand X0.here hx rfl (hb hby at_11) rfl ?_
    show Steps p.tables e below (s₁.setTop (mkF m 12 #[.val (.int p0), .val (.int p1), .val (.int va7), .unset, .unset, .unset, .unset, .unset, .unset] [(.int (p1 &&& (2147483647 : Int32)))])) _
    refine XS.bipush X0.here hx rfl (hb hby at_12) ?_
    show Steps p.tables e below (s₁.setTop (mkF m 14 #[.val (.int p0), .val (.int p1), .val (.int va7), .unset, .unset, .unset, .unset, .unset, .unset] [(.int (7 : Int32)), (.int (p1 &&& (2147483647 : Int32)))])) _
    refine XS.irem X0.here hx rfl (hb hby at_14) rfl (by decide) ?_
    show Steps p.tables e below (s₁.setTop (mkF m 15 #[.val (.int p0), .val (.int p1), .val (.int va7), .unset, .unset, .unset, .unset, .unset, .unset] [(.int ((p1 &&& (2147483647 : Int32)) - ((p1 &&& (2147483647 : Int32)) / (7 : Int32)) * (7 : Int32)))])) t
    exact k
  have hb7 := own_mod7 p1
  generalize ((p1 &&& (2147483647 : Int32)) - ((p1 &&& (2147483647 : Int32)) / (7 : Int32)) * (7 : Int32)) = vb7 at hb7 ⊢
  obtain ⟨_, _, ⟨T1, L1, k1, n1⟩, -, X1, ⟨Lc1, hQ1, l1, y1, z1⟩, st1⟩ := Jvm.LawKit.callS X0 hx (y := (⟨"com/example/careful_allocator/carefulallocator/can/FrameTimingBitTimePinLaw", "powerOfFive", "(I)I"⟩ : MethodName)) hown (mvT hZ (hw _ (List.mem_of_getElem? (i := 1) rfl))) (mvT hZ (hw _ (List.mem_of_getElem? (i := 2) rfl))) (mvT hZ (hw _ (List.mem_of_getElem? (i := 3) rfl))) (mvT hZ (hw _ (List.mem_of_getElem? (i := 4) rfl))) (by decide) (backOf (W := 1) (own_rm1 l Z a0 hw [] vb7  h0 n0 Z0 hb7) hZ (hw _ (List.mem_of_getElem? (i := 4) rfl)) (hw _ (List.mem_of_getElem? (i := 3) rfl)) (by decide) (by decide)) (g := (mkF m 20 #[.val (.int p0), .val (.int p1), .val (.int va7), .val (.int vb7), .unset, .unset, .unset, .unset, .unset] [(.int vb7), (.int ((1 : Int32) <<< (va7 &&& 31)))])) rfl (by rw [hml]; rfl) (argsL := [(.int vb7)]) (rest := [(.int ((1 : Int32) <<< (va7 &&& 31)))]) (lenOf own_pd0 rfl) rfl (by show 2 * 0 + _ ≤ _; exact Nat.le_of_eq rfl) (hb hby at_20) (fun _ _ => ⟨rfl, e0, (by decide : 0 + 1 ≤ _), (by decide : 0 + 7 ≤ _)⟩)
  dsimp only [Pt.U, Pt.locs, Pt.cells, Pt.slots] at X1 l1 y1 z1 st1 hQ1
  subst l1 y1 z1
  obtain ⟨rfl, N1q, k1q⟩ := hQ1
  have N1 := Fr.app N0 N1q
  have Z1 := Nat.le_trans Z0 k1q
  obtain ⟨_, _, ⟨T2, L2, k2, n2⟩, -, X2, ⟨Lc2, hQ2, l2, y2, z2⟩, st2⟩ := Jvm.LawKit.callS X1 hx (y := (⟨"com/example/careful_allocator/carefulallocator/can/FrameTimingBitTimePinLaw", "powerOfFive", "(I)I"⟩ : MethodName)) hown (mvT hZ (hw _ (List.mem_of_getElem? (i := 1) rfl))) (mvT hZ (hw _ (List.mem_of_getElem? (i := 2) rfl))) (mvT hZ (hw _ (List.mem_of_getElem? (i := 3) rfl))) (mvT hZ (hw _ (List.mem_of_getElem? (i := 4) rfl))) (by decide) (backOf (W := 1) (own_rm1 l Z a0 hw [] ((6 : Int32) - vb7)  T1.heap n0 Z1 (own_six hb7)) hZ (hw _ (List.mem_of_getElem? (i := 4) rfl)) (hw _ (List.mem_of_getElem? (i := 3) rfl)) (by decide) (by decide)) (g := (mkF m 36 #[.val (.int p0), .val (.int p1), .val (.int va7), .val (.int vb7), .val (.int (((1 : Int32) <<< (va7 &&& 31)) * (own_p5 vb7))), .unset, .unset, .unset, .unset] [(.int ((6 : Int32) - vb7)), (.int ((1 : Int32) <<< (((6 : Int32) - va7) &&& 31)))])) rfl (by rw [hml]; rfl) (argsL := [(.int ((6 : Int32) - vb7))]) (rest := [(.int ((1 : Int32) <<< (((6 : Int32) - va7) &&& 31)))]) (lenOf own_pd0 rfl) rfl (by show 2 * 0 + _ ≤ _; exact Nat.le_of_eq rfl) (hb hby at_36) (fun _ _ => ⟨rfl, rfl, (by decide : 1 + 1 ≤ _), (by decide : 7 + 7 ≤ _)⟩)
  dsimp only [Pt.U, Pt.locs, Pt.cells, Pt.slots] at X2 l2 y2 z2 st2 hQ2
  subst l2 y2 z2
  obtain ⟨rfl, N2q, k2q⟩ := hQ2
  have N2 := Fr.app N1 N2q
  have Z2 := Nat.le_trans Z1 k2q
  obtain ⟨_, _, ⟨T3, L3, k3, n3⟩, -, X3, ⟨Lc3, hQ3, l3, y3, z3⟩, st3⟩ := Jvm.LawKit.callS X2 hx (y := (⟨"com/example/careful_allocator/carefulallocator/can/FrameTiming", "bitTime", "(I)J"⟩ : MethodName)) hown (mvT hZ (hw _ (List.mem_of_getElem? (i := 6) rfl))) (mvT hZ (hw _ (List.mem_of_getElem? (i := 7) rfl))) (mvT hZ (hw _ (List.mem_of_getElem? (i := 8) rfl))) (mvT hZ (hw _ (List.mem_of_getElem? (i := 9) rfl))) (by decide) (backOf (W := 0) (own_rm2 l Z a0 hw [] (((1 : Int32) <<< (va7 &&& 31)) * (own_p5 vb7))  T2.heap n0 Z2 (own_bt1 ha7 hb7) (own_bt2 ha7 hb7) (own_bt3 ha7 hb7)) hZ (hw _ (List.mem_of_getElem? (i := 9) rfl)) (hw _ (List.mem_of_getElem? (i := 8) rfl)) (by decide) (by decide)) (g := (mkF m 45 #[.val (.int p0), .val (.int p1), .val (.int va7), .val (.int vb7), .val (.int (((1 : Int32) <<< (va7 &&& 31)) * (own_p5 vb7))), .val (.long ((((1 : Int32) <<< (((6 : Int32) - va7) &&& 31)) * (own_p5 ((6 : Int32) - vb7))).toInt64)), .second, .unset, .unset] [(.int (((1 : Int32) <<< (va7 &&& 31)) * (own_p5 vb7)))])) rfl (by rw [hml]; rfl) (argsL := [(.int (((1 : Int32) <<< (va7 &&& 31)) * (own_p5 vb7)))]) (rest := []) (lenOf own_pd1 rfl) rfl (by show 2 * 0 + _ ≤ _; exact Nat.le_of_eq rfl) (hb hby at_45) (fun _ _ => ⟨rfl, rfl, (by decide : 2 + 0 ≤ _), (by decide : 14 + 0 ≤ _)⟩)
  dsimp only [Pt.U, Pt.locs, Pt.cells, Pt.slots] at X3 l3 y3 z3 st3 hQ3
  subst l3 y3 z3
  obtain ⟨rfl, N3q, e3⟩ := hQ3
  have N3 := Fr.app N2 N3q
  obtain ⟨fs, hr, hrun, hended, hW, hsame⟩ := X3.leave (v := some (.int (1 : Int32))) (fun h => by rw [Bd.returns] at h; cases h)
  refine ⟨_, _, ?_, hrun, hended, _, _, rfl, ?_, ⟨_, rfl⟩, hW, hsame.mono (by decide) (by decide)⟩
  · show Steps p.tables e below (s₁.setTop (mkF m 15 #[.val (.int p0), .val (.int p1), .val (.int va7), .unset, .unset, .unset, .unset, .unset, .unset] [(.int vb7)])) _
    refine XS.istoreN X0.here hx rfl (hb hby at_15) rfl (l' := #[.val (.int p0), .val (.int p1), .val (.int va7), .val (.int vb7), .unset, .unset, .unset, .unset, .unset]) rfl ?_
    show Steps p.tables e below (s₁.setTop (mkF m 16 #[.val (.int p0), .val (.int p1), .val (.int va7), .val (.int vb7), .unset, .unset, .unset, .unset, .unset] [])) _
    refine XS.iconst X0.here hx rfl (hb hby at_16) ?_
    show Steps p.tables e below (s₁.setTop (mkF m 17 #[.val (.int p0), .val (.int p1), .val (.int va7), .val (.int vb7), .unset, .unset, .unset, .unset, .unset] [(.int (1 : Int32))])) _
    refine XS.iloadN X0.here hx rfl (hb hby at_17) rfl ?_
    show Steps p.tables e below (s₁.setTop (mkF m 18 #[.val (.int p0), .val (.int p1), .val (.int va7), .val (.int vb7), .unset, .unset, .unset, .unset, .unset] [(.int va7), (.int (1 : Int32))])) _
    refine XS.ishl X0.here hx rfl (hb hby at_18) rfl ?_
    show Steps p.tables e below (s₁.setTop (mkF m 19 #[.val (.int p0), .val (.int p1), .val (.int va7), .val (.int vb7), .unset, .unset, .unset, .unset, .unset] [(.int ((1 : Int32) <<< (va7 &&& 31)))])) _
    refine XS.iloadN X0.here hx rfl (hb hby at_19) rfl ?_
    show Steps p.tables e below (s₁.setTop (mkF m 20 #[.val (.int p0), .val (.int p1), .val (.int va7), .val (.int vb7), .unset, .unset, .unset, .unset, .unset] [(.int vb7), (.int ((1 : Int32) <<< (va7 &&& 31)))])) _
    refine st1 _ ?_
    show Steps p.tables e below (T1.setTop (mkF m 23 #[.val (.int p0), .val (.int p1), .val (.int va7), .val (.int vb7), .unset, .unset, .unset, .unset, .unset] [(.int (own_p5 vb7)), (.int ((1 : Int32) <<< (va7 &&& 31)))])) _
    refine XS.imul X1.here hx rfl (hb hby at_23) rfl ?_
    show Steps p.tables e below (T1.setTop (mkF m 24 #[.val (.int p0), .val (.int p1), .val (.int va7), .val (.int vb7), .unset, .unset, .unset, .unset, .unset] [(.int (((1 : Int32) <<< (va7 &&& 31)) * (own_p5 vb7)))])) _
    refine XS.istore X1.here hx rfl (hb hby at_24) rfl (l' := #[.val (.int p0), .val (.int p1), .val (.int va7), .val (.int vb7), .val (.int (((1 : Int32) <<< (va7 &&& 31)) * (own_p5 vb7))), .unset, .unset, .unset, .unset]) rfl ?_
    show Steps p.tables e below (T1.setTop (mkF m 26 #[.val (.int p0), .val (.int p1), .val (.int va7), .val (.int vb7), .val (.int (((1 : Int32) <<< (va7 &&& 31)) * (own_p5 vb7))), .unset, .unset, .unset, .unset] [])) _
    refine XS.iconst X1.here hx rfl (hb hby at_26) ?_
    show Steps p.tables e below (T1.setTop (mkF m 27 #[.val (.int p0), .val (.int p1), .val (.int va7), .val (.int vb7), .val (.int (((1 : Int32) <<< (va7 &&& 31)) * (own_p5 vb7))), .unset, .unset, .unset, .unset] [(.int (1 : Int32))])) _
    refine XS.bipush X1.here hx rfl (hb hby at_27) ?_
    show Steps p.tables e below (T1.setTop (mkF m 29 #[.val (.int p0), .val (.int p1), .val (.int va7), .val (.int vb7), .val (.int (((1 : Int32) <<< (va7 &&& 31)) * (own_p5 vb7))), .unset, .unset, .unset, .unset] [(.int (6 : Int32)), (.int (1 : Int32))])) _
    refine XS.iloadN X1.here hx rfl (hb hby at_29) rfl ?_
    show Steps p.tables e below (T1.setTop (mkF m 30 #[.val (.int p0), .val (.int p1), .val (.int va7), .val (.int vb7), .val (.int (((1 : Int32) <<< (va7 &&& 31)) * (own_p5 vb7))), .unset, .unset, .unset, .unset] [(.int va7), (.int (6 : Int32)), (.int (1 : Int32))])) _
    refine XS.isub X1.here hx rfl (hb hby at_30) rfl ?_
    show Steps p.tables e below (T1.setTop (mkF m 31 #[.val (.int p0), .val (.int p1), .val (.int va7), .val (.int vb7), .val (.int (((1 : Int32) <<< (va7 &&& 31)) * (own_p5 vb7))), .unset, .unset, .unset, .unset] [(.int ((6 : Int32) - va7)), (.int (1 : Int32))])) _
    refine XS.ishl X1.here hx rfl (hb hby at_31) rfl ?_
    show Steps p.tables e below (T1.setTop (mkF m 32 #[.val (.int p0), .val (.int p1), .val (.int va7), .val (.int vb7), .val (.int (((1 : Int32) <<< (va7 &&& 31)) * (own_p5 vb7))), .unset, .unset, .unset, .unset] [(.int ((1 : Int32) <<< (((6 : Int32) - va7) &&& 31)))])) _
    refine XS.bipush X1.here hx rfl (hb hby at_32) ?_
    show Steps p.tables e below (T1.setTop (mkF m 34 #[.val (.int p0), .val (.int p1), .val (.int va7), .val (.int vb7), .val (.int (((1 : Int32) <<< (va7 &&& 31)) * (own_p5 vb7))), .unset, .unset, .unset, .unset] [(.int (6 : Int32)), (.int ((1 : Int32) <<< (((6 : Int32) - va7) &&& 31)))])) _
    refine XS.iloadN X1.here hx rfl (hb hby at_34) rfl ?_
    show Steps p.tables e below (T1.setTop (mkF m 35 #[.val (.int p0), .val (.int p1), .val (.int va7), .val (.int vb7), .val (.int (((1 : Int32) <<< (va7 &&& 31)) * (own_p5 vb7))), .unset, .unset, .unset, .unset] [(.int vb7), (.int (6 : Int32)), (.int ((1 : Int32) <<< (((6 : Int32) - va7) &&& 31)))])) _
    refine XS.isub X1.here hx rfl (hb hby at_35) rfl ?_
    show Steps p.tables e below (T1.setTop (mkF m 36 #[.val (.int p0), .val (.int p1), .val (.int va7), .val (.int vb7), .val (.int (((1 : Int32) <<< (va7 &&& 31)) * (own_p5 vb7))), .unset, .unset, .unset, .unset] [(.int ((6 : Int32) - vb7)), (.int ((1 : Int32) <<< (((6 : Int32) - va7) &&& 31)))])) _
    refine st2 _ ?_
    show Steps p.tables e below (T2.setTop (mkF m 39 #[.val (.int p0), .val (.int p1), .val (.int va7), .val (.int vb7), .val (.int (((1 : Int32) <<< (va7 &&& 31)) * (own_p5 vb7))), .unset, .unset, .unset, .unset] [(.int (own_p5 ((6 : Int32) - vb7))), (.int ((1 : Int32) <<< (((6 : Int32) - va7) &&& 31)))])) _
    refine XS.imul X2.here hx rfl (hb hby at_39) rfl ?_
    show Steps p.tables e below (T2.setTop (mkF m 40 #[.val (.int p0), .val (.int p1), .val (.int va7), .val (.int vb7), .val (.int (((1 : Int32) <<< (va7 &&& 31)) * (own_p5 vb7))), .unset, .unset, .unset, .unset] [(.int (((1 : Int32) <<< (((6 : Int32) - va7) &&& 31)) * (own_p5 ((6 : Int32) - vb7))))])) _
    refine XS.i2l X2.here hx rfl (hb hby at_40) rfl ?_
    show Steps p.tables e below (T2.setTop (mkF m 41 #[.val (.int p0), .val (.int p1), .val (.int va7), .val (.int vb7), .val (.int (((1 : Int32) <<< (va7 &&& 31)) * (own_p5 vb7))), .unset, .unset, .unset, .unset] [(.long ((((1 : Int32) <<< (((6 : Int32) - va7) &&& 31)) * (own_p5 ((6 : Int32) - vb7))).toInt64))])) _
    refine XS.lstore X2.here hx rfl (hb hby at_41) rfl (l' := #[.val (.int p0), .val (.int p1), .val (.int va7), .val (.int vb7), .val (.int (((1 : Int32) <<< (va7 &&& 31)) * (own_p5 vb7))), .val (.long ((((1 : Int32) <<< (((6 : Int32) - va7) &&& 31)) * (own_p5 ((6 : Int32) - vb7))).toInt64)), .second, .unset, .unset]) rfl ?_
    show Steps p.tables e below (T2.setTop (mkF m 43 #[.val (.int p0), .val (.int p1), .val (.int va7), .val (.int vb7), .val (.int (((1 : Int32) <<< (va7 &&& 31)) * (own_p5 vb7))), .val (.long ((((1 : Int32) <<< (((6 : Int32) - va7) &&& 31)) * (own_p5 ((6 : Int32) - vb7))).toInt64)), .second, .unset, .unset] [])) _
    refine XS.iload X2.here hx rfl (hb hby at_43) rfl ?_
    show Steps p.tables e below (T2.setTop (mkF m 45 #[.val (.int p0), .val (.int p1), .val (.int va7), .val (.int vb7), .val (.int (((1 : Int32) <<< (va7 &&& 31)) * (own_p5 vb7))), .val (.long ((((1 : Int32) <<< (((6 : Int32) - va7) &&& 31)) * (own_p5 ((6 : Int32) - vb7))).toInt64)), .second, .unset, .unset] [(.int (((1 : Int32) <<< (va7 &&& 31)) * (own_p5 vb7)))])) _
    refine st3 _ ?_
    show Steps p.tables e below (T3.setTop (mkF m 48 #[.val (.int p0), .val (.int p1), .val (.int va7), .val (.int vb7), .val (.int (((1 : Int32) <<< (va7 &&& 31)) * (own_p5 vb7))), .val (.long ((((1 : Int32) <<< (((6 : Int32) - va7) &&& 31)) * (own_p5 ((6 : Int32) - vb7))).toInt64)), .second, .unset, .unset] [(.long (((1000000 : Int32) / (((1 : Int32) <<< (va7 &&& 31)) * (own_p5 vb7))).toInt64))])) _
    refine XS.lstore X3.here hx rfl (hb hby at_48) rfl (l' := #[.val (.int p0), .val (.int p1), .val (.int va7), .val (.int vb7), .val (.int (((1 : Int32) <<< (va7 &&& 31)) * (own_p5 vb7))), .val (.long ((((1 : Int32) <<< (((6 : Int32) - va7) &&& 31)) * (own_p5 ((6 : Int32) - vb7))).toInt64)), .second, .val (.long (((1000000 : Int32) / (((1 : Int32) <<< (va7 &&& 31)) * (own_p5 vb7))).toInt64)), .second]) rfl ?_
    show Steps p.tables e below (T3.setTop (mkF m 50 #[.val (.int p0), .val (.int p1), .val (.int va7), .val (.int vb7), .val (.int (((1 : Int32) <<< (va7 &&& 31)) * (own_p5 vb7))), .val (.long ((((1 : Int32) <<< (((6 : Int32) - va7) &&& 31)) * (own_p5 ((6 : Int32) - vb7))).toInt64)), .second, .val (.long (((1000000 : Int32) / (((1 : Int32) <<< (va7 &&& 31)) * (own_p5 vb7))).toInt64)), .second] [])) _
    refine XS.lload X3.here hx rfl (hb hby at_50) rfl ?_
    show Steps p.tables e below (T3.setTop (mkF m 52 #[.val (.int p0), .val (.int p1), .val (.int va7), .val (.int vb7), .val (.int (((1 : Int32) <<< (va7 &&& 31)) * (own_p5 vb7))), .val (.long ((((1 : Int32) <<< (((6 : Int32) - va7) &&& 31)) * (own_p5 ((6 : Int32) - vb7))).toInt64)), .second, .val (.long (((1000000 : Int32) / (((1 : Int32) <<< (va7 &&& 31)) * (own_p5 vb7))).toInt64)), .second] [(.long (((1000000 : Int32) / (((1 : Int32) <<< (va7 &&& 31)) * (own_p5 vb7))).toInt64))])) _
    refine XS.lload X3.here hx rfl (hb hby at_52) rfl ?_
    show Steps p.tables e below (T3.setTop (mkF m 54 #[.val (.int p0), .val (.int p1), .val (.int va7), .val (.int vb7), .val (.int (((1 : Int32) <<< (va7 &&& 31)) * (own_p5 vb7))), .val (.long ((((1 : Int32) <<< (((6 : Int32) - va7) &&& 31)) * (own_p5 ((6 : Int32) - vb7))).toInt64)), .second, .val (.long (((1000000 : Int32) / (((1 : Int32) <<< (va7 &&& 31)) * (own_p5 vb7))).toInt64)), .second] [(.long ((((1 : Int32) <<< (((6 : Int32) - va7) &&& 31)) * (own_p5 ((6 : Int32) - vb7))).toInt64)), (.long (((1000000 : Int32) / (((1 : Int32) <<< (va7 &&& 31)) * (own_p5 vb7))).toInt64))])) _
    refine XS.lcmp X3.here hx rfl (hb hby at_54) rfl ?_
    show Steps p.tables e below (T3.setTop (mkF m 55 #[.val (.int p0), .val (.int p1), .val (.int va7), .val (.int vb7), .val (.int (((1 : Int32) <<< (va7 &&& 31)) * (own_p5 vb7))), .val (.long ((((1 : Int32) <<< (((6 : Int32) - va7) &&& 31)) * (own_p5 ((6 : Int32) - vb7))).toInt64)), .second, .val (.long (((1000000 : Int32) / (((1 : Int32) <<< (va7 &&& 31)) * (own_p5 vb7))).toInt64)), .second] [(.int (lcmpW (((1000000 : Int32) / (((1 : Int32) <<< (va7 &&& 31)) * (own_p5 vb7))).toInt64) ((((1 : Int32) <<< (((6 : Int32) - va7) &&& 31)) * (own_p5 ((6 : Int32) - vb7))).toInt64)))])) _
    refine XS.ifNo X3.here hx rfl (hb hby at_55) rfl ((if0 _ _).trans (teq ((lw_eq _ _).mpr (own_bt4 ha7 hb7 : (((1000000 : Int32) / (((1 : Int32) <<< (va7 &&& 31)) * (own_p5 vb7))).toInt64) = ((((1 : Int32) <<< (((6 : Int32) - va7) &&& 31)) * (own_p5 ((6 : Int32) - vb7))).toInt64)))).2) ?_
    show Steps p.tables e below (T3.setTop (mkF m 58 #[.val (.int p0), .val (.int p1), .val (.int va7), .val (.int vb7), .val (.int (((1 : Int32) <<< (va7 &&& 31)) * (own_p5 vb7))), .val (.long ((((1 : Int32) <<< (((6 : Int32) - va7) &&& 31)) * (own_p5 ((6 : Int32) - vb7))).toInt64)), .second, .val (.long (((1000000 : Int32) / (((1 : Int32) <<< (va7 &&& 31)) * (own_p5 vb7))).toInt64)), .second] [])) _
    refine XS.lload X3.here hx rfl (hb hby at_58) rfl ?_
    show Steps p.tables e below (T3.setTop (mkF m 60 #[.val (.int p0), .val (.int p1), .val (.int va7), .val (.int vb7), .val (.int (((1 : Int32) <<< (va7 &&& 31)) * (own_p5 vb7))), .val (.long ((((1 : Int32) <<< (((6 : Int32) - va7) &&& 31)) * (own_p5 ((6 : Int32) - vb7))).toInt64)), .second, .val (.long (((1000000 : Int32) / (((1 : Int32) <<< (va7 &&& 31)) * (own_p5 vb7))).toInt64)), .second] [(.long (((1000000 : Int32) / (((1 : Int32) <<< (va7 &&& 31)) * (own_p5 vb7))).toInt64))])) _
    refine XS.iload X3.here hx rfl (hb hby at_60) rfl ?_
    show Steps p.tables e below (T3.setTop (mkF m 62 #[.val (.int p0), .val (.int p1), .val (.int va7), .val (.int vb7), .val (.int (((1 : Int32) <<< (va7 &&& 31)) * (own_p5 vb7))), .val (.long ((((1 : Int32) <<< (((6 : Int32) - va7) &&& 31)) * (own_p5 ((6 : Int32) - vb7))).toInt64)), .second, .val (.long (((1000000 : Int32) / (((1 : Int32) <<< (va7 &&& 31)) * (own_p5 vb7))).toInt64)), .second] [(.int (((1 : Int32) <<< (va7 &&& 31)) * (own_p5 vb7))), (.long (((1000000 : Int32) / (((1 : Int32) <<< (va7 &&& 31)) * (own_p5 vb7))).toInt64))])) _
    refine XS.i2l X3.here hx rfl (hb hby at_62) rfl ?_
    show Steps p.tables e below (T3.setTop (mkF m 63 #[.val (.int p0), .val (.int p1), .val (.int va7), .val (.int vb7), .val (.int (((1 : Int32) <<< (va7 &&& 31)) * (own_p5 vb7))), .val (.long ((((1 : Int32) <<< (((6 : Int32) - va7) &&& 31)) * (own_p5 ((6 : Int32) - vb7))).toInt64)), .second, .val (.long (((1000000 : Int32) / (((1 : Int32) <<< (va7 &&& 31)) * (own_p5 vb7))).toInt64)), .second] [(.long ((((1 : Int32) <<< (va7 &&& 31)) * (own_p5 vb7)).toInt64)), (.long (((1000000 : Int32) / (((1 : Int32) <<< (va7 &&& 31)) * (own_p5 vb7))).toInt64))])) _
    refine XS.lmul X3.here hx rfl (hb hby at_63) rfl ?_
    show Steps p.tables e below (T3.setTop (mkF m 64 #[.val (.int p0), .val (.int p1), .val (.int va7), .val (.int vb7), .val (.int (((1 : Int32) <<< (va7 &&& 31)) * (own_p5 vb7))), .val (.long ((((1 : Int32) <<< (((6 : Int32) - va7) &&& 31)) * (own_p5 ((6 : Int32) - vb7))).toInt64)), .second, .val (.long (((1000000 : Int32) / (((1 : Int32) <<< (va7 &&& 31)) * (own_p5 vb7))).toInt64)), .second] [(.long ((((1000000 : Int32) / (((1 : Int32) <<< (va7 &&& 31)) * (own_p5 vb7))).toInt64) * ((((1 : Int32) <<< (va7 &&& 31)) * (own_p5 vb7)).toInt64)))])) _
    refine X3.ldc2Long hx hown (mvT hZ (hw _ (List.mem_of_getElem? (i := 11) rfl))) (g := (mkF m 64 #[.val (.int p0), .val (.int p1), .val (.int va7), .val (.int vb7), .val (.int (((1 : Int32) <<< (va7 &&& 31)) * (own_p5 vb7))), .val (.long ((((1 : Int32) <<< (((6 : Int32) - va7) &&& 31)) * (own_p5 ((6 : Int32) - vb7))).toInt64)), .second, .val (.long (((1000000 : Int32) / (((1 : Int32) <<< (va7 &&& 31)) * (own_p5 vb7))).toInt64)), .second] [(.long ((((1000000 : Int32) / (((1 : Int32) <<< (va7 &&& 31)) * (own_p5 vb7))).toInt64) * ((((1 : Int32) <<< (va7 &&& 31)) * (own_p5 vb7)).toInt64)))])) rfl (hb hby at_64) _ ?_
    show Steps p.tables e below (T3.setTop (mkF m 67 #[.val (.int p0), .val (.int p1), .val (.int va7), .val (.int vb7), .val (.int (((1 : Int32) <<< (va7 &&& 31)) * (own_p5 vb7))), .val (.long ((((1 : Int32) <<< (((6 : Int32) - va7) &&& 31)) * (own_p5 ((6 : Int32) - vb7))).toInt64)), .second, .val (.long (((1000000 : Int32) / (((1 : Int32) <<< (va7 &&& 31)) * (own_p5 vb7))).toInt64)), .second] [(.long (1000000 : Int64)), (.long ((((1000000 : Int32) / (((1 : Int32) <<< (va7 &&& 31)) * (own_p5 vb7))).toInt64) * ((((1 : Int32) <<< (va7 &&& 31)) * (own_p5 vb7)).toInt64)))])) _
    refine XS.lcmp X3.here hx rfl (hb hby at_67) rfl ?_
    show Steps p.tables e below (T3.setTop (mkF m 68 #[.val (.int p0), .val (.int p1), .val (.int va7), .val (.int vb7), .val (.int (((1 : Int32) <<< (va7 &&& 31)) * (own_p5 vb7))), .val (.long ((((1 : Int32) <<< (((6 : Int32) - va7) &&& 31)) * (own_p5 ((6 : Int32) - vb7))).toInt64)), .second, .val (.long (((1000000 : Int32) / (((1 : Int32) <<< (va7 &&& 31)) * (own_p5 vb7))).toInt64)), .second] [(.int (lcmpW ((((1000000 : Int32) / (((1 : Int32) <<< (va7 &&& 31)) * (own_p5 vb7))).toInt64) * ((((1 : Int32) <<< (va7 &&& 31)) * (own_p5 vb7)).toInt64)) (1000000 : Int64)))])) _
    refine XS.ifNo X3.here hx rfl (hb hby at_68) rfl ((if0 _ _).trans (teq ((lw_eq _ _).mpr (own_bt5 ha7 hb7 : ((((1000000 : Int32) / (((1 : Int32) <<< (va7 &&& 31)) * (own_p5 vb7))).toInt64) * ((((1 : Int32) <<< (va7 &&& 31)) * (own_p5 vb7)).toInt64)) = (1000000 : Int64)))).2) ?_
    show Steps p.tables e below (T3.setTop (mkF m 71 #[.val (.int p0), .val (.int p1), .val (.int va7), .val (.int vb7), .val (.int (((1 : Int32) <<< (va7 &&& 31)) * (own_p5 vb7))), .val (.long ((((1 : Int32) <<< (((6 : Int32) - va7) &&& 31)) * (own_p5 ((6 : Int32) - vb7))).toInt64)), .second, .val (.long (((1000000 : Int32) / (((1 : Int32) <<< (va7 &&& 31)) * (own_p5 vb7))).toInt64)), .second] [])) _
    refine XS.iconst X3.here hx rfl (hb hby at_71) ?_
    show Steps p.tables e below (T3.setTop (mkF m 72 #[.val (.int p0), .val (.int p1), .val (.int va7), .val (.int vb7), .val (.int (((1 : Int32) <<< (va7 &&& 31)) * (own_p5 vb7))), .val (.long ((((1 : Int32) <<< (((6 : Int32) - va7) &&& 31)) * (own_p5 ((6 : Int32) - vb7))).toInt64)), .second, .val (.long (((1000000 : Int32) / (((1 : Int32) <<< (va7 &&& 31)) * (own_p5 vb7))).toInt64)), .second] [(.int (1 : Int32))])) _
    refine XS.goto X3.here hx rfl (pc0 := 72) (pc' := 76) rfl (hb hby at_72) (by decide) (by decide) ?_
    show Steps p.tables e below (T3.setTop (mkF m 76 #[.val (.int p0), .val (.int p1), .val (.int va7), .val (.int vb7), .val (.int (((1 : Int32) <<< (va7 &&& 31)) * (own_p5 vb7))), .val (.long ((((1 : Int32) <<< (((6 : Int32) - va7) &&& 31)) * (own_p5 ((6 : Int32) - vb7))).toInt64)), .second, .val (.long (((1000000 : Int32) / (((1 : Int32) <<< (va7 &&& 31)) * (own_p5 vb7))).toInt64)), .second] [(.int (1 : Int32))])) _
    exact retN X3 hx (t := .boolean) Bd.returns (by simp) (hb hby at_76) hr
  · show own_Q0 n0 _ T3.heap _
    rw [e3]
    exact ⟨rfl, N3⟩
set_option maxRecDepth 65536 in
set_option maxHeartbeats 40000000 in
theorem comes_1 {Post : Tables → Env → Array Value → State → Outcome → State → Prop} (hpost : ∀ tb e args s v u, (limb_1_1.after args s (.returned v) u = true ∧ limb_1_2.after args s (.returned v) u = true ∧ True) → FrameEnd s (.returned v) u (Jvm.fieldLocs frame_1_writes args s ++ Jvm.arrayLocs frame_1_arrays args s ++ Jvm.staticLocs frame_1_statics s) 16 128 → Post tb e args s (.returned v) u) :
    ArmFor flags0 classFile x code maxLocals ret World_1 tables_1 room_1 Calls_1 rest_1 Pre_1 Post := by
  intro l hfl _ _ p e ha hc hk s m args below hf hA hF happ hP
  obtain ⟨hcalls, hrest, hpre⟩ := hP
  obtain ⟨-, -, -, hnamed, -, -, -, hat⟩ := (Spec.applies_iff hf).mp happ
  obtain ⟨hg, hn⟩ := and_e (Cond.before_iff.mp (show (Jvm.Cond.and given_1 narrow_1).before args s = true from hpre))
  obtain ⟨gc0, gr0⟩ := and_e hg
  obtain ⟨gc1, gr1⟩ := and_e gr0
  obtain ⟨w0, w1, rfl⟩ : ∃ w0 w1 : Value, args = #[w0, w1] := by
    have hs : args.size = 2 := by simpa [Cond.value, given_1] using gc0
    obtain ⟨L⟩ := args
    match L, hs with
    | [w0, w1], _ => exact ⟨w0, w1, rfl⟩
  have hw := fun d (hd : d ∈ tables_1) => atoms_spec (ws := Jvm.Cond.code x code maxLocals ret :: tables_1) hat d (List.mem_cons_of_mem _ hd)
  obtain ⟨i0, ei0⟩ := is_v gc1
  obtain rfl : w0 = (.int i0) := Option.some.inj ei0
  obtain ⟨i1, ei1⟩ := is_v gr1
  obtain rfl : w1 = (.int i1) := Option.some.inj ei1
  obtain ⟨n, o, h1, h2, h3, _, L, rfl, ⟨rfl, N⟩, hq⟩ := own_rm0 l s _ hw tables_1 i0 i1  s.heap s.heap.size (Nat.le_refl _)  p e ha hc hk s m _ below hf ((Spec.applies_iff_loose hf).mp happ).1 ⟨rfl, State.Warmed39.refl s, rfl⟩ trivial
  refine ⟨n, _, h1, h2, h3, hpost _ _ _ _ _ _ ⟨Cond.after_iff.mpr rfl, Cond.after_iff.mpr (eq_i res_at (Term.int_eval (1)) rfl), trivial⟩ ⟨hq.1, hq.2.1, (hq.2.2.sift fun y hy => Or.inr (N y hy)).mono (by decide) (by decide)⟩⟩
theorem main_1_1 : Claimed_1_1 := comes_1 fun _ _ _ _ _ _ h hF => ⟨h.1, hF⟩
theorem main_1_2 : Claimed_1_2 := comes_1 fun _ _ _ _ _ _ h hF => ⟨h.2.1, hF⟩
end Jvm.Pilot.@@N@@
namespace Jvm.Pilot.@@N@@
open Jvm Jvm.ClassFile Sem Op Lib Jvm.Free Jvm.Stand Jvm.Pilot.@@N@@.Jvm.D
/-! MADE BY PROGRAM (witnessworld.py) out of the Statement's table words and the real class files: 9 classes; the members and pool entries that the words name. The judged class is class 1, her method 1. -/
namespace start1
open Jvm.ClassFile
def u (s : String) : CpInfo := .utf8 (stringToUtf16 s)
/-- a pool by its gaps: so many unusable entries, then the entry; so many at the end -/
def gap : Nat → List CpInfo → List CpInfo
  | 0, r => r
  | n + 1, r => .unusable :: gap n r
def poolList (es : List (Nat × CpInfo)) (last : Nat) : List CpInfo := es.foldr (fun e r => gap e.1 (e.2 :: r)) (gap last [])
def pool (es : List (Nat × CpInfo)) (last : Nat) : Array CpInfo := ⟨poolList es last⟩
def fileOf (pool : Array CpInfo) (this : Nat) (attrs : Array Attribute := #[]) (ms : Array MethodInfo := #[]) (fl : Nat := 33) (sup : Nat := 0) (ifs : Array Nat := #[]) (fds : Array FieldInfo := #[]) : ClassFile where
  minorVersion := 0
  majorVersion := 65
  constantPool := pool
  accessFlags := fl
  thisClass := this
  superClass := sup
  interfaces := ifs
  fields := fds
  methods := ms
  attributes := attrs
def plain (name : String) (sup : Option ClassId) : Class where
  name := name
  kind := .ordinary
  loader := none
  accessFlags := 33
  super := sup
  interfaces := #[]
  cf := none
  fields := #[]
  methods := #[]
  instanceTypes := #[]
  staticTypes := #[]
  resolved := #[]
  callSites := []
  init := .initialized
  statics := none
  mirror := none

def pool0 : Array CpInfo := pool [(5, u "<init>"), (0, u "()V"), (1, .class_ 10), (1, u "java/lang/Object")] 113

def k0m0 : Method := { name := "<init>", desc := "()V", sig := { parameters := [], returnType := none }, accessFlags := 1, code := none }
/-- java/lang/Object -/
def k0 : Class := { plain "java/lang/Object" none with
  accessFlags := 33
  interfaces := #[]
  cf := some (fileOf pool0 8 #[] #[{ accessFlags := 1, nameIndex := 5, descriptorIndex := 6, attributes := #[] }] 33 0 #[] #[])
  fields := #[]
  methods := #[k0m0]
  instanceTypes := #[]
  staticTypes := #[]
  resolved := Array.replicate 124 none
  statics := none }

def pool1 : Array CpInfo := pool [(2, .class_ 4), (1, u "java/lang/Object"), (0, u "<init>"), (0, u "()V"), (0, .integer 2147483647), (0, .methodref 9 10), (0, .class_ 11), (0, .nameAndType 12 13), (0, u "com/example/careful_allocator/carefulallocator/can/FrameTimingBitTimePinLaw"), (0, u "powerOfFive"), (0, u "(I)I"), (0, .methodref 15 16), (0, .class_ 17), (0, .nameAndType 18 19), (0, u "com/example/careful_allocator/carefulallocator/can/FrameTiming"), (0, u "bitTime"), (0, u "(I)J"), (0, .long 1000000), (3, u "law"), (0, u "(II)Z")] 3

def k1m0 : Method := { name := "<init>", desc := "()V", sig := { parameters := [], returnType := none }, accessFlags := 2, code := none }
def k1c1 : Code := { maxStack := 4, maxLocals := 9, code := code, exceptionTable := #[], attributes := #[] }
def k1m1 : Method := { name := "law", desc := "(II)Z", sig := { parameters := [.int, .int], returnType := some .boolean }, accessFlags := 9, code := some k1c1 }
def k1c2 : Code := { maxStack := 4, maxLocals := 2, code := method_3_code, exceptionTable := #[], attributes := #[] }
def k1m2 : Method := { name := "powerOfFive", desc := "(I)I", sig := { parameters := [.int], returnType := some .int }, accessFlags := 10, code := some k1c2 }
/-- com/example/careful_allocator/carefulallocator/can/FrameTimingBitTimePinLaw -/
def k1 : Class := { plain "com/example/careful_allocator/carefulallocator/can/FrameTimingBitTimePinLaw" (some 0) with
  accessFlags := 49
  interfaces := #[]
  cf := some (fileOf pool1 9 #[] #[{ accessFlags := 2, nameIndex := 5, descriptorIndex := 6, attributes := #[] }, { accessFlags := 9, nameIndex := 24, descriptorIndex := 25, attributes := #[] }, { accessFlags := 10, nameIndex := 12, descriptorIndex := 13, attributes := #[] }] 49 2 #[] #[])
  fields := #[]
  methods := #[k1m0, k1m1, k1m2]
  instanceTypes := #[]
  staticTypes := #[]
  resolved := Array.replicate 29 none
  statics := none }

def pool2 : Array CpInfo := pool [(2, .class_ 4), (1, u "java/lang/Object"), (0, u "<init>"), (0, u "()V"), (0, .class_ 8), (0, u "com/example/careful_allocator/carefulallocator/can/FrameTiming"), (17, .integer 1000000), (7, u "bitTime"), (0, u "(I)J"), (0, u "MAX_DATA_BYTES"), (0, u "I"), (2, u "MICROS_PER_SECOND"), (0, u "UNSTUFFED_TRAILER_BITS")] 25

def k2m0 : Method := { name := "<init>", desc := "()V", sig := { parameters := [], returnType := none }, accessFlags := 2, code := none }
def k2c1 : Code := { maxStack := 3, maxLocals := 1, code := prog_16_method_3_code, exceptionTable := #[], attributes := #[] }
def k2m1 : Method := { name := "bitTime", desc := "(I)J", sig := { parameters := [.int], returnType := some .long }, accessFlags := 9, code := some k2c1 }
/-- com/example/careful_allocator/carefulallocator/can/FrameTiming -/
def k2 : Class := { plain "com/example/careful_allocator/carefulallocator/can/FrameTiming" (some 0) with
  accessFlags := 49
  interfaces := #[]
  cf := some (fileOf pool2 7 #[] #[{ accessFlags := 2, nameIndex := 5, descriptorIndex := 6, attributes := #[] }, { accessFlags := 9, nameIndex := 34, descriptorIndex := 35, attributes := #[] }] 49 2 #[] #[{ accessFlags := 25, nameIndex := 36, descriptorIndex := 37, attributes := #[] }, { accessFlags := 26, nameIndex := 40, descriptorIndex := 37, attributes := #[] }, { accessFlags := 26, nameIndex := 41, descriptorIndex := 37, attributes := #[] }])
  fields := #[{ name := "MAX_DATA_BYTES", type := .int, accessFlags := 25, slot := 0, constantValue := 0 }, { name := "MICROS_PER_SECOND", type := .int, accessFlags := 26, slot := 1, constantValue := 0 }, { name := "UNSTUFFED_TRAILER_BITS", type := .int, accessFlags := 26, slot := 2, constantValue := 0 }]
  methods := #[k2m0, k2m1]
  instanceTypes := #[]
  staticTypes := #[.int, .int, .int]
  resolved := Array.replicate 67 none
  statics := none }

def pool3 : Array CpInfo := pool [(1, u "java/lang/Cloneable"), (0, .class_ 1), (0, u "java/lang/Object"), (0, .class_ 3)] 3

/-- java/lang/Cloneable -/
def k3 : Class := { plain "java/lang/Cloneable" (some 0) with
  accessFlags := 1537
  interfaces := #[]
  cf := some (fileOf pool3 2 #[] #[] 1537 4 #[] #[])
  fields := #[]
  methods := #[]
  instanceTypes := #[]
  staticTypes := #[]
  resolved := Array.replicate 8 none
  statics := none }

def pool4 : Array CpInfo := pool [(1, u "java/io/Serializable"), (0, .class_ 1), (0, u "java/lang/Object"), (0, .class_ 3)] 3

/-- java/io/Serializable -/
def k4 : Class := { plain "java/io/Serializable" (some 0) with
  accessFlags := 1537
  interfaces := #[]
  cf := some (fileOf pool4 2 #[] #[] 1537 4 #[] #[])
  fields := #[]
  methods := #[]
  instanceTypes := #[]
  staticTypes := #[]
  resolved := Array.replicate 8 none
  statics := none }

/-- the primitive byte -/
def k5 : Class := { plain "byte" none with kind := .primitive 'B', accessFlags := 0x411 }
/-- [B -/
def k6 : Class := { plain "[B" (some 0) with kind := .array 5 .byte, interfaces := #[3, 4], accessFlags := 1041 }

/-- the primitive int -/
def k7 : Class := { plain "int" none with kind := .primitive 'I', accessFlags := 0x411 }
/-- [I -/
def k8 : Class := { plain "[I" (some 0) with kind := .array 7 .int, interfaces := #[3, 4], accessFlags := 1041 }

def heap : Heap := #[]
def classes : Array Class := #[k0, k1, k2, k3, k4, k5, k6, k7, k8]
def interned : List (Array UInt16 × Addr) := []
def slotsUsed : Nat := 0
def theMethod : MethodId := ⟨1, 1⟩
def args0 : Array Value := #[.int 5, .int 7]
def aboutOver (below : List Frame) : State where
  vm := { classes := classes, interned := interned.toArray }
  heap := heap
  slotsUsed := slotsUsed
  threads := #[{ frames := .invoking theMethod args0 :: below }]
def below0 : List Frame := [.native { method := ⟨0, 0⟩, args := #[] }]
def about1 : State := aboutOver below0
def p0 : Program := .bare "" "" ""
def e0 : Env := launch0.env 0 0 0
theorem w_frames : about1.frames = Frame.invoking theMethod args0 :: below0 := rfl
set_option maxRecDepth 65536 in
theorem w_args : argsFit about1.vm theMethod args0 = true := by decide +kernel
set_option maxRecDepth 65536 in
theorem w_heap : heapFits about1 = true := by decide +kernel
set_option maxRecDepth 65536 in
theorem w_runnable : about1.curStatus? = some .runnable := by decide +kernel
set_option maxRecDepth 65536 in
theorem w_alone : about1.alone = true := by decide +kernel
set_option maxRecDepth 65536 in
theorem w_named : about1.methodNamed? x = some theMethod := by decide +kernel
set_option maxRecDepth 65536 in
theorem w_hears : about1.hears theMethod below0 = true := by decide +kernel
set_option maxRecDepth 65536 in
theorem w_ripe : about1.ripe theMethod args0 below0 = true := by decide +kernel
theorem w_running : about1.status = .running := rfl
set_option maxRecDepth 65536 in
theorem w_room : about1.hasRoom e0.platform room_1 = true :=
  launch0.hasRoom_least _ room_1 (by decide +kernel) (by decide +kernel) (by decide +kernel) (by decide +kernel) (by decide +kernel) (by decide +kernel)
theorem allAtoms_all (ts : List Jvm.Cond) (a : Array Jvm.Value) (st : Jvm.State) : (allAtoms ts).before a st = ts.all (fun c => c.before a st) := by
  induction ts with
  | nil => rfl
  | cons c t ih =>
    show (Jvm.Cond.and c (allAtoms t)).before a st = _
    rw [Jvm.Cond.before_and, ih, List.all_cons]
def words1 : List Jvm.Cond := Jvm.Cond.code x code maxLocals ret :: tables_1
/-- a 'code' word, met by the world's own term for the bytes: nothing is compared byte by byte -/
theorem code_word {y : MethodName} {bytes : ByteArray} {mx : Nat} {rt : Option FieldType} {a : Array Value} {s : State} {m : MethodId} {meth : Method} {c : Code} (h1 : s.methodNamed? y = some m) (h2 : s.vm.method? m = some meth) (h3 : meth.code = some c) (h4 : c.code = bytes)
    (h5 : (c.maxLocals == mx && c.exceptionTable.isEmpty && decide (c.maxStack ≤ mostOperands) && decide (meth.sig.returnType = rt) && !meth.locks && decide (parseMethodDescriptor y.desc = some meth.sig)) = true) : (Jvm.Cond.code y bytes mx rt).before a s = true := by
  simp only [Bool.and_eq_true, beq_iff_eq, Bool.not_eq_true', decide_eq_true_eq] at h5
  obtain ⟨⟨⟨⟨⟨g1, g2⟩, g3⟩, g4⟩, g5⟩, g6⟩ := h5
  simp [Cond.before, Cond.holds, Cond.value, h1, h2, h3, h4, g1, g2, g3, g4, g5, g6]
def isCode : Jvm.Cond → Bool
  | .code _ _ _ _ => true
  | _ => false
theorem all_split {L : List Jvm.Cond} {P : Jvm.Cond → Bool} (h1 : L.all (fun c => isCode c || P c) = true) (h2 : ∀ c ∈ L.filter isCode, P c = true) : L.all P = true := by
  refine List.all_eq_true.mpr fun c hc => ?_
  have h := List.all_eq_true.mp h1 c hc
  rcases Bool.eq_false_or_eq_true (isCode c) with hi | hi
  · exact h2 c (List.mem_filter.mpr ⟨hc, hi⟩)
  · simpa [hi] using h
set_option maxRecDepth 65536 in
theorem w_c0 : (Jvm.Cond.code x code maxLocals ret).before args0 about1 = true := code_word (m := ⟨1, 1⟩) (meth := k1m1) (c := k1c1) (by decide +kernel) rfl rfl rfl (by decide +kernel)
set_option maxRecDepth 65536 in
theorem w_c1 : (Jvm.Cond.code ({ cls := "com/example/careful_allocator/carefulallocator/can/FrameTimingBitTimePinLaw", name := "powerOfFive", desc := "(I)I" } : Jvm.MethodName) method_3_code (2 : Nat) (Option.some Jvm.ClassFile.FieldType.int)).before args0 about1 = true := code_word (m := ⟨1, 2⟩) (meth := k1m2) (c := k1c2) (by decide +kernel) rfl rfl rfl (by decide +kernel)
set_option maxRecDepth 65536 in
theorem w_c2 : (Jvm.Cond.code ({ cls := "com/example/careful_allocator/carefulallocator/can/FrameTiming", name := "bitTime", desc := "(I)J" } : Jvm.MethodName) prog_16_method_3_code (1 : Nat) (Option.some Jvm.ClassFile.FieldType.long)).before args0 about1 = true := code_word (m := ⟨2, 1⟩) (meth := k2m1) (c := k2c1) (by decide +kernel) rfl rfl rfl (by decide +kernel)
def codes1 : List Jvm.Cond := [Jvm.Cond.code x code maxLocals ret, Jvm.Cond.code ({ cls := "com/example/careful_allocator/carefulallocator/can/FrameTimingBitTimePinLaw", name := "powerOfFive", desc := "(I)I" } : Jvm.MethodName) method_3_code (2 : Nat) (Option.some Jvm.ClassFile.FieldType.int), Jvm.Cond.code ({ cls := "com/example/careful_allocator/carefulallocator/can/FrameTiming", name := "bitTime", desc := "(I)J" } : Jvm.MethodName) prog_16_method_3_code (1 : Nat) (Option.some Jvm.ClassFile.FieldType.long)]
set_option maxRecDepth 65536 in
theorem codes_eq : words1.filter isCode = codes1 := rfl
theorem w_codes : ∀ c ∈ words1.filter isCode, c.before args0 about1 = true := by
  rw [codes_eq]
  intro c hc
  simp only [codes1, List.mem_cons, List.not_mem_nil, or_false] at hc
  rcases hc with rfl | rfl | rfl
  · exact w_c0
  · exact w_c1
  · exact w_c2
set_option maxRecDepth 65536 in
theorem w_t1 : words1.all (fun c => isCode c || c.before args0 about1) = true := by decide +kernel
theorem w_tables : (allAtoms (Jvm.Cond.code x code maxLocals ret :: tables_1)).before args0 about1 = true := by
  rw [allAtoms_all]
  show words1.all (fun c => c.before args0 about1) = true
  refine all_split ?_ w_codes
  rw [w_t1]
set_option maxRecDepth 65536 in
theorem w_case : (Jvm.Cond.and given_1 narrow_1).before args0 about1 = true := by decide +kernel
theorem w_applies : (headSpec (Jvm.Cond.code x code maxLocals ret :: tables_1) room_1).applies x e0.platform about1 = true :=
  (Spec.applies_iff w_frames).mpr ⟨w_running, w_runnable, w_alone, w_named, w_hears, w_ripe, w_room, w_tables⟩
theorem atStart : AtStart classFile x code maxLocals ret World_1 tables_1 room_1 Calls_1 rest_1 Pre_1 launch0 p0 e0 about1 theMethod args0 below0 :=
  ⟨lists_1, trivial, launch0.admits_env _ _ _, launch0.least_env, fairChoices_fair.cas, fairChoices_fair.clock, w_frames, w_args, w_heap, w_applies, trivial, trivial, w_case⟩
end start1
theorem witness_1 : WitnessClaimed_1 := ⟨start1.p0, start1.e0, start1.about1, start1.theMethod, start1.args0, start1.below0, start1.atStart⟩
end Jvm.Pilot.@@N@@
