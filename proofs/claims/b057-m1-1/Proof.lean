import JvmDerived
import JvmDerived.Pilot.@@N@@Statement
import JvmDerived.Pilot.@@N@@Code
set_option linter.unusedVariables false
set_option linter.unusedSimpArgs false
@@BLOCK:NumsL.lean.txt@@
namespace Jvm.RoadKit
open Sem ClassFile Op Lib Jvm.Stand Jvm.Free Jvm.LawKit
section New
variable {p : Program} {l : Launch} {e : Env} {R : Room} {s : State} {m : MethodId} {args : Array Value} {below : List Frame} {meth : Method} {c : Code} {T : State} {locs : List Loc} {cells slots : Nat}
theorem retI (X : Stand p l e R s m args below meth c T locs cells slots) (hx : p.tables.exec = Jvm.exec) {pc : Nat} {Ls : Array Slot} {z : Int32} {rest : List Value} (hret : meth.sig.returnType = some .int) (hd : decode c.code pc = .ok (.ireturn, 1)) {fs : List Frame}
    (hl : ∀ (f : JFrame) (acts : List Action), f.method = m → f.locked = none → f.entered = [] → (doReturn e (T.setTop f) acts (some (.int z))).1 = T.setFrames fs) : Steps p.tables e below (T.setTop (mkF m pc Ls (.int z :: rest))) (T.setFrames fs) := by
  have hm' : T.vm.method? m = some meth := X.method'
  have hn : narrow .int (.int z) = .int z := rfl
  show Steps p.tables e below (T.setTop { method := m, pc := pc, locals := Ls, stack := _ :: rest, locked := none }) _
  jvm_step X.here [X.here.top, hx, hd, hm', hret, hn]
  first | (intro acts; rw [hl _ acts rfl rfl rfl]) | rw [hl _ _ rfl rfl rfl]
  exact Steps.refl _
end New
end Jvm.RoadKit
namespace Jvm.Pilot.@@N@@
open Jvm Jvm.ClassFile Sem Op Lib Jvm.Free Jvm.Stand Jvm.LawKit Jvm.RoadKit Bundle Jvm.Pilot.@@N@@.Jvm.D
/-- a step ahead of a run that ends -/
theorem own_go {p : Program} {e : Env} {below : List Frame} {P : State → Outcome → Prop} {a b : State} (h : ∀ t, Steps p.tables e below b t → Steps p.tables e below a t) (k : ∃ s₂ o, Steps p.tables e below b s₂ ∧ P s₂ o) : ∃ s₂ o, Steps p.tables e below a s₂ ∧ P s₂ o := by
  obtain ⟨t, o, h1, h2⟩ := k; exact ⟨t, o, h t h1, h2⟩
theorem own_rem (x y : Int32) : (x - (x / y) * y).toInt = x.toInt.tmod y.toInt := by
  have a := (x % y).toInt_lt; have b := (x % y).le_toInt
  rw [Int32.toInt_mod] at a b
  rw [Int32.toInt_sub, Int32.toInt_mul, Int32.toInt_div, ← Int.sub_bmod_bmod, ← Int.bmod_mul_bmod]
  simp only [Int.bmod_bmod, Int.bmod_mul_bmod, Int.sub_bmod_bmod]
  have h : x.toInt - x.toInt.tdiv y.toInt * y.toInt = x.toInt.tmod y.toInt := by
    have := Int.mul_tdiv_add_tmod x.toInt y.toInt
    rw [Int.mul_comm]; omega
  rw [h]
  exact Int.bmod_eq_of_le (by omega) (by omega)
/-- x % k for 0 <= x and a small k > 0 -/
theorem own_rem_pos {x y : Int32} (hx : 0 ≤ x.toInt) : (x - (x / y) * y).toInt = x.toInt % y.toInt := by rw [own_rem, Int.tmod_eq_emod_of_nonneg hx]
theorem own_mask31 (x : Int32) : 0 ≤ (x &&& (2147483647 : Int32)).toInt := by
  have e1 : (x &&& (2147483647 : Int32)).toInt = x.toInt % 2 ^ 31 := Jvm.Kit.i32_mask x 2147483647 (k := 31) (by decide) (by decide)
  rw [e1]; exact Int.emod_nonneg _ (by decide)
theorem own_mod16 (x : Int32) : ((x &&& (2147483647 : Int32)) - ((x &&& (2147483647 : Int32)) / (16 : Int32)) * (16 : Int32)) = (0 : Int32) ∨ ((x &&& (2147483647 : Int32)) - ((x &&& (2147483647 : Int32)) / (16 : Int32)) * (16 : Int32)) = (1 : Int32) ∨ ((x &&& (2147483647 : Int32)) - ((x &&& (2147483647 : Int32)) / (16 : Int32)) * (16 : Int32)) = (2 : Int32) ∨ ((x &&& (2147483647 : Int32)) - ((x &&& (2147483647 : Int32)) / (16 : Int32)) * (16 : Int32)) = (3 : Int32) ∨ ((x &&& (2147483647 : Int32)) - ((x &&& (2147483647 : Int32)) / (16 : Int32)) * (16 : Int32)) = (4 : Int32) ∨ ((x &&& (2147483647 : Int32)) - ((x &&& (2147483647 : Int32)) / (16 : Int32)) * (16 : Int32)) = (5 : Int32) ∨ ((x &&& (2147483647 : Int32)) - ((x &&& (2147483647 : Int32)) / (16 : Int32)) * (16 : Int32)) = (6 : Int32) ∨ ((x &&& (2147483647 : Int32)) - ((x &&& (2147483647 : Int32)) / (16 : Int32)) * (16 : Int32)) = (7 : Int32) ∨ ((x &&& (2147483647 : Int32)) - ((x &&& (2147483647 : Int32)) / (16 : Int32)) * (16 : Int32)) = (8 : Int32) ∨ ((x &&& (2147483647 : Int32)) - ((x &&& (2147483647 : Int32)) / (16 : Int32)) * (16 : Int32)) = (9 : Int32) ∨ ((x &&& (2147483647 : Int32)) - ((x &&& (2147483647 : Int32)) / (16 : Int32)) * (16 : Int32)) = (10 : Int32) ∨ ((x &&& (2147483647 : Int32)) - ((x &&& (2147483647 : Int32)) / (16 : Int32)) * (16 : Int32)) = (11 : Int32) ∨ ((x &&& (2147483647 : Int32)) - ((x &&& (2147483647 : Int32)) / (16 : Int32)) * (16 : Int32)) = (12 : Int32) ∨ ((x &&& (2147483647 : Int32)) - ((x &&& (2147483647 : Int32)) / (16 : Int32)) * (16 : Int32)) = (13 : Int32) ∨ ((x &&& (2147483647 : Int32)) - ((x &&& (2147483647 : Int32)) / (16 : Int32)) * (16 : Int32)) = (14 : Int32) ∨ ((x &&& (2147483647 : Int32)) - ((x &&& (2147483647 : Int32)) / (16 : Int32)) * (16 : Int32)) = (15 : Int32) := by
  have h1 := own_mask31 x
  have e0 : (16 : Int32).toInt = 16 := rfl
  have h2 := own_rem_pos (y := (16 : Int32)) h1
  rw [e0] at h2
  have l0 : (0 : Int32).toInt = 0 := rfl
  have l1 : (1 : Int32).toInt = 1 := rfl
  have l2 : (2 : Int32).toInt = 2 := rfl
  have l3 : (3 : Int32).toInt = 3 := rfl
  have l4 : (4 : Int32).toInt = 4 := rfl
  have l5 : (5 : Int32).toInt = 5 := rfl
  have l6 : (6 : Int32).toInt = 6 := rfl
  have l7 : (7 : Int32).toInt = 7 := rfl
  have l8 : (8 : Int32).toInt = 8 := rfl
  have l9 : (9 : Int32).toInt = 9 := rfl
  have l10 : (10 : Int32).toInt = 10 := rfl
  have l11 : (11 : Int32).toInt = 11 := rfl
  have l12 : (12 : Int32).toInt = 12 := rfl
  have l13 : (13 : Int32).toInt = 13 := rfl
  have l14 : (14 : Int32).toInt = 14 := rfl
  have l15 : (15 : Int32).toInt = 15 := rfl
  simp only [← Int32.toInt_inj, h2, l0, l1, l2, l3, l4, l5, l6, l7, l8, l9, l10, l11, l12, l13, l14, l15]
  omega
theorem own_in16 {e : Int32} (he : (e = (0 : Int32) ∨ e = (1 : Int32) ∨ e = (2 : Int32) ∨ e = (3 : Int32) ∨ e = (4 : Int32) ∨ e = (5 : Int32) ∨ e = (6 : Int32) ∨ e = (7 : Int32) ∨ e = (8 : Int32) ∨ e = (9 : Int32) ∨ e = (10 : Int32) ∨ e = (11 : Int32) ∨ e = (12 : Int32) ∨ e = (13 : Int32) ∨ e = (14 : Int32) ∨ e = (15 : Int32))) : ¬ e < 0 ∧ e < (16 : Int32) := by
  rcases he with rfl | rfl | rfl | rfl | rfl | rfl | rfl | rfl | rfl | rfl | rfl | rfl | rfl | rfl | rfl | rfl <;> decide
def own_A3 (x : Int32) : Int32 := if x < (48 : Int32) then (0 : Int32) else if (57 : Int32) < x then (0 : Int32) else (1 : Int32)
def own_A2 (x : Int32) : Int32 := if x < (65 : Int32) then own_A3 x else if (90 : Int32) < x then own_A3 x else (1 : Int32)
def own_A (x : Int32) : Int32 := if x < (97 : Int32) then own_A2 x else if (122 : Int32) < x then own_A2 x else (1 : Int32)
def own_Ed (x : Int32) : Int32 := if (x - (48 : Int32)) < (0 : Int32) then (0 : Int32) else if (x - (48 : Int32)) < (10 : Int32) then (1 : Int32) else (0 : Int32)
def own_E (x : Int32) : Int32 := if ((x ||| (32 : Int32)) - (97 : Int32)) < (0 : Int32) then own_Ed x else if ((x ||| (32 : Int32)) - (97 : Int32)) < (26 : Int32) then (1 : Int32) else own_Ed x
theorem own_nor (n : Nat) : n ||| 32 = n + 32 * (1 - n / 32 % 2) := by
  have h1 : (n ||| 32) % 2 ^ 6 = (n % 2 ^ 6) ||| (32 % 2 ^ 6) := Nat.or_mod_two_pow
  have h2 : (n ||| 32) / 2 ^ 6 = (n / 2 ^ 6) ||| (32 / 2 ^ 6) := Nat.or_div_two_pow
  have h3 : ∀ m, m < 64 → m ||| 32 = m + 32 * (1 - m / 32 % 2) := by decide
  have h4 := h3 (n % 2 ^ 6) (Nat.mod_lt _ (by decide))
  have h5 : (n / 2 ^ 6) ||| (32 / 2 ^ 6) = n / 2 ^ 6 := Nat.or_zero _
  have h6 : 32 % 2 ^ 6 = 32 := rfl
  rw [h6, h4] at h1
  rw [h5] at h2
  omega
theorem own_or32 (x : Int32) : (x ||| (32 : Int32)).toInt = x.toInt + 32 * (1 - (x.toInt / 32) % 2) := by
  have e1 : (x ||| (32 : Int32)).toInt = (x.toBitVec ||| 32#32).toInt := rfl
  have e2 : x.toInt = x.toBitVec.toInt := rfl
  have hn := x.toBitVec.isLt
  rw [e1, e2, BitVec.toInt_eq_toNat_cond, BitVec.toInt_eq_toNat_cond, BitVec.toNat_or]
  have e3 : (32#32).toNat = 32 := rfl
  rw [e3, own_nor]
  generalize x.toBitVec.toNat = n at *
  split <;> split <;> omega
theorem own_same (x : Int32) : own_A x = own_E x := by
  have ho := own_or32 x
  have e0 : (0 : Int32).toInt = 0 := rfl
  have e48 : (48 : Int32).toInt = 48 := rfl
  have e57 : (57 : Int32).toInt = 57 := rfl
  have e65 : (65 : Int32).toInt = 65 := rfl
  have e90 : (90 : Int32).toInt = 90 := rfl
  have e97 : (97 : Int32).toInt = 97 := rfl
  have e122 : (122 : Int32).toInt = 122 := rfl
  have e10 : (10 : Int32).toInt = 10 := rfl
  have e26 : (26 : Int32).toInt = 26 := rfl
  have s1 : ((x ||| (32 : Int32)) - (97 : Int32)).toInt = ((x ||| (32 : Int32)).toInt - 97).bmod (2 ^ 32) := Int32.toInt_sub _ _
  have s2 : (x - (48 : Int32)).toInt = (x.toInt - 48).bmod (2 ^ 32) := Int32.toInt_sub _ _
  have b1 := bm32 ((x ||| (32 : Int32)).toInt - 97)
  have b2 := bm32 (x.toInt - 48)
  have r1 := ((x ||| (32 : Int32)) - (97 : Int32)).toInt_lt; have r2 := ((x ||| (32 : Int32)) - (97 : Int32)).le_toInt
  have r3 := (x - (48 : Int32)).toInt_lt; have r4 := (x - (48 : Int32)).le_toInt
  have r5 := x.toInt_lt; have r6 := x.le_toInt
  rw [← s1] at b1
  rw [← s2] at b2
  simp only [own_A, own_A2, own_A3, own_E, own_Ed, Int32.lt_iff_toInt_lt, e0, e48, e57, e65, e90, e97, e122, e10, e26]
  generalize ((x ||| (32 : Int32)) - (97 : Int32)).toInt = u at *
  generalize (x - (48 : Int32)).toInt = w at *
  generalize (x ||| (32 : Int32)).toInt = o at *
  generalize x.toInt = z at *
  clear s1 s2
  repeat' split
  all_goals first | rfl | (exfalso; omega)
theorem own_pd0 : parseMethodDescriptor "(C)Z" = some ⟨[.char], some .boolean⟩ := by decide +kernel
theorem own_pn0 : plainName "com/example/rollcall/rollcall/http/UriSyntax" = true := by first | (simp [plainName, overriddenIn]; done) | decide +kernel
theorem own_pn1 : plainName "com/example/rollcall/rollcall/http/UriSyntaxIsAlphanumericPinLaw" = true := by first | (simp [plainName, overriddenIn]; done) | decide +kernel
def own_Q1 (p0 : Int32) (h0 : Heap) (n0 : Nat) (v : Option Value) (h : Heap) (L : List Loc) : Prop := v = some (.int (own_A p0)) ∧ Fr n0 L ∧ h = h0
theorem d_own_rm1_0 : decode prog_36_method_5_code 0 = .ok (.iload_n 0, 1) := by decide +kernel
theorem d_own_rm1_1 : decode prog_36_method_5_code 1 = .ok (.bipush 97, 2) := by decide +kernel
theorem d_own_rm1_3 : decode prog_36_method_5_code 3 = .ok (.if_icmp .lt 9, 3) := by decide +kernel
theorem d_own_rm1_6 : decode prog_36_method_5_code 6 = .ok (.iload_n 0, 1) := by decide +kernel
theorem d_own_rm1_7 : decode prog_36_method_5_code 7 = .ok (.bipush 122, 2) := by decide +kernel
theorem d_own_rm1_9 : decode prog_36_method_5_code 9 = .ok (.if_icmp .le 27, 3) := by decide +kernel
theorem d_own_rm1_12 : decode prog_36_method_5_code 12 = .ok (.iload_n 0, 1) := by decide +kernel
theorem d_own_rm1_13 : decode prog_36_method_5_code 13 = .ok (.bipush 65, 2) := by decide +kernel
theorem d_own_rm1_15 : decode prog_36_method_5_code 15 = .ok (.if_icmp .lt 9, 3) := by decide +kernel
theorem d_own_rm1_18 : decode prog_36_method_5_code 18 = .ok (.iload_n 0, 1) := by decide +kernel
theorem d_own_rm1_19 : decode prog_36_method_5_code 19 = .ok (.bipush 90, 2) := by decide +kernel
theorem d_own_rm1_21 : decode prog_36_method_5_code 21 = .ok (.if_icmp .le 15, 3) := by decide +kernel
theorem d_own_rm1_24 : decode prog_36_method_5_code 24 = .ok (.iload_n 0, 1) := by decide +kernel
theorem d_own_rm1_25 : decode prog_36_method_5_code 25 = .ok (.bipush 48, 2) := by decide +kernel
theorem d_own_rm1_27 : decode prog_36_method_5_code 27 = .ok (.if_icmp .lt 13, 3) := by decide +kernel
theorem d_own_rm1_30 : decode prog_36_method_5_code 30 = .ok (.iload_n 0, 1) := by decide +kernel
theorem d_own_rm1_31 : decode prog_36_method_5_code 31 = .ok (.bipush 57, 2) := by decide +kernel
theorem d_own_rm1_33 : decode prog_36_method_5_code 33 = .ok (.if_icmp .gt 7, 3) := by decide +kernel
theorem d_own_rm1_36 : decode prog_36_method_5_code 36 = .ok (.iconst 1, 1) := by decide +kernel
theorem d_own_rm1_37 : decode prog_36_method_5_code 37 = .ok (.goto 4, 3) := by decide +kernel
theorem d_own_rm1_40 : decode prog_36_method_5_code 40 = .ok (.iconst 0, 1) := by decide +kernel
theorem d_own_rm1_41 : decode prog_36_method_5_code 41 = .ok (.ireturn, 1) := by decide +kernel
theorem ef_own_rm1 (m : MethodId) (x0 : Int32) : entryFrame m #[(.int x0)] 1 = mkF m 0 #[.val (.int x0)] [] := by first | (simp [entryFrame, mkF, argsToLocals, Value.category]; done) | rfl
set_option maxRecDepth 65536 in
set_option maxHeartbeats 40000000 in
theorem own_rm1 (l : Launch) (Z : State) (a0 : Array Value) (hw : ∀ d ∈ tables_1, d.before a0 Z = true) (ws : List Jvm.Cond) (p0 : Int32)  (h0 : Heap) (n0 : Nat) (Z0 : n0 ≤ h0.size)  :
    MetFree l (⟨"com/example/rollcall/rollcall/http/UriSyntax", "isAlphanumeric", "(C)Z"⟩ : MethodName) (head1 (Jvm.Cond.code (⟨"com/example/rollcall/rollcall/http/UriSyntax", "isAlphanumeric", "(C)Z"⟩ : MethodName) prog_36_method_5_code 1 (some .boolean) :: ws) ({ frames := 0, cells := 0, slots := 0, locals := 0 } : Room)) (fun a U => a = #[(.int p0)] ∧ Z.Warmed39 U.vm ∧ U.heap = h0) (fun _ _ _ _ _ => True) (fun _ U o U' => ∃ v L, o = .returned v ∧ own_Q1 p0 h0 n0 v U'.heap L ∧ FrameEnd U o U' L ({ frames := 0, cells := 0, slots := 0, locals := 0 } : Room).cells ({ frames := 0, cells := 0, slots := 0, locals := 0 } : Room).slots) := by
  refine MetFree.of_bodySF (plainFor_of_name own_pn0) hisR ?_
  intro p e s m args below meth c s₁ Bd hml0 hP hK
  obtain ⟨rfl, hZ, hh⟩ := hP
  have hx := Bd.exec
  have hby := Bd.bytes
  have hml : c.maxLocals = 1 := hml0
  have hown : s.vm.findClass "com/example/rollcall/rollcall/http/UriSyntax" = some m.cls := findClass_of_methodNamed Bd.named
  have hnm := (name_of_methodNamed Bd.named Bd.method).1
  have X0 : Stand p l e ({ frames := 0, cells := 0, slots := 0, locals := 0 } : Room) s m #[(.int p0)] below meth c s₁ [] 0 0 := Stand.of_body Bd
  have e0 : s₁.heap = h0 := by rw [← hh, Bd.state]; rfl
  have N0 := Fr.nil n0
  refine own_go (b := s₁.setTop (mkF m 0 #[.val (.int p0)] [])) (fun t k => castTop (ef_own_rm1 m p0) k) ?_
  refine own_go (b := s₁.setTop (mkF m 3 #[.val (.int p0)] [(.int (97 : Int32)), (.int p0)])) (fun t k => ?_) ?_
  · show Steps p.tables e below (s₁.setTop (mkF m 0 #[.val (.int p0)] [])) _
    refine XS.iloadN X0.here hx rfl (hb hby d_own_rm1_0) rfl ?_
    show Steps p.tables e below (s₁.setTop (mkF m 1 #[.val (.int p0)] [(.int p0)])) _
    refine XS.bipush X0.here hx rfl (hb hby d_own_rm1_1) ?_
    show Steps p.tables e below (s₁.setTop (mkF m 3 #[.val (.int p0)] [(.int (97 : Int32)), (.int p0)])) t
    exact k
  by_cases hc3_1 : p0 < (97 : Int32)
  · refine own_go (b := s₁.setTop (mkF m 15 #[.val (.int p0)] [(.int (65 : Int32)), (.int p0)])) (fun t k => ?_) ?_
    · show Steps p.tables e below (s₁.setTop (mkF m 3 #[.val (.int p0)] [(.int (97 : Int32)), (.int p0)])) _
      refine XS.icmpYes X0.here hx rfl (pc0 := 3) (pc' := 12) rfl (hb hby d_own_rm1_3) rfl (tlt hc3_1).1 (by decide) (by decide) ?_
      show Steps p.tables e below (s₁.setTop (mkF m 12 #[.val (.int p0)] [])) _
      refine XS.iloadN X0.here hx rfl (hb hby d_own_rm1_12) rfl ?_
      show Steps p.tables e below (s₁.setTop (mkF m 13 #[.val (.int p0)] [(.int p0)])) _
      refine XS.bipush X0.here hx rfl (hb hby d_own_rm1_13) ?_
      show Steps p.tables e below (s₁.setTop (mkF m 15 #[.val (.int p0)] [(.int (65 : Int32)), (.int p0)])) t
      exact k
    by_cases hc15_2 : p0 < (65 : Int32)
    · refine own_go (b := s₁.setTop (mkF m 27 #[.val (.int p0)] [(.int (48 : Int32)), (.int p0)])) (fun t k => ?_) ?_
      · show Steps p.tables e below (s₁.setTop (mkF m 15 #[.val (.int p0)] [(.int (65 : Int32)), (.int p0)])) _
        refine XS.icmpYes X0.here hx rfl (pc0 := 15) (pc' := 24) rfl (hb hby d_own_rm1_15) rfl (tlt hc15_2).1 (by decide) (by decide) ?_
        show Steps p.tables e below (s₁.setTop (mkF m 24 #[.val (.int p0)] [])) _
        refine XS.iloadN X0.here hx rfl (hb hby d_own_rm1_24) rfl ?_
        show Steps p.tables e below (s₁.setTop (mkF m 25 #[.val (.int p0)] [(.int p0)])) _
        refine XS.bipush X0.here hx rfl (hb hby d_own_rm1_25) ?_
        show Steps p.tables e below (s₁.setTop (mkF m 27 #[.val (.int p0)] [(.int (48 : Int32)), (.int p0)])) t
        exact k
      by_cases hc27_3 : p0 < (48 : Int32)
      · obtain ⟨fs, hr, hrun, hended, hW, hsame⟩ := X0.leave (v := some (.int (0 : Int32))) (fun h => by rw [Bd.returns] at h; cases h)
        refine ⟨_, _, ?_, hrun, hended, _, _, rfl, ?_, ⟨_, rfl⟩, hW, hsame.mono (by decide) (by decide)⟩
        · show Steps p.tables e below (s₁.setTop (mkF m 27 #[.val (.int p0)] [(.int (48 : Int32)), (.int p0)])) _
          refine XS.icmpYes X0.here hx rfl (pc0 := 27) (pc' := 40) rfl (hb hby d_own_rm1_27) rfl (tlt hc27_3).1 (by decide) (by decide) ?_
          show Steps p.tables e below (s₁.setTop (mkF m 40 #[.val (.int p0)] [])) _
          refine XS.iconst X0.here hx rfl (hb hby d_own_rm1_40) ?_
          show Steps p.tables e below (s₁.setTop (mkF m 41 #[.val (.int p0)] [(.int (0 : Int32))])) _
          exact retN X0 hx (t := .boolean) Bd.returns (by simp) (hb hby d_own_rm1_41) hr
        · show own_Q1 p0 h0 n0 _ s₁.heap _
          rw [e0]
          exact ⟨by simp only [own_A, own_A2, own_A3, if_pos hc3_1, if_pos hc15_2, if_pos hc27_3], N0, rfl⟩
      · refine own_go (b := s₁.setTop (mkF m 33 #[.val (.int p0)] [(.int (57 : Int32)), (.int p0)])) (fun t k => ?_) ?_
        · show Steps p.tables e below (s₁.setTop (mkF m 27 #[.val (.int p0)] [(.int (48 : Int32)), (.int p0)])) _
          refine XS.icmpNo X0.here hx rfl (hb hby d_own_rm1_27) rfl (flt hc27_3).1 ?_
          show Steps p.tables e below (s₁.setTop (mkF m 30 #[.val (.int p0)] [])) _
          refine XS.iloadN X0.here hx rfl (hb hby d_own_rm1_30) rfl ?_
          show Steps p.tables e below (s₁.setTop (mkF m 31 #[.val (.int p0)] [(.int p0)])) _
          refine XS.bipush X0.here hx rfl (hb hby d_own_rm1_31) ?_
          show Steps p.tables e below (s₁.setTop (mkF m 33 #[.val (.int p0)] [(.int (57 : Int32)), (.int p0)])) t
          exact k
        by_cases hc33_4 : (57 : Int32) < p0
        · obtain ⟨fs, hr, hrun, hended, hW, hsame⟩ := X0.leave (v := some (.int (0 : Int32))) (fun h => by rw [Bd.returns] at h; cases h)
          refine ⟨_, _, ?_, hrun, hended, _, _, rfl, ?_, ⟨_, rfl⟩, hW, hsame.mono (by decide) (by decide)⟩
          · show Steps p.tables e below (s₁.setTop (mkF m 33 #[.val (.int p0)] [(.int (57 : Int32)), (.int p0)])) _
            refine XS.icmpYes X0.here hx rfl (pc0 := 33) (pc' := 40) rfl (hb hby d_own_rm1_33) rfl (tlt hc33_4).2.2.1 (by decide) (by decide) ?_
            show Steps p.tables e below (s₁.setTop (mkF m 40 #[.val (.int p0)] [])) _
            refine XS.iconst X0.here hx rfl (hb hby d_own_rm1_40) ?_
            show Steps p.tables e below (s₁.setTop (mkF m 41 #[.val (.int p0)] [(.int (0 : Int32))])) _
            exact retN X0 hx (t := .boolean) Bd.returns (by simp) (hb hby d_own_rm1_41) hr
          · show own_Q1 p0 h0 n0 _ s₁.heap _
            rw [e0]
            exact ⟨by simp only [own_A, own_A2, own_A3, if_pos hc3_1, if_pos hc15_2, if_neg hc27_3, if_pos hc33_4], N0, rfl⟩
        · obtain ⟨fs, hr, hrun, hended, hW, hsame⟩ := X0.leave (v := some (.int (1 : Int32))) (fun h => by rw [Bd.returns] at h; cases h)
          refine ⟨_, _, ?_, hrun, hended, _, _, rfl, ?_, ⟨_, rfl⟩, hW, hsame.mono (by decide) (by decide)⟩
          · show Steps p.tables e below (s₁.setTop (mkF m 33 #[.val (.int p0)] [(.int (57 : Int32)), (.int p0)])) _
            refine XS.icmpNo X0.here hx rfl (hb hby d_own_rm1_33) rfl (flt hc33_4).2.2.1 ?_
            show Steps p.tables e below (s₁.setTop (mkF m 36 #[.val (.int p0)] [])) _
            refine XS.iconst X0.here hx rfl (hb hby d_own_rm1_36) ?_
            show Steps p.tables e below (s₁.setTop (mkF m 37 #[.val (.int p0)] [(.int (1 : Int32))])) _
            refine XS.goto X0.here hx rfl (pc0 := 37) (pc' := 41) rfl (hb hby d_own_rm1_37) (by decide) (by decide) ?_
            show Steps p.tables e below (s₁.setTop (mkF m 41 #[.val (.int p0)] [(.int (1 : Int32))])) _
            exact retN X0 hx (t := .boolean) Bd.returns (by simp) (hb hby d_own_rm1_41) hr
          · show own_Q1 p0 h0 n0 _ s₁.heap _
            rw [e0]
            exact ⟨by simp only [own_A, own_A2, own_A3, if_pos hc3_1, if_pos hc15_2, if_neg hc27_3, if_neg hc33_4], N0, rfl⟩
    · refine own_go (b := s₁.setTop (mkF m 21 #[.val (.int p0)] [(.int (90 : Int32)), (.int p0)])) (fun t k => ?_) ?_
      · show Steps p.tables e below (s₁.setTop (mkF m 15 #[.val (.int p0)] [(.int (65 : Int32)), (.int p0)])) _
        refine XS.icmpNo X0.here hx rfl (hb hby d_own_rm1_15) rfl (flt hc15_2).1 ?_
        show Steps p.tables e below (s₁.setTop (mkF m 18 #[.val (.int p0)] [])) _
        refine XS.iloadN X0.here hx rfl (hb hby d_own_rm1_18) rfl ?_
        show Steps p.tables e below (s₁.setTop (mkF m 19 #[.val (.int p0)] [(.int p0)])) _
        refine XS.bipush X0.here hx rfl (hb hby d_own_rm1_19) ?_
        show Steps p.tables e below (s₁.setTop (mkF m 21 #[.val (.int p0)] [(.int (90 : Int32)), (.int p0)])) t
        exact k
      by_cases hc21_5 : (90 : Int32) < p0
      · refine own_go (b := s₁.setTop (mkF m 27 #[.val (.int p0)] [(.int (48 : Int32)), (.int p0)])) (fun t k => ?_) ?_
        · show Steps p.tables e below (s₁.setTop (mkF m 21 #[.val (.int p0)] [(.int (90 : Int32)), (.int p0)])) _
          refine XS.icmpNo X0.here hx rfl (hb hby d_own_rm1_21) rfl (tlt hc21_5).2.2.2 ?_
          show Steps p.tables e below (s₁.setTop (mkF m 24 #[.val (.int p0)] [])) _
          refine XS.iloadN X0.here hx rfl (hb hby d_own_rm1_24) rfl ?_
          show Steps p.tables e below (s₁.setTop (mkF m 25 #[.val (.int p0)] [(.int p0)])) _
          refine XS.bipush X0.here hx rfl (hb hby d_own_rm1_25) ?_
          show Steps p.tables e below (s₁.setTop (mkF m 27 #[.val (.int p0)] [(.int (48 : Int32)), (.int p0)])) t
          exact k
        by_cases hc27_6 : p0 < (48 : Int32)
        · obtain ⟨fs, hr, hrun, hended, hW, hsame⟩ := X0.leave (v := some (.int (0 : Int32))) (fun h => by rw [Bd.returns] at h; cases h)
          refine ⟨_, _, ?_, hrun, hended, _, _, rfl, ?_, ⟨_, rfl⟩, hW, hsame.mono (by decide) (by decide)⟩
          · show Steps p.tables e below (s₁.setTop (mkF m 27 #[.val (.int p0)] [(.int (48 : Int32)), (.int p0)])) _
            refine XS.icmpYes X0.here hx rfl (pc0 := 27) (pc' := 40) rfl (hb hby d_own_rm1_27) rfl (tlt hc27_6).1 (by decide) (by decide) ?_
            show Steps p.tables e below (s₁.setTop (mkF m 40 #[.val (.int p0)] [])) _
            refine XS.iconst X0.here hx rfl (hb hby d_own_rm1_40) ?_
            show Steps p.tables e below (s₁.setTop (mkF m 41 #[.val (.int p0)] [(.int (0 : Int32))])) _
            exact retN X0 hx (t := .boolean) Bd.returns (by simp) (hb hby d_own_rm1_41) hr
          · show own_Q1 p0 h0 n0 _ s₁.heap _
            rw [e0]
            exact ⟨by simp only [own_A, own_A2, own_A3, if_pos hc3_1, if_neg hc15_2, if_pos hc21_5, if_pos hc27_6], N0, rfl⟩
        · refine own_go (b := s₁.setTop (mkF m 33 #[.val (.int p0)] [(.int (57 : Int32)), (.int p0)])) (fun t k => ?_) ?_
          · show Steps p.tables e below (s₁.setTop (mkF m 27 #[.val (.int p0)] [(.int (48 : Int32)), (.int p0)])) _
            refine XS.icmpNo X0.here hx rfl (hb hby d_own_rm1_27) rfl (flt hc27_6).1 ?_
            show Steps p.tables e below (s₁.setTop (mkF m 30 #[.val (.int p0)] [])) _
            refine XS.iloadN X0.here hx rfl (hb hby d_own_rm1_30) rfl ?_
            show Steps p.tables e below (s₁.setTop (mkF m 31 #[.val (.int p0)] [(.int p0)])) _
            refine XS.bipush X0.here hx rfl (hb hby d_own_rm1_31) ?_
            show Steps p.tables e below (s₁.setTop (mkF m 33 #[.val (.int p0)] [(.int (57 : Int32)), (.int p0)])) t
            exact k
          by_cases hc33_7 : (57 : Int32) < p0
          · obtain ⟨fs, hr, hrun, hended, hW, hsame⟩ := X0.leave (v := some (.int (0 : Int32))) (fun h => by rw [Bd.returns] at h; cases h)
            refine ⟨_, _, ?_, hrun, hended, _, _, rfl, ?_, ⟨_, rfl⟩, hW, hsame.mono (by decide) (by decide)⟩
            · show Steps p.tables e below (s₁.setTop (mkF m 33 #[.val (.int p0)] [(.int (57 : Int32)), (.int p0)])) _
              refine XS.icmpYes X0.here hx rfl (pc0 := 33) (pc' := 40) rfl (hb hby d_own_rm1_33) rfl (tlt hc33_7).2.2.1 (by decide) (by decide) ?_
              show Steps p.tables e below (s₁.setTop (mkF m 40 #[.val (.int p0)] [])) _
              refine XS.iconst X0.here hx rfl (hb hby d_own_rm1_40) ?_
              show Steps p.tables e below (s₁.setTop (mkF m 41 #[.val (.int p0)] [(.int (0 : Int32))])) _
              exact retN X0 hx (t := .boolean) Bd.returns (by simp) (hb hby d_own_rm1_41) hr
            · show own_Q1 p0 h0 n0 _ s₁.heap _
              rw [e0]
              exact ⟨by simp only [own_A, own_A2, own_A3, if_pos hc3_1, if_neg hc15_2, if_pos hc21_5, if_neg hc27_6, if_pos hc33_7], N0, rfl⟩
          · obtain ⟨fs, hr, hrun, hended, hW, hsame⟩ := X0.leave (v := some (.int (1 : Int32))) (fun h => by rw [Bd.returns] at h; cases h)
            refine ⟨_, _, ?_, hrun, hended, _, _, rfl, ?_, ⟨_, rfl⟩, hW, hsame.mono (by decide) (by decide)⟩
            · show Steps p.tables e below (s₁.setTop (mkF m 33 #[.val (.int p0)] [(.int (57 : Int32)), (.int p0)])) _
              refine XS.icmpNo X0.here hx rfl (hb hby d_own_rm1_33) rfl (flt hc33_7).2.2.1 ?_
              show Steps p.tables e below (s₁.setTop (mkF m 36 #[.val (.int p0)] [])) _
              refine XS.iconst X0.here hx rfl (hb hby d_own_rm1_36) ?_
              show Steps p.tables e below (s₁.setTop (mkF m 37 #[.val (.int p0)] [(.int (1 : Int32))])) _
              refine XS.goto X0.here hx rfl (pc0 := 37) (pc' := 41) rfl (hb hby d_own_rm1_37) (by decide) (by decide) ?_
              show Steps p.tables e below (s₁.setTop (mkF m 41 #[.val (.int p0)] [(.int (1 : Int32))])) _
              exact retN X0 hx (t := .boolean) Bd.returns (by simp) (hb hby d_own_rm1_41) hr
            · show own_Q1 p0 h0 n0 _ s₁.heap _
              rw [e0]
              exact ⟨by simp only [own_A, own_A2, own_A3, if_pos hc3_1, if_neg hc15_2, if_pos hc21_5, if_neg hc27_6, if_neg hc33_7], N0, rfl⟩
      · obtain ⟨fs, hr, hrun, hended, hW, hsame⟩ := X0.leave (v := some (.int (1 : Int32))) (fun h => by rw [Bd.returns] at h; cases h)
        refine ⟨_, _, ?_, hrun, hended, _, _, rfl, ?_, ⟨_, rfl⟩, hW, hsame.mono (by decide) (by decide)⟩
        · show Steps p.tables e below (s₁.setTop (mkF m 21 #[.val (.int p0)] [(.int (90 : Int32)), (.int p0)])) _
          refine XS.icmpYes X0.here hx rfl (pc0 := 21) (pc' := 36) rfl (hb hby d_own_rm1_21) rfl (flt hc21_5).2.2.2 (by decide) (by decide) ?_
          show Steps p.tables e below (s₁.setTop (mkF m 36 #[.val (.int p0)] [])) _
          refine XS.iconst X0.here hx rfl (hb hby d_own_rm1_36) ?_
          show Steps p.tables e below (s₁.setTop (mkF m 37 #[.val (.int p0)] [(.int (1 : Int32))])) _
          refine XS.goto X0.here hx rfl (pc0 := 37) (pc' := 41) rfl (hb hby d_own_rm1_37) (by decide) (by decide) ?_
          show Steps p.tables e below (s₁.setTop (mkF m 41 #[.val (.int p0)] [(.int (1 : Int32))])) _
          exact retN X0 hx (t := .boolean) Bd.returns (by simp) (hb hby d_own_rm1_41) hr
        · show own_Q1 p0 h0 n0 _ s₁.heap _
          rw [e0]
          exact ⟨by simp only [own_A, own_A2, own_A3, if_pos hc3_1, if_neg hc15_2, if_neg hc21_5], N0, rfl⟩
  · refine own_go (b := s₁.setTop (mkF m 9 #[.val (.int p0)] [(.int (122 : Int32)), (.int p0)])) (fun t k => ?_) ?_
    · show Steps p.tables e below (s₁.setTop (mkF m 3 #[.val (.int p0)] [(.int (97 : Int32)), (.int p0)])) _
      refine XS.icmpNo X0.here hx rfl (hb hby d_own_rm1_3) rfl (flt hc3_1).1 ?_
      show Steps p.tables e below (s₁.setTop (mkF m 6 #[.val (.int p0)] [])) _
      refine XS.iloadN X0.here hx rfl (hb hby d_own_rm1_6) rfl ?_
      show Steps p.tables e below (s₁.setTop (mkF m 7 #[.val (.int p0)] [(.int p0)])) _
      refine XS.bipush X0.here hx rfl (hb hby d_own_rm1_7) ?_
      show Steps p.tables e below (s₁.setTop (mkF m 9 #[.val (.int p0)] [(.int (122 : Int32)), (.int p0)])) t
      exact k
    by_cases hc9_8 : (122 : Int32) < p0
    · refine own_go (b := s₁.setTop (mkF m 15 #[.val (.int p0)] [(.int (65 : Int32)), (.int p0)])) (fun t k => ?_) ?_
      · show Steps p.tables e below (s₁.setTop (mkF m 9 #[.val (.int p0)] [(.int (122 : Int32)), (.int p0)])) _
        refine XS.icmpNo X0.here hx rfl (hb hby d_own_rm1_9) rfl (tlt hc9_8).2.2.2 ?_
        show Steps p.tables e below (s₁.setTop (mkF m 12 #[.val (.int p0)] [])) _
        refine XS.iloadN X0.here hx rfl (hb hby d_own_rm1_12) rfl ?_
        show Steps p.tables e below (s₁.setTop (mkF m 13 #[.val (.int p0)] [(.int p0)])) _
        refine XS.bipush X0.here hx rfl (hb hby d_own_rm1_13) ?_
        show Steps p.tables e below (s₁.setTop (mkF m 15 #[.val (.int p0)] [(.int (65 : Int32)), (.int p0)])) t
        exact k
      by_cases hc15_9 : p0 < (65 : Int32)
      · refine own_go (b := s₁.setTop (mkF m 27 #[.val (.int p0)] [(.int (48 : Int32)), (.int p0)])) (fun t k => ?_) ?_
        · show Steps p.tables e below (s₁.setTop (mkF m 15 #[.val (.int p0)] [(.int (65 : Int32)), (.int p0)])) _
          refine XS.icmpYes X0.here hx rfl (pc0 := 15) (pc' := 24) rfl (hb hby d_own_rm1_15) rfl (tlt hc15_9).1 (by decide) (by decide) ?_
          show Steps p.tables e below (s₁.setTop (mkF m 24 #[.val (.int p0)] [])) _
          refine XS.iloadN X0.here hx rfl (hb hby d_own_rm1_24) rfl ?_
          show Steps p.tables e below (s₁.setTop (mkF m 25 #[.val (.int p0)] [(.int p0)])) _
          refine XS.bipush X0.here hx rfl (hb hby d_own_rm1_25) ?_
          show Steps p.tables e below (s₁.setTop (mkF m 27 #[.val (.int p0)] [(.int (48 : Int32)), (.int p0)])) t
          exact k
        by_cases hc27_10 : p0 < (48 : Int32)
        · obtain ⟨fs, hr, hrun, hended, hW, hsame⟩ := X0.leave (v := some (.int (0 : Int32))) (fun h => by rw [Bd.returns] at h; cases h)
          refine ⟨_, _, ?_, hrun, hended, _, _, rfl, ?_, ⟨_, rfl⟩, hW, hsame.mono (by decide) (by decide)⟩
          · show Steps p.tables e below (s₁.setTop (mkF m 27 #[.val (.int p0)] [(.int (48 : Int32)), (.int p0)])) _
            refine XS.icmpYes X0.here hx rfl (pc0 := 27) (pc' := 40) rfl (hb hby d_own_rm1_27) rfl (tlt hc27_10).1 (by decide) (by decide) ?_
            show Steps p.tables e below (s₁.setTop (mkF m 40 #[.val (.int p0)] [])) _
            refine XS.iconst X0.here hx rfl (hb hby d_own_rm1_40) ?_
            show Steps p.tables e below (s₁.setTop (mkF m 41 #[.val (.int p0)] [(.int (0 : Int32))])) _
            exact retN X0 hx (t := .boolean) Bd.returns (by simp) (hb hby d_own_rm1_41) hr
          · show own_Q1 p0 h0 n0 _ s₁.heap _
            rw [e0]
            exact ⟨by simp only [own_A, own_A2, own_A3, if_neg hc3_1, if_pos hc9_8, if_pos hc15_9, if_pos hc27_10], N0, rfl⟩
        · refine own_go (b := s₁.setTop (mkF m 33 #[.val (.int p0)] [(.int (57 : Int32)), (.int p0)])) (fun t k => ?_) ?_
          · show Steps p.tables e below (s₁.setTop (mkF m 27 #[.val (.int p0)] [(.int (48 : Int32)), (.int p0)])) _
            refine XS.icmpNo X0.here hx rfl (hb hby d_own_rm1_27) rfl (flt hc27_10).1 ?_
            show Steps p.tables e below (s₁.setTop (mkF m 30 #[.val (.int p0)] [])) _
            refine XS.iloadN X0.here hx rfl (hb hby d_own_rm1_30) rfl ?_
            show Steps p.tables e below (s₁.setTop (mkF m 31 #[.val (.int p0)] [(.int p0)])) _
            refine XS.bipush X0.here hx rfl (hb hby d_own_rm1_31) ?_
            show Steps p.tables e below (s₁.setTop (mkF m 33 #[.val (.int p0)] [(.int (57 : Int32)), (.int p0)])) t
            exact k
          by_cases hc33_11 : (57 : Int32) < p0
          · obtain ⟨fs, hr, hrun, hended, hW, hsame⟩ := X0.leave (v := some (.int (0 : Int32))) (fun h => by rw [Bd.returns] at h; cases h)
            refine ⟨_, _, ?_, hrun, hended, _, _, rfl, ?_, ⟨_, rfl⟩, hW, hsame.mono (by decide) (by decide)⟩
            · show Steps p.tables e below (s₁.setTop (mkF m 33 #[.val (.int p0)] [(.int (57 : Int32)), (.int p0)])) _
              refine XS.icmpYes X0.here hx rfl (pc0 := 33) (pc' := 40) rfl (hb hby d_own_rm1_33) rfl (tlt hc33_11).2.2.1 (by decide) (by decide) ?_
              show Steps p.tables e below (s₁.setTop (mkF m 40 #[.val (.int p0)] [])) _
              refine XS.iconst X0.here hx rfl (hb hby d_own_rm1_40) ?_
              show Steps p.tables e below (s₁.setTop (mkF m 41 #[.val (.int p0)] [(.int (0 : Int32))])) _
              exact retN X0 hx (t := .boolean) Bd.returns (by simp) (hb hby d_own_rm1_41) hr
            · show own_Q1 p0 h0 n0 _ s₁.heap _
              rw [e0]
              exact ⟨by simp only [own_A, own_A2, own_A3, if_neg hc3_1, if_pos hc9_8, if_pos hc15_9, if_neg hc27_10, if_pos hc33_11], N0, rfl⟩
          · obtain ⟨fs, hr, hrun, hended, hW, hsame⟩ := X0.leave (v := some (.int (1 : Int32))) (fun h => by rw [Bd.returns] at h; cases h)
            refine ⟨_, _, ?_, hrun, hended, _, _, rfl, ?_, ⟨_, rfl⟩, hW, hsame.mono (by decide) (by decide)⟩
            · show Steps p.tables e below (s₁.setTop (mkF m 33 #[.val (.int p0)] [(.int (57 : Int32)), (.int p0)])) _
              refine XS.icmpNo X0.here hx rfl (hb hby d_own_rm1_33) rfl (flt hc33_11).2.2.1 ?_
              show Steps p.tables e below (s₁.setTop (mkF m 36 #[.val (.int p0)] [])) _
              refine XS.iconst X0.here hx rfl (hb hby d_own_rm1_36) ?_
              show Steps p.tables e below (s₁.setTop (mkF m 37 #[.val (.int p0)] [(.int (1 : Int32))])) _
              refine XS.goto X0.here hx rfl (pc0 := 37) (pc' := 41) rfl (hb hby d_own_rm1_37) (by decide) (by decide) ?_
              show Steps p.tables e below (s₁.setTop (mkF m 41 #[.val (.int p0)] [(.int (1 : Int32))])) _
              exact retN X0 hx (t := .boolean) Bd.returns (by simp) (hb hby d_own_rm1_41) hr
            · show own_Q1 p0 h0 n0 _ s₁.heap _
              rw [e0]
              exact ⟨by simp only [own_A, own_A2, own_A3, if_neg hc3_1, if_pos hc9_8, if_pos hc15_9, if_neg hc27_10, if_neg hc33_11], N0, rfl⟩
      · refine own_go (b := s₁.setTop (mkF m 21 #[.val (.int p0)] [(.int (90 : Int32)), (.int p0)])) (fun t k => ?_) ?_
        · show Steps p.tables e below (s₁.setTop (mkF m 15 #[.val (.int p0)] [(.int (65 : Int32)), (.int p0)])) _
          refine XS.icmpNo X0.here hx rfl (hb hby d_own_rm1_15) rfl (flt hc15_9).1 ?_
          show Steps p.tables e below (s₁.setTop (mkF m 18 #[.val (.int p0)] [])) _
          refine XS.iloadN X0.here hx rfl (hb hby d_own_rm1_18) rfl ?_
          show Steps p.tables e below (s₁.setTop (mkF m 19 #[.val (.int p0)] [(.int p0)])) _
          refine XS.bipush X0.here hx rfl (hb hby d_own_rm1_19) ?_
          show Steps p.tables e below (s₁.setTop (mkF m 21 #[.val (.int p0)] [(.int (90 : Int32)), (.int p0)])) t
          exact k
        by_cases hc21_12 : (90 : Int32) < p0
        · refine own_go (b := s₁.setTop (mkF m 27 #[.val (.int p0)] [(.int (48 : Int32)), (.int p0)])) (fun t k => ?_) ?_
          · show Steps p.tables e below (s₁.setTop (mkF m 21 #[.val (.int p0)] [(.int (90 : Int32)), (.int p0)])) _
            refine XS.icmpNo X0.here hx rfl (hb hby d_own_rm1_21) rfl (tlt hc21_12).2.2.2 ?_
            show Steps p.tables e below (s₁.setTop (mkF m 24 #[.val (.int p0)] [])) _
            refine XS.iloadN X0.here hx rfl (hb hby d_own_rm1_24) rfl ?_
            show Steps p.tables e below (s₁.setTop (mkF m 25 #[.val (.int p0)] [(.int p0)])) _
            refine XS.bipush X0.here hx rfl (hb hby d_own_rm1_25) ?_
            show Steps p.tables e below (s₁.setTop (mkF m 27 #[.val (.int p0)] [(.int (48 : Int32)), (.int p0)])) t
            exact k
          by_cases hc27_13 : p0 < (48 : Int32)
          · obtain ⟨fs, hr, hrun, hended, hW, hsame⟩ := X0.leave (v := some (.int (0 : Int32))) (fun h => by rw [Bd.returns] at h; cases h)
            refine ⟨_, _, ?_, hrun, hended, _, _, rfl, ?_, ⟨_, rfl⟩, hW, hsame.mono (by decide) (by decide)⟩
            · show Steps p.tables e below (s₁.setTop (mkF m 27 #[.val (.int p0)] [(.int (48 : Int32)), (.int p0)])) _
              refine XS.icmpYes X0.here hx rfl (pc0 := 27) (pc' := 40) rfl (hb hby d_own_rm1_27) rfl (tlt hc27_13).1 (by decide) (by decide) ?_
              show Steps p.tables e below (s₁.setTop (mkF m 40 #[.val (.int p0)] [])) _
              refine XS.iconst X0.here hx rfl (hb hby d_own_rm1_40) ?_
              show Steps p.tables e below (s₁.setTop (mkF m 41 #[.val (.int p0)] [(.int (0 : Int32))])) _
              exact retN X0 hx (t := .boolean) Bd.returns (by simp) (hb hby d_own_rm1_41) hr
            · show own_Q1 p0 h0 n0 _ s₁.heap _
              rw [e0]
              exact ⟨by simp only [own_A, own_A2, own_A3, if_neg hc3_1, if_pos hc9_8, if_neg hc15_9, if_pos hc21_12, if_pos hc27_13], N0, rfl⟩
          · refine own_go (b := s₁.setTop (mkF m 33 #[.val (.int p0)] [(.int (57 : Int32)), (.int p0)])) (fun t k => ?_) ?_
            · show Steps p.tables e below (s₁.setTop (mkF m 27 #[.val (.int p0)] [(.int (48 : Int32)), (.int p0)])) _
              refine XS.icmpNo X0.here hx rfl (hb hby d_own_rm1_27) rfl (flt hc27_13).1 ?_
              show Steps p.tables e below (s₁.setTop (mkF m 30 #[.val (.int p0)] [])) _
              refine XS.iloadN X0.here hx rfl (hb hby d_own_rm1_30) rfl ?_
              show Steps p.tables e below (s₁.setTop (mkF m 31 #[.val (.int p0)] [(.int p0)])) _
              refine XS.bipush X0.here hx rfl (hb hby d_own_rm1_31) ?_
              show Steps p.tables e below (s₁.setTop (mkF m 33 #[.val (.int p0)] [(.int (57 : Int32)), (.int p0)])) t
              exact k
            by_cases hc33_14 : (57 : Int32) < p0
            · obtain ⟨fs, hr, hrun, hended, hW, hsame⟩ := X0.leave (v := some (.int (0 : Int32))) (fun h => by rw [Bd.returns] at h; cases h)
              refine ⟨_, _, ?_, hrun, hended, _, _, rfl, ?_, ⟨_, rfl⟩, hW, hsame.mono (by decide) (by decide)⟩
              · show Steps p.tables e below (s₁.setTop (mkF m 33 #[.val (.int p0)] [(.int (57 : Int32)), (.int p0)])) _
                refine XS.icmpYes X0.here hx rfl (pc0 := 33) (pc' := 40) rfl (hb hby d_own_rm1_33) rfl (tlt hc33_14).2.2.1 (by decide) (by decide) ?_
                show Steps p.tables e below (s₁.setTop (mkF m 40 #[.val (.int p0)] [])) _
                refine XS.iconst X0.here hx rfl (hb hby d_own_rm1_40) ?_
                show Steps p.tables e below (s₁.setTop (mkF m 41 #[.val (.int p0)] [(.int (0 : Int32))])) _
                exact retN X0 hx (t := .boolean) Bd.returns (by simp) (hb hby d_own_rm1_41) hr
              · show own_Q1 p0 h0 n0 _ s₁.heap _
                rw [e0]
                exact ⟨by simp only [own_A, own_A2, own_A3, if_neg hc3_1, if_pos hc9_8, if_neg hc15_9, if_pos hc21_12, if_neg hc27_13, if_pos hc33_14], N0, rfl⟩
            · obtain ⟨fs, hr, hrun, hended, hW, hsame⟩ := X0.leave (v := some (.int (1 : Int32))) (fun h => by rw [Bd.returns] at h; cases h)
              refine ⟨_, _, ?_, hrun, hended, _, _, rfl, ?_, ⟨_, rfl⟩, hW, hsame.mono (by decide) (by decide)⟩
              · show Steps p.tables e below (s₁.setTop (mkF m 33 #[.val (.int p0)] [(.int (57 : Int32)), (.int p0)])) _
                refine XS.icmpNo X0.here hx rfl (hb hby d_own_rm1_33) rfl (flt hc33_14).2.2.1 ?_
                show Steps p.tables e below (s₁.setTop (mkF m 36 #[.val (.int p0)] [])) _
                refine XS.iconst X0.here hx rfl (hb hby d_own_rm1_36) ?_
                show Steps p.tables e below (s₁.setTop (mkF m 37 #[.val (.int p0)] [(.int (1 : Int32))])) _
                refine XS.goto X0.here hx rfl (pc0 := 37) (pc' := 41) rfl (hb hby d_own_rm1_37) (by decide) (by decide) ?_
                show Steps p.tables e below (s₁.setTop (mkF m 41 #[.val (.int p0)] [(.int (1 : Int32))])) _
                exact retN X0 hx (t := .boolean) Bd.returns (by simp) (hb hby d_own_rm1_41) hr
              · show own_Q1 p0 h0 n0 _ s₁.heap _
                rw [e0]
                exact ⟨by simp only [own_A, own_A2, own_A3, if_neg hc3_1, if_pos hc9_8, if_neg hc15_9, if_pos hc21_12, if_neg hc27_13, if_neg hc33_14], N0, rfl⟩
        · obtain ⟨fs, hr, hrun, hended, hW, hsame⟩ := X0.leave (v := some (.int (1 : Int32))) (fun h => by rw [Bd.returns] at h; cases h)
          refine ⟨_, _, ?_, hrun, hended, _, _, rfl, ?_, ⟨_, rfl⟩, hW, hsame.mono (by decide) (by decide)⟩
          · show Steps p.tables e below (s₁.setTop (mkF m 21 #[.val (.int p0)] [(.int (90 : Int32)), (.int p0)])) _
            refine XS.icmpYes X0.here hx rfl (pc0 := 21) (pc' := 36) rfl (hb hby d_own_rm1_21) rfl (flt hc21_12).2.2.2 (by decide) (by decide) ?_
            show Steps p.tables e below (s₁.setTop (mkF m 36 #[.val (.int p0)] [])) _
            refine XS.iconst X0.here hx rfl (hb hby d_own_rm1_36) ?_
            show Steps p.tables e below (s₁.setTop (mkF m 37 #[.val (.int p0)] [(.int (1 : Int32))])) _
            refine XS.goto X0.here hx rfl (pc0 := 37) (pc' := 41) rfl (hb hby d_own_rm1_37) (by decide) (by decide) ?_
            show Steps p.tables e below (s₁.setTop (mkF m 41 #[.val (.int p0)] [(.int (1 : Int32))])) _
            exact retN X0 hx (t := .boolean) Bd.returns (by simp) (hb hby d_own_rm1_41) hr
          · show own_Q1 p0 h0 n0 _ s₁.heap _
            rw [e0]
            exact ⟨by simp only [own_A, own_A2, own_A3, if_neg hc3_1, if_pos hc9_8, if_neg hc15_9, if_neg hc21_12], N0, rfl⟩
    · obtain ⟨fs, hr, hrun, hended, hW, hsame⟩ := X0.leave (v := some (.int (1 : Int32))) (fun h => by rw [Bd.returns] at h; cases h)
      refine ⟨_, _, ?_, hrun, hended, _, _, rfl, ?_, ⟨_, rfl⟩, hW, hsame.mono (by decide) (by decide)⟩
      · show Steps p.tables e below (s₁.setTop (mkF m 9 #[.val (.int p0)] [(.int (122 : Int32)), (.int p0)])) _
        refine XS.icmpYes X0.here hx rfl (pc0 := 9) (pc' := 36) rfl (hb hby d_own_rm1_9) rfl (flt hc9_8).2.2.2 (by decide) (by decide) ?_
        show Steps p.tables e below (s₁.setTop (mkF m 36 #[.val (.int p0)] [])) _
        refine XS.iconst X0.here hx rfl (hb hby d_own_rm1_36) ?_
        show Steps p.tables e below (s₁.setTop (mkF m 37 #[.val (.int p0)] [(.int (1 : Int32))])) _
        refine XS.goto X0.here hx rfl (pc0 := 37) (pc' := 41) rfl (hb hby d_own_rm1_37) (by decide) (by decide) ?_
        show Steps p.tables e below (s₁.setTop (mkF m 41 #[.val (.int p0)] [(.int (1 : Int32))])) _
        exact retN X0 hx (t := .boolean) Bd.returns (by simp) (hb hby d_own_rm1_41) hr
      · show own_Q1 p0 h0 n0 _ s₁.heap _
        rw [e0]
        exact ⟨by simp only [own_A, own_A2, own_A3, if_neg hc3_1, if_neg hc9_8], N0, rfl⟩
def own_Q2 (p0 : Int32) (h0 : Heap) (n0 : Nat) (v : Option Value) (h : Heap) (L : List Loc) : Prop := v = some (.int (own_E p0)) ∧ Fr n0 L ∧ h = h0
theorem d_own_rm2_0 : decode method_3_code 0 = .ok (.iload_n 0, 1) := by decide +kernel
theorem d_own_rm2_1 : decode method_3_code 1 = .ok (.bipush 32, 2) := by decide +kernel
theorem d_own_rm2_3 : decode method_3_code 3 = .ok (.ior, 1) := by decide +kernel
theorem d_own_rm2_4 : decode method_3_code 4 = .ok (.bipush 97, 2) := by decide +kernel
theorem d_own_rm2_6 : decode method_3_code 6 = .ok (.isub, 1) := by decide +kernel
theorem d_own_rm2_7 : decode method_3_code 7 = .ok (.istore_n 1, 1) := by decide +kernel
theorem d_own_rm2_8 : decode method_3_code 8 = .ok (.iload_n 1, 1) := by decide +kernel
theorem d_own_rm2_9 : decode method_3_code 9 = .ok (.ifCond .lt 13, 3) := by decide +kernel
theorem d_own_rm2_12 : decode method_3_code 12 = .ok (.iload_n 1, 1) := by decide +kernel
theorem d_own_rm2_13 : decode method_3_code 13 = .ok (.bipush 26, 2) := by decide +kernel
theorem d_own_rm2_15 : decode method_3_code 15 = .ok (.if_icmp .ge 7, 3) := by decide +kernel
theorem d_own_rm2_18 : decode method_3_code 18 = .ok (.iconst 1, 1) := by decide +kernel
theorem d_own_rm2_19 : decode method_3_code 19 = .ok (.goto 4, 3) := by decide +kernel
theorem d_own_rm2_22 : decode method_3_code 22 = .ok (.iconst 0, 1) := by decide +kernel
theorem d_own_rm2_23 : decode method_3_code 23 = .ok (.istore_n 2, 1) := by decide +kernel
theorem d_own_rm2_24 : decode method_3_code 24 = .ok (.iload_n 0, 1) := by decide +kernel
theorem d_own_rm2_25 : decode method_3_code 25 = .ok (.bipush 48, 2) := by decide +kernel
theorem d_own_rm2_27 : decode method_3_code 27 = .ok (.isub, 1) := by decide +kernel
theorem d_own_rm2_28 : decode method_3_code 28 = .ok (.istore_n 3, 1) := by decide +kernel
theorem d_own_rm2_29 : decode method_3_code 29 = .ok (.iload_n 3, 1) := by decide +kernel
theorem d_own_rm2_30 : decode method_3_code 30 = .ok (.ifCond .lt 13, 3) := by decide +kernel
theorem d_own_rm2_33 : decode method_3_code 33 = .ok (.iload_n 3, 1) := by decide +kernel
theorem d_own_rm2_34 : decode method_3_code 34 = .ok (.bipush 10, 2) := by decide +kernel
theorem d_own_rm2_36 : decode method_3_code 36 = .ok (.if_icmp .ge 7, 3) := by decide +kernel
theorem d_own_rm2_39 : decode method_3_code 39 = .ok (.iconst 1, 1) := by decide +kernel
theorem d_own_rm2_40 : decode method_3_code 40 = .ok (.goto 4, 3) := by decide +kernel
theorem d_own_rm2_43 : decode method_3_code 43 = .ok (.iconst 0, 1) := by decide +kernel
theorem d_own_rm2_44 : decode method_3_code 44 = .ok (.istore 4, 2) := by decide +kernel
theorem d_own_rm2_46 : decode method_3_code 46 = .ok (.iload_n 2, 1) := by decide +kernel
theorem d_own_rm2_47 : decode method_3_code 47 = .ok (.ifCond .ne 8, 3) := by decide +kernel
theorem d_own_rm2_50 : decode method_3_code 50 = .ok (.iload 4, 2) := by decide +kernel
theorem d_own_rm2_52 : decode method_3_code 52 = .ok (.ifCond .eq 7, 3) := by decide +kernel
theorem d_own_rm2_55 : decode method_3_code 55 = .ok (.iconst 1, 1) := by decide +kernel
theorem d_own_rm2_56 : decode method_3_code 56 = .ok (.goto 4, 3) := by decide +kernel
theorem d_own_rm2_59 : decode method_3_code 59 = .ok (.iconst 0, 1) := by decide +kernel
theorem d_own_rm2_60 : decode method_3_code 60 = .ok (.ireturn, 1) := by decide +kernel
theorem ef_own_rm2 (m : MethodId) (x0 : Int32) : entryFrame m #[(.int x0)] 5 = mkF m 0 #[.val (.int x0), .unset, .unset, .unset, .unset] [] := by first | (simp [entryFrame, mkF, argsToLocals, Value.category]; done) | rfl
set_option maxRecDepth 65536 in
set_option maxHeartbeats 40000000 in
theorem own_rm2 (l : Launch) (Z : State) (a0 : Array Value) (hw : ∀ d ∈ tables_1, d.before a0 Z = true) (ws : List Jvm.Cond) (p0 : Int32)  (h0 : Heap) (n0 : Nat) (Z0 : n0 ≤ h0.size)  :
    MetFree l (⟨"com/example/rollcall/rollcall/http/UriSyntaxIsAlphanumericPinLaw", "expected", "(C)Z"⟩ : MethodName) (head1 (Jvm.Cond.code (⟨"com/example/rollcall/rollcall/http/UriSyntaxIsAlphanumericPinLaw", "expected", "(C)Z"⟩ : MethodName) method_3_code 5 (some .boolean) :: ws) ({ frames := 0, cells := 0, slots := 0, locals := 0 } : Room)) (fun a U => a = #[(.int p0)] ∧ Z.Warmed39 U.vm ∧ U.heap = h0) (fun _ _ _ _ _ => True) (fun _ U o U' => ∃ v L, o = .returned v ∧ own_Q2 p0 h0 n0 v U'.heap L ∧ FrameEnd U o U' L ({ frames := 0, cells := 0, slots := 0, locals := 0 } : Room).cells ({ frames := 0, cells := 0, slots := 0, locals := 0 } : Room).slots) := by
  refine MetFree.of_bodySF (plainFor_of_name own_pn1) hisR ?_
  intro p e s m args below meth c s₁ Bd hml0 hP hK
  obtain ⟨rfl, hZ, hh⟩ := hP
  have hx := Bd.exec
  have hby := Bd.bytes
  have hml : c.maxLocals = 5 := hml0
  have hown : s.vm.findClass "com/example/rollcall/rollcall/http/UriSyntaxIsAlphanumericPinLaw" = some m.cls := findClass_of_methodNamed Bd.named
  have hnm := (name_of_methodNamed Bd.named Bd.method).1
  have X0 : Stand p l e ({ frames := 0, cells := 0, slots := 0, locals := 0 } : Room) s m #[(.int p0)] below meth c s₁ [] 0 0 := Stand.of_body Bd
  have e0 : s₁.heap = h0 := by rw [← hh, Bd.state]; rfl
  have N0 := Fr.nil n0
  refine own_go (b := s₁.setTop (mkF m 0 #[.val (.int p0), .unset, .unset, .unset, .unset] [])) (fun t k => castTop (ef_own_rm2 m p0) k) ?_
  refine own_go (b := s₁.setTop (mkF m 9 #[.val (.int p0), .val (.int ((p0 ||| (32 : Int32)) - (97 : Int32))), .unset, .unset, .unset] [(.int ((p0 ||| (32 : Int32)) - (97 : Int32)))])) (fun t k => ?_) ?_
  · show Steps p.tables e below (s₁.setTop (mkF m 0 #[.val (.int p0), .unset, .unset, .unset, .unset] [])) _
    refine XS.iloadN X0.here hx rfl (hb hby d_own_rm2_0) rfl ?_
    show Steps p.tables e below (s₁.setTop (mkF m 1 #[.val (.int p0), .unset, .unset, .unset, .unset] [(.int p0)])) _
    refine XS.bipush X0.here hx rfl (hb hby d_own_rm2_1) ?_
    show Steps p.tables e below (s₁.setTop (mkF m 3 #[.val (.int p0), .unset, .unset, .unset, .unset] [(.int (32 : Int32)), (.int p0)])) _
    refine XS.ior X0.here hx rfl (hb hby d_own_rm2_3) rfl ?_
    show Steps p.tables e below (s₁.setTop (mkF m 4 #[.val (.int p0), .unset, .unset, .unset, .unset] [(.int (p0 ||| (32 : Int32)))])) _
    refine XS.bipush X0.here hx rfl (hb hby d_own_rm2_4) ?_
    show Steps p.tables e below (s₁.setTop (mkF m 6 #[.val (.int p0), .unset, .unset, .unset, .unset] [(.int (97 : Int32)), (.int (p0 ||| (32 : Int32)))])) _
    refine XS.isub X0.here hx rfl (hb hby d_own_rm2_6) rfl ?_
    show Steps p.tables e below (s₁.setTop (mkF m 7 #[.val (.int p0), .unset, .unset, .unset, .unset] [(.int ((p0 ||| (32 : Int32)) - (97 : Int32)))])) _
    refine XS.istoreN X0.here hx rfl (hb hby d_own_rm2_7) rfl (l' := #[.val (.int p0), .val (.int ((p0 ||| (32 : Int32)) - (97 : Int32))), .unset, .unset, .unset]) rfl ?_
    show Steps p.tables e below (s₁.setTop (mkF m 8 #[.val (.int p0), .val (.int ((p0 ||| (32 : Int32)) - (97 : Int32))), .unset, .unset, .unset] [])) _
    refine XS.iloadN X0.here hx rfl (hb hby d_own_rm2_8) rfl ?_
    show Steps p.tables e below (s₁.setTop (mkF m 9 #[.val (.int p0), .val (.int ((p0 ||| (32 : Int32)) - (97 : Int32))), .unset, .unset, .unset] [(.int ((p0 ||| (32 : Int32)) - (97 : Int32)))])) t
    exact k
  by_cases hc9_1 : ((p0 ||| (32 : Int32)) - (97 : Int32)) < (0 : Int32)
  · refine own_go (b := s₁.setTop (mkF m 30 #[.val (.int p0), .val (.int ((p0 ||| (32 : Int32)) - (97 : Int32))), .val (.int (0 : Int32)), .val (.int (p0 - (48 : Int32))), .unset] [(.int (p0 - (48 : Int32)))])) (fun t k => ?_) ?_
    · show Steps p.tables e below (s₁.setTop (mkF m 9 #[.val (.int p0), .val (.int ((p0 ||| (32 : Int32)) - (97 : Int32))), .unset, .unset, .unset] [(.int ((p0 ||| (32 : Int32)) - (97 : Int32)))])) _
      refine XS.ifYes X0.here hx rfl (pc0 := 9) (pc' := 22) rfl (hb hby d_own_rm2_9) rfl ((if0 _ _).trans (tlt hc9_1).1) (by decide) (by decide) ?_
      show Steps p.tables e below (s₁.setTop (mkF m 22 #[.val (.int p0), .val (.int ((p0 ||| (32 : Int32)) - (97 : Int32))), .unset, .unset, .unset] [])) _
      refine XS.iconst X0.here hx rfl (hb hby d_own_rm2_22) ?_
      show Steps p.tables e below (s₁.setTop (mkF m 23 #[.val (.int p0), .val (.int ((p0 ||| (32 : Int32)) - (97 : Int32))), .unset, .unset, .unset] [(.int (0 : Int32))])) _
      refine XS.istoreN X0.here hx rfl (hb hby d_own_rm2_23) rfl (l' := #[.val (.int p0), .val (.int ((p0 ||| (32 : Int32)) - (97 : Int32))), .val (.int (0 : Int32)), .unset, .unset]) rfl ?_
      show Steps p.tables e below (s₁.setTop (mkF m 24 #[.val (.int p0), .val (.int ((p0 ||| (32 : Int32)) - (97 : Int32))), .val (.int (0 : Int32)), .unset, .unset] [])) _
      refine XS.iloadN X0.here hx rfl (hb hby d_own_rm2_24) rfl ?_
      show Steps p.tables e below (s₁.setTop (mkF m 25 #[.val (.int p0), .val (.int ((p0 ||| (32 : Int32)) - (97 : Int32))), .val (.int (0 : Int32)), .unset, .unset] [(.int p0)])) _
      refine XS.bipush X0.here hx rfl (hb hby d_own_rm2_25) ?_
      show Steps p.tables e below (s₁.setTop (mkF m 27 #[.val (.int p0), .val (.int ((p0 ||| (32 : Int32)) - (97 : Int32))), .val (.int (0 : Int32)), .unset, .unset] [(.int (48 : Int32)), (.int p0)])) _
      refine XS.isub X0.here hx rfl (hb hby d_own_rm2_27) rfl ?_
      show Steps p.tables e below (s₁.setTop (mkF m 28 #[.val (.int p0), .val (.int ((p0 ||| (32 : Int32)) - (97 : Int32))), .val (.int (0 : Int32)), .unset, .unset] [(.int (p0 - (48 : Int32)))])) _
      refine XS.istoreN X0.here hx rfl (hb hby d_own_rm2_28) rfl (l' := #[.val (.int p0), .val (.int ((p0 ||| (32 : Int32)) - (97 : Int32))), .val (.int (0 : Int32)), .val (.int (p0 - (48 : Int32))), .unset]) rfl ?_
      show Steps p.tables e below (s₁.setTop (mkF m 29 #[.val (.int p0), .val (.int ((p0 ||| (32 : Int32)) - (97 : Int32))), .val (.int (0 : Int32)), .val (.int (p0 - (48 : Int32))), .unset] [])) _
      refine XS.iloadN X0.here hx rfl (hb hby d_own_rm2_29) rfl ?_
      show Steps p.tables e below (s₁.setTop (mkF m 30 #[.val (.int p0), .val (.int ((p0 ||| (32 : Int32)) - (97 : Int32))), .val (.int (0 : Int32)), .val (.int (p0 - (48 : Int32))), .unset] [(.int (p0 - (48 : Int32)))])) t
      exact k
    by_cases hc30_2 : (p0 - (48 : Int32)) < (0 : Int32)
    · obtain ⟨fs, hr, hrun, hended, hW, hsame⟩ := X0.leave (v := some (.int (0 : Int32))) (fun h => by rw [Bd.returns] at h; cases h)
      refine ⟨_, _, ?_, hrun, hended, _, _, rfl, ?_, ⟨_, rfl⟩, hW, hsame.mono (by decide) (by decide)⟩
      · show Steps p.tables e below (s₁.setTop (mkF m 30 #[.val (.int p0), .val (.int ((p0 ||| (32 : Int32)) - (97 : Int32))), .val (.int (0 : Int32)), .val (.int (p0 - (48 : Int32))), .unset] [(.int (p0 - (48 : Int32)))])) _
        refine XS.ifYes X0.here hx rfl (pc0 := 30) (pc' := 43) rfl (hb hby d_own_rm2_30) rfl ((if0 _ _).trans (tlt hc30_2).1) (by decide) (by decide) ?_
        show Steps p.tables e below (s₁.setTop (mkF m 43 #[.val (.int p0), .val (.int ((p0 ||| (32 : Int32)) - (97 : Int32))), .val (.int (0 : Int32)), .val (.int (p0 - (48 : Int32))), .unset] [])) _
        refine XS.iconst X0.here hx rfl (hb hby d_own_rm2_43) ?_
        show Steps p.tables e below (s₁.setTop (mkF m 44 #[.val (.int p0), .val (.int ((p0 ||| (32 : Int32)) - (97 : Int32))), .val (.int (0 : Int32)), .val (.int (p0 - (48 : Int32))), .unset] [(.int (0 : Int32))])) _
        refine XS.istore X0.here hx rfl (hb hby d_own_rm2_44) rfl (l' := #[.val (.int p0), .val (.int ((p0 ||| (32 : Int32)) - (97 : Int32))), .val (.int (0 : Int32)), .val (.int (p0 - (48 : Int32))), .val (.int (0 : Int32))]) rfl ?_
        show Steps p.tables e below (s₁.setTop (mkF m 46 #[.val (.int p0), .val (.int ((p0 ||| (32 : Int32)) - (97 : Int32))), .val (.int (0 : Int32)), .val (.int (p0 - (48 : Int32))), .val (.int (0 : Int32))] [])) _
        refine XS.iloadN X0.here hx rfl (hb hby d_own_rm2_46) rfl ?_
        show Steps p.tables e below (s₁.setTop (mkF m 47 #[.val (.int p0), .val (.int ((p0 ||| (32 : Int32)) - (97 : Int32))), .val (.int (0 : Int32)), .val (.int (p0 - (48 : Int32))), .val (.int (0 : Int32))] [(.int (0 : Int32))])) _
        refine XS.ifNo X0.here hx rfl (hb hby d_own_rm2_47) rfl ((if0 _ _).trans (teq ((by decide) : (0 : Int32) = (0 : Int32))).2) ?_
        show Steps p.tables e below (s₁.setTop (mkF m 50 #[.val (.int p0), .val (.int ((p0 ||| (32 : Int32)) - (97 : Int32))), .val (.int (0 : Int32)), .val (.int (p0 - (48 : Int32))), .val (.int (0 : Int32))] [])) _
        refine XS.iload X0.here hx rfl (hb hby d_own_rm2_50) rfl ?_
        show Steps p.tables e below (s₁.setTop (mkF m 52 #[.val (.int p0), .val (.int ((p0 ||| (32 : Int32)) - (97 : Int32))), .val (.int (0 : Int32)), .val (.int (p0 - (48 : Int32))), .val (.int (0 : Int32))] [(.int (0 : Int32))])) _
        refine XS.ifYes X0.here hx rfl (pc0 := 52) (pc' := 59) rfl (hb hby d_own_rm2_52) rfl ((if0 _ _).trans (teq ((by decide) : (0 : Int32) = (0 : Int32))).1) (by decide) (by decide) ?_
        show Steps p.tables e below (s₁.setTop (mkF m 59 #[.val (.int p0), .val (.int ((p0 ||| (32 : Int32)) - (97 : Int32))), .val (.int (0 : Int32)), .val (.int (p0 - (48 : Int32))), .val (.int (0 : Int32))] [])) _
        refine XS.iconst X0.here hx rfl (hb hby d_own_rm2_59) ?_
        show Steps p.tables e below (s₁.setTop (mkF m 60 #[.val (.int p0), .val (.int ((p0 ||| (32 : Int32)) - (97 : Int32))), .val (.int (0 : Int32)), .val (.int (p0 - (48 : Int32))), .val (.int (0 : Int32))] [(.int (0 : Int32))])) _
        exact retN X0 hx (t := .boolean) Bd.returns (by simp) (hb hby d_own_rm2_60) hr
      · show own_Q2 p0 h0 n0 _ s₁.heap _
        rw [e0]
        exact ⟨by simp only [own_E, own_Ed, if_pos hc9_1, if_pos hc30_2], N0, rfl⟩
    · refine own_go (b := s₁.setTop (mkF m 36 #[.val (.int p0), .val (.int ((p0 ||| (32 : Int32)) - (97 : Int32))), .val (.int (0 : Int32)), .val (.int (p0 - (48 : Int32))), .unset] [(.int (10 : Int32)), (.int (p0 - (48 : Int32)))])) (fun t k => ?_) ?_
      · show Steps p.tables e below (s₁.setTop (mkF m 30 #[.val (.int p0), .val (.int ((p0 ||| (32 : Int32)) - (97 : Int32))), .val (.int (0 : Int32)), .val (.int (p0 - (48 : Int32))), .unset] [(.int (p0 - (48 : Int32)))])) _
        refine XS.ifNo X0.here hx rfl (hb hby d_own_rm2_30) rfl ((if0 _ _).trans (flt hc30_2).1) ?_
        show Steps p.tables e below (s₁.setTop (mkF m 33 #[.val (.int p0), .val (.int ((p0 ||| (32 : Int32)) - (97 : Int32))), .val (.int (0 : Int32)), .val (.int (p0 - (48 : Int32))), .unset] [])) _
        refine XS.iloadN X0.here hx rfl (hb hby d_own_rm2_33) rfl ?_
        show Steps p.tables e below (s₁.setTop (mkF m 34 #[.val (.int p0), .val (.int ((p0 ||| (32 : Int32)) - (97 : Int32))), .val (.int (0 : Int32)), .val (.int (p0 - (48 : Int32))), .unset] [(.int (p0 - (48 : Int32)))])) _
        refine XS.bipush X0.here hx rfl (hb hby d_own_rm2_34) ?_
        show Steps p.tables e below (s₁.setTop (mkF m 36 #[.val (.int p0), .val (.int ((p0 ||| (32 : Int32)) - (97 : Int32))), .val (.int (0 : Int32)), .val (.int (p0 - (48 : Int32))), .unset] [(.int (10 : Int32)), (.int (p0 - (48 : Int32)))])) t
        exact k
      by_cases hc36_3 : (p0 - (48 : Int32)) < (10 : Int32)
      · obtain ⟨fs, hr, hrun, hended, hW, hsame⟩ := X0.leave (v := some (.int (1 : Int32))) (fun h => by rw [Bd.returns] at h; cases h)
        refine ⟨_, _, ?_, hrun, hended, _, _, rfl, ?_, ⟨_, rfl⟩, hW, hsame.mono (by decide) (by decide)⟩
        · show Steps p.tables e below (s₁.setTop (mkF m 36 #[.val (.int p0), .val (.int ((p0 ||| (32 : Int32)) - (97 : Int32))), .val (.int (0 : Int32)), .val (.int (p0 - (48 : Int32))), .unset] [(.int (10 : Int32)), (.int (p0 - (48 : Int32)))])) _
          refine XS.icmpNo X0.here hx rfl (hb hby d_own_rm2_36) rfl (tlt hc36_3).2.1 ?_
          show Steps p.tables e below (s₁.setTop (mkF m 39 #[.val (.int p0), .val (.int ((p0 ||| (32 : Int32)) - (97 : Int32))), .val (.int (0 : Int32)), .val (.int (p0 - (48 : Int32))), .unset] [])) _
          refine XS.iconst X0.here hx rfl (hb hby d_own_rm2_39) ?_
          show Steps p.tables e below (s₁.setTop (mkF m 40 #[.val (.int p0), .val (.int ((p0 ||| (32 : Int32)) - (97 : Int32))), .val (.int (0 : Int32)), .val (.int (p0 - (48 : Int32))), .unset] [(.int (1 : Int32))])) _
          refine XS.goto X0.here hx rfl (pc0 := 40) (pc' := 44) rfl (hb hby d_own_rm2_40) (by decide) (by decide) ?_
          show Steps p.tables e below (s₁.setTop (mkF m 44 #[.val (.int p0), .val (.int ((p0 ||| (32 : Int32)) - (97 : Int32))), .val (.int (0 : Int32)), .val (.int (p0 - (48 : Int32))), .unset] [(.int (1 : Int32))])) _
          refine XS.istore X0.here hx rfl (hb hby d_own_rm2_44) rfl (l' := #[.val (.int p0), .val (.int ((p0 ||| (32 : Int32)) - (97 : Int32))), .val (.int (0 : Int32)), .val (.int (p0 - (48 : Int32))), .val (.int (1 : Int32))]) rfl ?_
          show Steps p.tables e below (s₁.setTop (mkF m 46 #[.val (.int p0), .val (.int ((p0 ||| (32 : Int32)) - (97 : Int32))), .val (.int (0 : Int32)), .val (.int (p0 - (48 : Int32))), .val (.int (1 : Int32))] [])) _
          refine XS.iloadN X0.here hx rfl (hb hby d_own_rm2_46) rfl ?_
          show Steps p.tables e below (s₁.setTop (mkF m 47 #[.val (.int p0), .val (.int ((p0 ||| (32 : Int32)) - (97 : Int32))), .val (.int (0 : Int32)), .val (.int (p0 - (48 : Int32))), .val (.int (1 : Int32))] [(.int (0 : Int32))])) _
          refine XS.ifNo X0.here hx rfl (hb hby d_own_rm2_47) rfl ((if0 _ _).trans (teq ((by decide) : (0 : Int32) = (0 : Int32))).2) ?_
          show Steps p.tables e below (s₁.setTop (mkF m 50 #[.val (.int p0), .val (.int ((p0 ||| (32 : Int32)) - (97 : Int32))), .val (.int (0 : Int32)), .val (.int (p0 - (48 : Int32))), .val (.int (1 : Int32))] [])) _
          refine XS.iload X0.here hx rfl (hb hby d_own_rm2_50) rfl ?_
          show Steps p.tables e below (s₁.setTop (mkF m 52 #[.val (.int p0), .val (.int ((p0 ||| (32 : Int32)) - (97 : Int32))), .val (.int (0 : Int32)), .val (.int (p0 - (48 : Int32))), .val (.int (1 : Int32))] [(.int (1 : Int32))])) _
          refine XS.ifNo X0.here hx rfl (hb hby d_own_rm2_52) rfl ((if0 _ _).trans (feq ((by decide) : ¬ ((1 : Int32) = (0 : Int32)))).1) ?_
          show Steps p.tables e below (s₁.setTop (mkF m 55 #[.val (.int p0), .val (.int ((p0 ||| (32 : Int32)) - (97 : Int32))), .val (.int (0 : Int32)), .val (.int (p0 - (48 : Int32))), .val (.int (1 : Int32))] [])) _
          refine XS.iconst X0.here hx rfl (hb hby d_own_rm2_55) ?_
          show Steps p.tables e below (s₁.setTop (mkF m 56 #[.val (.int p0), .val (.int ((p0 ||| (32 : Int32)) - (97 : Int32))), .val (.int (0 : Int32)), .val (.int (p0 - (48 : Int32))), .val (.int (1 : Int32))] [(.int (1 : Int32))])) _
          refine XS.goto X0.here hx rfl (pc0 := 56) (pc' := 60) rfl (hb hby d_own_rm2_56) (by decide) (by decide) ?_
          show Steps p.tables e below (s₁.setTop (mkF m 60 #[.val (.int p0), .val (.int ((p0 ||| (32 : Int32)) - (97 : Int32))), .val (.int (0 : Int32)), .val (.int (p0 - (48 : Int32))), .val (.int (1 : Int32))] [(.int (1 : Int32))])) _
          exact retN X0 hx (t := .boolean) Bd.returns (by simp) (hb hby d_own_rm2_60) hr
        · show own_Q2 p0 h0 n0 _ s₁.heap _
          rw [e0]
          exact ⟨by simp only [own_E, own_Ed, if_pos hc9_1, if_neg hc30_2, if_pos hc36_3], N0, rfl⟩
      · obtain ⟨fs, hr, hrun, hended, hW, hsame⟩ := X0.leave (v := some (.int (0 : Int32))) (fun h => by rw [Bd.returns] at h; cases h)
        refine ⟨_, _, ?_, hrun, hended, _, _, rfl, ?_, ⟨_, rfl⟩, hW, hsame.mono (by decide) (by decide)⟩
        · show Steps p.tables e below (s₁.setTop (mkF m 36 #[.val (.int p0), .val (.int ((p0 ||| (32 : Int32)) - (97 : Int32))), .val (.int (0 : Int32)), .val (.int (p0 - (48 : Int32))), .unset] [(.int (10 : Int32)), (.int (p0 - (48 : Int32)))])) _
          refine XS.icmpYes X0.here hx rfl (pc0 := 36) (pc' := 43) rfl (hb hby d_own_rm2_36) rfl (flt hc36_3).2.1 (by decide) (by decide) ?_
          show Steps p.tables e below (s₁.setTop (mkF m 43 #[.val (.int p0), .val (.int ((p0 ||| (32 : Int32)) - (97 : Int32))), .val (.int (0 : Int32)), .val (.int (p0 - (48 : Int32))), .unset] [])) _
          refine XS.iconst X0.here hx rfl (hb hby d_own_rm2_43) ?_
          show Steps p.tables e below (s₁.setTop (mkF m 44 #[.val (.int p0), .val (.int ((p0 ||| (32 : Int32)) - (97 : Int32))), .val (.int (0 : Int32)), .val (.int (p0 - (48 : Int32))), .unset] [(.int (0 : Int32))])) _
          refine XS.istore X0.here hx rfl (hb hby d_own_rm2_44) rfl (l' := #[.val (.int p0), .val (.int ((p0 ||| (32 : Int32)) - (97 : Int32))), .val (.int (0 : Int32)), .val (.int (p0 - (48 : Int32))), .val (.int (0 : Int32))]) rfl ?_
          show Steps p.tables e below (s₁.setTop (mkF m 46 #[.val (.int p0), .val (.int ((p0 ||| (32 : Int32)) - (97 : Int32))), .val (.int (0 : Int32)), .val (.int (p0 - (48 : Int32))), .val (.int (0 : Int32))] [])) _
          refine XS.iloadN X0.here hx rfl (hb hby d_own_rm2_46) rfl ?_
          show Steps p.tables e below (s₁.setTop (mkF m 47 #[.val (.int p0), .val (.int ((p0 ||| (32 : Int32)) - (97 : Int32))), .val (.int (0 : Int32)), .val (.int (p0 - (48 : Int32))), .val (.int (0 : Int32))] [(.int (0 : Int32))])) _
          refine XS.ifNo X0.here hx rfl (hb hby d_own_rm2_47) rfl ((if0 _ _).trans (teq ((by decide) : (0 : Int32) = (0 : Int32))).2) ?_
          show Steps p.tables e below (s₁.setTop (mkF m 50 #[.val (.int p0), .val (.int ((p0 ||| (32 : Int32)) - (97 : Int32))), .val (.int (0 : Int32)), .val (.int (p0 - (48 : Int32))), .val (.int (0 : Int32))] [])) _
          refine XS.iload X0.here hx rfl (hb hby d_own_rm2_50) rfl ?_
          show Steps p.tables e below (s₁.setTop (mkF m 52 #[.val (.int p0), .val (.int ((p0 ||| (32 : Int32)) - (97 : Int32))), .val (.int (0 : Int32)), .val (.int (p0 - (48 : Int32))), .val (.int (0 : Int32))] [(.int (0 : Int32))])) _
          refine XS.ifYes X0.here hx rfl (pc0 := 52) (pc' := 59) rfl (hb hby d_own_rm2_52) rfl ((if0 _ _).trans (teq ((by decide) : (0 : Int32) = (0 : Int32))).1) (by decide) (by decide) ?_
          show Steps p.tables e below (s₁.setTop (mkF m 59 #[.val (.int p0), .val (.int ((p0 ||| (32 : Int32)) - (97 : Int32))), .val (.int (0 : Int32)), .val (.int (p0 - (48 : Int32))), .val (.int (0 : Int32))] [])) _
          refine XS.iconst X0.here hx rfl (hb hby d_own_rm2_59) ?_
          show Steps p.tables e below (s₁.setTop (mkF m 60 #[.val (.int p0), .val (.int ((p0 ||| (32 : Int32)) - (97 : Int32))), .val (.int (0 : Int32)), .val (.int (p0 - (48 : Int32))), .val (.int (0 : Int32))] [(.int (0 : Int32))])) _
          exact retN X0 hx (t := .boolean) Bd.returns (by simp) (hb hby d_own_rm2_60) hr
        · show own_Q2 p0 h0 n0 _ s₁.heap _
          rw [e0]
          exact ⟨by simp only [own_E, own_Ed, if_pos hc9_1, if_neg hc30_2, if_neg hc36_3], N0, rfl⟩
  · refine own_go (b := s₁.setTop (mkF m 15 #[.val (.int p0), .val (.int ((p0 ||| (32 : Int32)) - (97 : Int32))), .unset, .unset, .unset] [(.int (26 : Int32)), (.int ((p0 ||| (32 : Int32)) - (97 : Int32)))])) (fun t k => ?_) ?_
    · show Steps p.tables e below (s₁.setTop (mkF m 9 #[.val (.int p0), .val (.int ((p0 ||| (32 : Int32)) - (97 : Int32))), .unset, .unset, .unset] [(.int ((p0 ||| (32 : Int32)) - (97 : Int32)))])) _
      refine XS.ifNo X0.here hx rfl (hb hby d_own_rm2_9) rfl ((if0 _ _).trans (flt hc9_1).1) ?_
      show Steps p.tables e below (s₁.setTop (mkF m 12 #[.val (.int p0), .val (.int ((p0 ||| (32 : Int32)) - (97 : Int32))), .unset, .unset, .unset] [])) _
      refine XS.iloadN X0.here hx rfl (hb hby d_own_rm2_12) rfl ?_
      show Steps p.tables e below (s₁.setTop (mkF m 13 #[.val (.int p0), .val (.int ((p0 ||| (32 : Int32)) - (97 : Int32))), .unset, .unset, .unset] [(.int ((p0 ||| (32 : Int32)) - (97 : Int32)))])) _
      refine XS.bipush X0.here hx rfl (hb hby d_own_rm2_13) ?_
      show Steps p.tables e below (s₁.setTop (mkF m 15 #[.val (.int p0), .val (.int ((p0 ||| (32 : Int32)) - (97 : Int32))), .unset, .unset, .unset] [(.int (26 : Int32)), (.int ((p0 ||| (32 : Int32)) - (97 : Int32)))])) t
      exact k
    by_cases hc15_4 : ((p0 ||| (32 : Int32)) - (97 : Int32)) < (26 : Int32)
    · refine own_go (b := s₁.setTop (mkF m 30 #[.val (.int p0), .val (.int ((p0 ||| (32 : Int32)) - (97 : Int32))), .val (.int (1 : Int32)), .val (.int (p0 - (48 : Int32))), .unset] [(.int (p0 - (48 : Int32)))])) (fun t k => ?_) ?_
      · show Steps p.tables e below (s₁.setTop (mkF m 15 #[.val (.int p0), .val (.int ((p0 ||| (32 : Int32)) - (97 : Int32))), .unset, .unset, .unset] [(.int (26 : Int32)), (.int ((p0 ||| (32 : Int32)) - (97 : Int32)))])) _
        refine XS.icmpNo X0.here hx rfl (hb hby d_own_rm2_15) rfl (tlt hc15_4).2.1 ?_
        show Steps p.tables e below (s₁.setTop (mkF m 18 #[.val (.int p0), .val (.int ((p0 ||| (32 : Int32)) - (97 : Int32))), .unset, .unset, .unset] [])) _
        refine XS.iconst X0.here hx rfl (hb hby d_own_rm2_18) ?_
        show Steps p.tables e below (s₁.setTop (mkF m 19 #[.val (.int p0), .val (.int ((p0 ||| (32 : Int32)) - (97 : Int32))), .unset, .unset, .unset] [(.int (1 : Int32))])) _
        refine XS.goto X0.here hx rfl (pc0 := 19) (pc' := 23) rfl (hb hby d_own_rm2_19) (by decide) (by decide) ?_
        show Steps p.tables e below (s₁.setTop (mkF m 23 #[.val (.int p0), .val (.int ((p0 ||| (32 : Int32)) - (97 : Int32))), .unset, .unset, .unset] [(.int (1 : Int32))])) _
        refine XS.istoreN X0.here hx rfl (hb hby d_own_rm2_23) rfl (l' := #[.val (.int p0), .val (.int ((p0 ||| (32 : Int32)) - (97 : Int32))), .val (.int (1 : Int32)), .unset, .unset]) rfl ?_
        show Steps p.tables e below (s₁.setTop (mkF m 24 #[.val (.int p0), .val (.int ((p0 ||| (32 : Int32)) - (97 : Int32))), .val (.int (1 : Int32)), .unset, .unset] [])) _
        refine XS.iloadN X0.here hx rfl (hb hby d_own_rm2_24) rfl ?_
        show Steps p.tables e below (s₁.setTop (mkF m 25 #[.val (.int p0), .val (.int ((p0 ||| (32 : Int32)) - (97 : Int32))), .val (.int (1 : Int32)), .unset, .unset] [(.int p0)])) _
        refine XS.bipush X0.here hx rfl (hb hby d_own_rm2_25) ?_
        show Steps p.tables e below (s₁.setTop (mkF m 27 #[.val (.int p0), .val (.int ((p0 ||| (32 : Int32)) - (97 : Int32))), .val (.int (1 : Int32)), .unset, .unset] [(.int (48 : Int32)), (.int p0)])) _
        refine XS.isub X0.here hx rfl (hb hby d_own_rm2_27) rfl ?_
        show Steps p.tables e below (s₁.setTop (mkF m 28 #[.val (.int p0), .val (.int ((p0 ||| (32 : Int32)) - (97 : Int32))), .val (.int (1 : Int32)), .unset, .unset] [(.int (p0 - (48 : Int32)))])) _
        refine XS.istoreN X0.here hx rfl (hb hby d_own_rm2_28) rfl (l' := #[.val (.int p0), .val (.int ((p0 ||| (32 : Int32)) - (97 : Int32))), .val (.int (1 : Int32)), .val (.int (p0 - (48 : Int32))), .unset]) rfl ?_
        show Steps p.tables e below (s₁.setTop (mkF m 29 #[.val (.int p0), .val (.int ((p0 ||| (32 : Int32)) - (97 : Int32))), .val (.int (1 : Int32)), .val (.int (p0 - (48 : Int32))), .unset] [])) _
        refine XS.iloadN X0.here hx rfl (hb hby d_own_rm2_29) rfl ?_
        show Steps p.tables e below (s₁.setTop (mkF m 30 #[.val (.int p0), .val (.int ((p0 ||| (32 : Int32)) - (97 : Int32))), .val (.int (1 : Int32)), .val (.int (p0 - (48 : Int32))), .unset] [(.int (p0 - (48 : Int32)))])) t
        exact k
      by_cases hc30_5 : (p0 - (48 : Int32)) < (0 : Int32)
      · obtain ⟨fs, hr, hrun, hended, hW, hsame⟩ := X0.leave (v := some (.int (1 : Int32))) (fun h => by rw [Bd.returns] at h; cases h)
        refine ⟨_, _, ?_, hrun, hended, _, _, rfl, ?_, ⟨_, rfl⟩, hW, hsame.mono (by decide) (by decide)⟩
        · show Steps p.tables e below (s₁.setTop (mkF m 30 #[.val (.int p0), .val (.int ((p0 ||| (32 : Int32)) - (97 : Int32))), .val (.int (1 : Int32)), .val (.int (p0 - (48 : Int32))), .unset] [(.int (p0 - (48 : Int32)))])) _
          refine XS.ifYes X0.here hx rfl (pc0 := 30) (pc' := 43) rfl (hb hby d_own_rm2_30) rfl ((if0 _ _).trans (tlt hc30_5).1) (by decide) (by decide) ?_
          show Steps p.tables e below (s₁.setTop (mkF m 43 #[.val (.int p0), .val (.int ((p0 ||| (32 : Int32)) - (97 : Int32))), .val (.int (1 : Int32)), .val (.int (p0 - (48 : Int32))), .unset] [])) _
          refine XS.iconst X0.here hx rfl (hb hby d_own_rm2_43) ?_
          show Steps p.tables e below (s₁.setTop (mkF m 44 #[.val (.int p0), .val (.int ((p0 ||| (32 : Int32)) - (97 : Int32))), .val (.int (1 : Int32)), .val (.int (p0 - (48 : Int32))), .unset] [(.int (0 : Int32))])) _
          refine XS.istore X0.here hx rfl (hb hby d_own_rm2_44) rfl (l' := #[.val (.int p0), .val (.int ((p0 ||| (32 : Int32)) - (97 : Int32))), .val (.int (1 : Int32)), .val (.int (p0 - (48 : Int32))), .val (.int (0 : Int32))]) rfl ?_
          show Steps p.tables e below (s₁.setTop (mkF m 46 #[.val (.int p0), .val (.int ((p0 ||| (32 : Int32)) - (97 : Int32))), .val (.int (1 : Int32)), .val (.int (p0 - (48 : Int32))), .val (.int (0 : Int32))] [])) _
          refine XS.iloadN X0.here hx rfl (hb hby d_own_rm2_46) rfl ?_
          show Steps p.tables e below (s₁.setTop (mkF m 47 #[.val (.int p0), .val (.int ((p0 ||| (32 : Int32)) - (97 : Int32))), .val (.int (1 : Int32)), .val (.int (p0 - (48 : Int32))), .val (.int (0 : Int32))] [(.int (1 : Int32))])) _
          refine XS.ifYes X0.here hx rfl (pc0 := 47) (pc' := 55) rfl (hb hby d_own_rm2_47) rfl ((if0 _ _).trans (feq ((by decide) : ¬ ((1 : Int32) = (0 : Int32)))).2) (by decide) (by decide) ?_
          show Steps p.tables e below (s₁.setTop (mkF m 55 #[.val (.int p0), .val (.int ((p0 ||| (32 : Int32)) - (97 : Int32))), .val (.int (1 : Int32)), .val (.int (p0 - (48 : Int32))), .val (.int (0 : Int32))] [])) _
          refine XS.iconst X0.here hx rfl (hb hby d_own_rm2_55) ?_
          show Steps p.tables e below (s₁.setTop (mkF m 56 #[.val (.int p0), .val (.int ((p0 ||| (32 : Int32)) - (97 : Int32))), .val (.int (1 : Int32)), .val (.int (p0 - (48 : Int32))), .val (.int (0 : Int32))] [(.int (1 : Int32))])) _
          refine XS.goto X0.here hx rfl (pc0 := 56) (pc' := 60) rfl (hb hby d_own_rm2_56) (by decide) (by decide) ?_
          show Steps p.tables e below (s₁.setTop (mkF m 60 #[.val (.int p0), .val (.int ((p0 ||| (32 : Int32)) - (97 : Int32))), .val (.int (1 : Int32)), .val (.int (p0 - (48 : Int32))), .val (.int (0 : Int32))] [(.int (1 : Int32))])) _
          exact retN X0 hx (t := .boolean) Bd.returns (by simp) (hb hby d_own_rm2_60) hr
        · show own_Q2 p0 h0 n0 _ s₁.heap _
          rw [e0]
          exact ⟨by simp only [own_E, own_Ed, if_neg hc9_1, if_pos hc15_4, if_pos hc30_5], N0, rfl⟩
      · refine own_go (b := s₁.setTop (mkF m 36 #[.val (.int p0), .val (.int ((p0 ||| (32 : Int32)) - (97 : Int32))), .val (.int (1 : Int32)), .val (.int (p0 - (48 : Int32))), .unset] [(.int (10 : Int32)), (.int (p0 - (48 : Int32)))])) (fun t k => ?_) ?_
        · show Steps p.tables e below (s₁.setTop (mkF m 30 #[.val (.int p0), .val (.int ((p0 ||| (32 : Int32)) - (97 : Int32))), .val (.int (1 : Int32)), .val (.int (p0 - (48 : Int32))), .unset] [(.int (p0 - (48 : Int32)))])) _
          refine XS.ifNo X0.here hx rfl (hb hby d_own_rm2_30) rfl ((if0 _ _).trans (flt hc30_5).1) ?_
          show Steps p.tables e below (s₁.setTop (mkF m 33 #[.val (.int p0), .val (.int ((p0 ||| (32 : Int32)) - (97 : Int32))), .val (.int (1 : Int32)), .val (.int (p0 - (48 : Int32))), .unset] [])) _
          refine XS.iloadN X0.here hx rfl (hb hby d_own_rm2_33) rfl ?_
          show Steps p.tables e below (s₁.setTop (mkF m 34 #[.val (.int p0), .val (.int ((p0 ||| (32 : Int32)) - (97 : Int32))), .val (.int (1 : Int32)), .val (.int (p0 - (48 : Int32))), .unset] [(.int (p0 - (48 : Int32)))])) _
          refine XS.bipush X0.here hx rfl (hb hby d_own_rm2_34) ?_
          show Steps p.tables e below (s₁.setTop (mkF m 36 #[.val (.int p0), .val (.int ((p0 ||| (32 : Int32)) - (97 : Int32))), .val (.int (1 : Int32)), .val (.int (p0 - (48 : Int32))), .unset] [(.int (10 : Int32)), (.int (p0 - (48 : Int32)))])) t
          exact k
        by_cases hc36_6 : (p0 - (48 : Int32)) < (10 : Int32)
        · obtain ⟨fs, hr, hrun, hended, hW, hsame⟩ := X0.leave (v := some (.int (1 : Int32))) (fun h => by rw [Bd.returns] at h; cases h)
          refine ⟨_, _, ?_, hrun, hended, _, _, rfl, ?_, ⟨_, rfl⟩, hW, hsame.mono (by decide) (by decide)⟩
          · show Steps p.tables e below (s₁.setTop (mkF m 36 #[.val (.int p0), .val (.int ((p0 ||| (32 : Int32)) - (97 : Int32))), .val (.int (1 : Int32)), .val (.int (p0 - (48 : Int32))), .unset] [(.int (10 : Int32)), (.int (p0 - (48 : Int32)))])) _
            refine XS.icmpNo X0.here hx rfl (hb hby d_own_rm2_36) rfl (tlt hc36_6).2.1 ?_
            show Steps p.tables e below (s₁.setTop (mkF m 39 #[.val (.int p0), .val (.int ((p0 ||| (32 : Int32)) - (97 : Int32))), .val (.int (1 : Int32)), .val (.int (p0 - (48 : Int32))), .unset] [])) _
            refine XS.iconst X0.here hx rfl (hb hby d_own_rm2_39) ?_
            show Steps p.tables e below (s₁.setTop (mkF m 40 #[.val (.int p0), .val (.int ((p0 ||| (32 : Int32)) - (97 : Int32))), .val (.int (1 : Int32)), .val (.int (p0 - (48 : Int32))), .unset] [(.int (1 : Int32))])) _
            refine XS.goto X0.here hx rfl (pc0 := 40) (pc' := 44) rfl (hb hby d_own_rm2_40) (by decide) (by decide) ?_
            show Steps p.tables e below (s₁.setTop (mkF m 44 #[.val (.int p0), .val (.int ((p0 ||| (32 : Int32)) - (97 : Int32))), .val (.int (1 : Int32)), .val (.int (p0 - (48 : Int32))), .unset] [(.int (1 : Int32))])) _
            refine XS.istore X0.here hx rfl (hb hby d_own_rm2_44) rfl (l' := #[.val (.int p0), .val (.int ((p0 ||| (32 : Int32)) - (97 : Int32))), .val (.int (1 : Int32)), .val (.int (p0 - (48 : Int32))), .val (.int (1 : Int32))]) rfl ?_
            show Steps p.tables e below (s₁.setTop (mkF m 46 #[.val (.int p0), .val (.int ((p0 ||| (32 : Int32)) - (97 : Int32))), .val (.int (1 : Int32)), .val (.int (p0 - (48 : Int32))), .val (.int (1 : Int32))] [])) _
            refine XS.iloadN X0.here hx rfl (hb hby d_own_rm2_46) rfl ?_
            show Steps p.tables e below (s₁.setTop (mkF m 47 #[.val (.int p0), .val (.int ((p0 ||| (32 : Int32)) - (97 : Int32))), .val (.int (1 : Int32)), .val (.int (p0 - (48 : Int32))), .val (.int (1 : Int32))] [(.int (1 : Int32))])) _
            refine XS.ifYes X0.here hx rfl (pc0 := 47) (pc' := 55) rfl (hb hby d_own_rm2_47) rfl ((if0 _ _).trans (feq ((by decide) : ¬ ((1 : Int32) = (0 : Int32)))).2) (by decide) (by decide) ?_
            show Steps p.tables e below (s₁.setTop (mkF m 55 #[.val (.int p0), .val (.int ((p0 ||| (32 : Int32)) - (97 : Int32))), .val (.int (1 : Int32)), .val (.int (p0 - (48 : Int32))), .val (.int (1 : Int32))] [])) _
            refine XS.iconst X0.here hx rfl (hb hby d_own_rm2_55) ?_
            show Steps p.tables e below (s₁.setTop (mkF m 56 #[.val (.int p0), .val (.int ((p0 ||| (32 : Int32)) - (97 : Int32))), .val (.int (1 : Int32)), .val (.int (p0 - (48 : Int32))), .val (.int (1 : Int32))] [(.int (1 : Int32))])) _
            refine XS.goto X0.here hx rfl (pc0 := 56) (pc' := 60) rfl (hb hby d_own_rm2_56) (by decide) (by decide) ?_
            show Steps p.tables e below (s₁.setTop (mkF m 60 #[.val (.int p0), .val (.int ((p0 ||| (32 : Int32)) - (97 : Int32))), .val (.int (1 : Int32)), .val (.int (p0 - (48 : Int32))), .val (.int (1 : Int32))] [(.int (1 : Int32))])) _
            exact retN X0 hx (t := .boolean) Bd.returns (by simp) (hb hby d_own_rm2_60) hr
          · show own_Q2 p0 h0 n0 _ s₁.heap _
            rw [e0]
            exact ⟨by simp only [own_E, own_Ed, if_neg hc9_1, if_pos hc15_4, if_neg hc30_5, if_pos hc36_6], N0, rfl⟩
        · obtain ⟨fs, hr, hrun, hended, hW, hsame⟩ := X0.leave (v := some (.int (1 : Int32))) (fun h => by rw [Bd.returns] at h; cases h)
          refine ⟨_, _, ?_, hrun, hended, _, _, rfl, ?_, ⟨_, rfl⟩, hW, hsame.mono (by decide) (by decide)⟩
          · show Steps p.tables e below (s₁.setTop (mkF m 36 #[.val (.int p0), .val (.int ((p0 ||| (32 : Int32)) - (97 : Int32))), .val (.int (1 : Int32)), .val (.int (p0 - (48 : Int32))), .unset] [(.int (10 : Int32)), (.int (p0 - (48 : Int32)))])) _
            refine XS.icmpYes X0.here hx rfl (pc0 := 36) (pc' := 43) rfl (hb hby d_own_rm2_36) rfl (flt hc36_6).2.1 (by decide) (by decide) ?_
            show Steps p.tables e below (s₁.setTop (mkF m 43 #[.val (.int p0), .val (.int ((p0 ||| (32 : Int32)) - (97 : Int32))), .val (.int (1 : Int32)), .val (.int (p0 - (48 : Int32))), .unset] [])) _
            refine XS.iconst X0.here hx rfl (hb hby d_own_rm2_43) ?_
            show Steps p.tables e below (s₁.setTop (mkF m 44 #[.val (.int p0), .val (.int ((p0 ||| (32 : Int32)) - (97 : Int32))), .val (.int (1 : Int32)), .val (.int (p0 - (48 : Int32))), .unset] [(.int (0 : Int32))])) _
            refine XS.istore X0.here hx rfl (hb hby d_own_rm2_44) rfl (l' := #[.val (.int p0), .val (.int ((p0 ||| (32 : Int32)) - (97 : Int32))), .val (.int (1 : Int32)), .val (.int (p0 - (48 : Int32))), .val (.int (0 : Int32))]) rfl ?_
            show Steps p.tables e below (s₁.setTop (mkF m 46 #[.val (.int p0), .val (.int ((p0 ||| (32 : Int32)) - (97 : Int32))), .val (.int (1 : Int32)), .val (.int (p0 - (48 : Int32))), .val (.int (0 : Int32))] [])) _
            refine XS.iloadN X0.here hx rfl (hb hby d_own_rm2_46) rfl ?_
            show Steps p.tables e below (s₁.setTop (mkF m 47 #[.val (.int p0), .val (.int ((p0 ||| (32 : Int32)) - (97 : Int32))), .val (.int (1 : Int32)), .val (.int (p0 - (48 : Int32))), .val (.int (0 : Int32))] [(.int (1 : Int32))])) _
            refine XS.ifYes X0.here hx rfl (pc0 := 47) (pc' := 55) rfl (hb hby d_own_rm2_47) rfl ((if0 _ _).trans (feq ((by decide) : ¬ ((1 : Int32) = (0 : Int32)))).2) (by decide) (by decide) ?_
            show Steps p.tables e below (s₁.setTop (mkF m 55 #[.val (.int p0), .val (.int ((p0 ||| (32 : Int32)) - (97 : Int32))), .val (.int (1 : Int32)), .val (.int (p0 - (48 : Int32))), .val (.int (0 : Int32))] [])) _
            refine XS.iconst X0.here hx rfl (hb hby d_own_rm2_55) ?_
            show Steps p.tables e below (s₁.setTop (mkF m 56 #[.val (.int p0), .val (.int ((p0 ||| (32 : Int32)) - (97 : Int32))), .val (.int (1 : Int32)), .val (.int (p0 - (48 : Int32))), .val (.int (0 : Int32))] [(.int (1 : Int32))])) _
            refine XS.goto X0.here hx rfl (pc0 := 56) (pc' := 60) rfl (hb hby d_own_rm2_56) (by decide) (by decide) ?_
            show Steps p.tables e below (s₁.setTop (mkF m 60 #[.val (.int p0), .val (.int ((p0 ||| (32 : Int32)) - (97 : Int32))), .val (.int (1 : Int32)), .val (.int (p0 - (48 : Int32))), .val (.int (0 : Int32))] [(.int (1 : Int32))])) _
            exact retN X0 hx (t := .boolean) Bd.returns (by simp) (hb hby d_own_rm2_60) hr
          · show own_Q2 p0 h0 n0 _ s₁.heap _
            rw [e0]
            exact ⟨by simp only [own_E, own_Ed, if_neg hc9_1, if_pos hc15_4, if_neg hc30_5, if_neg hc36_6], N0, rfl⟩
    · refine own_go (b := s₁.setTop (mkF m 30 #[.val (.int p0), .val (.int ((p0 ||| (32 : Int32)) - (97 : Int32))), .val (.int (0 : Int32)), .val (.int (p0 - (48 : Int32))), .unset] [(.int (p0 - (48 : Int32)))])) (fun t k => ?_) ?_
      · show Steps p.tables e below (s₁.setTop (mkF m 15 #[.val (.int p0), .val (.int ((p0 ||| (32 : Int32)) - (97 : Int32))), .unset, .unset, .unset] [(.int (26 : Int32)), (.int ((p0 ||| (32 : Int32)) - (97 : Int32)))])) _
        refine XS.icmpYes X0.here hx rfl (pc0 := 15) (pc' := 22) rfl (hb hby d_own_rm2_15) rfl (flt hc15_4).2.1 (by decide) (by decide) ?_
        show Steps p.tables e below (s₁.setTop (mkF m 22 #[.val (.int p0), .val (.int ((p0 ||| (32 : Int32)) - (97 : Int32))), .unset, .unset, .unset] [])) _
        refine XS.iconst X0.here hx rfl (hb hby d_own_rm2_22) ?_
        show Steps p.tables e below (s₁.setTop (mkF m 23 #[.val (.int p0), .val (.int ((p0 ||| (32 : Int32)) - (97 : Int32))), .unset, .unset, .unset] [(.int (0 : Int32))])) _
        refine XS.istoreN X0.here hx rfl (hb hby d_own_rm2_23) rfl (l' := #[.val (.int p0), .val (.int ((p0 ||| (32 : Int32)) - (97 : Int32))), .val (.int (0 : Int32)), .unset, .unset]) rfl ?_
        show Steps p.tables e below (s₁.setTop (mkF m 24 #[.val (.int p0), .val (.int ((p0 ||| (32 : Int32)) - (97 : Int32))), .val (.int (0 : Int32)), .unset, .unset] [])) _
        refine XS.iloadN X0.here hx rfl (hb hby d_own_rm2_24) rfl ?_
        show Steps p.tables e below (s₁.setTop (mkF m 25 #[.val (.int p0), .val (.int ((p0 ||| (32 : Int32)) - (97 : Int32))), .val (.int (0 : Int32)), .unset, .unset] [(.int p0)])) _
        refine XS.bipush X0.here hx rfl (hb hby d_own_rm2_25) ?_
        show Steps p.tables e below (s₁.setTop (mkF m 27 #[.val (.int p0), .val (.int ((p0 ||| (32 : Int32)) - (97 : Int32))), .val (.int (0 : Int32)), .unset, .unset] [(.int (48 : Int32)), (.int p0)])) _
        refine XS.isub X0.here hx rfl (hb hby d_own_rm2_27) rfl ?_
        show Steps p.tables e below (s₁.setTop (mkF m 28 #[.val (.int p0), .val (.int ((p0 ||| (32 : Int32)) - (97 : Int32))), .val (.int (0 : Int32)), .unset, .unset] [(.int (p0 - (48 : Int32)))])) _
        refine XS.istoreN X0.here hx rfl (hb hby d_own_rm2_28) rfl (l' := #[.val (.int p0), .val (.int ((p0 ||| (32 : Int32)) - (97 : Int32))), .val (.int (0 : Int32)), .val (.int (p0 - (48 : Int32))), .unset]) rfl ?_
        show Steps p.tables e below (s₁.setTop (mkF m 29 #[.val (.int p0), .val (.int ((p0 ||| (32 : Int32)) - (97 : Int32))), .val (.int (0 : Int32)), .val (.int (p0 - (48 : Int32))), .unset] [])) _
        refine XS.iloadN X0.here hx rfl (hb hby d_own_rm2_29) rfl ?_
        show Steps p.tables e below (s₁.setTop (mkF m 30 #[.val (.int p0), .val (.int ((p0 ||| (32 : Int32)) - (97 : Int32))), .val (.int (0 : Int32)), .val (.int (p0 - (48 : Int32))), .unset] [(.int (p0 - (48 : Int32)))])) t
        exact k
      by_cases hc30_7 : (p0 - (48 : Int32)) < (0 : Int32)
      · obtain ⟨fs, hr, hrun, hended, hW, hsame⟩ := X0.leave (v := some (.int (0 : Int32))) (fun h => by rw [Bd.returns] at h; cases h)
        refine ⟨_, _, ?_, hrun, hended, _, _, rfl, ?_, ⟨_, rfl⟩, hW, hsame.mono (by decide) (by decide)⟩
        · show Steps p.tables e below (s₁.setTop (mkF m 30 #[.val (.int p0), .val (.int ((p0 ||| (32 : Int32)) - (97 : Int32))), .val (.int (0 : Int32)), .val (.int (p0 - (48 : Int32))), .unset] [(.int (p0 - (48 : Int32)))])) _
          refine XS.ifYes X0.here hx rfl (pc0 := 30) (pc' := 43) rfl (hb hby d_own_rm2_30) rfl ((if0 _ _).trans (tlt hc30_7).1) (by decide) (by decide) ?_
          show Steps p.tables e below (s₁.setTop (mkF m 43 #[.val (.int p0), .val (.int ((p0 ||| (32 : Int32)) - (97 : Int32))), .val (.int (0 : Int32)), .val (.int (p0 - (48 : Int32))), .unset] [])) _
          refine XS.iconst X0.here hx rfl (hb hby d_own_rm2_43) ?_
          show Steps p.tables e below (s₁.setTop (mkF m 44 #[.val (.int p0), .val (.int ((p0 ||| (32 : Int32)) - (97 : Int32))), .val (.int (0 : Int32)), .val (.int (p0 - (48 : Int32))), .unset] [(.int (0 : Int32))])) _
          refine XS.istore X0.here hx rfl (hb hby d_own_rm2_44) rfl (l' := #[.val (.int p0), .val (.int ((p0 ||| (32 : Int32)) - (97 : Int32))), .val (.int (0 : Int32)), .val (.int (p0 - (48 : Int32))), .val (.int (0 : Int32))]) rfl ?_
          show Steps p.tables e below (s₁.setTop (mkF m 46 #[.val (.int p0), .val (.int ((p0 ||| (32 : Int32)) - (97 : Int32))), .val (.int (0 : Int32)), .val (.int (p0 - (48 : Int32))), .val (.int (0 : Int32))] [])) _
          refine XS.iloadN X0.here hx rfl (hb hby d_own_rm2_46) rfl ?_
          show Steps p.tables e below (s₁.setTop (mkF m 47 #[.val (.int p0), .val (.int ((p0 ||| (32 : Int32)) - (97 : Int32))), .val (.int (0 : Int32)), .val (.int (p0 - (48 : Int32))), .val (.int (0 : Int32))] [(.int (0 : Int32))])) _
          refine XS.ifNo X0.here hx rfl (hb hby d_own_rm2_47) rfl ((if0 _ _).trans (teq ((by decide) : (0 : Int32) = (0 : Int32))).2) ?_
          show Steps p.tables e below (s₁.setTop (mkF m 50 #[.val (.int p0), .val (.int ((p0 ||| (32 : Int32)) - (97 : Int32))), .val (.int (0 : Int32)), .val (.int (p0 - (48 : Int32))), .val (.int (0 : Int32))] [])) _
          refine XS.iload X0.here hx rfl (hb hby d_own_rm2_50) rfl ?_
          show Steps p.tables e below (s₁.setTop (mkF m 52 #[.val (.int p0), .val (.int ((p0 ||| (32 : Int32)) - (97 : Int32))), .val (.int (0 : Int32)), .val (.int (p0 - (48 : Int32))), .val (.int (0 : Int32))] [(.int (0 : Int32))])) _
          refine XS.ifYes X0.here hx rfl (pc0 := 52) (pc' := 59) rfl (hb hby d_own_rm2_52) rfl ((if0 _ _).trans (teq ((by decide) : (0 : Int32) = (0 : Int32))).1) (by decide) (by decide) ?_
          show Steps p.tables e below (s₁.setTop (mkF m 59 #[.val (.int p0), .val (.int ((p0 ||| (32 : Int32)) - (97 : Int32))), .val (.int (0 : Int32)), .val (.int (p0 - (48 : Int32))), .val (.int (0 : Int32))] [])) _
          refine XS.iconst X0.here hx rfl (hb hby d_own_rm2_59) ?_
          show Steps p.tables e below (s₁.setTop (mkF m 60 #[.val (.int p0), .val (.int ((p0 ||| (32 : Int32)) - (97 : Int32))), .val (.int (0 : Int32)), .val (.int (p0 - (48 : Int32))), .val (.int (0 : Int32))] [(.int (0 : Int32))])) _
          exact retN X0 hx (t := .boolean) Bd.returns (by simp) (hb hby d_own_rm2_60) hr
        · show own_Q2 p0 h0 n0 _ s₁.heap _
          rw [e0]
          exact ⟨by simp only [own_E, own_Ed, if_neg hc9_1, if_neg hc15_4, if_pos hc30_7], N0, rfl⟩
      · refine own_go (b := s₁.setTop (mkF m 36 #[.val (.int p0), .val (.int ((p0 ||| (32 : Int32)) - (97 : Int32))), .val (.int (0 : Int32)), .val (.int (p0 - (48 : Int32))), .unset] [(.int (10 : Int32)), (.int (p0 - (48 : Int32)))])) (fun t k => ?_) ?_
        · show Steps p.tables e below (s₁.setTop (mkF m 30 #[.val (.int p0), .val (.int ((p0 ||| (32 : Int32)) - (97 : Int32))), .val (.int (0 : Int32)), .val (.int (p0 - (48 : Int32))), .unset] [(.int (p0 - (48 : Int32)))])) _
          refine XS.ifNo X0.here hx rfl (hb hby d_own_rm2_30) rfl ((if0 _ _).trans (flt hc30_7).1) ?_
          show Steps p.tables e below (s₁.setTop (mkF m 33 #[.val (.int p0), .val (.int ((p0 ||| (32 : Int32)) - (97 : Int32))), .val (.int (0 : Int32)), .val (.int (p0 - (48 : Int32))), .unset] [])) _
          refine XS.iloadN X0.here hx rfl (hb hby d_own_rm2_33) rfl ?_
          show Steps p.tables e below (s₁.setTop (mkF m 34 #[.val (.int p0), .val (.int ((p0 ||| (32 : Int32)) - (97 : Int32))), .val (.int (0 : Int32)), .val (.int (p0 - (48 : Int32))), .unset] [(.int (p0 - (48 : Int32)))])) _
          refine XS.bipush X0.here hx rfl (hb hby d_own_rm2_34) ?_
          show Steps p.tables e below (s₁.setTop (mkF m 36 #[.val (.int p0), .val (.int ((p0 ||| (32 : Int32)) - (97 : Int32))), .val (.int (0 : Int32)), .val (.int (p0 - (48 : Int32))), .unset] [(.int (10 : Int32)), (.int (p0 - (48 : Int32)))])) t
          exact k
        by_cases hc36_8 : (p0 - (48 : Int32)) < (10 : Int32)
        · obtain ⟨fs, hr, hrun, hended, hW, hsame⟩ := X0.leave (v := some (.int (1 : Int32))) (fun h => by rw [Bd.returns] at h; cases h)
          refine ⟨_, _, ?_, hrun, hended, _, _, rfl, ?_, ⟨_, rfl⟩, hW, hsame.mono (by decide) (by decide)⟩
          · show Steps p.tables e below (s₁.setTop (mkF m 36 #[.val (.int p0), .val (.int ((p0 ||| (32 : Int32)) - (97 : Int32))), .val (.int (0 : Int32)), .val (.int (p0 - (48 : Int32))), .unset] [(.int (10 : Int32)), (.int (p0 - (48 : Int32)))])) _
            refine XS.icmpNo X0.here hx rfl (hb hby d_own_rm2_36) rfl (tlt hc36_8).2.1 ?_
            show Steps p.tables e below (s₁.setTop (mkF m 39 #[.val (.int p0), .val (.int ((p0 ||| (32 : Int32)) - (97 : Int32))), .val (.int (0 : Int32)), .val (.int (p0 - (48 : Int32))), .unset] [])) _
            refine XS.iconst X0.here hx rfl (hb hby d_own_rm2_39) ?_
            show Steps p.tables e below (s₁.setTop (mkF m 40 #[.val (.int p0), .val (.int ((p0 ||| (32 : Int32)) - (97 : Int32))), .val (.int (0 : Int32)), .val (.int (p0 - (48 : Int32))), .unset] [(.int (1 : Int32))])) _
            refine XS.goto X0.here hx rfl (pc0 := 40) (pc' := 44) rfl (hb hby d_own_rm2_40) (by decide) (by decide) ?_
            show Steps p.tables e below (s₁.setTop (mkF m 44 #[.val (.int p0), .val (.int ((p0 ||| (32 : Int32)) - (97 : Int32))), .val (.int (0 : Int32)), .val (.int (p0 - (48 : Int32))), .unset] [(.int (1 : Int32))])) _
            refine XS.istore X0.here hx rfl (hb hby d_own_rm2_44) rfl (l' := #[.val (.int p0), .val (.int ((p0 ||| (32 : Int32)) - (97 : Int32))), .val (.int (0 : Int32)), .val (.int (p0 - (48 : Int32))), .val (.int (1 : Int32))]) rfl ?_
            show Steps p.tables e below (s₁.setTop (mkF m 46 #[.val (.int p0), .val (.int ((p0 ||| (32 : Int32)) - (97 : Int32))), .val (.int (0 : Int32)), .val (.int (p0 - (48 : Int32))), .val (.int (1 : Int32))] [])) _
            refine XS.iloadN X0.here hx rfl (hb hby d_own_rm2_46) rfl ?_
            show Steps p.tables e below (s₁.setTop (mkF m 47 #[.val (.int p0), .val (.int ((p0 ||| (32 : Int32)) - (97 : Int32))), .val (.int (0 : Int32)), .val (.int (p0 - (48 : Int32))), .val (.int (1 : Int32))] [(.int (0 : Int32))])) _
            refine XS.ifNo X0.here hx rfl (hb hby d_own_rm2_47) rfl ((if0 _ _).trans (teq ((by decide) : (0 : Int32) = (0 : Int32))).2) ?_
            show Steps p.tables e below (s₁.setTop (mkF m 50 #[.val (.int p0), .val (.int ((p0 ||| (32 : Int32)) - (97 : Int32))), .val (.int (0 : Int32)), .val (.int (p0 - (48 : Int32))), .val (.int (1 : Int32))] [])) _
            refine XS.iload X0.here hx rfl (hb hby d_own_rm2_50) rfl ?_
            show Steps p.tables e below (s₁.setTop (mkF m 52 #[.val (.int p0), .val (.int ((p0 ||| (32 : Int32)) - (97 : Int32))), .val (.int (0 : Int32)), .val (.int (p0 - (48 : Int32))), .val (.int (1 : Int32))] [(.int (1 : Int32))])) _
            refine XS.ifNo X0.here hx rfl (hb hby d_own_rm2_52) rfl ((if0 _ _).trans (feq ((by decide) : ¬ ((1 : Int32) = (0 : Int32)))).1) ?_
            show Steps p.tables e below (s₁.setTop (mkF m 55 #[.val (.int p0), .val (.int ((p0 ||| (32 : Int32)) - (97 : Int32))), .val (.int (0 : Int32)), .val (.int (p0 - (48 : Int32))), .val (.int (1 : Int32))] [])) _
            refine XS.iconst X0.here hx rfl (hb hby d_own_rm2_55) ?_
            show Steps p.tables e below (s₁.setTop (mkF m 56 #[.val (.int p0), .val (.int ((p0 ||| (32 : Int32)) - (97 : Int32))), .val (.int (0 : Int32)), .val (.int (p0 - (48 : Int32))), .val (.int (1 : Int32))] [(.int (1 : Int32))])) _
            refine XS.goto X0.here hx rfl (pc0 := 56) (pc' := 60) rfl (hb hby d_own_rm2_56) (by decide) (by decide) ?_
            show Steps p.tables e below (s₁.setTop (mkF m 60 #[.val (.int p0), .val (.int ((p0 ||| (32 : Int32)) - (97 : Int32))), .val (.int (0 : Int32)), .val (.int (p0 - (48 : Int32))), .val (.int (1 : Int32))] [(.int (1 : Int32))])) _
            exact retN X0 hx (t := .boolean) Bd.returns (by simp) (hb hby d_own_rm2_60) hr
          · show own_Q2 p0 h0 n0 _ s₁.heap _
            rw [e0]
            exact ⟨by simp only [own_E, own_Ed, if_neg hc9_1, if_neg hc15_4, if_neg hc30_7, if_pos hc36_8], N0, rfl⟩
        · obtain ⟨fs, hr, hrun, hended, hW, hsame⟩ := X0.leave (v := some (.int (0 : Int32))) (fun h => by rw [Bd.returns] at h; cases h)
          refine ⟨_, _, ?_, hrun, hended, _, _, rfl, ?_, ⟨_, rfl⟩, hW, hsame.mono (by decide) (by decide)⟩
          · show Steps p.tables e below (s₁.setTop (mkF m 36 #[.val (.int p0), .val (.int ((p0 ||| (32 : Int32)) - (97 : Int32))), .val (.int (0 : Int32)), .val (.int (p0 - (48 : Int32))), .unset] [(.int (10 : Int32)), (.int (p0 - (48 : Int32)))])) _
            refine XS.icmpYes X0.here hx rfl (pc0 := 36) (pc' := 43) rfl (hb hby d_own_rm2_36) rfl (flt hc36_8).2.1 (by decide) (by decide) ?_
            show Steps p.tables e below (s₁.setTop (mkF m 43 #[.val (.int p0), .val (.int ((p0 ||| (32 : Int32)) - (97 : Int32))), .val (.int (0 : Int32)), .val (.int (p0 - (48 : Int32))), .unset] [])) _
            refine XS.iconst X0.here hx rfl (hb hby d_own_rm2_43) ?_
            show Steps p.tables e below (s₁.setTop (mkF m 44 #[.val (.int p0), .val (.int ((p0 ||| (32 : Int32)) - (97 : Int32))), .val (.int (0 : Int32)), .val (.int (p0 - (48 : Int32))), .unset] [(.int (0 : Int32))])) _
            refine XS.istore X0.here hx rfl (hb hby d_own_rm2_44) rfl (l' := #[.val (.int p0), .val (.int ((p0 ||| (32 : Int32)) - (97 : Int32))), .val (.int (0 : Int32)), .val (.int (p0 - (48 : Int32))), .val (.int (0 : Int32))]) rfl ?_
            show Steps p.tables e below (s₁.setTop (mkF m 46 #[.val (.int p0), .val (.int ((p0 ||| (32 : Int32)) - (97 : Int32))), .val (.int (0 : Int32)), .val (.int (p0 - (48 : Int32))), .val (.int (0 : Int32))] [])) _
            refine XS.iloadN X0.here hx rfl (hb hby d_own_rm2_46) rfl ?_
            show Steps p.tables e below (s₁.setTop (mkF m 47 #[.val (.int p0), .val (.int ((p0 ||| (32 : Int32)) - (97 : Int32))), .val (.int (0 : Int32)), .val (.int (p0 - (48 : Int32))), .val (.int (0 : Int32))] [(.int (0 : Int32))])) _
            refine XS.ifNo X0.here hx rfl (hb hby d_own_rm2_47) rfl ((if0 _ _).trans (teq ((by decide) : (0 : Int32) = (0 : Int32))).2) ?_
            show Steps p.tables e below (s₁.setTop (mkF m 50 #[.val (.int p0), .val (.int ((p0 ||| (32 : Int32)) - (97 : Int32))), .val (.int (0 : Int32)), .val (.int (p0 - (48 : Int32))), .val (.int (0 : Int32))] [])) _
            refine XS.iload X0.here hx rfl (hb hby d_own_rm2_50) rfl ?_
            show Steps p.tables e below (s₁.setTop (mkF m 52 #[.val (.int p0), .val (.int ((p0 ||| (32 : Int32)) - (97 : Int32))), .val (.int (0 : Int32)), .val (.int (p0 - (48 : Int32))), .val (.int (0 : Int32))] [(.int (0 : Int32))])) _
            refine XS.ifYes X0.here hx rfl (pc0 := 52) (pc' := 59) rfl (hb hby d_own_rm2_52) rfl ((if0 _ _).trans (teq ((by decide) : (0 : Int32) = (0 : Int32))).1) (by decide) (by decide) ?_
            show Steps p.tables e below (s₁.setTop (mkF m 59 #[.val (.int p0), .val (.int ((p0 ||| (32 : Int32)) - (97 : Int32))), .val (.int (0 : Int32)), .val (.int (p0 - (48 : Int32))), .val (.int (0 : Int32))] [])) _
            refine XS.iconst X0.here hx rfl (hb hby d_own_rm2_59) ?_
            show Steps p.tables e below (s₁.setTop (mkF m 60 #[.val (.int p0), .val (.int ((p0 ||| (32 : Int32)) - (97 : Int32))), .val (.int (0 : Int32)), .val (.int (p0 - (48 : Int32))), .val (.int (0 : Int32))] [(.int (0 : Int32))])) _
            exact retN X0 hx (t := .boolean) Bd.returns (by simp) (hb hby d_own_rm2_60) hr
          · show own_Q2 p0 h0 n0 _ s₁.heap _
            rw [e0]
            exact ⟨by simp only [own_E, own_Ed, if_neg hc9_1, if_neg hc15_4, if_neg hc30_7, if_neg hc36_8], N0, rfl⟩
def own_Q0 (n0 : Nat) (v : Option Value) (h : Heap) (L : List Loc) : Prop := v = some (.int (1 : Int32)) ∧ Fr n0 L
theorem ef_own_rm0 (m : MethodId) (x0 : Int32) (x1 : Int32) : entryFrame m #[(.int x0), (.int x1)] maxLocals = mkF m 0 #[.val (.int x0), .val (.int x1), .unset, .unset, .unset] [] := by first | (simp [entryFrame, mkF, argsToLocals, Value.category, maxLocals]; done) | rfl
set_option maxRecDepth 65536 in
set_option maxHeartbeats 40000000 in
theorem own_rm0 (l : Launch) (Z : State) (a0 : Array Value) (hw : ∀ d ∈ tables_1, d.before a0 Z = true) (ws : List Jvm.Cond) (p0 : Int32) (p1 : Int32)  (h0 : Heap) (n0 : Nat) (Z0 : n0 ≤ h0.size)  :
    MetFree l x (head1 (Jvm.Cond.code x code maxLocals ret :: ws) room_1) (fun a U => a = #[(.int p0), (.int p1)] ∧ Z.Warmed39 U.vm ∧ U.heap = h0) (fun _ _ _ _ _ => True) (fun _ U o U' => ∃ v L, o = .returned v ∧ own_Q0 n0 v U'.heap L ∧ FrameEnd U o U' L room_1.cells room_1.slots) := by
  refine MetFree.of_bodySF (plainFor_of_name own_pn1) hisR ?_
  intro p e s m args below meth c s₁ Bd hml0 hP hK
  obtain ⟨rfl, hZ, hh⟩ := hP
  have hx := Bd.exec
  have hby := Bd.bytes
  have hml : c.maxLocals = 5 := hml0
  have hown : s.vm.findClass "com/example/rollcall/rollcall/http/UriSyntaxIsAlphanumericPinLaw" = some m.cls := findClass_of_methodNamed Bd.named
  have hnm := (name_of_methodNamed Bd.named Bd.method).1
  have X0 : Stand p l e room_1 s m #[(.int p0), (.int p1)] below meth c s₁ [] 0 0 := Stand.of_body Bd
  have e0 : s₁.heap = h0 := by rw [← hh, Bd.state]; rfl
  have N0 := Fr.nil n0
  refine own_go (b := s₁.setTop (mkF m 0 #[.val (.int p0), .val (.int p1), .unset, .unset, .unset] [])) (fun t k => castTop (ef_own_rm0 m p0 p1) k) ?_
  obtain ⟨T1, h1, k1, X1, e1, E1, A1, st1⟩ := newP X0 hx hZ (hw _ (List.mem_of_getElem? (i := 0) rfl)) e0 (g := (mkF m 5 #[.val (.int p0), .val (.int p1), .val (.int (p0.toUInt32.toUInt16.toUInt32.toInt32)), .unset, .unset] [(.int (16 : Int32))])) rfl (hb hby at_5) rfl (by decide) (cap := 16) (by decide) (by decide) (by decide) (by decide)
  obtain ⟨b1, g1⟩ : ∃ z, z = h0.size := ⟨_, rfl⟩
  rw [← g1] at A1 st1
  have new_b1 : n0 ≤ b1 := Nat.le_trans Z0 (Nat.le_of_eq g1.symm)
  have sz_b1 : h0.size ≤ b1 := Nat.le_trans (Keep.refl h0 []).1 (Nat.le_of_eq g1.symm)
  have Z1 := Nat.le_trans Z0 E1.1
  have K1 := (Keep.refl h0 []).ext E1
  have V_b1 : Arv Z h1 b1 k1 .char (16 : Int32) [(.int (0 : Int32)), (.int (0 : Int32)), (.int (0 : Int32)), (.int (0 : Int32)), (.int (0 : Int32)), (.int (0 : Int32)), (.int (0 : Int32)), (.int (0 : Int32)), (.int (0 : Int32)), (.int (0 : Int32)), (.int (0 : Int32)), (.int (0 : Int32)), (.int (0 : Int32)), (.int (0 : Int32)), (.int (0 : Int32)), (.int (0 : Int32))] (.int (0 : Int32)) := (Arv.new A1 (by decide)).pad (pad_rep [] (.int (0 : Int32)) 16)
  obtain ⟨cl2, Ar2, q2, Sz2, M2, Hs2, Gs2⟩ := V_b1
  have hin2 : ¬ ((0 : Int32) < 0 ∨ cl2.slots.size ≤ ((0 : Int32)).toNatClampNeg) := inb_of Sz2 ⟨by decide, by decide⟩
  obtain ⟨T3, h3, X3, e3, W3, st3⟩ := stC X1 hx hZ e1 Ar2 (j := (0 : Int32)) hin2 (g := (mkF m 11 #[.val (.int p0), .val (.int p1), .val (.int (p0.toUInt32.toUInt16.toUInt32.toInt32)), .unset, .unset] [(.int (47 : Int32)), (.int (0 : Int32)), (.ref b1), (.ref b1)])) rfl rfl (hb hby at_11)
  have Z3 := Nat.le_trans Z1 (Keep.of_wr W3).1
  have K3 := K1.wr W3 (Or.inr sz_b1)
  have N3 := Fr.snoc X3 N0 new_b1
  have V_b1_3 : Arv Z h3 b1 k1 .char (16 : Int32) [(.int (nar .char (47 : Int32))), (.int (0 : Int32)), (.int (0 : Int32)), (.int (0 : Int32)), (.int (0 : Int32)), (.int (0 : Int32)), (.int (0 : Int32)), (.int (0 : Int32)), (.int (0 : Int32)), (.int (0 : Int32)), (.int (0 : Int32)), (.int (0 : Int32)), (.int (0 : Int32)), (.int (0 : Int32)), (.int (0 : Int32)), (.int (0 : Int32))] (.int (0 : Int32)) := Arv.set Ar2 q2 Sz2 M2 Hs2 Gs2 (fits_nar_char _) W3 0 rfl (Nat.le_of_ble_eq_true rfl)
  obtain ⟨cl4, Ar4, q4, Sz4, M4, Hs4, Gs4⟩ := V_b1_3
  have hin4 : ¬ ((1 : Int32) < 0 ∨ cl4.slots.size ≤ ((1 : Int32)).toNatClampNeg) := inb_of Sz4 ⟨by decide, by decide⟩
  obtain ⟨T5, h5, X5, e5, W5, st5⟩ := stC X3 hx hZ e3 Ar4 (j := (1 : Int32)) hin4 (g := (mkF m 16 #[.val (.int p0), .val (.int p1), .val (.int (p0.toUInt32.toUInt16.toUInt32.toInt32)), .unset, .unset] [(.int (48 : Int32)), (.int (1 : Int32)), (.ref b1), (.ref b1)])) rfl rfl (hb hby at_16)
  have Z5 := Nat.le_trans Z3 (Keep.of_wr W5).1
  have K5 := K3.wr W5 (Or.inr sz_b1)
  have N5 := Fr.snoc X5 N3 new_b1
  have V_b1_5 : Arv Z h5 b1 k1 .char (16 : Int32) [(.int (nar .char (47 : Int32))), (.int (nar .char (48 : Int32))), (.int (0 : Int32)), (.int (0 : Int32)), (.int (0 : Int32)), (.int (0 : Int32)), (.int (0 : Int32)), (.int (0 : Int32)), (.int (0 : Int32)), (.int (0 : Int32)), (.int (0 : Int32)), (.int (0 : Int32)), (.int (0 : Int32)), (.int (0 : Int32)), (.int (0 : Int32)), (.int (0 : Int32))] (.int (0 : Int32)) := Arv.set Ar4 q4 Sz4 M4 Hs4 Gs4 (fits_nar_char _) W5 1 rfl (Nat.le_of_ble_eq_true rfl)
  obtain ⟨cl6, Ar6, q6, Sz6, M6, Hs6, Gs6⟩ := V_b1_5
  have hin6 : ¬ ((2 : Int32) < 0 ∨ cl6.slots.size ≤ ((2 : Int32)).toNatClampNeg) := inb_of Sz6 ⟨by decide, by decide⟩
  obtain ⟨T7, h7, X7, e7, W7, st7⟩ := stC X5 hx hZ e5 Ar6 (j := (2 : Int32)) hin6 (g := (mkF m 21 #[.val (.int p0), .val (.int p1), .val (.int (p0.toUInt32.toUInt16.toUInt32.toInt32)), .unset, .unset] [(.int (57 : Int32)), (.int (2 : Int32)), (.ref b1), (.ref b1)])) rfl rfl (hb hby at_21)
  have Z7 := Nat.le_trans Z5 (Keep.of_wr W7).1
  have K7 := K5.wr W7 (Or.inr sz_b1)
  have N7 := Fr.snoc X7 N5 new_b1
  have V_b1_7 : Arv Z h7 b1 k1 .char (16 : Int32) [(.int (nar .char (47 : Int32))), (.int (nar .char (48 : Int32))), (.int (nar .char (57 : Int32))), (.int (0 : Int32)), (.int (0 : Int32)), (.int (0 : Int32)), (.int (0 : Int32)), (.int (0 : Int32)), (.int (0 : Int32)), (.int (0 : Int32)), (.int (0 : Int32)), (.int (0 : Int32)), (.int (0 : Int32)), (.int (0 : Int32)), (.int (0 : Int32)), (.int (0 : Int32))] (.int (0 : Int32)) := Arv.set Ar6 q6 Sz6 M6 Hs6 Gs6 (fits_nar_char _) W7 2 rfl (Nat.le_of_ble_eq_true rfl)
  obtain ⟨cl8, Ar8, q8, Sz8, M8, Hs8, Gs8⟩ := V_b1_7
  have hin8 : ¬ ((3 : Int32) < 0 ∨ cl8.slots.size ≤ ((3 : Int32)).toNatClampNeg) := inb_of Sz8 ⟨by decide, by decide⟩
  obtain ⟨T9, h9, X9, e9, W9, st9⟩ := stC X7 hx hZ e7 Ar8 (j := (3 : Int32)) hin8 (g := (mkF m 26 #[.val (.int p0), .val (.int p1), .val (.int (p0.toUInt32.toUInt16.toUInt32.toInt32)), .unset, .unset] [(.int (58 : Int32)), (.int (3 : Int32)), (.ref b1), (.ref b1)])) rfl rfl (hb hby at_26)
  have Z9 := Nat.le_trans Z7 (Keep.of_wr W9).1
  have K9 := K7.wr W9 (Or.inr sz_b1)
  have N9 := Fr.snoc X9 N7 new_b1
  have V_b1_9 : Arv Z h9 b1 k1 .char (16 : Int32) [(.int (nar .char (47 : Int32))), (.int (nar .char (48 : Int32))), (.int (nar .char (57 : Int32))), (.int (nar .char (58 : Int32))), (.int (0 : Int32)), (.int (0 : Int32)), (.int (0 : Int32)), (.int (0 : Int32)), (.int (0 : Int32)), (.int (0 : Int32)), (.int (0 : Int32)), (.int (0 : Int32)), (.int (0 : Int32)), (.int (0 : Int32)), (.int (0 : Int32)), (.int (0 : Int32))] (.int (0 : Int32)) := Arv.set Ar8 q8 Sz8 M8 Hs8 Gs8 (fits_nar_char _) W9 3 rfl (Nat.le_of_ble_eq_true rfl)
  obtain ⟨cl10, Ar10, q10, Sz10, M10, Hs10, Gs10⟩ := V_b1_9
  have hin10 : ¬ ((4 : Int32) < 0 ∨ cl10.slots.size ≤ ((4 : Int32)).toNatClampNeg) := inb_of Sz10 ⟨by decide, by decide⟩
  obtain ⟨T11, h11, X11, e11, W11, st11⟩ := stC X9 hx hZ e9 Ar10 (j := (4 : Int32)) hin10 (g := (mkF m 31 #[.val (.int p0), .val (.int p1), .val (.int (p0.toUInt32.toUInt16.toUInt32.toInt32)), .unset, .unset] [(.int (64 : Int32)), (.int (4 : Int32)), (.ref b1), (.ref b1)])) rfl rfl (hb hby at_31)
  have Z11 := Nat.le_trans Z9 (Keep.of_wr W11).1
  have K11 := K9.wr W11 (Or.inr sz_b1)
  have N11 := Fr.snoc X11 N9 new_b1
  have V_b1_11 : Arv Z h11 b1 k1 .char (16 : Int32) [(.int (nar .char (47 : Int32))), (.int (nar .char (48 : Int32))), (.int (nar .char (57 : Int32))), (.int (nar .char (58 : Int32))), (.int (nar .char (64 : Int32))), (.int (0 : Int32)), (.int (0 : Int32)), (.int (0 : Int32)), (.int (0 : Int32)), (.int (0 : Int32)), (.int (0 : Int32)), (.int (0 : Int32)), (.int (0 : Int32)), (.int (0 : Int32)), (.int (0 : Int32)), (.int (0 : Int32))] (.int (0 : Int32)) := Arv.set Ar10 q10 Sz10 M10 Hs10 Gs10 (fits_nar_char _) W11 4 rfl (Nat.le_of_ble_eq_true rfl)
  obtain ⟨cl12, Ar12, q12, Sz12, M12, Hs12, Gs12⟩ := V_b1_11
  have hin12 : ¬ ((5 : Int32) < 0 ∨ cl12.slots.size ≤ ((5 : Int32)).toNatClampNeg) := inb_of Sz12 ⟨by decide, by decide⟩
  obtain ⟨T13, h13, X13, e13, W13, st13⟩ := stC X11 hx hZ e11 Ar12 (j := (5 : Int32)) hin12 (g := (mkF m 36 #[.val (.int p0), .val (.int p1), .val (.int (p0.toUInt32.toUInt16.toUInt32.toInt32)), .unset, .unset] [(.int (65 : Int32)), (.int (5 : Int32)), (.ref b1), (.ref b1)])) rfl rfl (hb hby at_36)
  have Z13 := Nat.le_trans Z11 (Keep.of_wr W13).1
  have K13 := K11.wr W13 (Or.inr sz_b1)
  have N13 := Fr.snoc X13 N11 new_b1
  have V_b1_13 : Arv Z h13 b1 k1 .char (16 : Int32) [(.int (nar .char (47 : Int32))), (.int (nar .char (48 : Int32))), (.int (nar .char (57 : Int32))), (.int (nar .char (58 : Int32))), (.int (nar .char (64 : Int32))), (.int (nar .char (65 : Int32))), (.int (0 : Int32)), (.int (0 : Int32)), (.int (0 : Int32)), (.int (0 : Int32)), (.int (0 : Int32)), (.int (0 : Int32)), (.int (0 : Int32)), (.int (0 : Int32)), (.int (0 : Int32)), (.int (0 : Int32))] (.int (0 : Int32)) := Arv.set Ar12 q12 Sz12 M12 Hs12 Gs12 (fits_nar_char _) W13 5 rfl (Nat.le_of_ble_eq_true rfl)
  obtain ⟨cl14, Ar14, q14, Sz14, M14, Hs14, Gs14⟩ := V_b1_13
  have hin14 : ¬ ((6 : Int32) < 0 ∨ cl14.slots.size ≤ ((6 : Int32)).toNatClampNeg) := inb_of Sz14 ⟨by decide, by decide⟩
  obtain ⟨T15, h15, X15, e15, W15, st15⟩ := stC X13 hx hZ e13 Ar14 (j := (6 : Int32)) hin14 (g := (mkF m 42 #[.val (.int p0), .val (.int p1), .val (.int (p0.toUInt32.toUInt16.toUInt32.toInt32)), .unset, .unset] [(.int (90 : Int32)), (.int (6 : Int32)), (.ref b1), (.ref b1)])) rfl rfl (hb hby at_42)
  have Z15 := Nat.le_trans Z13 (Keep.of_wr W15).1
  have K15 := K13.wr W15 (Or.inr sz_b1)
  have N15 := Fr.snoc X15 N13 new_b1
  have V_b1_15 : Arv Z h15 b1 k1 .char (16 : Int32) [(.int (nar .char (47 : Int32))), (.int (nar .char (48 : Int32))), (.int (nar .char (57 : Int32))), (.int (nar .char (58 : Int32))), (.int (nar .char (64 : Int32))), (.int (nar .char (65 : Int32))), (.int (nar .char (90 : Int32))), (.int (0 : Int32)), (.int (0 : Int32)), (.int (0 : Int32)), (.int (0 : Int32)), (.int (0 : Int32)), (.int (0 : Int32)), (.int (0 : Int32)), (.int (0 : Int32)), (.int (0 : Int32))] (.int (0 : Int32)) := Arv.set Ar14 q14 Sz14 M14 Hs14 Gs14 (fits_nar_char _) W15 6 rfl (Nat.le_of_ble_eq_true rfl)
  obtain ⟨cl16, Ar16, q16, Sz16, M16, Hs16, Gs16⟩ := V_b1_15
  have hin16 : ¬ ((7 : Int32) < 0 ∨ cl16.slots.size ≤ ((7 : Int32)).toNatClampNeg) := inb_of Sz16 ⟨by decide, by decide⟩
  obtain ⟨T17, h17, X17, e17, W17, st17⟩ := stC X15 hx hZ e15 Ar16 (j := (7 : Int32)) hin16 (g := (mkF m 48 #[.val (.int p0), .val (.int p1), .val (.int (p0.toUInt32.toUInt16.toUInt32.toInt32)), .unset, .unset] [(.int (91 : Int32)), (.int (7 : Int32)), (.ref b1), (.ref b1)])) rfl rfl (hb hby at_48)
  have Z17 := Nat.le_trans Z15 (Keep.of_wr W17).1
  have K17 := K15.wr W17 (Or.inr sz_b1)
  have N17 := Fr.snoc X17 N15 new_b1
  have V_b1_17 : Arv Z h17 b1 k1 .char (16 : Int32) [(.int (nar .char (47 : Int32))), (.int (nar .char (48 : Int32))), (.int (nar .char (57 : Int32))), (.int (nar .char (58 : Int32))), (.int (nar .char (64 : Int32))), (.int (nar .char (65 : Int32))), (.int (nar .char (90 : Int32))), (.int (nar .char (91 : Int32))), (.int (0 : Int32)), (.int (0 : Int32)), (.int (0 : Int32)), (.int (0 : Int32)), (.int (0 : Int32)), (.int (0 : Int32)), (.int (0 : Int32)), (.int (0 : Int32))] (.int (0 : Int32)) := Arv.set Ar16 q16 Sz16 M16 Hs16 Gs16 (fits_nar_char _) W17 7 rfl (Nat.le_of_ble_eq_true rfl)
  obtain ⟨cl18, Ar18, q18, Sz18, M18, Hs18, Gs18⟩ := V_b1_17
  have hin18 : ¬ ((8 : Int32) < 0 ∨ cl18.slots.size ≤ ((8 : Int32)).toNatClampNeg) := inb_of Sz18 ⟨by decide, by decide⟩
  obtain ⟨T19, h19, X19, e19, W19, st19⟩ := stC X17 hx hZ e17 Ar18 (j := (8 : Int32)) hin18 (g := (mkF m 54 #[.val (.int p0), .val (.int p1), .val (.int (p0.toUInt32.toUInt16.toUInt32.toInt32)), .unset, .unset] [(.int (96 : Int32)), (.int (8 : Int32)), (.ref b1), (.ref b1)])) rfl rfl (hb hby at_54)
  have Z19 := Nat.le_trans Z17 (Keep.of_wr W19).1
  have K19 := K17.wr W19 (Or.inr sz_b1)
  have N19 := Fr.snoc X19 N17 new_b1
  have V_b1_19 : Arv Z h19 b1 k1 .char (16 : Int32) [(.int (nar .char (47 : Int32))), (.int (nar .char (48 : Int32))), (.int (nar .char (57 : Int32))), (.int (nar .char (58 : Int32))), (.int (nar .char (64 : Int32))), (.int (nar .char (65 : Int32))), (.int (nar .char (90 : Int32))), (.int (nar .char (91 : Int32))), (.int (nar .char (96 : Int32))), (.int (0 : Int32)), (.int (0 : Int32)), (.int (0 : Int32)), (.int (0 : Int32)), (.int (0 : Int32)), (.int (0 : Int32)), (.int (0 : Int32))] (.int (0 : Int32)) := Arv.set Ar18 q18 Sz18 M18 Hs18 Gs18 (fits_nar_char _) W19 8 rfl (Nat.le_of_ble_eq_true rfl)
  obtain ⟨cl20, Ar20, q20, Sz20, M20, Hs20, Gs20⟩ := V_b1_19
  have hin20 : ¬ ((9 : Int32) < 0 ∨ cl20.slots.size ≤ ((9 : Int32)).toNatClampNeg) := inb_of Sz20 ⟨by decide, by decide⟩
  obtain ⟨T21, h21, X21, e21, W21, st21⟩ := stC X19 hx hZ e19 Ar20 (j := (9 : Int32)) hin20 (g := (mkF m 60 #[.val (.int p0), .val (.int p1), .val (.int (p0.toUInt32.toUInt16.toUInt32.toInt32)), .unset, .unset] [(.int (97 : Int32)), (.int (9 : Int32)), (.ref b1), (.ref b1)])) rfl rfl (hb hby at_60)
  have Z21 := Nat.le_trans Z19 (Keep.of_wr W21).1
  have K21 := K19.wr W21 (Or.inr sz_b1)
  have N21 := Fr.snoc X21 N19 new_b1
  have V_b1_21 : Arv Z h21 b1 k1 .char (16 : Int32) [(.int (nar .char (47 : Int32))), (.int (nar .char (48 : Int32))), (.int (nar .char (57 : Int32))), (.int (nar .char (58 : Int32))), (.int (nar .char (64 : Int32))), (.int (nar .char (65 : Int32))), (.int (nar .char (90 : Int32))), (.int (nar .char (91 : Int32))), (.int (nar .char (96 : Int32))), (.int (nar .char (97 : Int32))), (.int (0 : Int32)), (.int (0 : Int32)), (.int (0 : Int32)), (.int (0 : Int32)), (.int (0 : Int32)), (.int (0 : Int32))] (.int (0 : Int32)) := Arv.set Ar20 q20 Sz20 M20 Hs20 Gs20 (fits_nar_char _) W21 9 rfl (Nat.le_of_ble_eq_true rfl)
  obtain ⟨cl22, Ar22, q22, Sz22, M22, Hs22, Gs22⟩ := V_b1_21
  have hin22 : ¬ ((10 : Int32) < 0 ∨ cl22.slots.size ≤ ((10 : Int32)).toNatClampNeg) := inb_of Sz22 ⟨by decide, by decide⟩
  obtain ⟨T23, h23, X23, e23, W23, st23⟩ := stC X21 hx hZ e21 Ar22 (j := (10 : Int32)) hin22 (g := (mkF m 66 #[.val (.int p0), .val (.int p1), .val (.int (p0.toUInt32.toUInt16.toUInt32.toInt32)), .unset, .unset] [(.int (122 : Int32)), (.int (10 : Int32)), (.ref b1), (.ref b1)])) rfl rfl (hb hby at_66)
  have Z23 := Nat.le_trans Z21 (Keep.of_wr W23).1
  have K23 := K21.wr W23 (Or.inr sz_b1)
  have N23 := Fr.snoc X23 N21 new_b1
  have V_b1_23 : Arv Z h23 b1 k1 .char (16 : Int32) [(.int (nar .char (47 : Int32))), (.int (nar .char (48 : Int32))), (.int (nar .char (57 : Int32))), (.int (nar .char (58 : Int32))), (.int (nar .char (64 : Int32))), (.int (nar .char (65 : Int32))), (.int (nar .char (90 : Int32))), (.int (nar .char (91 : Int32))), (.int (nar .char (96 : Int32))), (.int (nar .char (97 : Int32))), (.int (nar .char (122 : Int32))), (.int (0 : Int32)), (.int (0 : Int32)), (.int (0 : Int32)), (.int (0 : Int32)), (.int (0 : Int32))] (.int (0 : Int32)) := Arv.set Ar22 q22 Sz22 M22 Hs22 Gs22 (fits_nar_char _) W23 10 rfl (Nat.le_of_ble_eq_true rfl)
  obtain ⟨cl24, Ar24, q24, Sz24, M24, Hs24, Gs24⟩ := V_b1_23
  have hin24 : ¬ ((11 : Int32) < 0 ∨ cl24.slots.size ≤ ((11 : Int32)).toNatClampNeg) := inb_of Sz24 ⟨by decide, by decide⟩
  obtain ⟨T25, h25, X25, e25, W25, st25⟩ := stC X23 hx hZ e23 Ar24 (j := (11 : Int32)) hin24 (g := (mkF m 72 #[.val (.int p0), .val (.int p1), .val (.int (p0.toUInt32.toUInt16.toUInt32.toInt32)), .unset, .unset] [(.int (123 : Int32)), (.int (11 : Int32)), (.ref b1), (.ref b1)])) rfl rfl (hb hby at_72)
  have Z25 := Nat.le_trans Z23 (Keep.of_wr W25).1
  have K25 := K23.wr W25 (Or.inr sz_b1)
  have N25 := Fr.snoc X25 N23 new_b1
  have V_b1_25 : Arv Z h25 b1 k1 .char (16 : Int32) [(.int (nar .char (47 : Int32))), (.int (nar .char (48 : Int32))), (.int (nar .char (57 : Int32))), (.int (nar .char (58 : Int32))), (.int (nar .char (64 : Int32))), (.int (nar .char (65 : Int32))), (.int (nar .char (90 : Int32))), (.int (nar .char (91 : Int32))), (.int (nar .char (96 : Int32))), (.int (nar .char (97 : Int32))), (.int (nar .char (122 : Int32))), (.int (nar .char (123 : Int32))), (.int (0 : Int32)), (.int (0 : Int32)), (.int (0 : Int32)), (.int (0 : Int32))] (.int (0 : Int32)) := Arv.set Ar24 q24 Sz24 M24 Hs24 Gs24 (fits_nar_char _) W25 11 rfl (Nat.le_of_ble_eq_true rfl)
  obtain ⟨cl26, Ar26, q26, Sz26, M26, Hs26, Gs26⟩ := V_b1_25
  have hin26 : ¬ ((12 : Int32) < 0 ∨ cl26.slots.size ≤ ((12 : Int32)).toNatClampNeg) := inb_of Sz26 ⟨by decide, by decide⟩
  obtain ⟨T27, h27, X27, e27, W27, st27⟩ := stC X25 hx hZ e25 Ar26 (j := (12 : Int32)) hin26 (g := (mkF m 78 #[.val (.int p0), .val (.int p1), .val (.int (p0.toUInt32.toUInt16.toUInt32.toInt32)), .unset, .unset] [(.int (127 : Int32)), (.int (12 : Int32)), (.ref b1), (.ref b1)])) rfl rfl (hb hby at_78)
  have Z27 := Nat.le_trans Z25 (Keep.of_wr W27).1
  have K27 := K25.wr W27 (Or.inr sz_b1)
  have N27 := Fr.snoc X27 N25 new_b1
  have V_b1_27 : Arv Z h27 b1 k1 .char (16 : Int32) [(.int (nar .char (47 : Int32))), (.int (nar .char (48 : Int32))), (.int (nar .char (57 : Int32))), (.int (nar .char (58 : Int32))), (.int (nar .char (64 : Int32))), (.int (nar .char (65 : Int32))), (.int (nar .char (90 : Int32))), (.int (nar .char (91 : Int32))), (.int (nar .char (96 : Int32))), (.int (nar .char (97 : Int32))), (.int (nar .char (122 : Int32))), (.int (nar .char (123 : Int32))), (.int (nar .char (127 : Int32))), (.int (0 : Int32)), (.int (0 : Int32)), (.int (0 : Int32))] (.int (0 : Int32)) := Arv.set Ar26 q26 Sz26 M26 Hs26 Gs26 (fits_nar_char _) W27 12 rfl (Nat.le_of_ble_eq_true rfl)
  obtain ⟨cl28, Ar28, q28, Sz28, M28, Hs28, Gs28⟩ := V_b1_27
  have hin28 : ¬ ((13 : Int32) < 0 ∨ cl28.slots.size ≤ ((13 : Int32)).toNatClampNeg) := inb_of Sz28 ⟨by decide, by decide⟩
  obtain ⟨T29, h29, X29, e29, W29, st29⟩ := stC X27 hx hZ e27 Ar28 (j := (13 : Int32)) hin28 (g := (mkF m 85 #[.val (.int p0), .val (.int p1), .val (.int (p0.toUInt32.toUInt16.toUInt32.toInt32)), .unset, .unset] [(.int (255 : Int32)), (.int (13 : Int32)), (.ref b1), (.ref b1)])) rfl rfl (hb hby at_85)
  have Z29 := Nat.le_trans Z27 (Keep.of_wr W29).1
  have K29 := K27.wr W29 (Or.inr sz_b1)
  have N29 := Fr.snoc X29 N27 new_b1
  have V_b1_29 : Arv Z h29 b1 k1 .char (16 : Int32) [(.int (nar .char (47 : Int32))), (.int (nar .char (48 : Int32))), (.int (nar .char (57 : Int32))), (.int (nar .char (58 : Int32))), (.int (nar .char (64 : Int32))), (.int (nar .char (65 : Int32))), (.int (nar .char (90 : Int32))), (.int (nar .char (91 : Int32))), (.int (nar .char (96 : Int32))), (.int (nar .char (97 : Int32))), (.int (nar .char (122 : Int32))), (.int (nar .char (123 : Int32))), (.int (nar .char (127 : Int32))), (.int (nar .char (255 : Int32))), (.int (0 : Int32)), (.int (0 : Int32))] (.int (0 : Int32)) := Arv.set Ar28 q28 Sz28 M28 Hs28 Gs28 (fits_nar_char _) W29 13 rfl (Nat.le_of_ble_eq_true rfl)
  obtain ⟨cl30, Ar30, q30, Sz30, M30, Hs30, Gs30⟩ := V_b1_29
  have hin30 : ¬ ((14 : Int32) < 0 ∨ cl30.slots.size ≤ ((14 : Int32)).toNatClampNeg) := inb_of Sz30 ⟨by decide, by decide⟩
  obtain ⟨T31, h31, X31, e31, W31, st31⟩ := stC X29 hx hZ e29 Ar30 (j := (14 : Int32)) hin30 (g := (mkF m 91 #[.val (.int p0), .val (.int p1), .val (.int (p0.toUInt32.toUInt16.toUInt32.toInt32)), .unset, .unset] [(.int (65296 : Int32)), (.int (14 : Int32)), (.ref b1), (.ref b1)])) rfl rfl (hb hby at_91)
  have Z31 := Nat.le_trans Z29 (Keep.of_wr W31).1
  have K31 := K29.wr W31 (Or.inr sz_b1)
  have N31 := Fr.snoc X31 N29 new_b1
  have V_b1_31 : Arv Z h31 b1 k1 .char (16 : Int32) [(.int (nar .char (47 : Int32))), (.int (nar .char (48 : Int32))), (.int (nar .char (57 : Int32))), (.int (nar .char (58 : Int32))), (.int (nar .char (64 : Int32))), (.int (nar .char (65 : Int32))), (.int (nar .char (90 : Int32))), (.int (nar .char (91 : Int32))), (.int (nar .char (96 : Int32))), (.int (nar .char (97 : Int32))), (.int (nar .char (122 : Int32))), (.int (nar .char (123 : Int32))), (.int (nar .char (127 : Int32))), (.int (nar .char (255 : Int32))), (.int (nar .char (65296 : Int32))), (.int (0 : Int32))] (.int (0 : Int32)) := Arv.set Ar30 q30 Sz30 M30 Hs30 Gs30 (fits_nar_char _) W31 14 rfl (Nat.le_of_ble_eq_true rfl)
  obtain ⟨cl32, Ar32, q32, Sz32, M32, Hs32, Gs32⟩ := V_b1_31
  have hin32 : ¬ ((15 : Int32) < 0 ∨ cl32.slots.size ≤ ((15 : Int32)).toNatClampNeg) := inb_of Sz32 ⟨by decide, by decide⟩
  obtain ⟨T33, h33, X33, e33, W33, st33⟩ := stC X31 hx hZ e31 Ar32 (j := (15 : Int32)) hin32 (g := (mkF m 98 #[.val (.int p0), .val (.int p1), .val (.int (p0.toUInt32.toUInt16.toUInt32.toInt32)), .unset, .unset] [(.int (304 : Int32)), (.int (15 : Int32)), (.ref b1), (.ref b1)])) rfl rfl (hb hby at_98)
  have Z33 := Nat.le_trans Z31 (Keep.of_wr W33).1
  have K33 := K31.wr W33 (Or.inr sz_b1)
  have N33 := Fr.snoc X33 N31 new_b1
  have V_b1_33 : Arv Z h33 b1 k1 .char (16 : Int32) [(.int (nar .char (47 : Int32))), (.int (nar .char (48 : Int32))), (.int (nar .char (57 : Int32))), (.int (nar .char (58 : Int32))), (.int (nar .char (64 : Int32))), (.int (nar .char (65 : Int32))), (.int (nar .char (90 : Int32))), (.int (nar .char (91 : Int32))), (.int (nar .char (96 : Int32))), (.int (nar .char (97 : Int32))), (.int (nar .char (122 : Int32))), (.int (nar .char (123 : Int32))), (.int (nar .char (127 : Int32))), (.int (nar .char (255 : Int32))), (.int (nar .char (65296 : Int32))), (.int (nar .char (304 : Int32)))] (.int (0 : Int32)) := Arv.set Ar32 q32 Sz32 M32 Hs32 Gs32 (fits_nar_char _) W33 15 rfl (Nat.le_of_ble_eq_true rfl)
  refine own_go (b := T33.setTop (mkF m 108 #[.val (.int p0), .val (.int p1), .val (.int (p0.toUInt32.toUInt16.toUInt32.toInt32)), .val (.ref b1), .unset] [(.int ((p1 &&& (2147483647 : Int32)) - ((p1 &&& (2147483647 : Int32)) / (16 : Int32)) * (16 : Int32))), (.ref b1)])) (fun t k => ?_) ?_
  · show Steps p.tables e below (s₁.setTop (mkF m 0 #[.val (.int p0), .val (.int p1), .unset, .unset, .unset] [])) _
    refine XS.iloadN X0.here hx rfl (hb hby at_0) rfl ?_
    show Steps p.tables e below (s₁.setTop (mkF m 1 #[.val (.int p0), .val (.int p1), .unset, .unset, .unset] [(.int p0)])) _
    refine XS.i2c X0.here hx rfl (hb hby at_1) rfl ?_
    show Steps p.tables e below (s₁.setTop (mkF m 2 #[.val (.int p0), .val (.int p1), .unset, .unset, .unset] [(.int (p0.toUInt32.toUInt16.toUInt32.toInt32))])) _
    refine XS.istoreN X0.here hx rfl (hb hby at_2) rfl (l' := #[.val (.int p0), .val (.int p1), .val (.int (p0.toUInt32.toUInt16.toUInt32.toInt32)), .unset, .unset]) rfl ?_
    show Steps p.tables e below (s₁.setTop (mkF m 3 #[.val (.int p0), .val (.int p1), .val (.int (p0.toUInt32.toUInt16.toUInt32.toInt32)), .unset, .unset] [])) _
    refine XS.bipush X0.here hx rfl (hb hby at_3) ?_
    show Steps p.tables e below (s₁.setTop (mkF m 5 #[.val (.int p0), .val (.int p1), .val (.int (p0.toUInt32.toUInt16.toUInt32.toInt32)), .unset, .unset] [(.int (16 : Int32))])) _
    refine st1 _ ?_
    show Steps p.tables e below (T1.setTop (mkF m 7 #[.val (.int p0), .val (.int p1), .val (.int (p0.toUInt32.toUInt16.toUInt32.toInt32)), .unset, .unset] [(.ref b1)])) _
    refine XS.dup X1.here hx rfl (hb hby at_7) rfl rfl ?_
    show Steps p.tables e below (T1.setTop (mkF m 8 #[.val (.int p0), .val (.int p1), .val (.int (p0.toUInt32.toUInt16.toUInt32.toInt32)), .unset, .unset] [(.ref b1), (.ref b1)])) _
    refine XS.iconst X1.here hx rfl (hb hby at_8) ?_
    show Steps p.tables e below (T1.setTop (mkF m 9 #[.val (.int p0), .val (.int p1), .val (.int (p0.toUInt32.toUInt16.toUInt32.toInt32)), .unset, .unset] [(.int (0 : Int32)), (.ref b1), (.ref b1)])) _
    refine XS.bipush X1.here hx rfl (hb hby at_9) ?_
    show Steps p.tables e below (T1.setTop (mkF m 11 #[.val (.int p0), .val (.int p1), .val (.int (p0.toUInt32.toUInt16.toUInt32.toInt32)), .unset, .unset] [(.int (47 : Int32)), (.int (0 : Int32)), (.ref b1), (.ref b1)])) _
    refine st3 _ ?_
    show Steps p.tables e below (T3.setTop (mkF m 12 #[.val (.int p0), .val (.int p1), .val (.int (p0.toUInt32.toUInt16.toUInt32.toInt32)), .unset, .unset] [(.ref b1)])) _
    refine XS.dup X3.here hx rfl (hb hby at_12) rfl rfl ?_
    show Steps p.tables e below (T3.setTop (mkF m 13 #[.val (.int p0), .val (.int p1), .val (.int (p0.toUInt32.toUInt16.toUInt32.toInt32)), .unset, .unset] [(.ref b1), (.ref b1)])) _
    refine XS.iconst X3.here hx rfl (hb hby at_13) ?_
    show Steps p.tables e below (T3.setTop (mkF m 14 #[.val (.int p0), .val (.int p1), .val (.int (p0.toUInt32.toUInt16.toUInt32.toInt32)), .unset, .unset] [(.int (1 : Int32)), (.ref b1), (.ref b1)])) _
    refine XS.bipush X3.here hx rfl (hb hby at_14) ?_
    show Steps p.tables e below (T3.setTop (mkF m 16 #[.val (.int p0), .val (.int p1), .val (.int (p0.toUInt32.toUInt16.toUInt32.toInt32)), .unset, .unset] [(.int (48 : Int32)), (.int (1 : Int32)), (.ref b1), (.ref b1)])) _
    refine st5 _ ?_
    show Steps p.tables e below (T5.setTop (mkF m 17 #[.val (.int p0), .val (.int p1), .val (.int (p0.toUInt32.toUInt16.toUInt32.toInt32)), .unset, .unset] [(.ref b1)])) _
    refine XS.dup X5.here hx rfl (hb hby at_17) rfl rfl ?_
    show Steps p.tables e below (T5.setTop (mkF m 18 #[.val (.int p0), .val (.int p1), .val (.int (p0.toUInt32.toUInt16.toUInt32.toInt32)), .unset, .unset] [(.ref b1), (.ref b1)])) _
    refine XS.iconst X5.here hx rfl (hb hby at_18) ?_
    show Steps p.tables e below (T5.setTop (mkF m 19 #[.val (.int p0), .val (.int p1), .val (.int (p0.toUInt32.toUInt16.toUInt32.toInt32)), .unset, .unset] [(.int (2 : Int32)), (.ref b1), (.ref b1)])) _
    refine XS.bipush X5.here hx rfl (hb hby at_19) ?_
    show Steps p.tables e below (T5.setTop (mkF m 21 #[.val (.int p0), .val (.int p1), .val (.int (p0.toUInt32.toUInt16.toUInt32.toInt32)), .unset, .unset] [(.int (57 : Int32)), (.int (2 : Int32)), (.ref b1), (.ref b1)])) _
    refine st7 _ ?_
    show Steps p.tables e below (T7.setTop (mkF m 22 #[.val (.int p0), .val (.int p1), .val (.int (p0.toUInt32.toUInt16.toUInt32.toInt32)), .unset, .unset] [(.ref b1)])) _
    refine XS.dup X7.here hx rfl (hb hby at_22) rfl rfl ?_
    show Steps p.tables e below (T7.setTop (mkF m 23 #[.val (.int p0), .val (.int p1), .val (.int (p0.toUInt32.toUInt16.toUInt32.toInt32)), .unset, .unset] [(.ref b1), (.ref b1)])) _
    refine XS.iconst X7.here hx rfl (hb hby at_23) ?_
    show Steps p.tables e below (T7.setTop (mkF m 24 #[.val (.int p0), .val (.int p1), .val (.int (p0.toUInt32.toUInt16.toUInt32.toInt32)), .unset, .unset] [(.int (3 : Int32)), (.ref b1), (.ref b1)])) _
    refine XS.bipush X7.here hx rfl (hb hby at_24) ?_
    show Steps p.tables e below (T7.setTop (mkF m 26 #[.val (.int p0), .val (.int p1), .val (.int (p0.toUInt32.toUInt16.toUInt32.toInt32)), .unset, .unset] [(.int (58 : Int32)), (.int (3 : Int32)), (.ref b1), (.ref b1)])) _
    refine st9 _ ?_
    show Steps p.tables e below (T9.setTop (mkF m 27 #[.val (.int p0), .val (.int p1), .val (.int (p0.toUInt32.toUInt16.toUInt32.toInt32)), .unset, .unset] [(.ref b1)])) _
    refine XS.dup X9.here hx rfl (hb hby at_27) rfl rfl ?_
    show Steps p.tables e below (T9.setTop (mkF m 28 #[.val (.int p0), .val (.int p1), .val (.int (p0.toUInt32.toUInt16.toUInt32.toInt32)), .unset, .unset] [(.ref b1), (.ref b1)])) _
    refine XS.iconst X9.here hx rfl (hb hby at_28) ?_
    show Steps p.tables e below (T9.setTop (mkF m 29 #[.val (.int p0), .val (.int p1), .val (.int (p0.toUInt32.toUInt16.toUInt32.toInt32)), .unset, .unset] [(.int (4 : Int32)), (.ref b1), (.ref b1)])) _
    refine XS.bipush X9.here hx rfl (hb hby at_29) ?_
    show Steps p.tables e below (T9.setTop (mkF m 31 #[.val (.int p0), .val (.int p1), .val (.int (p0.toUInt32.toUInt16.toUInt32.toInt32)), .unset, .unset] [(.int (64 : Int32)), (.int (4 : Int32)), (.ref b1), (.ref b1)])) _
    refine st11 _ ?_
    show Steps p.tables e below (T11.setTop (mkF m 32 #[.val (.int p0), .val (.int p1), .val (.int (p0.toUInt32.toUInt16.toUInt32.toInt32)), .unset, .unset] [(.ref b1)])) _
    refine XS.dup X11.here hx rfl (hb hby at_32) rfl rfl ?_
    show Steps p.tables e below (T11.setTop (mkF m 33 #[.val (.int p0), .val (.int p1), .val (.int (p0.toUInt32.toUInt16.toUInt32.toInt32)), .unset, .unset] [(.ref b1), (.ref b1)])) _
    refine XS.iconst X11.here hx rfl (hb hby at_33) ?_
    show Steps p.tables e below (T11.setTop (mkF m 34 #[.val (.int p0), .val (.int p1), .val (.int (p0.toUInt32.toUInt16.toUInt32.toInt32)), .unset, .unset] [(.int (5 : Int32)), (.ref b1), (.ref b1)])) _
    refine XS.bipush X11.here hx rfl (hb hby at_34) ?_
    show Steps p.tables e below (T11.setTop (mkF m 36 #[.val (.int p0), .val (.int p1), .val (.int (p0.toUInt32.toUInt16.toUInt32.toInt32)), .unset, .unset] [(.int (65 : Int32)), (.int (5 : Int32)), (.ref b1), (.ref b1)])) _
    refine st13 _ ?_
    show Steps p.tables e below (T13.setTop (mkF m 37 #[.val (.int p0), .val (.int p1), .val (.int (p0.toUInt32.toUInt16.toUInt32.toInt32)), .unset, .unset] [(.ref b1)])) _
    refine XS.dup X13.here hx rfl (hb hby at_37) rfl rfl ?_
    show Steps p.tables e below (T13.setTop (mkF m 38 #[.val (.int p0), .val (.int p1), .val (.int (p0.toUInt32.toUInt16.toUInt32.toInt32)), .unset, .unset] [(.ref b1), (.ref b1)])) _
    refine XS.bipush X13.here hx rfl (hb hby at_38) ?_
    show Steps p.tables e below (T13.setTop (mkF m 40 #[.val (.int p0), .val (.int p1), .val (.int (p0.toUInt32.toUInt16.toUInt32.toInt32)), .unset, .unset] [(.int (6 : Int32)), (.ref b1), (.ref b1)])) _
    refine XS.bipush X13.here hx rfl (hb hby at_40) ?_
    show Steps p.tables e below (T13.setTop (mkF m 42 #[.val (.int p0), .val (.int p1), .val (.int (p0.toUInt32.toUInt16.toUInt32.toInt32)), .unset, .unset] [(.int (90 : Int32)), (.int (6 : Int32)), (.ref b1), (.ref b1)])) _
    refine st15 _ ?_
    show Steps p.tables e below (T15.setTop (mkF m 43 #[.val (.int p0), .val (.int p1), .val (.int (p0.toUInt32.toUInt16.toUInt32.toInt32)), .unset, .unset] [(.ref b1)])) _
    refine XS.dup X15.here hx rfl (hb hby at_43) rfl rfl ?_
    show Steps p.tables e below (T15.setTop (mkF m 44 #[.val (.int p0), .val (.int p1), .val (.int (p0.toUInt32.toUInt16.toUInt32.toInt32)), .unset, .unset] [(.ref b1), (.ref b1)])) _
    refine XS.bipush X15.here hx rfl (hb hby at_44) ?_
    show Steps p.tables e below (T15.setTop (mkF m 46 #[.val (.int p0), .val (.int p1), .val (.int (p0.toUInt32.toUInt16.toUInt32.toInt32)), .unset, .unset] [(.int (7 : Int32)), (.ref b1), (.ref b1)])) _
    refine XS.bipush X15.here hx rfl (hb hby at_46) ?_
    show Steps p.tables e below (T15.setTop (mkF m 48 #[.val (.int p0), .val (.int p1), .val (.int (p0.toUInt32.toUInt16.toUInt32.toInt32)), .unset, .unset] [(.int (91 : Int32)), (.int (7 : Int32)), (.ref b1), (.ref b1)])) _
    refine st17 _ ?_
    show Steps p.tables e below (T17.setTop (mkF m 49 #[.val (.int p0), .val (.int p1), .val (.int (p0.toUInt32.toUInt16.toUInt32.toInt32)), .unset, .unset] [(.ref b1)])) _
    refine XS.dup X17.here hx rfl (hb hby at_49) rfl rfl ?_
    show Steps p.tables e below (T17.setTop (mkF m 50 #[.val (.int p0), .val (.int p1), .val (.int (p0.toUInt32.toUInt16.toUInt32.toInt32)), .unset, .unset] [(.ref b1), (.ref b1)])) _
    refine XS.bipush X17.here hx rfl (hb hby at_50) ?_
    show Steps p.tables e below (T17.setTop (mkF m 52 #[.val (.int p0), .val (.int p1), .val (.int (p0.toUInt32.toUInt16.toUInt32.toInt32)), .unset, .unset] [(.int (8 : Int32)), (.ref b1), (.ref b1)])) _
    refine XS.bipush X17.here hx rfl (hb hby at_52) ?_
    show Steps p.tables e below (T17.setTop (mkF m 54 #[.val (.int p0), .val (.int p1), .val (.int (p0.toUInt32.toUInt16.toUInt32.toInt32)), .unset, .unset] [(.int (96 : Int32)), (.int (8 : Int32)), (.ref b1), (.ref b1)])) _
    refine st19 _ ?_
    show Steps p.tables e below (T19.setTop (mkF m 55 #[.val (.int p0), .val (.int p1), .val (.int (p0.toUInt32.toUInt16.toUInt32.toInt32)), .unset, .unset] [(.ref b1)])) _
    refine XS.dup X19.here hx rfl (hb hby at_55) rfl rfl ?_
    show Steps p.tables e below (T19.setTop (mkF m 56 #[.val (.int p0), .val (.int p1), .val (.int (p0.toUInt32.toUInt16.toUInt32.toInt32)), .unset, .unset] [(.ref b1), (.ref b1)])) _
    refine XS.bipush X19.here hx rfl (hb hby at_56) ?_
    show Steps p.tables e below (T19.setTop (mkF m 58 #[.val (.int p0), .val (.int p1), .val (.int (p0.toUInt32.toUInt16.toUInt32.toInt32)), .unset, .unset] [(.int (9 : Int32)), (.ref b1), (.ref b1)])) _
    refine XS.bipush X19.here hx rfl (hb hby at_58) ?_
    show Steps p.tables e below (T19.setTop (mkF m 60 #[.val (.int p0), .val (.int p1), .val (.int (p0.toUInt32.toUInt16.toUInt32.toInt32)), .unset, .unset] [(.int (97 : Int32)), (.int (9 : Int32)), (.ref b1), (.ref b1)])) _
    refine st21 _ ?_
    show Steps p.tables e below (T21.setTop (mkF m 61 #[.val (.int p0), .val (.int p1), .val (.int (p0.toUInt32.toUInt16.toUInt32.toInt32)), .unset, .unset] [(.ref b1)])) _
    refine XS.dup X21.here hx rfl (hb hby at_61) rfl rfl ?_
    show Steps p.tables e below (T21.setTop (mkF m 62 #[.val (.int p0), .val (.int p1), .val (.int (p0.toUInt32.toUInt16.toUInt32.toInt32)), .unset, .unset] [(.ref b1), (.ref b1)])) _
    refine XS.bipush X21.here hx rfl (hb hby at_62) ?_
    show Steps p.tables e below (T21.setTop (mkF m 64 #[.val (.int p0), .val (.int p1), .val (.int (p0.toUInt32.toUInt16.toUInt32.toInt32)), .unset, .unset] [(.int (10 : Int32)), (.ref b1), (.ref b1)])) _
    refine XS.bipush X21.here hx rfl (hb hby at_64) ?_
    show Steps p.tables e below (T21.setTop (mkF m 66 #[.val (.int p0), .val (.int p1), .val (.int (p0.toUInt32.toUInt16.toUInt32.toInt32)), .unset, .unset] [(.int (122 : Int32)), (.int (10 : Int32)), (.ref b1), (.ref b1)])) _
    refine st23 _ ?_
    show Steps p.tables e below (T23.setTop (mkF m 67 #[.val (.int p0), .val (.int p1), .val (.int (p0.toUInt32.toUInt16.toUInt32.toInt32)), .unset, .unset] [(.ref b1)])) _
    refine XS.dup X23.here hx rfl (hb hby at_67) rfl rfl ?_
    show Steps p.tables e below (T23.setTop (mkF m 68 #[.val (.int p0), .val (.int p1), .val (.int (p0.toUInt32.toUInt16.toUInt32.toInt32)), .unset, .unset] [(.ref b1), (.ref b1)])) _
    refine XS.bipush X23.here hx rfl (hb hby at_68) ?_
    show Steps p.tables e below (T23.setTop (mkF m 70 #[.val (.int p0), .val (.int p1), .val (.int (p0.toUInt32.toUInt16.toUInt32.toInt32)), .unset, .unset] [(.int (11 : Int32)), (.ref b1), (.ref b1)])) _
    refine XS.bipush X23.here hx rfl (hb hby at_70) ?_
    show Steps p.tables e below (T23.setTop (mkF m 72 #[.val (.int p0), .val (.int p1), .val (.int (p0.toUInt32.toUInt16.toUInt32.toInt32)), .unset, .unset] [(.int (123 : Int32)), (.int (11 : Int32)), (.ref b1), (.ref b1)])) _
    refine st25 _ ?_
    show Steps p.tables e below (T25.setTop (mkF m 73 #[.val (.int p0), .val (.int p1), .val (.int (p0.toUInt32.toUInt16.toUInt32.toInt32)), .unset, .unset] [(.ref b1)])) _
    refine XS.dup X25.here hx rfl (hb hby at_73) rfl rfl ?_
    show Steps p.tables e below (T25.setTop (mkF m 74 #[.val (.int p0), .val (.int p1), .val (.int (p0.toUInt32.toUInt16.toUInt32.toInt32)), .unset, .unset] [(.ref b1), (.ref b1)])) _
    refine XS.bipush X25.here hx rfl (hb hby at_74) ?_
    show Steps p.tables e below (T25.setTop (mkF m 76 #[.val (.int p0), .val (.int p1), .val (.int (p0.toUInt32.toUInt16.toUInt32.toInt32)), .unset, .unset] [(.int (12 : Int32)), (.ref b1), (.ref b1)])) _
    refine XS.bipush X25.here hx rfl (hb hby at_76) ?_
    show Steps p.tables e below (T25.setTop (mkF m 78 #[.val (.int p0), .val (.int p1), .val (.int (p0.toUInt32.toUInt16.toUInt32.toInt32)), .unset, .unset] [(.int (127 : Int32)), (.int (12 : Int32)), (.ref b1), (.ref b1)])) _
    refine st27 _ ?_
    show Steps p.tables e below (T27.setTop (mkF m 79 #[.val (.int p0), .val (.int p1), .val (.int (p0.toUInt32.toUInt16.toUInt32.toInt32)), .unset, .unset] [(.ref b1)])) _
    refine XS.dup X27.here hx rfl (hb hby at_79) rfl rfl ?_
    show Steps p.tables e below (T27.setTop (mkF m 80 #[.val (.int p0), .val (.int p1), .val (.int (p0.toUInt32.toUInt16.toUInt32.toInt32)), .unset, .unset] [(.ref b1), (.ref b1)])) _
    refine XS.bipush X27.here hx rfl (hb hby at_80) ?_
    show Steps p.tables e below (T27.setTop (mkF m 82 #[.val (.int p0), .val (.int p1), .val (.int (p0.toUInt32.toUInt16.toUInt32.toInt32)), .unset, .unset] [(.int (13 : Int32)), (.ref b1), (.ref b1)])) _
    refine XS.sipush X27.here hx rfl (hb hby at_82) ?_
    show Steps p.tables e below (T27.setTop (mkF m 85 #[.val (.int p0), .val (.int p1), .val (.int (p0.toUInt32.toUInt16.toUInt32.toInt32)), .unset, .unset] [(.int (255 : Int32)), (.int (13 : Int32)), (.ref b1), (.ref b1)])) _
    refine st29 _ ?_
    show Steps p.tables e below (T29.setTop (mkF m 86 #[.val (.int p0), .val (.int p1), .val (.int (p0.toUInt32.toUInt16.toUInt32.toInt32)), .unset, .unset] [(.ref b1)])) _
    refine XS.dup X29.here hx rfl (hb hby at_86) rfl rfl ?_
    show Steps p.tables e below (T29.setTop (mkF m 87 #[.val (.int p0), .val (.int p1), .val (.int (p0.toUInt32.toUInt16.toUInt32.toInt32)), .unset, .unset] [(.ref b1), (.ref b1)])) _
    refine XS.bipush X29.here hx rfl (hb hby at_87) ?_
    show Steps p.tables e below (T29.setTop (mkF m 89 #[.val (.int p0), .val (.int p1), .val (.int (p0.toUInt32.toUInt16.toUInt32.toInt32)), .unset, .unset] [(.int (14 : Int32)), (.ref b1), (.ref b1)])) _
    refine X29.ldcInt hx hown (mvT hZ (hw _ (List.mem_of_getElem? (i := 1) rfl))) (g := (mkF m 89 #[.val (.int p0), .val (.int p1), .val (.int (p0.toUInt32.toUInt16.toUInt32.toInt32)), .unset, .unset] [(.int (14 : Int32)), (.ref b1), (.ref b1)])) rfl (hb hby at_89) _ ?_
    show Steps p.tables e below (T29.setTop (mkF m 91 #[.val (.int p0), .val (.int p1), .val (.int (p0.toUInt32.toUInt16.toUInt32.toInt32)), .unset, .unset] [(.int (65296 : Int32)), (.int (14 : Int32)), (.ref b1), (.ref b1)])) _
    refine st31 _ ?_
    show Steps p.tables e below (T31.setTop (mkF m 92 #[.val (.int p0), .val (.int p1), .val (.int (p0.toUInt32.toUInt16.toUInt32.toInt32)), .unset, .unset] [(.ref b1)])) _
    refine XS.dup X31.here hx rfl (hb hby at_92) rfl rfl ?_
    show Steps p.tables e below (T31.setTop (mkF m 93 #[.val (.int p0), .val (.int p1), .val (.int (p0.toUInt32.toUInt16.toUInt32.toInt32)), .unset, .unset] [(.ref b1), (.ref b1)])) _
    refine XS.bipush X31.here hx rfl (hb hby at_93) ?_
    show Steps p.tables e below (T31.setTop (mkF m 95 #[.val (.int p0), .val (.int p1), .val (.int (p0.toUInt32.toUInt16.toUInt32.toInt32)), .unset, .unset] [(.int (15 : Int32)), (.ref b1), (.ref b1)])) _
    refine XS.sipush X31.here hx rfl (hb hby at_95) ?_
    show Steps p.tables e below (T31.setTop (mkF m 98 #[.val (.int p0), .val (.int p1), .val (.int (p0.toUInt32.toUInt16.toUInt32.toInt32)), .unset, .unset] [(.int (304 : Int32)), (.int (15 : Int32)), (.ref b1), (.ref b1)])) _
    refine st33 _ ?_
    show Steps p.tables e below (T33.setTop (mkF m 99 #[.val (.int p0), .val (.int p1), .val (.int (p0.toUInt32.toUInt16.toUInt32.toInt32)), .unset, .unset] [(.ref b1)])) _
    refine XS.astoreN X33.here hx rfl (hb hby at_99) rfl rfl (l' := #[.val (.int p0), .val (.int p1), .val (.int (p0.toUInt32.toUInt16.toUInt32.toInt32)), .val (.ref b1), .unset]) rfl ?_
    show Steps p.tables e below (T33.setTop (mkF m 100 #[.val (.int p0), .val (.int p1), .val (.int (p0.toUInt32.toUInt16.toUInt32.toInt32)), .val (.ref b1), .unset] [])) _
    refine XS.aloadN X33.here hx rfl (hb hby at_100) rfl rfl ?_
    show Steps p.tables e below (T33.setTop (mkF m 101 #[.val (.int p0), .val (.int p1), .val (.int (p0.toUInt32.toUInt16.toUInt32.toInt32)), .val (.ref b1), .unset] [(.ref b1)])) _
    refine XS.iloadN X33.here hx rfl (hb hby at_101) rfl ?_
    show Steps p.tables e below (T33.setTop (mkF m 102 #[.val (.int p0), .val (.int p1), .val (.int (p0.toUInt32.toUInt16.toUInt32.toInt32)), .val (.ref b1), .unset] [(.int p1), (.ref b1)])) _
    refine X33.ldcInt hx hown (mvT hZ (hw _ (List.mem_of_getElem? (i := 2) rfl))) (g := (mkF m 102 #[.val (.int p0), .val (.int p1), .val (.int (p0.toUInt32.toUInt16.toUInt32.toInt32)), .val (.ref b1), .unset] [(.int p1), (.ref b1)])) rfl (hb hby at_102) _ ?_
    show Steps p.tables e below (T33.setTop (mkF m 104 #[.val (.int p0), .val (.int p1), .val (.int (p0.toUInt32.toUInt16.toUInt32.toInt32)), .val (.ref b1), .unset] [(.int (2147483647 : Int32)), (.int p1), (.ref b1)])) _
    refine XS.iand X33.here hx rfl (hb hby at_104) rfl ?_
    show Steps p.tables e below (T33.setTop (mkF m 105 #[.val (.int p0), .val (.int p1), .val (.int (p0.toUInt32.toUInt16.toUInt32.toInt32)), .val (.ref b1), .unset] [(.int (p1 &&& (2147483647 : Int32))), (.ref b1)])) _
    refine XS.bipush X33.here hx rfl (hb hby at_105) ?_
    show Steps p.tables e below (T33.setTop (mkF m 107 #[.val (.int p0), .val (.int p1), .val (.int (p0.toUInt32.toUInt16.toUInt32.toInt32)), .val (.ref b1), .unset] [(.int (16 : Int32)), (.int (p1 &&& (2147483647 : Int32))), (.ref b1)])) _
    refine XS.irem X33.here hx rfl (hb hby at_107) rfl (by decide) ?_
    show Steps p.tables e below (T33.setTop (mkF m 108 #[.val (.int p0), .val (.int p1), .val (.int (p0.toUInt32.toUInt16.toUInt32.toInt32)), .val (.ref b1), .unset] [(.int ((p1 &&& (2147483647 : Int32)) - ((p1 &&& (2147483647 : Int32)) / (16 : Int32)) * (16 : Int32))), (.ref b1)])) t
    exact k
  have hj16 := own_mod16 p1
  generalize ((p1 &&& (2147483647 : Int32)) - ((p1 &&& (2147483647 : Int32)) / (16 : Int32)) * (16 : Int32)) = vj16 at hj16 ⊢
  obtain ⟨cl34, Ar34, -, Sz34, M34, Hs34, Gs34⟩ := V_b1_33
  have hin34 : ¬ (vj16 < 0 ∨ cl34.slots.size ≤ (vj16).toNatClampNeg) := inb_of Sz34 (own_in16 hj16)
  obtain ⟨w34, hat34⟩ : ∃ w : Int32, cl34.slots[(vj16).toNatClampNeg]? = some (.int w) := by
    rcases hj16 with rfl | rfl | rfl | rfl | rfl | rfl | rfl | rfl | rfl | rfl | rfl | rfl | rfl | rfl | rfl | rfl
    · exact ⟨_, Hs34 0 (by rw [Sz34]; decide)⟩
    · exact ⟨_, Hs34 1 (by rw [Sz34]; decide)⟩
    · exact ⟨_, Hs34 2 (by rw [Sz34]; decide)⟩
    · exact ⟨_, Hs34 3 (by rw [Sz34]; decide)⟩
    · exact ⟨_, Hs34 4 (by rw [Sz34]; decide)⟩
    · exact ⟨_, Hs34 5 (by rw [Sz34]; decide)⟩
    · exact ⟨_, Hs34 6 (by rw [Sz34]; decide)⟩
    · exact ⟨_, Hs34 7 (by rw [Sz34]; decide)⟩
    · exact ⟨_, Hs34 8 (by rw [Sz34]; decide)⟩
    · exact ⟨_, Hs34 9 (by rw [Sz34]; decide)⟩
    · exact ⟨_, Hs34 10 (by rw [Sz34]; decide)⟩
    · exact ⟨_, Hs34 11 (by rw [Sz34]; decide)⟩
    · exact ⟨_, Hs34 12 (by rw [Sz34]; decide)⟩
    · exact ⟨_, Hs34 13 (by rw [Sz34]; decide)⟩
    · exact ⟨_, Hs34 14 (by rw [Sz34]; decide)⟩
    · exact ⟨_, Hs34 15 (by rw [Sz34]; decide)⟩
  obtain ⟨_, _, ⟨T35, L35, k35, n35⟩, -, X35, ⟨Lc35, hQ35, l35, y35, z35⟩, st35⟩ := Jvm.LawKit.callS X33 hx (y := (⟨"com/example/rollcall/rollcall/http/UriSyntax", "isAlphanumeric", "(C)Z"⟩ : MethodName)) hown (mvT hZ (hw _ (List.mem_of_getElem? (i := 3) rfl))) (mvT hZ (hw _ (List.mem_of_getElem? (i := 4) rfl))) (mvT hZ (hw _ (List.mem_of_getElem? (i := 5) rfl))) (mvT hZ (hw _ (List.mem_of_getElem? (i := 6) rfl))) (by decide) (backOf (W := 0) (own_rm1 l Z a0 hw [] (p0.toUInt32.toUInt16.toUInt32.toInt32)  h33 n0 Z33 ) hZ (hw _ (List.mem_of_getElem? (i := 6) rfl)) (hw _ (List.mem_of_getElem? (i := 5) rfl)) (by decide) (by decide)) (g := (mkF m 112 #[.val (.int p0), .val (.int p1), .val (.int (p0.toUInt32.toUInt16.toUInt32.toInt32)), .val (.ref b1), .val (.int w34)] [(.int (p0.toUInt32.toUInt16.toUInt32.toInt32))])) rfl (by rw [hml]; rfl) (argsL := [(.int (p0.toUInt32.toUInt16.toUInt32.toInt32))]) (rest := []) (lenOf own_pd0 rfl) rfl (by show 2 * 0 + _ ≤ _; exact Nat.le_of_eq rfl) (hb hby at_112) (fun _ _ => ⟨rfl, e33, (by decide : 1 + 0 ≤ _), (by decide : 16 + 0 ≤ _)⟩)
  dsimp only [Pt.U, Pt.locs, Pt.cells, Pt.slots] at X35 l35 y35 z35 st35 hQ35
  subst l35 y35 z35
  obtain ⟨rfl, N35q, e35⟩ := hQ35
  have N35 := Fr.app N33 N35q
  obtain ⟨_, _, ⟨T36, L36, k36, n36⟩, -, X36, ⟨Lc36, hQ36, l36, y36, z36⟩, st36⟩ := Jvm.LawKit.callS X35 hx (y := (⟨"com/example/rollcall/rollcall/http/UriSyntaxIsAlphanumericPinLaw", "expected", "(C)Z"⟩ : MethodName)) hown (mvT hZ (hw _ (List.mem_of_getElem? (i := 7) rfl))) (mvT hZ (hw _ (List.mem_of_getElem? (i := 8) rfl))) (mvT hZ (hw _ (List.mem_of_getElem? (i := 9) rfl))) (mvT hZ (hw _ (List.mem_of_getElem? (i := 10) rfl))) (by decide) (backOf (W := 1) (own_rm2 l Z a0 hw [] (p0.toUInt32.toUInt16.toUInt32.toInt32)  h33 n0 Z33 ) hZ (hw _ (List.mem_of_getElem? (i := 10) rfl)) (hw _ (List.mem_of_getElem? (i := 9) rfl)) (by decide) (by decide)) (g := (mkF m 116 #[.val (.int p0), .val (.int p1), .val (.int (p0.toUInt32.toUInt16.toUInt32.toInt32)), .val (.ref b1), .val (.int w34)] [(.int (p0.toUInt32.toUInt16.toUInt32.toInt32)), (.int (own_A (p0.toUInt32.toUInt16.toUInt32.toInt32)))])) rfl (by rw [hml]; rfl) (argsL := [(.int (p0.toUInt32.toUInt16.toUInt32.toInt32))]) (rest := [(.int (own_A (p0.toUInt32.toUInt16.toUInt32.toInt32)))]) (lenOf own_pd0 rfl) rfl (by show 2 * 0 + _ ≤ _; exact Nat.le_of_eq rfl) (hb hby at_116) (fun _ _ => ⟨rfl, e35, (by decide : 1 + 0 ≤ _), (by decide : 16 + 0 ≤ _)⟩)
  dsimp only [Pt.U, Pt.locs, Pt.cells, Pt.slots] at X36 l36 y36 z36 st36 hQ36
  subst l36 y36 z36
  obtain ⟨rfl, N36q, e36⟩ := hQ36
  have N36 := Fr.app N35 N36q
  obtain ⟨_, _, ⟨T37, L37, k37, n37⟩, -, X37, ⟨Lc37, hQ37, l37, y37, z37⟩, st37⟩ := Jvm.LawKit.callS X36 hx (y := (⟨"com/example/rollcall/rollcall/http/UriSyntax", "isAlphanumeric", "(C)Z"⟩ : MethodName)) hown (mvT hZ (hw _ (List.mem_of_getElem? (i := 3) rfl))) (mvT hZ (hw _ (List.mem_of_getElem? (i := 4) rfl))) (mvT hZ (hw _ (List.mem_of_getElem? (i := 5) rfl))) (mvT hZ (hw _ (List.mem_of_getElem? (i := 6) rfl))) (by decide) (backOf (W := 0) (own_rm1 l Z a0 hw [] w34  h33 n0 Z33 ) hZ (hw _ (List.mem_of_getElem? (i := 6) rfl)) (hw _ (List.mem_of_getElem? (i := 5) rfl)) (by decide) (by decide)) (g := (mkF m 124 #[.val (.int p0), .val (.int p1), .val (.int (p0.toUInt32.toUInt16.toUInt32.toInt32)), .val (.ref b1), .val (.int w34)] [(.int w34)])) rfl (by rw [hml]; rfl) (argsL := [(.int w34)]) (rest := []) (lenOf own_pd0 rfl) rfl (by show 2 * 0 + _ ≤ _; exact Nat.le_of_eq rfl) (hb hby at_124) (fun _ _ => ⟨rfl, e36, (by decide : 1 + 0 ≤ _), (by decide : 16 + 0 ≤ _)⟩)
  dsimp only [Pt.U, Pt.locs, Pt.cells, Pt.slots] at X37 l37 y37 z37 st37 hQ37
  subst l37 y37 z37
  obtain ⟨rfl, N37q, e37⟩ := hQ37
  have N37 := Fr.app N36 N37q
  obtain ⟨_, _, ⟨T38, L38, k38, n38⟩, -, X38, ⟨Lc38, hQ38, l38, y38, z38⟩, st38⟩ := Jvm.LawKit.callS X37 hx (y := (⟨"com/example/rollcall/rollcall/http/UriSyntaxIsAlphanumericPinLaw", "expected", "(C)Z"⟩ : MethodName)) hown (mvT hZ (hw _ (List.mem_of_getElem? (i := 7) rfl))) (mvT hZ (hw _ (List.mem_of_getElem? (i := 8) rfl))) (mvT hZ (hw _ (List.mem_of_getElem? (i := 9) rfl))) (mvT hZ (hw _ (List.mem_of_getElem? (i := 10) rfl))) (by decide) (backOf (W := 1) (own_rm2 l Z a0 hw [] w34  h33 n0 Z33 ) hZ (hw _ (List.mem_of_getElem? (i := 10) rfl)) (hw _ (List.mem_of_getElem? (i := 9) rfl)) (by decide) (by decide)) (g := (mkF m 129 #[.val (.int p0), .val (.int p1), .val (.int (p0.toUInt32.toUInt16.toUInt32.toInt32)), .val (.ref b1), .val (.int w34)] [(.int w34), (.int (own_A w34))])) rfl (by rw [hml]; rfl) (argsL := [(.int w34)]) (rest := [(.int (own_A w34))]) (lenOf own_pd0 rfl) rfl (by show 2 * 0 + _ ≤ _; exact Nat.le_of_eq rfl) (hb hby at_129) (fun _ _ => ⟨rfl, e37, (by decide : 1 + 0 ≤ _), (by decide : 16 + 0 ≤ _)⟩)
  dsimp only [Pt.U, Pt.locs, Pt.cells, Pt.slots] at X38 l38 y38 z38 st38 hQ38
  subst l38 y38 z38
  obtain ⟨rfl, N38q, e38⟩ := hQ38
  have N38 := Fr.app N37 N38q
  obtain ⟨fs, hr, hrun, hended, hW, hsame⟩ := X38.leave (v := some (.int (1 : Int32))) (fun h => by rw [Bd.returns] at h; cases h)
  refine ⟨_, _, ?_, hrun, hended, _, _, rfl, ?_, ⟨_, rfl⟩, hW, hsame.mono (by decide) (by decide)⟩
  · show Steps p.tables e below (T33.setTop (mkF m 108 #[.val (.int p0), .val (.int p1), .val (.int (p0.toUInt32.toUInt16.toUInt32.toInt32)), .val (.ref b1), .unset] [(.int vj16), (.ref b1)])) _
    refine X33.caload hx (j := vj16) (v := (.int w34)) (by rw [e33]; exact Ar34.1) (State.isArrayOf_alike hZ.alike Ar34.2.1) Ar34.2.2 hin34 hat34 (g := (mkF m 108 #[.val (.int p0), .val (.int p1), .val (.int (p0.toUInt32.toUInt16.toUInt32.toInt32)), .val (.ref b1), .unset] [(.int vj16), (.ref b1)])) rfl rfl (hb hby at_108) _ ?_
    show Steps p.tables e below (T33.setTop (mkF m 109 #[.val (.int p0), .val (.int p1), .val (.int (p0.toUInt32.toUInt16.toUInt32.toInt32)), .val (.ref b1), .unset] [(.int w34)])) _
    refine XS.istore X33.here hx rfl (hb hby at_109) rfl (l' := #[.val (.int p0), .val (.int p1), .val (.int (p0.toUInt32.toUInt16.toUInt32.toInt32)), .val (.ref b1), .val (.int w34)]) rfl ?_
    show Steps p.tables e below (T33.setTop (mkF m 111 #[.val (.int p0), .val (.int p1), .val (.int (p0.toUInt32.toUInt16.toUInt32.toInt32)), .val (.ref b1), .val (.int w34)] [])) _
    refine XS.iloadN X33.here hx rfl (hb hby at_111) rfl ?_
    show Steps p.tables e below (T33.setTop (mkF m 112 #[.val (.int p0), .val (.int p1), .val (.int (p0.toUInt32.toUInt16.toUInt32.toInt32)), .val (.ref b1), .val (.int w34)] [(.int (p0.toUInt32.toUInt16.toUInt32.toInt32))])) _
    refine st35 _ ?_
    show Steps p.tables e below (T35.setTop (mkF m 115 #[.val (.int p0), .val (.int p1), .val (.int (p0.toUInt32.toUInt16.toUInt32.toInt32)), .val (.ref b1), .val (.int w34)] [(.int (own_A (p0.toUInt32.toUInt16.toUInt32.toInt32)))])) _
    refine XS.iloadN X35.here hx rfl (hb hby at_115) rfl ?_
    show Steps p.tables e below (T35.setTop (mkF m 116 #[.val (.int p0), .val (.int p1), .val (.int (p0.toUInt32.toUInt16.toUInt32.toInt32)), .val (.ref b1), .val (.int w34)] [(.int (p0.toUInt32.toUInt16.toUInt32.toInt32)), (.int (own_A (p0.toUInt32.toUInt16.toUInt32.toInt32)))])) _
    refine st36 _ ?_
    show Steps p.tables e below (T36.setTop (mkF m 119 #[.val (.int p0), .val (.int p1), .val (.int (p0.toUInt32.toUInt16.toUInt32.toInt32)), .val (.ref b1), .val (.int w34)] [(.int (own_E (p0.toUInt32.toUInt16.toUInt32.toInt32))), (.int (own_A (p0.toUInt32.toUInt16.toUInt32.toInt32)))])) _
    refine XS.icmpNo X36.here hx rfl (hb hby at_119) rfl (teq (own_same _ : (own_A (p0.toUInt32.toUInt16.toUInt32.toInt32)) = (own_E (p0.toUInt32.toUInt16.toUInt32.toInt32)))).2 ?_
    show Steps p.tables e below (T36.setTop (mkF m 122 #[.val (.int p0), .val (.int p1), .val (.int (p0.toUInt32.toUInt16.toUInt32.toInt32)), .val (.ref b1), .val (.int w34)] [])) _
    refine XS.iload X36.here hx rfl (hb hby at_122) rfl ?_
    show Steps p.tables e below (T36.setTop (mkF m 124 #[.val (.int p0), .val (.int p1), .val (.int (p0.toUInt32.toUInt16.toUInt32.toInt32)), .val (.ref b1), .val (.int w34)] [(.int w34)])) _
    refine st37 _ ?_
    show Steps p.tables e below (T37.setTop (mkF m 127 #[.val (.int p0), .val (.int p1), .val (.int (p0.toUInt32.toUInt16.toUInt32.toInt32)), .val (.ref b1), .val (.int w34)] [(.int (own_A w34))])) _
    refine XS.iload X37.here hx rfl (hb hby at_127) rfl ?_
    show Steps p.tables e below (T37.setTop (mkF m 129 #[.val (.int p0), .val (.int p1), .val (.int (p0.toUInt32.toUInt16.toUInt32.toInt32)), .val (.ref b1), .val (.int w34)] [(.int w34), (.int (own_A w34))])) _
    refine st38 _ ?_
    show Steps p.tables e below (T38.setTop (mkF m 132 #[.val (.int p0), .val (.int p1), .val (.int (p0.toUInt32.toUInt16.toUInt32.toInt32)), .val (.ref b1), .val (.int w34)] [(.int (own_E w34)), (.int (own_A w34))])) _
    refine XS.icmpNo X38.here hx rfl (hb hby at_132) rfl (teq (own_same _ : (own_A w34) = (own_E w34))).2 ?_
    show Steps p.tables e below (T38.setTop (mkF m 135 #[.val (.int p0), .val (.int p1), .val (.int (p0.toUInt32.toUInt16.toUInt32.toInt32)), .val (.ref b1), .val (.int w34)] [])) _
    refine XS.iconst X38.here hx rfl (hb hby at_135) ?_
    show Steps p.tables e below (T38.setTop (mkF m 136 #[.val (.int p0), .val (.int p1), .val (.int (p0.toUInt32.toUInt16.toUInt32.toInt32)), .val (.ref b1), .val (.int w34)] [(.int (1 : Int32))])) _
    refine XS.goto X38.here hx rfl (pc0 := 136) (pc' := 140) rfl (hb hby at_136) (by decide) (by decide) ?_
    show Steps p.tables e below (T38.setTop (mkF m 140 #[.val (.int p0), .val (.int p1), .val (.int (p0.toUInt32.toUInt16.toUInt32.toInt32)), .val (.ref b1), .val (.int w34)] [(.int (1 : Int32))])) _
    exact retN X38 hx (t := .boolean) Bd.returns (by simp) (hb hby at_140) hr
  · show own_Q0 n0 _ T38.heap _
    rw [e38]
    exact ⟨rfl, N38⟩
set_option maxRecDepth 65536 in
set_option maxHeartbeats 40000000 in
theorem comes_1 {Post : Tables → Env → Array Value → State → Outcome → State → Prop} (hpost : ∀ tb e args s v u, (limb_1_1.after args s (.returned v) u = true ∧ limb_1_2.after args s (.returned v) u = true ∧ True) → FrameEnd s (.returned v) u (Jvm.fieldLocs frame_1_writes args s ++ Jvm.arrayLocs frame_1_arrays args s ++ Jvm.staticLocs frame_1_statics s) 16 128 → Post tb e args s (.returned v) u) :
    ArmFor flags0 classFile x code maxLocals ret World_1 tables_1 room_1 Calls_1 rest_1 Pre_1 Post := by
  intro l hfl _ _ p e ha hc hk s m args below hf hA hF happ hP
  obtain ⟨hcalls, hrest, hpre⟩ := hP
  obtain ⟨-, -, -, hnamed, -, -, -, hat⟩ := (Spec.applies_iff hf).mp happ
  obtain ⟨hg, hn⟩ := and_e (Cond.before_iff.mp (show (Jvm.Cond.and given_1 narrow_1).before args s = true from hpre))
  obtain ⟨gc0, gr0⟩ := and_e hg
  obtain ⟨gc1, gr1⟩ := and_e gr0
  obtain ⟨w0, w1, rfl⟩ : ∃ w0 w1 : Value, args = #[w0, w1] := by
    have hs : args.size = 2 := by simpa [Cond.value, given_1] using gc0
    obtain ⟨L⟩ := args
    match L, hs with
    | [w0, w1], _ => exact ⟨w0, w1, rfl⟩
  have hw := fun d (hd : d ∈ tables_1) => atoms_spec (ws := Jvm.Cond.code x code maxLocals ret :: tables_1) hat d (List.mem_cons_of_mem _ hd)
  obtain ⟨i0, ei0⟩ := is_v gc1
  obtain rfl : w0 = (.int i0) := Option.some.inj ei0
  obtain ⟨i1, ei1⟩ := is_v gr1
  obtain rfl : w1 = (.int i1) := Option.some.inj ei1
  obtain ⟨n, o, h1, h2, h3, _, L, rfl, ⟨rfl, N⟩, hq⟩ := own_rm0 l s _ hw tables_1 i0 i1  s.heap s.heap.size (Nat.le_refl _)  p e ha hc hk s m _ below hf ((Spec.applies_iff_loose hf).mp happ).1 ⟨rfl, State.Warmed39.refl s, rfl⟩ trivial
  refine ⟨n, _, h1, h2, h3, hpost _ _ _ _ _ _ ⟨Cond.after_iff.mpr rfl, Cond.after_iff.mpr (eq_i res_at (Term.int_eval (1)) rfl), trivial⟩ ⟨hq.1, hq.2.1, (hq.2.2.sift fun y hy => Or.inr (N y hy)).mono (by decide) (by decide)⟩⟩
theorem main_1_1 : Claimed_1_1 := comes_1 fun _ _ _ _ _ _ h hF => ⟨h.1, hF⟩
theorem main_1_2 : Claimed_1_2 := comes_1 fun _ _ _ _ _ _ h hF => ⟨h.2.1, hF⟩
end Jvm.Pilot.@@N@@
namespace Jvm.Pilot.@@N@@
open Jvm Jvm.ClassFile Sem Op Lib Jvm.Free Jvm.Stand Jvm.Pilot.@@N@@.Jvm.D
/-! MADE BY PROGRAM (witnessworld.py) out of the Statement's table words and the real class files: 11 classes; the members and pool entries that the words name. The judged class is class 1, her method 1. -/
namespace start1
open Jvm.ClassFile
def u (s : String) : CpInfo := .utf8 (stringToUtf16 s)
/-- a pool by its gaps: so many unusable entries, then the entry; so many at the end -/
def gap : Nat → List CpInfo → List CpInfo
  | 0, r => r
  | n + 1, r => .unusable :: gap n r
def poolList (es : List (Nat × CpInfo)) (last : Nat) : List CpInfo := es.foldr (fun e r => gap e.1 (e.2 :: r)) (gap last [])
def pool (es : List (Nat × CpInfo)) (last : Nat) : Array CpInfo := ⟨poolList es last⟩
def fileOf (pool : Array CpInfo) (this : Nat) (attrs : Array Attribute := #[]) (ms : Array MethodInfo := #[]) (fl : Nat := 33) (sup : Nat := 0) (ifs : Array Nat := #[]) (fds : Array FieldInfo := #[]) : ClassFile where
  minorVersion := 0
  majorVersion := 65
  constantPool := pool
  accessFlags := fl
  thisClass := this
  superClass := sup
  interfaces := ifs
  fields := fds
  methods := ms
  attributes := attrs
def plain (name : String) (sup : Option ClassId) : Class where
  name := name
  kind := .ordinary
  loader := none
  accessFlags := 33
  super := sup
  interfaces := #[]
  cf := none
  fields := #[]
  methods := #[]
  instanceTypes := #[]
  staticTypes := #[]
  resolved := #[]
  callSites := []
  init := .initialized
  statics := none
  mirror := none

def pool0 : Array CpInfo := pool [(5, u "<init>"), (0, u "()V"), (1, .class_ 10), (1, u "java/lang/Object")] 113

def k0m0 : Method := { name := "<init>", desc := "()V", sig := { parameters := [], returnType := none }, accessFlags := 1, code := none }
/-- java/lang/Object -/
def k0 : Class := { plain "java/lang/Object" none with
  accessFlags := 33
  interfaces := #[]
  cf := some (fileOf pool0 8 #[] #[{ accessFlags := 1, nameIndex := 5, descriptorIndex := 6, attributes := #[] }] 33 0 #[] #[])
  fields := #[]
  methods := #[k0m0]
  instanceTypes := #[]
  staticTypes := #[]
  resolved := Array.replicate 124 none
  statics := none }

def pool1 : Array CpInfo := pool [(2, .class_ 4), (1, u "java/lang/Object"), (0, u "<init>"), (0, u "()V"), (0, .integer 65296), (0, .integer 2147483647), (0, .methodref 10 11), (0, .class_ 12), (0, .nameAndType 13 14), (0, u "com/example/rollcall/rollcall/http/UriSyntax"), (0, u "isAlphanumeric"), (0, u "(C)Z"), (0, .methodref 16 17), (0, .class_ 18), (0, .nameAndType 19 14), (0, u "com/example/rollcall/rollcall/http/UriSyntaxIsAlphanumericPinLaw"), (0, u "expected"), (2, u "law"), (0, u "(II)Z")] 5

def k1m0 : Method := { name := "<init>", desc := "()V", sig := { parameters := [], returnType := none }, accessFlags := 1, code := none }
def k1c1 : Code := { maxStack := 4, maxLocals := 5, code := code, exceptionTable := #[], attributes := #[] }
def k1m1 : Method := { name := "law", desc := "(II)Z", sig := { parameters := [.int, .int], returnType := some .boolean }, accessFlags := 9, code := some k1c1 }
def k1c2 : Code := { maxStack := 2, maxLocals := 5, code := method_3_code, exceptionTable := #[], attributes := #[] }
def k1m2 : Method := { name := "expected", desc := "(C)Z", sig := { parameters := [.char], returnType := some .boolean }, accessFlags := 10, code := some k1c2 }
/-- com/example/rollcall/rollcall/http/UriSyntaxIsAlphanumericPinLaw -/
def k1 : Class := { plain "com/example/rollcall/rollcall/http/UriSyntaxIsAlphanumericPinLaw" (some 0) with
  accessFlags := 49
  interfaces := #[]
  cf := some (fileOf pool1 16 #[] #[{ accessFlags := 1, nameIndex := 5, descriptorIndex := 6, attributes := #[] }, { accessFlags := 9, nameIndex := 22, descriptorIndex := 23, attributes := #[] }, { accessFlags := 10, nameIndex := 19, descriptorIndex := 14, attributes := #[] }] 49 2 #[] #[])
  fields := #[]
  methods := #[k1m0, k1m1, k1m2]
  instanceTypes := #[]
  staticTypes := #[]
  resolved := Array.replicate 29 none
  statics := none }

def pool2 : Array CpInfo := pool [(1, .class_ 2), (0, u "com/example/rollcall/rollcall/http/UriSyntax"), (1, .class_ 6), (1, u "java/lang/Object"), (0, u "<init>"), (0, u "()V"), (42, u "(C)Z"), (2, u "isAlphanumeric"), (4, u "PATH_SYMBOLS"), (0, u "Ljava/lang/String;"), (1, u "QUERY_SYMBOLS")] 10

def k2m0 : Method := { name := "<init>", desc := "()V", sig := { parameters := [], returnType := none }, accessFlags := 2, code := none }
def k2c1 : Code := { maxStack := 2, maxLocals := 1, code := prog_36_method_5_code, exceptionTable := #[], attributes := #[] }
def k2m1 : Method := { name := "isAlphanumeric", desc := "(C)Z", sig := { parameters := [.char], returnType := some .boolean }, accessFlags := 8, code := some k2c1 }
/-- com/example/rollcall/rollcall/http/UriSyntax -/
def k2 : Class := { plain "com/example/rollcall/rollcall/http/UriSyntax" (some 0) with
  accessFlags := 49
  interfaces := #[]
  cf := some (fileOf pool2 1 #[] #[{ accessFlags := 2, nameIndex := 7, descriptorIndex := 8, attributes := #[] }, { accessFlags := 8, nameIndex := 54, descriptorIndex := 51, attributes := #[] }] 49 4 #[] #[{ accessFlags := 26, nameIndex := 59, descriptorIndex := 60, attributes := #[] }, { accessFlags := 26, nameIndex := 62, descriptorIndex := 60, attributes := #[] }])
  fields := #[{ name := "PATH_SYMBOLS", type := (.object "java/lang/String"), accessFlags := 26, slot := 0, constantValue := 0 }, { name := "QUERY_SYMBOLS", type := (.object "java/lang/String"), accessFlags := 26, slot := 1, constantValue := 0 }]
  methods := #[k2m0, k2m1]
  instanceTypes := #[]
  staticTypes := #[(.object "java/lang/String"), (.object "java/lang/String")]
  resolved := Array.replicate 73 none
  statics := none }

def pool3 : Array CpInfo := pool [(1, u "java/lang/Cloneable"), (0, .class_ 1), (0, u "java/lang/Object"), (0, .class_ 3)] 3

/-- java/lang/Cloneable -/
def k3 : Class := { plain "java/lang/Cloneable" (some 0) with
  accessFlags := 1537
  interfaces := #[]
  cf := some (fileOf pool3 2 #[] #[] 1537 4 #[] #[])
  fields := #[]
  methods := #[]
  instanceTypes := #[]
  staticTypes := #[]
  resolved := Array.replicate 8 none
  statics := none }

def pool4 : Array CpInfo := pool [(1, u "java/io/Serializable"), (0, .class_ 1), (0, u "java/lang/Object"), (0, .class_ 3)] 3

/-- java/io/Serializable -/
def k4 : Class := { plain "java/io/Serializable" (some 0) with
  accessFlags := 1537
  interfaces := #[]
  cf := some (fileOf pool4 2 #[] #[] 1537 4 #[] #[])
  fields := #[]
  methods := #[]
  instanceTypes := #[]
  staticTypes := #[]
  resolved := Array.replicate 8 none
  statics := none }

/-- the primitive byte -/
def k5 : Class := { plain "byte" none with kind := .primitive 'B', accessFlags := 0x411 }
/-- [B -/
def k6 : Class := { plain "[B" (some 0) with kind := .array 5 .byte, interfaces := #[3, 4], accessFlags := 1041 }

/-- the primitive char -/
def k7 : Class := { plain "char" none with kind := .primitive 'C', accessFlags := 0x411 }
/-- [C -/
def k8 : Class := { plain "[C" (some 0) with kind := .array 7 .char, interfaces := #[3, 4], accessFlags := 1041 }

/-- the primitive int -/
def k9 : Class := { plain "int" none with kind := .primitive 'I', accessFlags := 0x411 }
/-- [I -/
def k10 : Class := { plain "[I" (some 0) with kind := .array 9 .int, interfaces := #[3, 4], accessFlags := 1041 }

def heap : Heap := #[]
def classes : Array Class := #[k0, k1, k2, k3, k4, k5, k6, k7, k8, k9, k10]
def interned : List (Array UInt16 × Addr) := []
def slotsUsed : Nat := 0
def theMethod : MethodId := ⟨1, 1⟩
def args0 : Array Value := #[.int 5, .int 7]
def aboutOver (below : List Frame) : State where
  vm := { classes := classes, interned := interned.toArray }
  heap := heap
  slotsUsed := slotsUsed
  threads := #[{ frames := .invoking theMethod args0 :: below }]
def below0 : List Frame := [.native { method := ⟨0, 0⟩, args := #[] }]
def about1 : State := aboutOver below0
def p0 : Program := .bare "" "" ""
def e0 : Env := launch0.env 0 0 0
theorem w_frames : about1.frames = Frame.invoking theMethod args0 :: below0 := rfl
set_option maxRecDepth 65536 in
theorem w_args : argsFit about1.vm theMethod args0 = true := by decide +kernel
set_option maxRecDepth 65536 in
theorem w_heap : heapFits about1 = true := by decide +kernel
set_option maxRecDepth 65536 in
theorem w_runnable : about1.curStatus? = some .runnable := by decide +kernel
set_option maxRecDepth 65536 in
theorem w_alone : about1.alone = true := by decide +kernel
set_option maxRecDepth 65536 in
theorem w_named : about1.methodNamed? x = some theMethod := by decide +kernel
set_option maxRecDepth 65536 in
theorem w_hears : about1.hears theMethod below0 = true := by decide +kernel
set_option maxRecDepth 65536 in
theorem w_ripe : about1.ripe theMethod args0 below0 = true := by decide +kernel
theorem w_running : about1.status = .running := rfl
set_option maxRecDepth 65536 in
theorem w_room : about1.hasRoom e0.platform room_1 = true :=
  launch0.hasRoom_least _ room_1 (by decide +kernel) (by decide +kernel) (by decide +kernel) (by decide +kernel) (by decide +kernel) (by decide +kernel)
theorem allAtoms_all (ts : List Jvm.Cond) (a : Array Jvm.Value) (st : Jvm.State) : (allAtoms ts).before a st = ts.all (fun c => c.before a st) := by
  induction ts with
  | nil => rfl
  | cons c t ih =>
    show (Jvm.Cond.and c (allAtoms t)).before a st = _
    rw [Jvm.Cond.before_and, ih, List.all_cons]
def words1 : List Jvm.Cond := Jvm.Cond.code x code maxLocals ret :: tables_1
/-- a 'code' word, met by the world's own term for the bytes: nothing is compared byte by byte -/
theorem code_word {y : MethodName} {bytes : ByteArray} {mx : Nat} {rt : Option FieldType} {a : Array Value} {s : State} {m : MethodId} {meth : Method} {c : Code} (h1 : s.methodNamed? y = some m) (h2 : s.vm.method? m = some meth) (h3 : meth.code = some c) (h4 : c.code = bytes)
    (h5 : (c.maxLocals == mx && c.exceptionTable.isEmpty && decide (c.maxStack ≤ mostOperands) && decide (meth.sig.returnType = rt) && !meth.locks && decide (parseMethodDescriptor y.desc = some meth.sig)) = true) : (Jvm.Cond.code y bytes mx rt).before a s = true := by
  simp only [Bool.and_eq_true, beq_iff_eq, Bool.not_eq_true', decide_eq_true_eq] at h5
  obtain ⟨⟨⟨⟨⟨g1, g2⟩, g3⟩, g4⟩, g5⟩, g6⟩ := h5
  simp [Cond.before, Cond.holds, Cond.value, h1, h2, h3, h4, g1, g2, g3, g4, g5, g6]
def isCode : Jvm.Cond → Bool
  | .code _ _ _ _ => true
  | _ => false
theorem all_split {L : List Jvm.Cond} {P : Jvm.Cond → Bool} (h1 : L.all (fun c => isCode c || P c) = true) (h2 : ∀ c ∈ L.filter isCode, P c = true) : L.all P = true := by
  refine List.all_eq_true.mpr fun c hc => ?_
  have h := List.all_eq_true.mp h1 c hc
  rcases Bool.eq_false_or_eq_true (isCode c) with hi | hi
  · exact h2 c (List.mem_filter.mpr ⟨hc, hi⟩)
  · simpa [hi] using h
set_option maxRecDepth 65536 in
theorem w_c0 : (Jvm.Cond.code x code maxLocals ret).before args0 about1 = true := code_word (m := ⟨1, 1⟩) (meth := k1m1) (c := k1c1) (by decide +kernel) rfl rfl rfl (by decide +kernel)
set_option maxRecDepth 65536 in
theorem w_c1 : (Jvm.Cond.code ({ cls := "com/example/rollcall/rollcall/http/UriSyntax", name := "isAlphanumeric", desc := "(C)Z" } : Jvm.MethodName) prog_36_method_5_code (1 : Nat) (Option.some Jvm.ClassFile.FieldType.boolean)).before args0 about1 = true := code_word (m := ⟨2, 1⟩) (meth := k2m1) (c := k2c1) (by decide +kernel) rfl rfl rfl (by decide +kernel)
set_option maxRecDepth 65536 in
theorem w_c2 : (Jvm.Cond.code ({ cls := "com/example/rollcall/rollcall/http/UriSyntaxIsAlphanumericPinLaw", name := "expected", desc := "(C)Z" } : Jvm.MethodName) method_3_code (5 : Nat) (Option.some Jvm.ClassFile.FieldType.boolean)).before args0 about1 = true := code_word (m := ⟨1, 2⟩) (meth := k1m2) (c := k1c2) (by decide +kernel) rfl rfl rfl (by decide +kernel)
def codes1 : List Jvm.Cond := [Jvm.Cond.code x code maxLocals ret, Jvm.Cond.code ({ cls := "com/example/rollcall/rollcall/http/UriSyntax", name := "isAlphanumeric", desc := "(C)Z" } : Jvm.MethodName) prog_36_method_5_code (1 : Nat) (Option.some Jvm.ClassFile.FieldType.boolean), Jvm.Cond.code ({ cls := "com/example/rollcall/rollcall/http/UriSyntaxIsAlphanumericPinLaw", name := "expected", desc := "(C)Z" } : Jvm.MethodName) method_3_code (5 : Nat) (Option.some Jvm.ClassFile.FieldType.boolean)]
set_option maxRecDepth 65536 in
theorem codes_eq : words1.filter isCode = codes1 := rfl
theorem w_codes : ∀ c ∈ words1.filter isCode, c.before args0 about1 = true := by
  rw [codes_eq]
  intro c hc
  simp only [codes1, List.mem_cons, List.not_mem_nil, or_false] at hc
  rcases hc with rfl | rfl | rfl
  · exact w_c0
  · exact w_c1
  · exact w_c2
set_option maxRecDepth 65536 in
theorem w_t1 : words1.all (fun c => isCode c || c.before args0 about1) = true := by decide +kernel
theorem w_tables : (allAtoms (Jvm.Cond.code x code maxLocals ret :: tables_1)).before args0 about1 = true := by
  rw [allAtoms_all]
  show words1.all (fun c => c.before args0 about1) = true
  refine all_split ?_ w_codes
  rw [w_t1]
set_option maxRecDepth 65536 in
theorem w_case : (Jvm.Cond.and given_1 narrow_1).before args0 about1 = true := by decide +kernel
theorem w_applies : (headSpec (Jvm.Cond.code x code maxLocals ret :: tables_1) room_1).applies x e0.platform about1 = true :=
  (Spec.applies_iff w_frames).mpr ⟨w_running, w_runnable, w_alone, w_named, w_hears, w_ripe, w_room, w_tables⟩
theorem atStart : AtStart classFile x code maxLocals ret World_1 tables_1 room_1 Calls_1 rest_1 Pre_1 launch0 p0 e0 about1 theMethod args0 below0 :=
  ⟨lists_1, trivial, launch0.admits_env _ _ _, launch0.least_env, fairChoices_fair.cas, fairChoices_fair.clock, w_frames, w_args, w_heap, w_applies, trivial, trivial, w_case⟩
end start1
theorem witness_1 : WitnessClaimed_1 := ⟨start1.p0, start1.e0, start1.about1, start1.theMethod, start1.args0, start1.below0, start1.atStart⟩
end Jvm.Pilot.@@N@@
