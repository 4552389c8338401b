import JvmDerived
import JvmDerived.Pilot.@@N@@Statement
import JvmDerived.Pilot.@@N@@Code
set_option linter.unusedVariables false
set_option linter.unusedSimpArgs false
@@BLOCK:NumsL.lean.txt@@
namespace Jvm.RoadKit
open Sem ClassFile Op Lib Jvm.Stand Jvm.Free Jvm.LawKit
section New
variable {p : Program} {l : Launch} {e : Env} {R : Room} {s : State} {m : MethodId} {args : Array Value} {below : List Frame} {meth : Method} {c : Code} {T : State} {locs : List Loc} {cells slots : Nat}
theorem retI (X : Stand p l e R s m args below meth c T locs cells slots) (hx : p.tables.exec = Jvm.exec) {pc : Nat} {Ls : Array Slot} {z : Int32} {rest : List Value} (hret : meth.sig.returnType = some .int) (hd : decode c.code pc = .ok (.ireturn, 1)) {fs : List Frame}
    (hl : ∀ (f : JFrame) (acts : List Action), f.method = m → f.locked = none → f.entered = [] → (doReturn e (T.setTop f) acts (some (.int z))).1 = T.setFrames fs) : Steps p.tables e below (T.setTop (mkF m pc Ls (.int z :: rest))) (T.setFrames fs) := by
  have hm' : T.vm.method? m = some meth := X.method'
  have hn : narrow .int (.int z) = .int z := rfl
  show Steps p.tables e below (T.setTop { method := m, pc := pc, locals := Ls, stack := _ :: rest, locked := none }) _
  jvm_step X.here [X.here.top, hx, hd, hm', hret, hn]
  first | (intro acts; rw [hl _ acts rfl rfl rfl]) | rw [hl _ _ rfl rfl rfl]
  exact Steps.refl _
end New
end Jvm.RoadKit
namespace Jvm.FP.Core
theorem own_nmono {A B A' B' : Nat} (hB : 0 < B) (hB' : 0 < B') (h : A * B' ≤ A' * B) : nearest A B ≤ nearest A' B' := by
  refine Nat.le_of_not_lt fun hlt => ?_
  obtain ⟨-, s2, -⟩ := nearest_spec A B hB
  obtain ⟨t1, -, -⟩ := nearest_spec A' B' hB'
  have hne : A * B' ≠ A' * B := fun q => by rw [nearest_congr hB hB' q] at hlt; exact Nat.lt_irrefl _ hlt
  generalize nearest A B = n at *
  generalize nearest A' B' = n' at *
  have e1 : 2 * n * B * B' ≤ (2 * A + B) * B' := Nat.mul_le_mul_right _ s2
  have e2 : 2 * A' * B ≤ (2 * n' + 1) * B' * B := Nat.mul_le_mul_right _ t1
  have e3 : (2 * n' + 2) * B * B' ≤ 2 * n * B * B' := Nat.mul_le_mul_right _ (Nat.mul_le_mul_right _ (by omega))
  have a1 : (2 * A + B) * B' = 2 * (A * B') + B * B' := by rw [Nat.add_mul, Nat.mul_assoc]
  have a2 : (2 * n' + 1) * B' * B = 2 * (n' * (B * B')) + B * B' := by
    rw [Nat.add_mul, Nat.add_mul, Nat.one_mul, Nat.mul_comm B' B, Nat.mul_assoc, Nat.mul_assoc, Nat.mul_comm B' B]
  have a3 : (2 * n' + 2) * B * B' = 2 * (n' * (B * B')) + 2 * (B * B') := by
    rw [Nat.add_mul, Nat.add_mul, Nat.mul_assoc, Nat.mul_assoc, Nat.mul_assoc]
  have a4 : 2 * A' * B = 2 * (A' * B) := Nat.mul_assoc _ _ _
  rw [a1] at e1
  rw [a2, a4] at e2
  rw [a3] at e3
  omega
theorem own_ble {A B A' B' : Nat} {k : Int} (hB' : 0 < B') (h : A * B' ≤ A' * B) (b : Below A' B' k) (hB : 0 < B) : Below A B k := by
  unfold Below at *
  have e1 : A * 2 ^ (-k).toNat * B' ≤ A' * 2 ^ (-k).toNat * B := by
    calc A * 2 ^ (-k).toNat * B' = A * B' * 2 ^ (-k).toNat := by ac_rfl
      _ ≤ A' * B * 2 ^ (-k).toNat := Nat.mul_le_mul_right _ h
      _ = A' * 2 ^ (-k).toNat * B := by ac_rfl
  have e2 : A' * 2 ^ (-k).toNat * B < B' * 2 ^ k.toNat * B := (Nat.mul_lt_mul_right hB).mpr b
  have e3 : B' * 2 ^ k.toNat * B = B * 2 ^ k.toNat * B' := by ac_rfl
  rw [e3] at e2
  exact Nat.lt_of_mul_lt_mul_right (Nat.lt_of_le_of_lt e1 e2)
def own_R (A B : Nat) (e : Int) : Nat := if A = 0 then 0 else nearest (unitsNum A e (quantum b64 A B e)) (unitsDen B e (quantum b64 A B e)) * 2 ^ (quantum b64 A B e - b64.qmin).toNat
theorem own_Rmono {A B A' B' : Nat} {e : Int} (hB : 0 < B) (hB' : 0 < B') (h : A * B' ≤ A' * B) : own_R A B e ≤ own_R A' B' e := by
  by_cases hA : A = 0
  · rw [own_R, if_pos hA]
    exact Nat.zero_le _
  have hA0 : 0 < A := Nat.pos_of_ne_zero hA
  have hA' : 0 < A' := by
    rcases Nat.eq_zero_or_pos A' with q | q
    · rw [q, Nat.zero_mul] at h
      have := Nat.mul_pos hA0 hB'
      omega
    · exact q
  have hA'' : ¬ A' = 0 := by omega
  rw [own_R, if_neg hA, own_R, if_neg hA'']
  have qb := quantum_below (f := b64) hA0 hB e
  have qb' := quantum_below (f := b64) hA' hB' e
  have qn := quantum_not_below (f := b64) hA0 hB e
  have qn' := quantum_not_below (f := b64) hA' hB' e
  have g := quantum_ge b64 A B e
  have g' := quantum_ge b64 A' B' e
  have nu := nearest_units_le (f := b64) hA0 hB e
  have hp : (b64.p : Int) = 53 := rfl
  have hle : quantum b64 A B e ≤ quantum b64 A' B' e := by
    refine Int.le_of_not_gt fun hlt => ?_
    rcases qn with q | q
    · omega
    · exact q (own_ble hB' h (below_mono (by omega) qb') hB)
  generalize quantum b64 A B e = q at *
  generalize quantum b64 A' B' e = q' at *
  by_cases heq : q = q'
  · subst heq
    refine Nat.mul_le_mul_right _ (own_nmono (unitsDen_pos hB ..) (unitsDen_pos hB' ..) ?_)
    unfold unitsNum unitsDen
    calc A * 2 ^ (e - q).toNat * (B' * 2 ^ (q - e).toNat) = A * B' * (2 ^ (e - q).toNat * 2 ^ (q - e).toNat) := by ac_rfl
      _ ≤ A' * B * (2 ^ (e - q).toNat * 2 ^ (q - e).toNat) := Nat.mul_le_mul_right _ h
      _ = A' * 2 ^ (e - q).toNat * (B * 2 ^ (q - e).toNat) := by ac_rfl
  · have low : 2 ^ 52 ≤ nearest (unitsNum A' e q') (unitsDen B' e q') := by
      rcases qn' with z | z
      · omega
      · refine nearest_ge (unitsDen_pos hB' ..) ?_
        rw [show q' - e + ((b64.p : Int) - 1) = q' - e + ((52 : Nat) : Int) by rw [hp]; omega, ← units_below] at z
        exact Nat.le_of_not_lt z
    have hp2 : 2 ^ b64.p = 2 ^ 53 := rfl
    rw [hp2] at nu
    have e1 : (q' - b64.qmin).toNat = (q - b64.qmin).toNat + 1 + (q' - q - 1).toNat := by omega
    rw [e1]
    calc nearest (unitsNum A e q) (unitsDen B e q) * 2 ^ (q - b64.qmin).toNat ≤ 2 ^ 53 * 2 ^ (q - b64.qmin).toNat := Nat.mul_le_mul_right _ nu
      _ = 2 ^ 52 * 2 ^ ((q - b64.qmin).toNat + 1) := by rw [Nat.pow_succ 2 (q - b64.qmin).toNat]; omega
      _ ≤ 2 ^ 52 * 2 ^ ((q - b64.qmin).toNat + 1 + (q' - q - 1).toNat) := Nat.mul_le_mul_left _ (Nat.pow_le_pow_right (by decide) (by omega))
      _ ≤ _ := Nat.mul_le_mul_right _ low
theorem own_Rint {A B m : Nat} {e : Int} (hB : 0 < B) (hm : m < 2 ^ 53) (h : A * 2 ^ e.toNat = m * B * 2 ^ (-e).toNat) : own_R A B e = m * 2 ^ 1074 := by
  have hqm : b64.qmin = -1074 := by decide
  have hp : (b64.p : Int) = 53 := rfl
  by_cases hA : A = 0
  · rw [own_R, if_pos hA]
    rw [hA, Nat.zero_mul] at h
    have hz : m * B * 2 ^ (-e).toNat = 0 := h.symm
    rcases Nat.mul_eq_zero.mp hz with q | q
    · rcases Nat.mul_eq_zero.mp q with r | r
      · rw [r, Nat.zero_mul]
      · omega
    · exact absurd q (Nat.ne_of_gt (Nat.two_pow_pos _))
  have hA0 : 0 < A := Nat.pos_of_ne_zero hA
  have hb : Below A B (53 - e) := by
    have e1 : (53 : Int) - e = ((53 + (-e).toNat : Nat) : Int) - (e.toNat : Nat) := by omega
    rw [e1, below_iff, h, Nat.pow_add]
    calc m * B * 2 ^ (-e).toNat = m * (B * 2 ^ (-e).toNat) := by ac_rfl
      _ < 2 ^ 53 * (B * 2 ^ (-e).toNat) := (Nat.mul_lt_mul_right (Nat.mul_pos hB (Nat.two_pow_pos _))).mpr hm
      _ = B * (2 ^ 53 * 2 ^ (-e).toNat) := by ac_rfl
  have hl := lt_of_below (leading_spec hA0 hB).1 hb
  have hq : quantum b64 A B e ≤ 0 := by unfold quantum; omega
  have g := quantum_ge b64 A B e
  rw [own_R, if_neg hA]
  generalize quantum b64 A B e = q at *
  have key : unitsNum A e q = m * 2 ^ (-q).toNat * unitsDen B e q := by
    unfold unitsNum unitsDen
    refine Nat.eq_of_mul_eq_mul_right (Nat.two_pow_pos e.toNat) ?_
    have x1 : (e - q).toNat + (-e).toNat = (-q).toNat + (q - e).toNat + e.toNat := by omega
    calc A * 2 ^ (e - q).toNat * 2 ^ e.toNat = A * 2 ^ e.toNat * 2 ^ (e - q).toNat := by ac_rfl
      _ = m * B * 2 ^ ((e - q).toNat + (-e).toNat) := by rw [h, Nat.pow_add]; ac_rfl
      _ = m * 2 ^ (-q).toNat * (B * 2 ^ (q - e).toNat) * 2 ^ e.toNat := by rw [x1, Nat.pow_add, Nat.pow_add]; ac_rfl
  rw [key, nearest_exact _ (unitsDen_pos hB ..), Nat.mul_assoc, ← Nat.pow_add]
  congr 2
  omega
theorem own_val {s t : Bool} {A B c : Nat} {e q : Int} (hB : 0 < B) (h : roundRatio b64 s A B e = .fin t c q) : t = s ∧ c * 2 ^ (q - b64.qmin).toNat = own_R A B e := by
  unfold roundRatio at h
  by_cases hA : A = 0
  · rw [if_pos hA] at h
    cases h
    rw [own_R, if_pos hA, Nat.zero_mul]
    exact ⟨rfl, rfl⟩
  · rw [if_neg hA] at h
    have hA0 : 0 < A := Nat.pos_of_ne_zero hA
    unfold roundAt at h
    obtain ⟨h1, h2⟩ := settle_value (e0 := b64.qmin) good_b64 (nearest_units_le hA0 hB e) h (quantum_ge ..)
    rw [own_R, if_neg hA]
    exact ⟨h1, h2⟩
theorem own_fin {s : Bool} {A B : Nat} {e a : Int} (hB : 0 < B) (hb : A = 0 ∨ Below A B a) (ha : a + e ≤ 1000) : ∃ c q, roundRatio b64 s A B e = .fin s c q ∧ b64.qmin ≤ q ∧ c * 2 ^ (q - b64.qmin).toNat = own_R A B e := by
  have ft := roundRatio_fits good_b64 s A hB e
  have hex : ∃ c q, roundRatio b64 s A B e = .fin s c q := by
    unfold roundRatio
    by_cases hA : A = 0
    · rw [if_pos hA]
      exact ⟨_, _, rfl⟩
    · rw [if_neg hA]
      have hA0 : 0 < A := Nat.pos_of_ne_zero hA
      have hl := lt_of_below (leading_spec hA0 hB).1 (hb.resolve_left hA)
      have hqx : b64.qmax = 971 := by decide
      have hqm : b64.qmin = -1074 := by decide
      have hp : (b64.p : Int) = 53 := rfl
      have hq : quantum b64 A B e < 971 := by unfold quantum; omega
      unfold roundAt settle bound
      split
      · rw [if_pos (by omega)]
        exact ⟨_, _, rfl⟩
      · rw [if_pos (by omega)]
        exact ⟨_, _, rfl⟩
  obtain ⟨c, q, h⟩ := hex
  rw [h] at ft
  exact ⟨c, q, h, ft.2.1, (own_val hB h).2⟩
theorem own_cmp {a b : Int} {k : Nat} (hk : 0 < k) : compare (a * (k : Int)) (b * (k : Int)) = compare a b := by
  have hk' : (0 : Int) < k := by omega
  have h1 : a * (k : Int) < b * (k : Int) ↔ a < b := Int.mul_lt_mul_right hk'
  have h2 : a * (k : Int) = b * (k : Int) ↔ a = b := ⟨fun q => Int.eq_of_mul_eq_mul_right (by omega) q, fun q => by rw [q]⟩
  simp only [compare, compareOfLessAndEq, h1, h2]
theorem own_ord {s t : Bool} {c d : Nat} {q r : Int} (hq : b64.qmin ≤ q) (hr : b64.qmin ≤ r) : order (.fin s c q) (.fin t d r) = some (compare (signed s (c * 2 ^ (q - b64.qmin).toNat)) (signed t (d * 2 ^ (r - b64.qmin).toNat))) := by
  have hm : b64.qmin ≤ min q r := by omega
  have e1 := inUnits_move c hm (show min q r ≤ q by omega)
  have e2 := inUnits_move d hm (show min q r ≤ r by omega)
  have f1 : c * 2 ^ (q - b64.qmin).toNat = inUnits c q b64.qmin := rfl
  have f2 : d * 2 ^ (r - b64.qmin).toNat = inUnits d r b64.qmin := rfl
  rw [f1, f2, e1, e2, signed_mul, signed_mul, own_cmp (Nat.two_pow_pos _)]
  rfl
theorem own_k1 : own_R (2 ^ 63) 1 0 = 2 ^ 1137 := by decide +kernel
theorem own_k2 : own_R (2 ^ 1190) 1 (-1097) = 2 ^ 1167 := by decide +kernel
theorem own_k3 : 0 < own_R 1 (2 ^ 60) 0 := by decide +kernel
def own_K : UInt64 := 4741671816366391296
def own_C0 : Nat := 1000000000 * 2 ^ 23
theorem own_valK : val64 own_K = .fin false own_C0 (-23) := by decide +kernel
def own_V1 (a : Nat) : Nat := own_R a 1 0
def own_V2 (a : Nat) : Nat := own_R (own_V1 a * own_C0) 1 (-1097)
def own_V3 (a k : Nat) : Nat := own_R (own_V2 a) (own_V1 k) 0
theorem own_V1m {a b : Nat} (h : a ≤ b) : own_V1 a ≤ own_V1 b := own_Rmono (by decide) (by decide) (by omega)
theorem own_V2m {a b : Nat} (h : a ≤ b) : own_V2 a ≤ own_V2 b := own_Rmono (by decide) (by decide) (by have := Nat.mul_le_mul_right own_C0 (own_V1m h); omega)
theorem own_V1i {m : Nat} (hm : m < 2 ^ 53) : own_V1 m = m * 2 ^ 1074 := own_Rint (by decide) hm (by simp)
theorem own_V1one : own_V1 1 = 2 ^ 1074 := by rw [own_V1i (by decide), Nat.one_mul]
theorem own_V1pos {k : Nat} (h : 1 ≤ k) : 2 ^ 1074 ≤ own_V1 k := by
  have := own_V1m h
  rw [own_V1one] at this
  exact this
theorem own_V1max {a : Nat} (h : a ≤ 2 ^ 63) : own_V1 a ≤ 2 ^ 1137 := by
  have := own_V1m h
  have e : own_V1 (2 ^ 63) = 2 ^ 1137 := own_k1
  rw [e] at this
  exact this
theorem own_C0max : own_C0 ≤ 2 ^ 53 := by decide
theorem own_prod {a : Nat} (h : a ≤ 2 ^ 63) : own_V1 a * own_C0 ≤ 2 ^ 1190 := by
  have := Nat.mul_le_mul (own_V1max h) own_C0max
  rw [← Nat.pow_add] at this
  exact this
theorem own_V2max {a : Nat} (h : a ≤ 2 ^ 63) : own_V2 a ≤ 2 ^ 1167 := by
  rw [← own_k2]
  exact own_Rmono (by decide) (by decide) (by have := own_prod h; omega)
theorem own_l2dV (x : Int64) : ∃ c q, val64 (l2d x) = .fin (decide (x.toInt < 0)) c q ∧ b64.qmin ≤ q ∧ c * 2 ^ (q - b64.qmin).toNat = own_V1 x.toInt.natAbs := by
  rw [val64_l2d]
  have hx : x.toInt.natAbs ≤ 2 ^ 63 := by
    have a := x.le_toInt; have b := x.toInt_lt
    omega
  show ∃ c q, roundRatio b64 (decide (x.toInt < 0)) x.toInt.natAbs 1 0 = .fin (decide (x.toInt < 0)) c q ∧ _
  refine own_fin (a := 64) (by decide) (Or.inr ?_) (by decide)
  unfold Below
  show x.toInt.natAbs * 1 < 1 * 2 ^ 64
  omega
theorem own_mulV (x : Int64) : ∃ c q, val64 (dmul (l2d x) own_K) = .fin (decide (x.toInt < 0)) c q ∧ b64.qmin ≤ q ∧ c * 2 ^ (q - b64.qmin).toNat = own_V2 x.toInt.natAbs := by
  obtain ⟨c, q, h1, h2, h3⟩ := own_l2dV x
  have hx : x.toInt.natAbs ≤ 2 ^ 63 := by
    have a := x.le_toInt; have b := x.toInt_lt
    omega
  rw [val64_dmul, h1, own_valK]
  have hs : ((decide (x.toInt < 0)) != false) = decide (x.toInt < 0) := by cases decide (x.toInt < 0) <;> rfl
  show ∃ c' q', roundRatio b64 ((decide (x.toInt < 0)) != false) (c * own_C0) 1 (q + -23) = .fin (decide (x.toInt < 0)) c' q' ∧ _
  rw [hs]
  have hqm : b64.qmin = -1074 := by decide
  have e : roundRatio b64 (decide (x.toInt < 0)) (c * own_C0) 1 (q + -23) = roundRatio b64 (decide (x.toInt < 0)) (own_V1 x.toInt.natAbs * own_C0) 1 (-1097) := by
    refine roundRatio_congr (by decide) (by decide) ?_
    rw [← h3, hqm]
    have z1 : (q + -23 - -1097).toNat = (q - -1074).toNat := by omega
    have z2 : (-1097 - (q + -23)).toNat = 0 := by omega
    rw [z1, z2, Nat.pow_zero]
    ac_rfl
  rw [e]
  refine own_fin (a := 1191) (by decide) (Or.inr ?_) (by decide)
  unfold Below
  have hp := own_prod hx
  have z : (-(1191 : Int)).toNat = 0 := by decide
  have z2 : (1191 : Int).toNat = 1191 := by decide
  rw [z, z2, Nat.pow_zero, Nat.mul_one, Nat.one_mul]
  exact Nat.lt_of_le_of_lt hp (Nat.pow_lt_pow_right (by decide) (by decide))
def own_ops (x n : Int64) : UInt64 := ddiv (dmul (l2d x) own_K) (l2d n)
theorem own_opsV (x n : Int64) (hn : 0 < n.toInt) : ∃ c q, val64 (own_ops x n) = .fin (decide (x.toInt < 0)) c q ∧ b64.qmin ≤ q ∧ c * 2 ^ (q - b64.qmin).toNat = own_V3 x.toInt.natAbs n.toInt.natAbs := by
  obtain ⟨c, q, h1, h2, h3⟩ := own_mulV x
  obtain ⟨d, r, k1, k2, k3⟩ := own_l2dV n
  have hx : x.toInt.natAbs ≤ 2 ^ 63 := by
    have a := x.le_toInt; have b := x.toInt_lt
    omega
  have hn1 : 1 ≤ n.toInt.natAbs := by omega
  have hd : decide (n.toInt < 0) = false := decide_eq_false (by omega)
  rw [own_ops, val64_ddiv, h1, k1, hd]
  have hs : ((decide (x.toInt < 0)) != false) = decide (x.toInt < 0) := by cases decide (x.toInt < 0) <;> rfl
  have vn := own_V1pos hn1
  have p0 : 0 < 2 ^ 1074 := Nat.two_pow_pos 1074
  have hd0 : ¬ d = 0 := fun z => by
    rw [z, Nat.zero_mul] at k3
    rw [← k3] at vn
    exact absurd (Nat.lt_of_lt_of_le p0 vn) (Nat.lt_irrefl 0)
  show ∃ c' q', (if d = 0 then (if c = 0 then .nan else .inf _) else roundRatio b64 ((decide (x.toInt < 0)) != false) c d (q - r)) = Datum.fin (decide (x.toInt < 0)) c' q' ∧ _
  rw [if_neg hd0, hs]
  have e : roundRatio b64 (decide (x.toInt < 0)) c d (q - r) = roundRatio b64 (decide (x.toInt < 0)) (own_V2 x.toInt.natAbs) (own_V1 n.toInt.natAbs) 0 := by
    refine roundRatio_congr (Nat.pos_of_ne_zero hd0) (Nat.lt_of_lt_of_le p0 vn) ?_
    rw [← h3, ← k3]
    have z : (r - b64.qmin).toNat + (q - r - 0).toNat = (q - b64.qmin).toNat + (0 - (q - r)).toNat := by omega
    calc c * (d * 2 ^ (r - b64.qmin).toNat) * 2 ^ (q - r - 0).toNat = c * d * 2 ^ ((r - b64.qmin).toNat + (q - r - 0).toNat) := by rw [Nat.pow_add]; ac_rfl
      _ = c * 2 ^ (q - b64.qmin).toNat * d * 2 ^ (0 - (q - r)).toNat := by rw [z, Nat.pow_add]; ac_rfl
  rw [e]
  refine own_fin (a := 100) (Nat.lt_of_lt_of_le p0 vn) (Or.inr ?_) (by decide)
  unfold Below
  have z : (-(100 : Int)).toNat = 0 := by decide
  have z2 : (100 : Int).toNat = 100 := by decide
  rw [z, z2, Nat.pow_zero, Nat.mul_one]
  calc own_V2 x.toInt.natAbs ≤ 2 ^ 1167 := own_V2max hx
    _ < 2 ^ 1174 := Nat.pow_lt_pow_right (by decide) (by decide)
    _ = 2 ^ 1074 * 2 ^ 100 := by rw [← Nat.pow_add]
    _ ≤ own_V1 n.toInt.natAbs * 2 ^ 100 := Nat.mul_le_mul_right _ vn
theorem own_noNaN {a : UInt64} {s : Bool} {c : Nat} {q : Int} (h : val64 a = .fin s c q) : Core.dIsNaN a = false := by
  show decide (decode b64 a.toNat = .nan) = false
  have h' : decode b64 a.toNat = .fin s c q := h
  rw [h']
  exact decide_eq_false nofun
def own_S (x : Int) (v : Nat) : Int := signed (decide (x < 0)) v
theorem own_dcmp (x y n k : Int64) (hn : 0 < n.toInt) (hk : 0 < k.toInt) : dcmp (own_ops x n) (own_ops y k) = some (compare (own_S x.toInt (own_V3 x.toInt.natAbs n.toInt.natAbs)) (own_S y.toInt (own_V3 y.toInt.natAbs k.toInt.natAbs))) := by
  obtain ⟨c, q, h1, h2, h3⟩ := own_opsV x n hn
  obtain ⟨d, r, k1, k2, k3⟩ := own_opsV y k hk
  show order (val64 (own_ops x n)) (val64 (own_ops y k)) = _
  rw [h1, k1, own_ord h2 k2, h3, k3]
  rfl
theorem own_V3pos {a k : Nat} (ha : 1 ≤ a) (hk : 1 ≤ k) (hk2 : k ≤ 2 ^ 63) : 0 < own_V3 a k := by
  refine Nat.lt_of_lt_of_le own_k3 ?_
  have p0 : 0 < 2 ^ 1074 := Nat.two_pow_pos 1074
  refine own_Rmono (Nat.two_pow_pos 60) (Nat.lt_of_lt_of_le p0 (own_V1pos hk)) ?_
  have v2 : 1000000000 * 2 ^ 1074 ≤ own_V2 a := by
    have e : own_V2 1 = 1000000000 * 2 ^ 1074 := by
      rw [own_V2, own_V1one]
      refine own_Rint (by decide) (by decide) ?_
      have z : (-1097 : Int).toNat = 0 := by decide
      have z2 : (-(-1097 : Int)).toNat = 1097 := by decide
      rw [z, z2, Nat.pow_zero, Nat.mul_one, Nat.mul_one, own_C0, show (1097 : Nat) = 1074 + 23 from rfl, Nat.pow_add]
      generalize (2 : Nat) ^ 1074 = w
      generalize (2 : Nat) ^ 23 = u
      ac_rfl
    rw [← e]
    exact own_V2m ha
  have v1 := own_V1max hk2
  calc 1 * own_V1 k ≤ 2 ^ 1137 := by rw [Nat.one_mul]; exact v1
    _ = 2 ^ 1074 * 2 ^ 63 := by rw [← Nat.pow_add]
    _ ≤ 2 ^ 1074 * (1000000000 * 2 ^ 60) := Nat.mul_le_mul_left _ (by decide)
    _ = 1000000000 * 2 ^ 1074 * 2 ^ 60 := by generalize (2 : Nat) ^ 1074 = w; generalize (2 : Nat) ^ 60 = u; ac_rfl
    _ ≤ own_V2 a * 2 ^ 60 := Nat.mul_le_mul_right _ v2
theorem own_V3zero (k : Nat) : own_V3 0 k = 0 := by
  have e1 : own_V1 0 = 0 := by rw [own_V1, own_R, if_pos rfl]
  have e2 : own_V2 0 = 0 := by rw [own_V2, e1, Nat.zero_mul, own_R, if_pos rfl]
  rw [own_V3, e2, own_R, if_pos rfl]
theorem own_V3m {a b k : Nat} (h : a ≤ b) (hk : 1 ≤ k) : own_V3 a k ≤ own_V3 b k := by
  have p0 : 0 < 2 ^ 1074 := Nat.two_pow_pos 1074
  exact own_Rmono (Nat.lt_of_lt_of_le p0 (own_V1pos hk)) (Nat.lt_of_lt_of_le p0 (own_V1pos hk)) (Nat.mul_le_mul_right _ (own_V2m h))
theorem own_V3i {a d : Nat} (ha : a ≤ 4095) (hd : d ≤ 1024) (hd1 : 1 ≤ d) : own_V3 (a * d) d = (a * 1000000000) * 2 ^ 1074 := by
  have hm : a * d ≤ 4095 * 1024 := Nat.mul_le_mul ha hd
  have e1 : own_V1 (a * d) = a * d * 2 ^ 1074 := own_V1i (by omega)
  have e2 : own_V2 (a * d) = a * d * 1000000000 * 2 ^ 1074 := by
    rw [own_V2, e1]
    refine own_Rint (by decide) (by omega) ?_
    have z : (-1097 : Int).toNat = 0 := by decide
    have z2 : (-(-1097 : Int)).toNat = 1097 := by decide
    rw [z, z2, Nat.pow_zero, Nat.mul_one, Nat.mul_one, own_C0, show (1097 : Nat) = 1074 + 23 from rfl, Nat.pow_add]
    generalize (2 : Nat) ^ 1074 = w
    generalize (2 : Nat) ^ 23 = u
    ac_rfl
  have e3 : own_V1 d = d * 2 ^ 1074 := own_V1i (by omega)
  rw [own_V3, e2, e3]
  refine own_Rint (Nat.mul_pos hd1 (Nat.two_pow_pos 1074)) (by omega) ?_
  show a * d * 1000000000 * 2 ^ 1074 * 2 ^ 0 = a * 1000000000 * (d * 2 ^ 1074) * 2 ^ 0
  generalize (2 : Nat) ^ 1074 = w
  ac_rfl
theorem own_sg0 (x : Int) (v : Nat) : own_S x v = if x < 0 then -(v : Int) else (v : Int) := by
  unfold own_S signed
  by_cases h : x < 0
  · rw [if_pos h, if_pos (decide_eq_true h)]
  · rw [if_neg h, decide_eq_false h]; rfl
theorem own_E1 (qq dd : Int64) (h1 : qq.toInt.natAbs ≤ 4095) (h2 : 1 ≤ dd.toInt) (h3 : dd.toInt ≤ 1024) : dcmp (own_ops (qq * dd) dd) (l2d (qq * 1000000000)) = some .eq := by
  have b1 : (qq.toInt * dd.toInt).natAbs ≤ 4095 * 1024 := by rw [Int.natAbs_mul]; exact Nat.mul_le_mul h1 (by omega)
  have e1 : (qq * dd).toInt = qq.toInt * dd.toInt := by
    rw [Int64.toInt_mul]
    exact Int.bmod_eq_of_le (by omega) (by omega)
  have k0 : (1000000000 : Int64).toInt = 1000000000 := by decide
  have e2 : (qq * 1000000000).toInt = qq.toInt * 1000000000 := by
    rw [Int64.toInt_mul, k0]
    exact Int.bmod_eq_of_le (by omega) (by omega)
  obtain ⟨c, q, x1, x2, x3⟩ := own_opsV (qq * dd) dd (by omega)
  obtain ⟨d, r, y1, y2, y3⟩ := own_l2dV (qq * 1000000000)
  show order (val64 (own_ops (qq * dd) dd)) (val64 (l2d (qq * 1000000000))) = _
  rw [x1, y1, own_ord x2 y2, x3, y3, e1, e2]
  have n1 : (qq.toInt * dd.toInt).natAbs = qq.toInt.natAbs * dd.toInt.natAbs := Int.natAbs_mul ..
  have n2 : (qq.toInt * 1000000000).natAbs = qq.toInt.natAbs * 1000000000 := Int.natAbs_mul ..
  have v1 := own_V3i (a := qq.toInt.natAbs) (d := dd.toInt.natAbs) h1 (by omega) (by omega)
  have v2 : own_V1 (qq.toInt.natAbs * 1000000000) = qq.toInt.natAbs * 1000000000 * 2 ^ 1074 := own_V1i (by omega)
  have s1 : decide (qq.toInt * dd.toInt < 0) = decide (qq.toInt * 1000000000 < 0) := by
    have i1 : qq.toInt * dd.toInt < 0 ↔ qq.toInt < 0 := ⟨fun z => Int.lt_of_not_ge fun w => absurd (Int.mul_nonneg w (show 0 ≤ dd.toInt by omega)) (by omega), fun z => Int.mul_neg_of_neg_of_pos z (by omega)⟩
    have i2 : qq.toInt * 1000000000 < 0 ↔ qq.toInt < 0 := by omega
    exact decide_eq_decide.mpr (i1.trans i2.symm)
  rw [n1, n2, v1, v2, s1]
  simp [compare, compareOfLessAndEq]
theorem own_E2 (x y n : Int64) (hn : 1 ≤ n.toInt) (h : x.toInt ≤ y.toInt) : dcmp (own_ops x n) (own_ops y n) = some .lt ∨ dcmp (own_ops x n) (own_ops y n) = some .eq := by
  rw [own_dcmp x y n n (by omega) (by omega), own_sg0, own_sg0]
  have hn1 : 1 ≤ n.toInt.natAbs := by omega
  have key : (if x.toInt < 0 then -(own_V3 x.toInt.natAbs n.toInt.natAbs : Int) else (own_V3 x.toInt.natAbs n.toInt.natAbs : Int)) ≤ (if y.toInt < 0 then -(own_V3 y.toInt.natAbs n.toInt.natAbs : Int) else (own_V3 y.toInt.natAbs n.toInt.natAbs : Int)) := by
    by_cases hx : x.toInt < 0
    · by_cases hy : y.toInt < 0
      · rw [if_pos hx, if_pos hy]
        have := own_V3m (a := y.toInt.natAbs) (b := x.toInt.natAbs) (k := n.toInt.natAbs) (by omega) hn1
        omega
      · rw [if_pos hx, if_neg hy]
        omega
    · have hy : ¬ y.toInt < 0 := by omega
      rw [if_neg hx, if_neg hy]
      have := own_V3m (a := x.toInt.natAbs) (b := y.toInt.natAbs) (k := n.toInt.natAbs) (by omega) hn1
      omega
  revert key
  generalize (if x.toInt < 0 then -(own_V3 x.toInt.natAbs n.toInt.natAbs : Int) else (own_V3 x.toInt.natAbs n.toInt.natAbs : Int)) = u
  generalize (if y.toInt < 0 then -(own_V3 y.toInt.natAbs n.toInt.natAbs : Int) else (own_V3 y.toInt.natAbs n.toInt.natAbs : Int)) = w
  intro key
  by_cases q : u < w
  · left
    simp [compare, compareOfLessAndEq, q]
  · right
    have e : u = w := by omega
    simp [compare, compareOfLessAndEq, e]
theorem own_d0 : val64 (0 : UInt64) = .fin false 0 b64.qmin := by decide +kernel
theorem own_E3 (x n : Int64) (hn : 1 ≤ n.toInt) : (0 < x.toInt → dcmp (own_ops x n) 0 = some .gt) ∧ (x.toInt < 0 → dcmp (own_ops x n) 0 = some .lt) ∧ (x.toInt = 0 → dcmp (own_ops x n) 0 = some .eq) := by
  obtain ⟨c, q, x1, x2, x3⟩ := own_opsV x n (by omega)
  have e : dcmp (own_ops x n) 0 = some (compare (own_S x.toInt (own_V3 x.toInt.natAbs n.toInt.natAbs)) 0) := by
    show order (val64 (own_ops x n)) (val64 0) = _
    rw [x1, own_d0, own_ord x2 (Int.le_refl _), x3, Nat.zero_mul]
    rfl
  rw [e, own_sg0]
  have hb := n.toInt_lt
  refine ⟨fun h => ?_, fun h => ?_, fun h => ?_⟩
  · have p := own_V3pos (a := x.toInt.natAbs) (k := n.toInt.natAbs) (by omega) (by omega) (by omega)
    rw [if_neg (by omega)]
    generalize own_V3 x.toInt.natAbs n.toInt.natAbs = v at p
    have a1 : ¬ ((v : Int) < 0) := by omega
    have a2 : ¬ ((v : Int) = 0) := by omega
    simp only [compare, compareOfLessAndEq, if_neg a1, if_neg a2]
  · have p := own_V3pos (a := x.toInt.natAbs) (k := n.toInt.natAbs) (by omega) (by omega) (by omega)
    rw [if_pos h]
    generalize own_V3 x.toInt.natAbs n.toInt.natAbs = v at p
    have a1 : -(v : Int) < 0 := by omega
    simp only [compare, compareOfLessAndEq, if_pos a1]
  · rw [h, if_neg (by decide)]
    show some (compare ((own_V3 0 n.toInt.natAbs : Nat) : Int) 0) = _
    rw [own_V3zero]
    rfl
end Jvm.FP.Core
namespace Jvm.Free.XS
open Sem ClassFile Op Lib
section Dbl
variable {tb : Tables} [Ours tb] {e : Env} {below : List Frame} {T target : State} {m : MethodId} {c : Code} {g : JFrame}
theorem own_l2d (h : At T m c below) (hx : tb.exec = Jvm.exec) (hg : g.method = m) {x : Int64} {rest : List Value} (hd : decode c.code g.pc = .ok (.l2d, 1)) (hs : g.stack = .long x :: rest) (hr : Steps tb e below (T.setTop { g with pc := g.pc + 1, stack := .double (FP.l2d x) :: rest }) target) : Steps tb e below (T.setTop g) target := by
  subst hg
  jvm_step h [h.top, hx, hd, hs]
  exact hr
theorem own_dload (h : At T m c below) (hx : tb.exec = Jvm.exec) (hg : g.method = m) {k : Nat} {x : UInt64} (hd : decode c.code g.pc = .ok (.dload k, 2)) (hl : g.locals[k]? = some (.val (.double x))) (hr : Steps tb e below (T.setTop { g with pc := g.pc + 2, stack := .double x :: g.stack }) target) : Steps tb e below (T.setTop g) target := by
  subst hg
  jvm_step h [h.top, hx, hd, hl]
  exact hr
theorem own_dloadN (h : At T m c below) (hx : tb.exec = Jvm.exec) (hg : g.method = m) {k : Fin 4} {x : UInt64} (hd : decode c.code g.pc = .ok (.dload_n k, 1)) (hl : g.locals[k.val]? = some (.val (.double x))) (hr : Steps tb e below (T.setTop { g with pc := g.pc + 1, stack := .double x :: g.stack }) target) : Steps tb e below (T.setTop g) target := by
  subst hg
  jvm_step h [h.top, hx, hd, hl]
  exact hr
theorem own_dstore (h : At T m c below) (hx : tb.exec = Jvm.exec) (hg : g.method = m) {k : Nat} {x : UInt64} {rest : List Value} {l' : Array Slot} (hd : decode c.code g.pc = .ok (.dstore k, 2)) (hs : g.stack = .double x :: rest) (hl : storeLocals g.locals k (.double x) = some l') (hr : Steps tb e below (T.setTop { g with pc := g.pc + 2, stack := rest, locals := l' }) target) : Steps tb e below (T.setTop g) target := by
  subst hg
  jvm_step h [h.top, hx, hd, hs, hl]
  exact hr
theorem own_dconst (h : At T m c below) (hx : tb.exec = Jvm.exec) (hg : g.method = m) (hd : decode c.code g.pc = .ok (.dconst 0, 1)) (hr : Steps tb e below (T.setTop { g with pc := g.pc + 1, stack := .double (0 : UInt64) :: g.stack }) target) : Steps tb e below (T.setTop g) target := by
  subst hg
  jvm_step h [h.top, hx, hd]
  exact hr
theorem own_dcmpI (h : At T m c below) (hx : tb.exec = Jvm.exec) (hg : g.method = m) {op : CmpOp} {x y : UInt64} {rest : List Value} (hd : decode c.code g.pc = .ok (.dcmp op, 1)) (hs : g.stack = .double y :: .double x :: rest) (hr : Steps tb e below (T.setTop { g with pc := g.pc + 1, stack := .int (cmpValue (FP.dcmp x y) op) :: rest }) target) : Steps tb e below (T.setTop g) target := by
  subst hg
  jvm_step h [h.top, hx, hd, hs]
  exact hr
theorem own_dmul (h : At T m c below) (hx : tb.exec = Jvm.exec) (hg : g.method = m) {x y : UInt64} {rest : List Value} (hd : decode c.code g.pc = .ok (.dmul, 1)) (hs : g.stack = .double y :: .double x :: rest) (hn : Jvm.Free.Fl.NoNaN64 (FP.dmul x y)) (hr : Steps tb e below (T.setTop { g with pc := g.pc + 1, stack := .double (FP.dmul x y) :: rest }) target) : Steps tb e below (T.setTop g) target := by
  subst hg
  jvm_step h [hx, hd, dmul.wp_number (e := e) (s := T) (f := g) h.top hs hn]
  exact hr
theorem own_ddiv (h : At T m c below) (hx : tb.exec = Jvm.exec) (hg : g.method = m) {x y : UInt64} {rest : List Value} (hd : decode c.code g.pc = .ok (.ddiv, 1)) (hs : g.stack = .double y :: .double x :: rest) (hn : Jvm.Free.Fl.NoNaN64 (FP.ddiv x y)) (hr : Steps tb e below (T.setTop { g with pc := g.pc + 1, stack := .double (FP.ddiv x y) :: rest }) target) : Steps tb e below (T.setTop g) target := by
  subst hg
  jvm_step h [hx, hd, ddiv.wp_number (e := e) (s := T) (f := g) h.top hs hn]
  exact hr
end Dbl
end Jvm.Free.XS
namespace Jvm.Pilot.@@N@@
open Jvm Jvm.ClassFile Sem Op Lib Jvm.Free Jvm.Stand Jvm.LawKit Jvm.RoadKit Bundle Jvm.Pilot.@@N@@.Jvm.D
/-- a step ahead of a run that ends -/
theorem own_go {p : Program} {e : Env} {below : List Frame} {P : State → Outcome → Prop} {a b : State} (h : ∀ t, Steps p.tables e below b t → Steps p.tables e below a t) (k : ∃ s₂ o, Steps p.tables e below b s₂ ∧ P s₂ o) : ∃ s₂ o, Steps p.tables e below a s₂ ∧ P s₂ o := by
  obtain ⟨t, o, h1, h2⟩ := k; exact ⟨t, o, h t h1, h2⟩
section Steps
variable {p : Program} {l : Launch} {e : Env} {R : Room} {s : State} {m : MethodId} {args : Array Value} {below : List Frame} {meth : Method} {c : Code} {T target : State} {locs : List Loc} {cells slots : Nat} {g : JFrame} {B : ByteArray}
abbrev xaloadN (X : Stand p l e R s m args below meth c T locs cells slots) (hx : p.tables.exec = Jvm.exec) (hby : c.code = B) (hg : g.method = m) {k : Fin 4} {v : Value} (hd : decode B g.pc = .ok (.aload_n k, 1)) := Jvm.Free.XS.aloadN (e := e) (target := target) (k := k) (v := v) X.here hx hg (hb hby hd)
abbrev xdup (X : Stand p l e R s m args below meth c T locs cells slots) (hx : p.tables.exec = Jvm.exec) (hby : c.code = B) (hg : g.method = m) {x : Value} {rest : List Value} (hd : decode B g.pc = .ok (.dup, 1)) := Jvm.Free.XS.dup (e := e) (target := target) (x := x) (rest := rest) X.here hx hg (hb hby hd)
abbrev xgoto (X : Stand p l e R s m args below meth c T locs cells slots) (hx : p.tables.exec = Jvm.exec) (hby : c.code = B) (hg : g.method = m) {o : Int} (pc0 pc' : Nat) (hpc : g.pc = pc0) (hd : decode B g.pc = .ok (.goto o, 3)) := Jvm.Free.XS.goto (e := e) (target := target) (o := o) (pc0 := pc0) (pc' := pc') X.here hx hg hpc (hb hby hd)
abbrev xiadd (X : Stand p l e R s m args below meth c T locs cells slots) (hx : p.tables.exec = Jvm.exec) (hby : c.code = B) (hg : g.method = m) {x y : Int32} {rest : List Value} (hd : decode B g.pc = .ok (.iadd, 1)) := Jvm.Free.XS.iadd (e := e) (target := target) (x := x) (y := y) (rest := rest) X.here hx hg (hb hby hd)
abbrev xiand (X : Stand p l e R s m args below meth c T locs cells slots) (hx : p.tables.exec = Jvm.exec) (hby : c.code = B) (hg : g.method = m) {x y : Int32} {rest : List Value} (hd : decode B g.pc = .ok (.iand, 1)) := Jvm.Free.XS.iand (e := e) (target := target) (x := x) (y := y) (rest := rest) X.here hx hg (hb hby hd)
abbrev xiconst (X : Stand p l e R s m args below meth c T locs cells slots) (hx : p.tables.exec = Jvm.exec) (hby : c.code = B) (hg : g.method = m) {i : Int} (hd : decode B g.pc = .ok (.iconst i, 1)) := Jvm.Free.XS.iconst (e := e) (target := target) (i := i) X.here hx hg (hb hby hd)
abbrev xifNo (X : Stand p l e R s m args below meth c T locs cells slots) (hx : p.tables.exec = Jvm.exec) (hby : c.code = B) (hg : g.method = m) {cd : ClassFile.Cond} {o : Int} {x : Int32} {rest : List Value} (hd : decode B g.pc = .ok (.ifCond cd o, 3)) := Jvm.Free.XS.ifNo (e := e) (target := target) (cd := cd) (o := o) (x := x) (rest := rest) X.here hx hg (hb hby hd)
abbrev xifYes (X : Stand p l e R s m args below meth c T locs cells slots) (hx : p.tables.exec = Jvm.exec) (hby : c.code = B) (hg : g.method = m) {cd : ClassFile.Cond} {x : Int32} {rest : List Value} {o : Int} (pc0 pc' : Nat) (hpc : g.pc = pc0) (hd : decode B g.pc = .ok (.ifCond cd o, 3)) := Jvm.Free.XS.ifYes (e := e) (target := target) (cd := cd) (x := x) (rest := rest) (o := o) (pc0 := pc0) (pc' := pc') X.here hx hg hpc (hb hby hd)
abbrev xiload (X : Stand p l e R s m args below meth c T locs cells slots) (hx : p.tables.exec = Jvm.exec) (hby : c.code = B) (hg : g.method = m) {k : Nat} {v : Int32} (hd : decode B g.pc = .ok (.iload k, 2)) := Jvm.Free.XS.iload (e := e) (target := target) (k := k) (v := v) X.here hx hg (hb hby hd)
abbrev xirem (X : Stand p l e R s m args below meth c T locs cells slots) (hx : p.tables.exec = Jvm.exec) (hby : c.code = B) (hg : g.method = m) {x y : Int32} {rest : List Value} (hd : decode B g.pc = .ok (.irem, 1)) := Jvm.Free.XS.irem (e := e) (target := target) (x := x) (y := y) (rest := rest) X.here hx hg (hb hby hd)
abbrev xistore (X : Stand p l e R s m args below meth c T locs cells slots) (hx : p.tables.exec = Jvm.exec) (hby : c.code = B) (hg : g.method = m) {k : Nat} {x : Int32} {rest : List Value} {l' : Array Slot} (hd : decode B g.pc = .ok (.istore k, 2)) := Jvm.Free.XS.istore (e := e) (target := target) (k := k) (x := x) (rest := rest) (l' := l') X.here hx hg (hb hby hd)
abbrev xsipush (X : Stand p l e R s m args below meth c T locs cells slots) (hx : p.tables.exec = Jvm.exec) (hby : c.code = B) (hg : g.method = m) {i : Int} (hd : decode B g.pc = .ok (.sipush i, 3)) := Jvm.Free.XS.sipush (e := e) (target := target) (i := i) X.here hx hg (hb hby hd)
end Steps

theorem own_in {T : State} {h : Heap} {a : Addr} {c : Cell} (e : T.heap = h) (q : h[a]? = some c) : T.heap[a]? = some c := by rw [e]; exact q
theorem nNl {a : Addr} : a ∉ ([] : List Addr) := List.not_mem_nil
theorem nl {a n b : Nat} (h : a < n) (h2 : n ≤ b) : a ≠ b := Nat.ne_of_lt (Nat.lt_of_lt_of_le h h2)
theorem wd {Z : State} {a0 : Array Value} (hw : ∀ d ∈ tables_1, d.before a0 Z = true) (i : Nat) {d : Jvm.Cond} (h : tables_1[i]? = some d) : d.before a0 Z = true := hw d (List.mem_of_getElem? h)
theorem nv {r : Option FieldType} {t : FieldType} {v : Option Value} (h : r = some t) : r = none → v = none := fun q => by rw [h] at q; cases q
theorem retA {p : Program} {l : Launch} {e : Env} {R : Room} {s : State} {m : MethodId} {args : Array Value} {below : List Frame} {meth : Method} {c : Code} {T : State} {locs : List Loc} {cells slots : Nat} (X : Stand p l e R s m args below meth c T locs cells slots) (hx : p.tables.exec = Jvm.exec) {pc : Nat} {Ls : Array Slot} {w : Value} {t : FieldType} {rest : List Value} (hret : meth.sig.returnType = some t) (hd : decode c.code pc = .ok (.areturn, 1)) {fs : List Frame} (hl : ∀ (f : JFrame) (acts : List Action), f.method = m → f.locked = none → f.entered = [] → (doReturn e (T.setTop f) acts (some w)).1 = T.setFrames fs) (hn : narrow t w = w := by rfl) (ht : t.isReference = true := by rfl) (hw : w.isRef = true := by rfl) : Steps p.tables e below (T.setTop (mkF m pc Ls (w :: rest))) (T.setFrames fs) := retOut X hx hret hn (Or.inr (Or.inr (Or.inr (Or.inr ⟨rfl, ht, hw⟩)))) hd hl
theorem retL {p : Program} {l : Launch} {e : Env} {R : Room} {s : State} {m : MethodId} {args : Array Value} {below : List Frame} {meth : Method} {c : Code} {T : State} {locs : List Loc} {cells slots : Nat} (X : Stand p l e R s m args below meth c T locs cells slots) (hx : p.tables.exec = Jvm.exec) {pc : Nat} {Ls : Array Slot} {z : Int64} {rest : List Value} (hret : meth.sig.returnType = some .long) (hd : decode c.code pc = .ok (.lreturn, 1)) {fs : List Frame} (hl : ∀ (f : JFrame) (acts : List Action), f.method = m → f.locked = none → f.entered = [] → (doReturn e (T.setTop f) acts (some (.long z))).1 = T.setFrames fs) : Steps p.tables e below (T.setTop (mkF m pc Ls (.long z :: rest))) (T.setFrames fs) := retOut X hx hret rfl (Or.inr (Or.inl ⟨rfl, rfl, _, rfl⟩)) hd hl
theorem retD {p : Program} {l : Launch} {e : Env} {R : Room} {s : State} {m : MethodId} {args : Array Value} {below : List Frame} {meth : Method} {c : Code} {T : State} {locs : List Loc} {cells slots : Nat} (X : Stand p l e R s m args below meth c T locs cells slots) (hx : p.tables.exec = Jvm.exec) {pc : Nat} {Ls : Array Slot} {z : UInt64} {rest : List Value} (hret : meth.sig.returnType = some .double) (hd : decode c.code pc = .ok (.dreturn, 1)) {fs : List Frame} (hl : ∀ (f : JFrame) (acts : List Action), f.method = m → f.locked = none → f.entered = [] → (doReturn e (T.setTop f) acts (some (.double z))).1 = T.setFrames fs) : Steps p.tables e below (T.setTop (mkF m pc Ls (.double z :: rest))) (T.setFrames fs) := retOut X hx hret rfl (Or.inr (Or.inr (Or.inl ⟨rfl, rfl, _, rfl⟩))) hd hl
theorem own_ret {p : Program} {l : Launch} {e : Env} {R : Room} {s : State} {m : MethodId} {args : Array Value} {below : List Frame} {meth : Method} {c : Code} {T a : State} {locs : List Loc} {cells slots kc ks : Nat} {h : Heap} {Q : Option Value → Heap → List Loc → Prop} {v : Option Value} (X : Stand p l e R s m args below meth c T locs cells slots) (eT : T.heap = h) (hlk : meth.locks = false) (hv : meth.sig.returnType = none → v = none) (hst : ∀ fs, (∀ (f : JFrame) (acts : List Action), f.method = m → f.locked = none → f.entered = [] → (doReturn e (T.setTop f) acts v).1 = T.setFrames fs) → Steps p.tables e below a (T.setFrames fs)) (hQ : Q v h locs) (hcs : cells ≤ kc ∧ slots ≤ ks) : ∃ s₂ o, Steps p.tables e below a s₂ ∧ s₂.status = .running ∧ Ended s₂ below o ∧ ∃ v L, o = .returned v ∧ Q v s₂.heap L ∧ FrameEnd s o s₂ L kc ks := by
  obtain ⟨fs, hr, hrun, hended, hW, hsame⟩ := X.leave (v := v) hv hlk
  refine ⟨_, _, hst fs hr, hrun, hended, v, locs, rfl, ?_, ⟨_, rfl⟩, hW, hsame.mono hcs.1 hcs.2⟩
  show Q v T.heap locs
  rw [eT]
  exact hQ
abbrev own_M (l : Launch) (Z : State) (y : MethodName) (B : ByteArray) (ml : Nat) (rt : Option FieldType) (ws : List Jvm.Cond) (rm : Room) (as' : Array Value) (h0 : Heap) (Q : Option Value → Heap → List Loc → Prop) : Prop := MetFree l y (head1 (Jvm.Cond.code y B ml rt :: ws) rm) (fun a U => a = as' ∧ Z.Warmed39 U.vm ∧ U.heap = h0) (fun _ _ _ _ _ => True) (fun _ U o U' => ∃ v L, o = .returned v ∧ Q v U'.heap L ∧ FrameEnd U o U' L rm.cells rm.slots)
theorem own_begin {l : Launch} {Z : State} {y : MethodName} {B : ByteArray} {ml : Nat} {rt : Option FieldType} {ws : List Jvm.Cond} {rm : Room} {as' : Array Value} {h0 : Heap} {n0 : Nat} {Q : Option Value → Heap → List Loc → Prop} {f0 : JFrame} (hp : plainFor y = true) (hf : ∀ m, entryFrame m as' ml = { f0 with method := m })
    (body : ∀ p e s m below meth c s₁, BodyLoose p l y (head1 (Jvm.Cond.code y B ml rt :: ws) rm) B ml rt e s m as' below meth c s₁ → Z.Warmed39 s.vm → p.tables.exec = Jvm.exec → c.code = B → c.maxLocals = ml → s.vm.findClass y.cls = some m.cls → meth.name = y.name → Stand p l e rm s m as' below meth c s₁ [] 0 0 → s₁.heap = h0 → Fr n0 [] → ∃ s₂ o, Steps p.tables e below (s₁.setTop { f0 with method := m }) s₂ ∧ s₂.status = .running ∧ Ended s₂ below o ∧ ∃ v L, o = .returned v ∧ Q v s₂.heap L ∧ FrameEnd s o s₂ L rm.cells rm.slots) : own_M l Z y B ml rt ws rm as' h0 Q := by
  refine MetFree.of_bodySF hp hisR ?_
  intro p e s m args below meth c s₁ Bd hml hP hK
  obtain ⟨rfl, hZ, hh⟩ := hP
  have e0 : s₁.heap = h0 := by rw [← hh, Bd.state]; rfl
  obtain ⟨s₂, o, h1, h2⟩ := body p e s m below meth c s₁ Bd hZ Bd.exec Bd.bytes hml (findClass_of_methodNamed Bd.named) (name_of_methodNamed Bd.named Bd.method).1 (Stand.of_body Bd) e0 (Fr.nil n0)
  exact ⟨s₂, o, castTop (hf m) h1, h2⟩
section Calls
variable {p : Program} {l : Launch} {e : Env} {R rm : Room} {s : State} {m : MethodId} {args : Array Value} {below : List Frame} {meth : Method} {c : Code} {T : State} {locs : List Loc} {cells slots : Nat} {Z : State} {a0 as' : Array Value} {h : Heap} {P : State → Outcome → Prop} {own : String} {index : Nat} {y : MethodName} {bytes : ByteArray} {maxL ml : Nat} {ret : Option FieldType} {Q : Option Value → Heap → List Loc → Prop} {g : JFrame} {ps : List FieldType} {rt : Option FieldType}
theorem own_cs (X : Stand p l e R s m args below meth c T locs cells slots) (hx : p.tables.exec = Jvm.exec) (hZ : Z.Warmed39 s.vm) (hown : s.vm.findClass own = some m.cls) (hml : c.maxLocals = ml) (eT : T.heap = h) (wl : (Jvm.Cond.methodLink own index y).before a0 Z = true) (wst : (Jvm.Cond.static y).before a0 Z = true) (wi : (Jvm.Cond.initialized y.cls).before a0 Z = true) (wc : (Jvm.Cond.code y bytes maxL ret).before a0 Z = true)
    (hM : MetFree l y (head1 [Jvm.Cond.code y bytes maxL ret] rm) (fun a U => a = as' ∧ Z.Warmed39 U.vm ∧ U.heap = h) (fun _ _ _ _ _ => True) (fun _ U o U' => ∃ v L, o = .returned v ∧ Q v U'.heap L ∧ FrameEnd U o U' L rm.cells rm.slots)) (hpd : parseMethodDescriptor y.desc = some ⟨ps, rt⟩) (hd : decode c.code g.pc = .ok (.invokestatic index, 3)) (W : Nat) (rest : List Value) (hs : g.stack = as'.toList.reverse ++ rest) (hr : g.method = m ∧ g.locals.size = ml ∧ as'.toList.length = ps.length ∧ g.monitorRoom = 0 ∧ (rest.map fun v => v.category).sum = W) (hq : (y.cls ≠ "java/lang/invoke/MethodHandle" ∧ y.cls ≠ "java/lang/invoke/VarHandle") ∧ rm.frames + 1 ≤ R.frames ∧ W + (maxL + 11) + rm.locals ≤ R.locals ∧ cells + rm.cells ≤ R.cells ∧ slots + rm.slots ≤ R.slots)
    (k : ∀ T' L' v, Stand p l e R s m args below meth c T' (locs ++ L') (cells + rm.cells) (slots + rm.slots) → Q v T'.heap L' → ∃ s₂ o, Steps p.tables e below (T'.setTop { g with pc := g.pc + 3, stack := v.toList ++ rest }) s₂ ∧ P s₂ o) : ∃ s₂ o, Steps p.tables e below (T.setTop g) s₂ ∧ P s₂ o := by
  obtain ⟨hg, hsz, hn, hm0, hW⟩ := hr
  obtain ⟨hy, hf, hl, hc, hsl⟩ := hq
  obtain ⟨v, vm₁, ⟨B, L1, c1, n1⟩, -, X', ⟨L, hQ, e1, e2, e3⟩, st⟩ := Jvm.LawKit.callS X hx hown (mvT hZ wl) (mvT hZ wst) (mvT hZ wi) (mvT hZ wc) hy (backOf (W := W) hM hZ wc wi hf hl) hg (hsz.trans hml.symm) (argsL := as'.toList) (rest := rest) (lenOf hpd hn) hs (by rw [hm0, hW]; exact Nat.le_of_eq (Nat.zero_add W)) hd (fun _ _ => ⟨rfl, eT, hc, hsl⟩)
  dsimp only [Pt.U, Pt.locs, Pt.cells, Pt.slots] at X' hQ e1 e2 e3 st
  subst e1 e2 e3
  obtain ⟨s₂, o, h1, h2⟩ := k B L v X' hQ
  exact ⟨s₂, o, st _ h1, h2⟩
theorem own_cv {C : String} {b : Addr} {aL : List Value} (X : Stand p l e R s m args below meth c T locs cells slots) (hx : p.tables.exec = Jvm.exec) (hZ : Z.Warmed39 s.vm) (hown : s.vm.findClass own = some m.cls) (hml : c.maxLocals = ml) (eT : T.heap = h) (wl : (Jvm.Cond.methodLink own index y).before a0 Z = true) (wdc : (Jvm.Cond.declares y).before a0 Z = true) (wse : (Jvm.Cond.selects C y y).before a0 Z = true) (win : (Jvm.Cond.instanceMethod y).before a0 Z = true) (wi : (Jvm.Cond.initialized y.cls).before a0 Z = true) (wc : (Jvm.Cond.code y bytes maxL ret).before a0 Z = true) (E : Exa Z h b C)
    (hM : MetFree l y (head1 [Jvm.Cond.code y bytes maxL ret] rm) (fun a U => a = as' ∧ Z.Warmed39 U.vm ∧ U.heap = h) (fun _ _ _ _ _ => True) (fun _ U o U' => ∃ v L, o = .returned v ∧ Q v U'.heap L ∧ FrameEnd U o U' L rm.cells rm.slots)) (hpd : parseMethodDescriptor y.desc = some ⟨ps, rt⟩) (hd : decode c.code g.pc = .ok (.invokevirtual index, 3)) (W : Nat) (rest : List Value) (ha : as' = (.ref b :: aL).toArray) (hs : g.stack = aL.reverse ++ .ref b :: rest) (hr : g.method = m ∧ g.locals.size = ml ∧ aL.length = ps.length ∧ g.monitorRoom = 0 ∧ (rest.map fun v => v.category).sum = W) (hq : (y.cls ≠ "java/lang/invoke/MethodHandle" ∧ y.cls ≠ "java/lang/invoke/VarHandle") ∧ rm.frames + 1 ≤ R.frames ∧ W + (maxL + 11) + rm.locals ≤ R.locals ∧ cells + rm.cells ≤ R.cells ∧ slots + rm.slots ≤ R.slots)
    (k : ∀ T' L' v, Stand p l e R s m args below meth c T' (locs ++ L') (cells + rm.cells) (slots + rm.slots) → Q v T'.heap L' → ∃ s₂ o, Steps p.tables e below (T'.setTop { g with pc := g.pc + 3, stack := v.toList ++ rest }) s₂ ∧ P s₂ o) : ∃ s₂ o, Steps p.tables e below (T.setTop g) s₂ ∧ P s₂ o := by
  obtain ⟨hg, hsz, hn, hm0, hW⟩ := hr
  obtain ⟨hy, hf, hl, hc, hsl⟩ := hq
  subst ha
  obtain ⟨cq, kq, qa, qb, qc⟩ := isOf hZ eT E
  obtain ⟨v, vm₁, ⟨B, L1, c1, n1⟩, -, X', ⟨L, hQ, e1, e2, e3⟩, st⟩ := X.virtualBack hx (z := y) hown (mvT hZ wl) (mvT hZ wdc) (notFace_of_selects (args := #[]) (mvT hZ wse)) (mvT hZ wse) (mvT hZ win) hy (backOf (W := W) hM hZ wc wi hf hl) qa qc hg (hsz.trans hml.symm) (Steps.refl _) (argsL := aL) (rest := rest) (lenOf hpd hn) hs (by rw [hm0, hW]; exact Nat.le_of_eq (Nat.zero_add W)) hd (fun _ _ => ⟨rfl, eT, hc, hsl⟩)
  dsimp only [Pt.U, Pt.locs, Pt.cells, Pt.slots] at X' hQ e1 e2 e3 st
  subst e1 e2 e3
  obtain ⟨s₂, o, h1, h2⟩ := k B L v X' hQ
  exact ⟨s₂, o, st.trans h1, h2⟩
theorem own_ci {b : Addr} {aL : List Value} (X : Stand p l e R s m args below meth c T locs cells slots) (hx : p.tables.exec = Jvm.exec) (hZ : Z.Warmed39 s.vm) (hown : s.vm.findClass own = some m.cls) (hml : c.maxLocals = ml) (eT : T.heap = h) (wl : (Jvm.Cond.methodLink own index y).before a0 Z = true) (win : (Jvm.Cond.instanceMethod y).before a0 Z = true) (wi : (Jvm.Cond.initialized y.cls).before a0 Z = true) (wc : (Jvm.Cond.code y bytes maxL none).before a0 Z = true)
    (hM : MetFree l y (head1 [Jvm.Cond.code y bytes maxL none] rm) (fun a U => a = as' ∧ Z.Warmed39 U.vm ∧ U.heap = h) (fun _ _ _ _ _ => True) (fun _ U o U' => ∃ v L, o = .returned v ∧ Q v U'.heap L ∧ FrameEnd U o U' L rm.cells rm.slots)) (hpd : parseMethodDescriptor y.desc = some ⟨ps, rt⟩) (hd : decode c.code g.pc = .ok (.invokespecial index, 3)) (W : Nat) (rest : List Value) (ha : as' = (.ref b :: aL).toArray) (hs : g.stack = aL.reverse ++ .ref b :: rest) (hr : g.method = m ∧ g.locals.size = ml ∧ aL.length = ps.length ∧ g.monitorRoom = 0 ∧ (rest.map fun v => v.category).sum = W) (hq : (y.cls ≠ "java/lang/invoke/MethodHandle" ∧ y.cls ≠ "java/lang/invoke/VarHandle") ∧ rm.frames + 1 ≤ R.frames ∧ W + (maxL + 11) + rm.locals ≤ R.locals ∧ cells + rm.cells ≤ R.cells ∧ slots + rm.slots ≤ R.slots) (hy1 : y.name = "<init>")
    (k : ∀ T' L' v, Stand p l e R s m args below meth c T' (locs ++ L') (cells + rm.cells) (slots + rm.slots) → Q v T'.heap L' → ∃ s₂ o, Steps p.tables e below (T'.setTop { g with pc := g.pc + 3, stack := v.toList ++ rest }) s₂ ∧ P s₂ o) : ∃ s₂ o, Steps p.tables e below (T.setTop g) s₂ ∧ P s₂ o := by
  obtain ⟨hg, hsz, hn, hm0, hW⟩ := hr
  obtain ⟨hy, hf, hl, hc, hsl⟩ := hq
  subst ha
  obtain ⟨v, vm₁, ⟨B, L1, c1, n1⟩, -, X', ⟨L, hQ, e1, e2, e3⟩, st⟩ := X.specialBack hx hy1 hown (mvT hZ wl) (mvT hZ win) (mvT hZ wc) hy (backOf (W := W) hM hZ wc wi hf hl) hg (hsz.trans hml.symm) (Steps.refl _) (argsL := aL) (rest := rest) (lenOf hpd hn) hs (by rw [hm0, hW]; exact Nat.le_of_eq (Nat.zero_add W)) hd (fun _ _ => ⟨rfl, eT, hc, hsl⟩)
  dsimp only [Pt.U, Pt.locs, Pt.cells, Pt.slots] at X' hQ e1 e2 e3 st
  subst e1 e2 e3
  obtain ⟨s₂, o, h1, h2⟩ := k B L v X' hQ
  exact ⟨s₂, o, st.trans h1, h2⟩
end Calls
theorem own_rem (x y : Int32) : (x - (x / y) * y).toInt = x.toInt.tmod y.toInt := by
  have a := (x % y).toInt_lt; have b := (x % y).le_toInt
  rw [Int32.toInt_mod] at a b
  rw [Int32.toInt_sub, Int32.toInt_mul, Int32.toInt_div, ← Int.sub_bmod_bmod, ← Int.bmod_mul_bmod]
  simp only [Int.bmod_bmod, Int.bmod_mul_bmod, Int.sub_bmod_bmod]
  have h : x.toInt - x.toInt.tdiv y.toInt * y.toInt = x.toInt.tmod y.toInt := by
    have := Int.mul_tdiv_add_tmod x.toInt y.toInt
    rw [Int.mul_comm]; omega
  rw [h]
  exact Int.bmod_eq_of_le (by omega) (by omega)
theorem own_nn1 (x : Int64) : Jvm.Free.Fl.NoNaN64 (FP.dmul (FP.l2d x) (4741671816366391296 : UInt64)) := by
  obtain ⟨c, q, h, -⟩ := FP.Core.own_mulV x
  exact Jvm.Free.Fl.noNaN64_no.mpr (FP.Core.own_noNaN h)
theorem own_nn2 (x n : Int64) (hn : 1 ≤ n.toInt) : Jvm.Free.Fl.NoNaN64 (FP.ddiv (FP.dmul (FP.l2d x) (4741671816366391296 : UInt64)) (FP.l2d n)) := by
  obtain ⟨c, q, h, -⟩ := FP.Core.own_opsV x n (by omega)
  exact Jvm.Free.Fl.noNaN64_no.mpr (FP.Core.own_noNaN h)
def own_min (a b : Int64) : Int64 := if b < a then b else a
def own_max (a b : Int64) : Int64 := if a < b then b else a
theorem own_mm (a b : Int64) : (own_min a b).toInt ≤ (own_max a b).toInt := by
  unfold own_min own_max
  by_cases h1 : b < a
  · have h2 : ¬ a < b := by rw [Int64.lt_iff_toInt_lt] at *; omega
    rw [if_pos h1, if_neg h2]
    rw [Int64.lt_iff_toInt_lt] at h1; omega
  · rw [if_neg h1]
    by_cases h2 : a < b
    · rw [if_pos h2]
      rw [Int64.lt_iff_toInt_lt] at h2; omega
    · rw [if_neg h2]
      exact Int.le_refl _
theorem own_hqq (x : Int32) : ((x - (x / (4096 : Int32)) * (4096 : Int32)).toInt64).toInt.natAbs ≤ 4095 := by
  have k : (4096 : Int32).toInt = 4096 := by decide
  rw [Int32.toInt_toInt64, own_rem, k]
  rw [Int.natAbs_tmod]
  have e : (4096 : Int).natAbs = 4096 := rfl
  have h1 := Nat.mod_lt x.toInt.natAbs (show 0 < (4096 : Int).natAbs by decide)
  omega
theorem own_hdd (x : Int32) : 1 ≤ (((x &&& (1023 : Int32)) + (1 : Int32)).toInt64).toInt ∧ (((x &&& (1023 : Int32)) + (1 : Int32)).toInt64).toInt ≤ 1024 := by
  have e1 : (x &&& (1023 : Int32)).toInt = x.toInt % 2 ^ 10 := Jvm.Kit.i32_mask x 1023 (k := 10) (by decide) (by decide)
  have k : (1 : Int32).toInt = 1 := by decide
  have e2 : ((x &&& (1023 : Int32)) + (1 : Int32)).toInt = x.toInt % 2 ^ 10 + 1 := by
    rw [Int32.toInt_add, e1, k]
    exact Int.bmod_eq_of_le (by omega) (by omega)
  rw [Int32.toInt_toInt64, e2]
  omega
theorem own_hnn (x : Int64) : 0 ≤ (x &&& (9223372036854775807 : Int64)).toInt := by
  have hm : (x &&& (9223372036854775807 : Int64)).toBitVec.msb = false := by
    have e : (x &&& (9223372036854775807 : Int64)).toBitVec = x.toBitVec &&& (9223372036854775807 : Int64).toBitVec := rfl
    rw [e, BitVec.msb_and]
    have k : (9223372036854775807 : Int64).toBitVec.msb = false := by decide
    rw [k, Bool.and_false]
  show 0 ≤ (x &&& (9223372036854775807 : Int64)).toBitVec.toInt
  rw [BitVec.toInt_eq_toNat_of_msb hm]
  omega
theorem own_nnp {n : Int64} (h : 0 ≤ n.toInt) (hz : ¬ n = (0 : Int64)) : 1 ≤ n.toInt := by
  have k : (0 : Int64).toInt = 0 := by decide
  have h2 : n.toInt ≠ 0 := fun q => hz (Int64.toInt_inj.mp (q.trans k.symm))
  omega
theorem own_L1 {qq dd : Int64} (h1 : qq.toInt.natAbs ≤ 4095) (h2 : 1 ≤ dd.toInt) (h3 : dd.toInt ≤ 1024) : (cmpValue (FP.dcmp (FP.Core.own_ops (qq * dd) dd) (FP.l2d (qq * (1000000000 : Int64)))) .l) = (0 : Int32) := by
  have e : FP.dcmp (FP.Core.own_ops (qq * dd) dd) (FP.l2d (qq * (1000000000 : Int64))) = some .eq := FP.Core.own_E1 qq dd h1 h2 h3
  rw [e]
  rfl
theorem own_L2 (a b n : Int64) (hn : 1 ≤ n.toInt) : ¬ (0 : Int32) < (cmpValue (FP.dcmp (FP.Core.own_ops (own_min a b) n) (FP.Core.own_ops (own_max a b) n)) .g) := by
  have e : FP.dcmp (FP.Core.own_ops (own_min a b) n) (FP.Core.own_ops (own_max a b) n) = some .lt ∨ FP.dcmp (FP.Core.own_ops (own_min a b) n) (FP.Core.own_ops (own_max a b) n) = some .eq := FP.Core.own_E2 _ _ n hn (own_mm a b)
  rcases e with e | e <;> rw [e] <;> decide
theorem own_L3 (x n : Int64) (hn : 1 ≤ n.toInt) : ((0 : Int64) < x → (0 : Int32) < (cmpValue (FP.dcmp (FP.Core.own_ops x n) (0 : UInt64)) .l)) ∧ (x < (0 : Int64) → (cmpValue (FP.dcmp (FP.Core.own_ops x n) (0 : UInt64)) .g) < (0 : Int32)) ∧ (¬ (0 : Int64) < x → ¬ x < (0 : Int64) → (cmpValue (FP.dcmp (FP.Core.own_ops x n) (0 : UInt64)) .l) = (0 : Int32)) := by
  have k : (0 : Int64).toInt = 0 := by decide
  obtain ⟨h1, h2, h3⟩ := FP.Core.own_E3 x n hn
  refine ⟨fun h => ?_, fun h => ?_, fun h h' => ?_⟩
  · rw [Int64.lt_iff_toInt_lt, k] at h
    have e : FP.dcmp (FP.Core.own_ops x n) (0 : UInt64) = some .gt := h1 h
    rw [e]; decide
  · rw [Int64.lt_iff_toInt_lt, k] at h
    have e : FP.dcmp (FP.Core.own_ops x n) (0 : UInt64) = some .lt := h2 h
    rw [e]; decide
  · rw [Int64.lt_iff_toInt_lt, k] at h h'
    have e : FP.dcmp (FP.Core.own_ops x n) (0 : UInt64) = some .eq := h3 (by omega)
    rw [e]; decide
theorem own_staKeep {Z : State} {h h' : Heap} {C n d K : String} {w : Value} {a : Addr} (F : Sta Z h C n d w) (E : Exa Z h a K) (Kp : Keep h h' [a]) : Sta Z h' C n d w := by
  obtain ⟨cf, i, k, f, st, cell, h1, h2, h3, h4, h5, h6, h7⟩ := F
  refine ⟨cf, i, k, f, st, cell, h1, h2, h3, h4, Kp.2.1 st cell h5 ?_, h6, h7⟩
  intro q
  cases List.mem_singleton.mp q
  obtain ⟨c2, k2, e1, -, -, e4, -⟩ := E
  cases h5.symm.trans e1
  rw [h6] at e4
  cases e4
theorem own_staKeep0 {Z : State} {h h' : Heap} {C n d : String} {w : Value} (F : Sta Z h C n d w) (Kp : Keep h h' []) : Sta Z h' C n d w := by
  obtain ⟨cf, i, k, f, st, cell, h1, h2, h3, h4, h5, h6, h7⟩ := F
  exact ⟨cf, i, k, f, st, cell, h1, h2, h3, h4, Kp.2.1 st cell h5 List.not_mem_nil, h6, h7⟩
theorem own_nin {a b c : Addr} (h1 : a ≠ b) (h2 : a ≠ c) : a ∉ [b, c] := by
  intro q
  simp only [List.mem_cons, List.not_mem_nil, or_false] at q
  exact q.elim h1 h2
theorem own_in2 {a b c : Addr} (q : a ∈ [b, c]) : a = b ∨ a = c := by
  simpa only [List.mem_cons, List.not_mem_nil, or_false] using q
theorem own_selPriv {s : State} {args : Array Value} {y z : MethodName} (hcls : z.cls = y.cls) (hi : (Cond.instanceMethod y).before args s = true) (hpriv : s.PrivateAt y) (hz : (Cond.selects z.cls z z).before args s = true) (hy : y.cls ≠ "java/lang/invoke/MethodHandle" ∧ y.cls ≠ "java/lang/invoke/VarHandle") : (Cond.selects y.cls y y).before args s = true := by
  obtain ⟨c2, r2, m2, z1, -, z3, -, kP, hkP, hkPi⟩ := Cond.selects_spec hz
  have hcz := findClass_of_methodNamed z3
  rw [hcls] at hcz
  exact selects_self_of_private hcz hkP hkPi hpriv hi hy
theorem ef_1_1 (m : MethodId) (a0 : Value) (h0 : a0.category = 1) : entryFrame m #[a0] 1 = mkF m 0 #[.val a0] [] := by simp [entryFrame, mkF, argsToLocals, h0]
theorem ef_1222_7 (m : MethodId) (a0 a1 a2 a3 : Value) (h0 : a0.category = 1) (h1 : a1.category = 2) (h2 : a2.category = 2) (h3 : a3.category = 2) : entryFrame m #[a0, a1, a2, a3] 7 = mkF m 0 #[.val a0, .val a1, .second, .val a2, .second, .val a3, .second] [] := by simp [entryFrame, mkF, argsToLocals, h0, h1, h2, h3]
theorem ef_22_4 (m : MethodId) (a0 a1 : Value) (h0 : a0.category = 2) (h1 : a1.category = 2) : entryFrame m #[a0, a1] 4 = mkF m 0 #[.val a0, .second, .val a1, .second] [] := by simp [entryFrame, mkF, argsToLocals, h0, h1]
theorem own_pd0 : parseMethodDescriptor "()V" = some ⟨[], none⟩ := by decide +kernel
theorem own_pd1 : parseMethodDescriptor "(JJJ)V" = some ⟨[.long, .long, .long], none⟩ := by decide +kernel
theorem own_pd2 : parseMethodDescriptor "()D" = some ⟨[], some .double⟩ := by decide +kernel
theorem own_pd3 : parseMethodDescriptor "(JJ)J" = some ⟨[.long, .long], some .long⟩ := by decide +kernel
theorem own_pd4 : parseMethodDescriptor "(JD)Z" = some ⟨[.long, .double], some .boolean⟩ := by decide +kernel
theorem own_pn0 : plainName "java/lang/Record" = true := by first | (simp [plainName, overriddenIn]; done) | decide +kernel
theorem own_pn1 : plainName "com/example/matchgate/matchgate/bench/Contender$Run" = true := by first | (simp [plainName, overriddenIn]; done) | decide +kernel
theorem own_pn2 : plainName "com/example/matchgate/matchgate/bench/RunOperationsPerSecondPinLaw" = true := by first | (simp [plainName, overriddenIn]; done) | decide +kernel
def own_QN (h0 : Heap) (n0 : Nat) (v : Option Value) (h : Heap) (L : List Loc) : Prop := v = none ∧ Fr n0 L ∧ h = h0
def own_QI (r : Int32) (h0 : Heap) (n0 : Nat) (v : Option Value) (h : Heap) (L : List Loc) : Prop := v = some (.int r) ∧ Fr n0 L ∧ h = h0
def own_QJ (r : Int64) (h0 : Heap) (n0 : Nat) (v : Option Value) (h : Heap) (L : List Loc) : Prop := v = some (.long r) ∧ Fr n0 L ∧ h = h0
def own_QD (r : UInt64) (h0 : Heap) (n0 : Nat) (v : Option Value) (h : Heap) (L : List Loc) : Prop := v = some (.double r) ∧ Fr n0 L ∧ h = h0
theorem d_B0_0 : decode jdk_30_method_1_code 0 = .ok (.aload_n 0, 1) := by decide +kernel
theorem d_B0_1 : decode jdk_30_method_1_code 1 = .ok (.invokespecial 1, 3) := by decide +kernel
theorem d_B0_4 : decode jdk_30_method_1_code 4 = .ok (.return_, 1) := by decide +kernel
set_option maxRecDepth 65536 in
set_option maxHeartbeats 40000000 in
theorem own_rmRec (l : Launch) (Z : State) (a0 : Array Value) (hw : ∀ d ∈ tables_1, d.before a0 Z = true) (ws : List Jvm.Cond) (b0 : Addr) (h0 : Heap) (n0 : Nat) (Z0 : n0 ≤ h0.size) : own_M l Z (⟨"java/lang/Record", "<init>", "()V"⟩ : MethodName) jdk_30_method_1_code 1 none ws ({ frames := 1, cells := 0, slots := 0, locals := 12 } : Room) #[.ref b0] h0 (own_QN h0 n0) := by
  refine own_begin (n0 := n0) (f0 := mkF ⟨0, 0⟩ 0 #[rv b0] []) (plainFor_of_name own_pn0) (fun m => ef_1_1 m _ rfl) ?_
  intro p e s m below meth c s₁ Bd hZ hx hby hml hown hnm X0 e0 N0
  refine own_go (b := s₁.setTop (mkF m 1 #[rv b0] [.ref b0])) (fun t k => xaloadN X0 hx hby rfl d_B0_0 rfl rfl k) ?_
  obtain ⟨T1, X1, e1, st1⟩ := initO X0 hx hZ hown (wd hw 11 rfl) (wd hw 12 rfl) (wd hw 13 rfl) e0 (g := (mkF m 1 #[rv b0] [.ref b0])) rfl (by rw [hml]; rfl) rfl (hb hby d_B0_1) (by decide) (W := 0) (by show 2 * 0 + _ ≤ _; exact Nat.le_of_eq rfl) (by decide)
  exact own_ret (v := none) X1 e1 Bd.notSynchronized (fun _ => rfl) (fun fs hr => st1 _ (X1.returnOut hx Bd.returns (hb hby d_B0_4) hr)) ⟨rfl, N0, rfl⟩ (by decide)
def own_QR (Z : State) (a : Addr) (x n : Int64) (h0 : Heap) (n0 : Nat) (v : Option Value) (h : Heap) (L : List Loc) : Prop := v = none ∧ Fr n0 L ∧ Keep h0 h [a] ∧ Fld Z h a "com/example/matchgate/matchgate/bench/Contender$Run" "operations" "J" (.long x) ∧ Fld Z h a "com/example/matchgate/matchgate/bench/Contender$Run" "nanos" "J" (.long n)
theorem d_B1_0 : decode prog_2_method_1_code 0 = .ok (.aload_n 0, 1) := by decide +kernel
theorem d_B1_1 : decode prog_2_method_1_code 1 = .ok (.invokespecial 1, 3) := by decide +kernel
theorem d_B1_4 : decode prog_2_method_1_code 4 = .ok (.aload_n 0, 1) := by decide +kernel
theorem d_B1_5 : decode prog_2_method_1_code 5 = .ok (.lload_n 1, 1) := by decide +kernel
theorem d_B1_6 : decode prog_2_method_1_code 6 = .ok (.putfield 7, 3) := by decide +kernel
theorem d_B1_9 : decode prog_2_method_1_code 9 = .ok (.aload_n 0, 1) := by decide +kernel
theorem d_B1_10 : decode prog_2_method_1_code 10 = .ok (.lload_n 3, 1) := by decide +kernel
theorem d_B1_11 : decode prog_2_method_1_code 11 = .ok (.putfield 13, 3) := by decide +kernel
theorem d_B1_14 : decode prog_2_method_1_code 14 = .ok (.aload_n 0, 1) := by decide +kernel
theorem d_B1_15 : decode prog_2_method_1_code 15 = .ok (.lload 5, 2) := by decide +kernel
theorem d_B1_17 : decode prog_2_method_1_code 17 = .ok (.putfield 16, 3) := by decide +kernel
theorem d_B1_20 : decode prog_2_method_1_code 20 = .ok (.return_, 1) := by decide +kernel
set_option maxRecDepth 65536 in
set_option maxHeartbeats 40000000 in
theorem own_rmRun (l : Launch) (Z : State) (a0 : Array Value) (hw : ∀ d ∈ tables_1, d.before a0 Z = true) (ws : List Jvm.Cond) (b0 : Addr) (q1 : Int64) (q2 : Int64) (q3 : Int64) (h0 : Heap) (n0 : Nat) (Z0 : n0 ≤ h0.size) (E_0 : Exa Z h0 b0 "com/example/matchgate/matchgate/bench/Contender$Run") (F_operations : Fld Z h0 b0 "com/example/matchgate/matchgate/bench/Contender$Run" "operations" "J" (.long (0 : Int64))) (F_trades : Fld Z h0 b0 "com/example/matchgate/matchgate/bench/Contender$Run" "trades" "J" (.long (0 : Int64))) (F_nanos : Fld Z h0 b0 "com/example/matchgate/matchgate/bench/Contender$Run" "nanos" "J" (.long (0 : Int64))) (g_0 : n0 ≤ b0) : own_M l Z (⟨"com/example/matchgate/matchgate/bench/Contender$Run", "<init>", "(JJJ)V"⟩ : MethodName) prog_2_method_1_code 7 none ws ({ frames := 2, cells := 0, slots := 0, locals := 24 } : Room) #[.ref b0, (.long q1), (.long q2), (.long q3)] h0 (own_QR Z b0 q1 q3 h0 n0) := by
  refine own_begin (n0 := n0) (f0 := mkF ⟨0, 0⟩ 0 #[rv b0, .val (.long q1), .second, .val (.long q2), .second, .val (.long q3), .second] []) (plainFor_of_name own_pn1) (fun m => ef_1222_7 m _ _ _ _ rfl rfl rfl rfl) ?_
  intro p e s m below meth c s₁ Bd hZ hx hby hml hown hnm X0 e0 N0
  refine own_go (b := s₁.setTop (mkF m 1 #[rv b0, .val (.long q1), .second, .val (.long q2), .second, .val (.long q3), .second] [.ref b0])) (fun t k => xaloadN X0 hx hby rfl d_B1_0 rfl rfl k) ?_
  refine own_ci X0 hx hZ hown hml e0 (wd hw 6 rfl) (wd hw 7 rfl) (wd hw 9 rfl) (wd hw 10 rfl) (own_rmRec l Z a0 hw [] b0 h0 n0 Z0 ) own_pd0 (hb hby d_B1_1) 0 [] rfl rfl ⟨rfl, rfl, rfl, rfl, rfl⟩ (by decide) rfl ?_
  rintro T1 L1 v1 X1 hQ1
  obtain ⟨rfl, N1q, e1⟩ := hQ1
  have N1 := Fr.app N0 N1q
  obtain ⟨T2, h2, X2, e2, W2, st2⟩ := putF X1 hx hZ hown (host := "") (Or.inl (wd hw 14 rfl)) Via.refl e1 F_operations E_0 (Or.inr ⟨(wd hw 15 rfl), rfl, hnm⟩) (wd hw 1 rfl) (ty := .long) (by decide) rfl rfl (g := (mkF m 6 #[rv b0, .val (.long q1), .second, .val (.long q2), .second, .val (.long q3), .second] [(.long q1), .ref b0])) rfl rfl (hb hby d_B1_6)
  have E_b0_2 := E_0.wr W2
  have F_b0_trades_2 := F_trades.other W2 (Or.inr (slot_ne (Or.inr (wd hw 17 rfl)) (Or.inr (wd hw 15 rfl)) (by decide) (t := .long) (t' := .long) (by decide) (by decide)))
  have F_b0_nanos_2 := F_nanos.other W2 (Or.inr (slot_ne (Or.inr (wd hw 19 rfl)) (Or.inr (wd hw 15 rfl)) (by decide) (t := .long) (t' := .long) (by decide) (by decide)))
  have K2 := (Keep.refl h0 [b0]).wr W2 (Or.inl (List.mem_of_getElem? (i := 0) rfl))
  have N2 := Fr.snoc X2 N1 g_0
  have F_b0_operations_2 := F_operations.same W2
  obtain ⟨T3, h3, X3, e3, W3, st3⟩ := putF X2 hx hZ hown (host := "") (Or.inl (wd hw 16 rfl)) Via.refl e2 F_b0_trades_2 E_b0_2 (Or.inr ⟨(wd hw 17 rfl), rfl, hnm⟩) (wd hw 1 rfl) (ty := .long) (by decide) rfl rfl (g := (mkF m 11 #[rv b0, .val (.long q1), .second, .val (.long q2), .second, .val (.long q3), .second] [(.long q2), .ref b0])) rfl rfl (hb hby d_B1_11)
  have E_b0_3 := E_b0_2.wr W3
  have F_b0_nanos_3 := F_b0_nanos_2.other W3 (Or.inr (slot_ne (Or.inr (wd hw 19 rfl)) (Or.inr (wd hw 17 rfl)) (by decide) (t := .long) (t' := .long) (by decide) (by decide)))
  have F_b0_operations_3 := F_b0_operations_2.other W3 (Or.inr (slot_ne (Or.inr (wd hw 15 rfl)) (Or.inr (wd hw 17 rfl)) (by decide) (t := .long) (t' := .long) (by decide) (by decide)))
  have K3 := K2.wr W3 (Or.inl (List.mem_of_getElem? (i := 0) rfl))
  have N3 := Fr.snoc X3 N2 g_0
  have F_b0_trades_3 := F_b0_trades_2.same W3
  obtain ⟨T4, h4, X4, e4, W4, st4⟩ := putF X3 hx hZ hown (host := "") (Or.inl (wd hw 18 rfl)) Via.refl e3 F_b0_nanos_3 E_b0_3 (Or.inr ⟨(wd hw 19 rfl), rfl, hnm⟩) (wd hw 1 rfl) (ty := .long) (by decide) rfl rfl (g := (mkF m 17 #[rv b0, .val (.long q1), .second, .val (.long q2), .second, .val (.long q3), .second] [(.long q3), .ref b0])) rfl rfl (hb hby d_B1_17)
  have E_b0_4 := E_b0_3.wr W4
  have F_b0_operations_4 := F_b0_operations_3.other W4 (Or.inr (slot_ne (Or.inr (wd hw 15 rfl)) (Or.inr (wd hw 19 rfl)) (by decide) (t := .long) (t' := .long) (by decide) (by decide)))
  have F_b0_trades_4 := F_b0_trades_3.other W4 (Or.inr (slot_ne (Or.inr (wd hw 17 rfl)) (Or.inr (wd hw 19 rfl)) (by decide) (t := .long) (t' := .long) (by decide) (by decide)))
  have K4 := K3.wr W4 (Or.inl (List.mem_of_getElem? (i := 0) rfl))
  have N4 := Fr.snoc X4 N3 g_0
  have F_b0_nanos_4 := F_b0_nanos_3.same W4
  exact own_ret (v := none) X4 e4 Bd.notSynchronized (fun _ => rfl) (fun fs hr => xaloadN X1 hx hby rfl d_B1_4 rfl rfl (XS.lloadN X1.here hx rfl (hb hby d_B1_5) rfl (st2 _ (xaloadN X2 hx hby rfl d_B1_9 rfl rfl (XS.lloadN X2.here hx rfl (hb hby d_B1_10) rfl (st3 _ (show Steps p.tables e below (T3.setTop (mkF m 14 #[rv b0, .val (.long q1), .second, .val (.long q2), .second, .val (.long q3), .second] [])) _ from xaloadN X3 hx hby rfl d_B1_14 rfl rfl (XS.lload X3.here hx rfl (hb hby d_B1_15) rfl (st4 _ (X4.returnOut hx Bd.returns (hb hby d_B1_20) hr)))))))))) ⟨rfl, N4, K4, F_b0_operations_4, F_b0_nanos_4⟩ (by decide)
theorem d_B2_0 : decode prog_2_method_4_code 0 = .ok (.aload_n 0, 1) := by decide +kernel
theorem d_B2_1 : decode prog_2_method_4_code 1 = .ok (.getfield 7, 3) := by decide +kernel
theorem d_B2_4 : decode prog_2_method_4_code 4 = .ok (.l2d, 1) := by decide +kernel
theorem d_B2_5 : decode prog_2_method_4_code 5 = .ok (.ldc2_w 48, 3) := by decide +kernel
theorem d_B2_8 : decode prog_2_method_4_code 8 = .ok (.dmul, 1) := by decide +kernel
theorem d_B2_9 : decode prog_2_method_4_code 9 = .ok (.aload_n 0, 1) := by decide +kernel
theorem d_B2_10 : decode prog_2_method_4_code 10 = .ok (.getfield 16, 3) := by decide +kernel
theorem d_B2_13 : decode prog_2_method_4_code 13 = .ok (.l2d, 1) := by decide +kernel
theorem d_B2_14 : decode prog_2_method_4_code 14 = .ok (.ddiv, 1) := by decide +kernel
theorem d_B2_15 : decode prog_2_method_4_code 15 = .ok (.dreturn, 1) := by decide +kernel
set_option maxRecDepth 65536 in
set_option maxHeartbeats 40000000 in
theorem own_rmOps (l : Launch) (Z : State) (a0 : Array Value) (hw : ∀ d ∈ tables_1, d.before a0 Z = true) (ws : List Jvm.Cond) (b0 : Addr) (x n : Int64) (h0 : Heap) (n0 : Nat) (Z0 : n0 ≤ h0.size) (F_x : Fld Z h0 b0 "com/example/matchgate/matchgate/bench/Contender$Run" "operations" "J" (.long x)) (F_n : Fld Z h0 b0 "com/example/matchgate/matchgate/bench/Contender$Run" "nanos" "J" (.long n)) (hn : 1 ≤ n.toInt) : own_M l Z (⟨"com/example/matchgate/matchgate/bench/Contender$Run", "operationsPerSecond", "()D"⟩ : MethodName) prog_2_method_4_code 1 (some .double) ws ({ frames := 0, cells := 0, slots := 0, locals := 0 } : Room) #[.ref b0] h0 (own_QD (FP.Core.own_ops x n) h0 n0) := by
  refine own_begin (n0 := n0) (f0 := mkF ⟨0, 0⟩ 0 #[rv b0] []) (plainFor_of_name own_pn1) (fun m => ef_1_1 m _ rfl) ?_
  intro p e s m below meth c s₁ Bd hZ hx hby hml hown hnm X0 e0 N0
  obtain ⟨T1, X1, e1, st1⟩ := getF X0 hx hZ hown (host := "") (Or.inl (wd hw 14 rfl)) Via.refl e0 F_x (g := (mkF m 1 #[rv b0] [.ref b0])) rfl rfl (hb hby d_B2_1)
  obtain ⟨T2, X2, e2, st2⟩ := getF X1 hx hZ hown (host := "") (Or.inl (wd hw 18 rfl)) Via.refl e1 F_n (g := (mkF m 10 #[rv b0] [.ref b0, (.double (FP.dmul (FP.l2d x) (4741671816366391296 : UInt64)))])) rfl rfl (hb hby d_B2_10)
  exact own_ret (v := some (.double (FP.ddiv (FP.dmul (FP.l2d x) (4741671816366391296 : UInt64)) (FP.l2d n)))) X2 e2 Bd.notSynchronized (nv Bd.returns) (fun fs hr => xaloadN X0 hx hby rfl d_B2_0 rfl rfl (st1 _ (XS.own_l2d X1.here hx rfl (hb hby d_B2_4) rfl (X1.ldc2DoubleC hx hown (mvT hZ (wd hw 25 rfl)) (g := (mkF m 5 #[rv b0] [(.double (FP.l2d x))])) rfl (hb hby d_B2_5) _ (XS.own_dmul X1.here hx rfl (hb hby d_B2_8) rfl (own_nn1 x) (xaloadN X1 hx hby rfl d_B2_9 rfl rfl (show Steps p.tables e below (T1.setTop (mkF m 10 #[rv b0] [.ref b0, (.double (FP.dmul (FP.l2d x) (4741671816366391296 : UInt64)))])) _ from st2 _ (XS.own_l2d X2.here hx rfl (hb hby d_B2_13) rfl (XS.own_ddiv X2.here hx rfl (hb hby d_B2_14) rfl (own_nn2 x n hn) (retD X2 hx Bd.returns (hb hby d_B2_15) hr)))))))))) ⟨rfl, N0, rfl⟩ (by decide)
theorem d_B3_0 : decode jdk_29_method_70_code 0 = .ok (.lload_n 0, 1) := by decide +kernel
theorem d_B3_1 : decode jdk_29_method_70_code 1 = .ok (.lload_n 2, 1) := by decide +kernel
theorem d_B3_2 : decode jdk_29_method_70_code 2 = .ok (.lcmp, 1) := by decide +kernel
theorem d_B3_3 : decode jdk_29_method_70_code 3 = .ok (.ifCond .gt 7, 3) := by decide +kernel
theorem d_B3_6 : decode jdk_29_method_70_code 6 = .ok (.lload_n 0, 1) := by decide +kernel
theorem d_B3_7 : decode jdk_29_method_70_code 7 = .ok (.goto 4, 3) := by decide +kernel
theorem d_B3_10 : decode jdk_29_method_70_code 10 = .ok (.lload_n 2, 1) := by decide +kernel
theorem d_B3_11 : decode jdk_29_method_70_code 11 = .ok (.lreturn, 1) := by decide +kernel
set_option maxRecDepth 65536 in
set_option maxHeartbeats 40000000 in
theorem own_rm_min (l : Launch) (Z : State) (a0 : Array Value) (hw : ∀ d ∈ tables_1, d.before a0 Z = true) (ws : List Jvm.Cond) (q0 : Int64) (q1 : Int64) (h0 : Heap) (n0 : Nat) (Z0 : n0 ≤ h0.size) : own_M l Z (⟨"java/lang/Math", "min", "(JJ)J"⟩ : MethodName) jdk_29_method_70_code 4 (some .long) ws ({ frames := 0, cells := 0, slots := 0, locals := 0 } : Room) #[(.long q0), (.long q1)] h0 (own_QJ (own_min q0 q1) h0 n0) := by
  refine own_begin (n0 := n0) (f0 := mkF ⟨0, 0⟩ 0 #[.val (.long q0), .second, .val (.long q1), .second] []) (Jvm.Free.JP.mathPlain rfl (by decide +kernel)) (fun m => ef_22_4 m _ _ rfl rfl) ?_
  intro p e s m below meth c s₁ Bd hZ hx hby hml hown hnm X0 e0 N0
  refine own_go (b := s₁.setTop (mkF m 3 #[.val (.long q0), .second, .val (.long q1), .second] [(.int (lcmpW q0 q1))])) (fun t k => XS.lloadN X0.here hx rfl (hb hby d_B3_0) rfl (XS.lloadN X0.here hx rfl (hb hby d_B3_1) rfl (XS.lcmp X0.here hx rfl (hb hby d_B3_2) rfl k))) ?_
  by_cases hc3_1 : q1 < q0
  · exact own_ret (v := some (.long q1)) X0 e0 Bd.notSynchronized (nv Bd.returns) (fun fs hr => xifYes X0 hx hby rfl 3 10 rfl d_B3_3 rfl ((if0 _ _).trans (tlt ((lw_gt _ _).mpr hc3_1)).2.2.1) (by decide) (by decide) (XS.lloadN X0.here hx rfl (hb hby d_B3_10) rfl (retL X0 hx Bd.returns (hb hby d_B3_11) hr))) ⟨by rw [own_min, if_pos hc3_1], N0, rfl⟩ (by decide)
  · exact own_ret (v := some (.long q0)) X0 e0 Bd.notSynchronized (nv Bd.returns) (fun fs hr => xifNo X0 hx hby rfl d_B3_3 rfl ((if0 _ _).trans (flt (mt (lw_gt _ _).mp hc3_1)).2.2.1) (XS.lloadN X0.here hx rfl (hb hby d_B3_6) rfl (xgoto X0 hx hby rfl 7 11 rfl d_B3_7 (by decide) (by decide) (retL X0 hx Bd.returns (hb hby d_B3_11) hr)))) ⟨by rw [own_min, if_neg hc3_1], N0, rfl⟩ (by decide)
theorem d_B4_0 : decode jdk_29_method_66_code 0 = .ok (.lload_n 0, 1) := by decide +kernel
theorem d_B4_1 : decode jdk_29_method_66_code 1 = .ok (.lload_n 2, 1) := by decide +kernel
theorem d_B4_2 : decode jdk_29_method_66_code 2 = .ok (.lcmp, 1) := by decide +kernel
theorem d_B4_3 : decode jdk_29_method_66_code 3 = .ok (.ifCond .lt 7, 3) := by decide +kernel
theorem d_B4_6 : decode jdk_29_method_66_code 6 = .ok (.lload_n 0, 1) := by decide +kernel
theorem d_B4_7 : decode jdk_29_method_66_code 7 = .ok (.goto 4, 3) := by decide +kernel
theorem d_B4_10 : decode jdk_29_method_66_code 10 = .ok (.lload_n 2, 1) := by decide +kernel
theorem d_B4_11 : decode jdk_29_method_66_code 11 = .ok (.lreturn, 1) := by decide +kernel
set_option maxRecDepth 65536 in
set_option maxHeartbeats 40000000 in
theorem own_rm_max (l : Launch) (Z : State) (a0 : Array Value) (hw : ∀ d ∈ tables_1, d.before a0 Z = true) (ws : List Jvm.Cond) (q0 : Int64) (q1 : Int64) (h0 : Heap) (n0 : Nat) (Z0 : n0 ≤ h0.size) : own_M l Z (⟨"java/lang/Math", "max", "(JJ)J"⟩ : MethodName) jdk_29_method_66_code 4 (some .long) ws ({ frames := 0, cells := 0, slots := 0, locals := 0 } : Room) #[(.long q0), (.long q1)] h0 (own_QJ (own_max q0 q1) h0 n0) := by
  refine own_begin (n0 := n0) (f0 := mkF ⟨0, 0⟩ 0 #[.val (.long q0), .second, .val (.long q1), .second] []) (Jvm.Free.JP.mathPlain rfl (by decide +kernel)) (fun m => ef_22_4 m _ _ rfl rfl) ?_
  intro p e s m below meth c s₁ Bd hZ hx hby hml hown hnm X0 e0 N0
  refine own_go (b := s₁.setTop (mkF m 3 #[.val (.long q0), .second, .val (.long q1), .second] [(.int (lcmpW q0 q1))])) (fun t k => XS.lloadN X0.here hx rfl (hb hby d_B4_0) rfl (XS.lloadN X0.here hx rfl (hb hby d_B4_1) rfl (XS.lcmp X0.here hx rfl (hb hby d_B4_2) rfl k))) ?_
  by_cases hc3_1 : q0 < q1
  · exact own_ret (v := some (.long q1)) X0 e0 Bd.notSynchronized (nv Bd.returns) (fun fs hr => xifYes X0 hx hby rfl 3 10 rfl d_B4_3 rfl ((if0 _ _).trans (tlt ((lw_lt _ _).mpr hc3_1)).1) (by decide) (by decide) (XS.lloadN X0.here hx rfl (hb hby d_B4_10) rfl (retL X0 hx Bd.returns (hb hby d_B4_11) hr))) ⟨by rw [own_max, if_pos hc3_1], N0, rfl⟩ (by decide)
  · exact own_ret (v := some (.long q0)) X0 e0 Bd.notSynchronized (nv Bd.returns) (fun fs hr => xifNo X0 hx hby rfl d_B4_3 rfl ((if0 _ _).trans (flt (mt (lw_lt _ _).mp hc3_1)).1) (XS.lloadN X0.here hx rfl (hb hby d_B4_6) rfl (xgoto X0 hx hby rfl 7 11 rfl d_B4_7 (by decide) (by decide) (retL X0 hx Bd.returns (hb hby d_B4_11) hr)))) ⟨by rw [own_max, if_neg hc3_1], N0, rfl⟩ (by decide)
theorem d_B5_0 : decode method_3_code 0 = .ok (.lload_n 0, 1) := by decide +kernel
theorem d_B5_1 : decode method_3_code 1 = .ok (.lconst 0, 1) := by decide +kernel
theorem d_B5_2 : decode method_3_code 2 = .ok (.lcmp, 1) := by decide +kernel
theorem d_B5_3 : decode method_3_code 3 = .ok (.ifCond .le 15, 3) := by decide +kernel
theorem d_B5_6 : decode method_3_code 6 = .ok (.dload_n 2, 1) := by decide +kernel
theorem d_B5_7 : decode method_3_code 7 = .ok (.dconst 0, 1) := by decide +kernel
theorem d_B5_8 : decode method_3_code 8 = .ok (.dcmp .l, 1) := by decide +kernel
theorem d_B5_9 : decode method_3_code 9 = .ok (.ifCond .le 7, 3) := by decide +kernel
theorem d_B5_12 : decode method_3_code 12 = .ok (.iconst 1, 1) := by decide +kernel
theorem d_B5_13 : decode method_3_code 13 = .ok (.goto 4, 3) := by decide +kernel
theorem d_B5_17 : decode method_3_code 17 = .ok (.ireturn, 1) := by decide +kernel
theorem d_B5_18 : decode method_3_code 18 = .ok (.lload_n 0, 1) := by decide +kernel
theorem d_B5_19 : decode method_3_code 19 = .ok (.lconst 0, 1) := by decide +kernel
theorem d_B5_20 : decode method_3_code 20 = .ok (.lcmp, 1) := by decide +kernel
theorem d_B5_21 : decode method_3_code 21 = .ok (.ifCond .ge 15, 3) := by decide +kernel
theorem d_B5_24 : decode method_3_code 24 = .ok (.dload_n 2, 1) := by decide +kernel
theorem d_B5_25 : decode method_3_code 25 = .ok (.dconst 0, 1) := by decide +kernel
theorem d_B5_26 : decode method_3_code 26 = .ok (.dcmp .g, 1) := by decide +kernel
theorem d_B5_27 : decode method_3_code 27 = .ok (.ifCond .ge 7, 3) := by decide +kernel
theorem d_B5_30 : decode method_3_code 30 = .ok (.iconst 1, 1) := by decide +kernel
theorem d_B5_31 : decode method_3_code 31 = .ok (.goto 4, 3) := by decide +kernel
theorem d_B5_35 : decode method_3_code 35 = .ok (.ireturn, 1) := by decide +kernel
theorem d_B5_36 : decode method_3_code 36 = .ok (.dload_n 2, 1) := by decide +kernel
theorem d_B5_37 : decode method_3_code 37 = .ok (.dconst 0, 1) := by decide +kernel
theorem d_B5_38 : decode method_3_code 38 = .ok (.dcmp .l, 1) := by decide +kernel
theorem d_B5_39 : decode method_3_code 39 = .ok (.ifCond .ne 7, 3) := by decide +kernel
theorem d_B5_42 : decode method_3_code 42 = .ok (.iconst 1, 1) := by decide +kernel
theorem d_B5_43 : decode method_3_code 43 = .ok (.goto 4, 3) := by decide +kernel
theorem d_B5_47 : decode method_3_code 47 = .ok (.ireturn, 1) := by decide +kernel
set_option maxRecDepth 65536 in
set_option maxHeartbeats 40000000 in
theorem own_rmSg (l : Launch) (Z : State) (a0 : Array Value) (hw : ∀ d ∈ tables_1, d.before a0 Z = true) (ws : List Jvm.Cond) (q0 : Int64) (d1 : UInt64) (h0 : Heap) (n0 : Nat) (Z0 : n0 ≤ h0.size) (hp : (0 : Int64) < q0 → (0 : Int32) < (cmpValue (FP.dcmp d1 (0 : UInt64)) .l)) (hm : q0 < (0 : Int64) → (cmpValue (FP.dcmp d1 (0 : UInt64)) .g) < (0 : Int32)) (hz : ¬ (0 : Int64) < q0 → ¬ q0 < (0 : Int64) → (cmpValue (FP.dcmp d1 (0 : UInt64)) .l) = (0 : Int32)) : own_M l Z (⟨"com/example/matchgate/matchgate/bench/RunOperationsPerSecondPinLaw", "sign", "(JD)Z"⟩ : MethodName) method_3_code 4 (some .boolean) ws ({ frames := 0, cells := 0, slots := 0, locals := 0 } : Room) #[(.long q0), (.double d1)] h0 (own_QI (1 : Int32) h0 n0) := by
  refine own_begin (n0 := n0) (f0 := mkF ⟨0, 0⟩ 0 #[.val (.long q0), .second, .val (.double d1), .second] []) (plainFor_of_name own_pn2) (fun m => ef_22_4 m _ _ rfl rfl) ?_
  intro p e s m below meth c s₁ Bd hZ hx hby hml hown hnm X0 e0 N0
  refine own_go (b := s₁.setTop (mkF m 3 #[.val (.long q0), .second, .val (.double d1), .second] [(.int (lcmpW q0 (0 : Int64)))])) (fun t k => XS.lloadN X0.here hx rfl (hb hby d_B5_0) rfl (XS.lconst X0.here hx rfl (hb hby d_B5_1) (show Steps p.tables e below (s₁.setTop (mkF m 2 #[.val (.long q0), .second, .val (.double d1), .second] [(.long (0 : Int64)), (.long q0)])) _ from XS.lcmp X0.here hx rfl (hb hby d_B5_2) rfl k))) ?_
  by_cases hc3_1 : (0 : Int64) < q0
  · exact own_ret (v := some (.int 1)) X0 e0 Bd.notSynchronized (nv Bd.returns) (fun fs hr => xifNo X0 hx hby rfl d_B5_3 rfl ((if0 _ _).trans (tlt ((lw_gt _ _).mpr hc3_1)).2.2.2) (XS.own_dloadN X0.here hx rfl (hb hby d_B5_6) rfl (XS.own_dconst X0.here hx rfl (hb hby d_B5_7) (XS.own_dcmpI X0.here hx rfl (hb hby d_B5_8) rfl (xifNo X0 hx hby rfl d_B5_9 rfl ((if0 _ _).trans (tlt (hp hc3_1 : (0 : Int32) < (cmpValue (FP.dcmp d1 (0 : UInt64)) .l))).2.2.2) (xiconst X0 hx hby rfl d_B5_12 (show Steps p.tables e below (s₁.setTop (mkF m 13 #[.val (.long q0), .second, .val (.double d1), .second] [.int 1])) _ from xgoto X0 hx hby rfl 13 17 rfl d_B5_13 (by decide) (by decide) (retN X0 hx (t := .boolean) Bd.returns (by simp) (hb hby d_B5_17) hr)))))))) ⟨rfl, N0, rfl⟩ (by decide)
  · refine own_go (b := s₁.setTop (mkF m 21 #[.val (.long q0), .second, .val (.double d1), .second] [(.int (lcmpW q0 (0 : Int64)))])) (fun t k => xifYes X0 hx hby rfl 3 18 rfl d_B5_3 rfl ((if0 _ _).trans (flt (mt (lw_gt _ _).mp hc3_1)).2.2.2) (by decide) (by decide) (XS.lloadN X0.here hx rfl (hb hby d_B5_18) rfl (XS.lconst X0.here hx rfl (hb hby d_B5_19) (show Steps p.tables e below (s₁.setTop (mkF m 20 #[.val (.long q0), .second, .val (.double d1), .second] [(.long (0 : Int64)), (.long q0)])) _ from XS.lcmp X0.here hx rfl (hb hby d_B5_20) rfl k)))) ?_
    by_cases hc21_2 : q0 < (0 : Int64)
    · exact own_ret (v := some (.int 1)) X0 e0 Bd.notSynchronized (nv Bd.returns) (fun fs hr => xifNo X0 hx hby rfl d_B5_21 rfl ((if0 _ _).trans (tlt ((lw_lt _ _).mpr hc21_2)).2.1) (XS.own_dloadN X0.here hx rfl (hb hby d_B5_24) rfl (XS.own_dconst X0.here hx rfl (hb hby d_B5_25) (XS.own_dcmpI X0.here hx rfl (hb hby d_B5_26) rfl (xifNo X0 hx hby rfl d_B5_27 rfl ((if0 _ _).trans (tlt (hm hc21_2 : (cmpValue (FP.dcmp d1 (0 : UInt64)) .g) < (0 : Int32))).2.1) (xiconst X0 hx hby rfl d_B5_30 (show Steps p.tables e below (s₁.setTop (mkF m 31 #[.val (.long q0), .second, .val (.double d1), .second] [.int 1])) _ from xgoto X0 hx hby rfl 31 35 rfl d_B5_31 (by decide) (by decide) (retN X0 hx (t := .boolean) Bd.returns (by simp) (hb hby d_B5_35) hr)))))))) ⟨rfl, N0, rfl⟩ (by decide)
    · exact own_ret (v := some (.int 1)) X0 e0 Bd.notSynchronized (nv Bd.returns) (fun fs hr => xifYes X0 hx hby rfl 21 36 rfl d_B5_21 rfl ((if0 _ _).trans (flt (mt (lw_lt _ _).mp hc21_2)).2.1) (by decide) (by decide) (XS.own_dloadN X0.here hx rfl (hb hby d_B5_36) rfl (XS.own_dconst X0.here hx rfl (hb hby d_B5_37) (XS.own_dcmpI X0.here hx rfl (hb hby d_B5_38) rfl (xifNo X0 hx hby rfl d_B5_39 rfl ((if0 _ _).trans (teq (hz hc3_1 hc21_2 : (cmpValue (FP.dcmp d1 (0 : UInt64)) .l) = (0 : Int32))).2) (xiconst X0 hx hby rfl d_B5_42 (show Steps p.tables e below (s₁.setTop (mkF m 43 #[.val (.long q0), .second, .val (.double d1), .second] [.int 1])) _ from xgoto X0 hx hby rfl 43 47 rfl d_B5_43 (by decide) (by decide) (retN X0 hx (t := .boolean) Bd.returns (by simp) (hb hby d_B5_47) hr)))))))) ⟨rfl, N0, rfl⟩ (by decide)
def own_Q0 (n0 : Nat) (v : Option Value) (h : Heap) (L : List Loc) : Prop := v = some (.int 1) ∧ Fr n0 L
theorem ef_own_rm0 (m : MethodId) (x0 : Int64) (x1 : Int64) (x2 : Int64) (x3 : Int64) (x4 : Int32) (x5 : Int32) : entryFrame m #[(.long x0), (.long x1), (.long x2), (.long x3), .int x4, .int x5] maxLocals = mkF m 0 #[.val (.long x0), .second, .val (.long x1), .second, .val (.long x2), .second, .val (.long x3), .second, iv x4, iv x5, .unset, .unset, .unset, .unset, .unset, .unset, .unset, .unset, .unset, .unset, .unset, .unset, .unset, .unset, .unset, .unset, .unset, .unset] [] := by first | (simp [entryFrame, mkF, argsToLocals, Value.category, maxLocals]; done) | rfl
set_option maxRecDepth 65536 in
set_option maxHeartbeats 40000000 in
theorem own_rm0 (l : Launch) (Z : State) (a0 : Array Value) (hw : ∀ d ∈ tables_1, d.before a0 Z = true) (ws : List Jvm.Cond) (q0 : Int64) (q1 : Int64) (q2 : Int64) (q3 : Int64) (p4 : Int32) (p5 : Int32) (h0 : Heap) (n0 : Nat) (Z0 : n0 ≤ h0.size) :
    MetFree l x (head1 (Jvm.Cond.code x code maxLocals ret :: ws) room_1) (fun a U => a = #[(.long q0), (.long q1), (.long q2), (.long q3), .int p4, .int p5] ∧ Z.Warmed39 U.vm ∧ U.heap = h0) (fun _ _ _ _ _ => True) (fun _ U o U' => ∃ v L, o = .returned v ∧ own_Q0 n0 v U'.heap L ∧ FrameEnd U o U' L room_1.cells room_1.slots) := by
  refine MetFree.of_bodySF (plainFor_of_name own_pn2) hisR ?_
  intro p e s m args below meth c s₁ Bd hml0 hP hK
  obtain ⟨rfl, hZ, hh⟩ := hP
  have hx := Bd.exec
  have hby := Bd.bytes
  have hml : c.maxLocals = 28 := hml0
  have hown : s.vm.findClass "com/example/matchgate/matchgate/bench/RunOperationsPerSecondPinLaw" = some m.cls := findClass_of_methodNamed Bd.named
  have hnm := (name_of_methodNamed Bd.named Bd.method).1
  have X0 : Stand p l e room_1 s m #[(.long q0), (.long q1), (.long q2), (.long q3), .int p4, .int p5] below meth c s₁ [] 0 0 := Stand.of_body Bd
  have e0 : s₁.heap = h0 := by rw [← hh, Bd.state]; rfl
  have N0 := Fr.nil n0
  refine own_go (b := s₁.setTop (mkF m 0 #[.val (.long q0), .second, .val (.long q1), .second, .val (.long q2), .second, .val (.long q3), .second, iv p4, iv p5, .unset, .unset, .unset, .unset, .unset, .unset, .unset, .unset, .unset, .unset, .unset, .unset, .unset, .unset, .unset, .unset, .unset, .unset] [])) (fun t k => castTop (ef_own_rm0 m q0 q1 q2 q3 p4 p5) k) ?_
  refine own_go (b := s₁.setTop (mkF m 7 #[.val (.long q0), .second, .val (.long q1), .second, .val (.long q2), .second, .val (.long q3), .second, iv p4, iv p5, .unset, .unset, .unset, .unset, .unset, .unset, .unset, .unset, .unset, .unset, .unset, .unset, .unset, .unset, .unset, .unset, .unset, .unset] [(.long ((p4 - (p4 / (4096 : Int32)) * (4096 : Int32)).toInt64))])) (fun t k => xiload X0 hx hby rfl at_0 rfl (xsipush X0 hx hby rfl at_2 (show Steps p.tables e below (s₁.setTop (mkF m 5 #[.val (.long q0), .second, .val (.long q1), .second, .val (.long q2), .second, .val (.long q3), .second, iv p4, iv p5, .unset, .unset, .unset, .unset, .unset, .unset, .unset, .unset, .unset, .unset, .unset, .unset, .unset, .unset, .unset, .unset, .unset, .unset] [.int 4096, .int p4])) _ from xirem X0 hx hby rfl at_5 rfl (by decide) (XS.i2l X0.here hx rfl (hb hby at_6) rfl k)))) ?_
  have hqq := own_hqq p4
  generalize ((p4 - (p4 / (4096 : Int32)) * (4096 : Int32)).toInt64) = qq at hqq ⊢
  refine own_go (b := s₁.setTop (mkF m 18 #[.val (.long q0), .second, .val (.long q1), .second, .val (.long q2), .second, .val (.long q3), .second, iv p4, iv p5, .val (.long qq), .second, .unset, .unset, .unset, .unset, .unset, .unset, .unset, .unset, .unset, .unset, .unset, .unset, .unset, .unset, .unset, .unset] [(.long (((p5 &&& (1023 : Int32)) + (1 : Int32)).toInt64))])) (fun t k => XS.lstore X0.here hx rfl (hb hby at_7) rfl (l' := #[.val (.long q0), .second, .val (.long q1), .second, .val (.long q2), .second, .val (.long q3), .second, iv p4, iv p5, .val (.long qq), .second, .unset, .unset, .unset, .unset, .unset, .unset, .unset, .unset, .unset, .unset, .unset, .unset, .unset, .unset, .unset, .unset]) rfl (xiload X0 hx hby rfl at_9 rfl (xsipush X0 hx hby rfl at_11 (show Steps p.tables e below (s₁.setTop (mkF m 14 #[.val (.long q0), .second, .val (.long q1), .second, .val (.long q2), .second, .val (.long q3), .second, iv p4, iv p5, .val (.long qq), .second, .unset, .unset, .unset, .unset, .unset, .unset, .unset, .unset, .unset, .unset, .unset, .unset, .unset, .unset, .unset, .unset] [.int 1023, .int p5])) _ from xiand X0 hx hby rfl at_14 rfl (xiconst X0 hx hby rfl at_15 (show Steps p.tables e below (s₁.setTop (mkF m 16 #[.val (.long q0), .second, .val (.long q1), .second, .val (.long q2), .second, .val (.long q3), .second, iv p4, iv p5, .val (.long qq), .second, .unset, .unset, .unset, .unset, .unset, .unset, .unset, .unset, .unset, .unset, .unset, .unset, .unset, .unset, .unset, .unset] [.int 1, (.int (p5 &&& (1023 : Int32)))])) _ from xiadd X0 hx hby rfl at_16 rfl (XS.i2l X0.here hx rfl (hb hby at_17) rfl k))))))) ?_
  have hdd := own_hdd p5
  generalize (((p5 &&& (1023 : Int32)) + (1 : Int32)).toInt64) = dd at hdd ⊢
  obtain ⟨T1, h1, X1, e1, E1, A1, D1, -, st1⟩ := newO X0 hx hZ hown (wd hw 0 rfl) (wd hw 1 rfl) (wd hw 2 rfl) e0 (g := (mkF m 20 #[.val (.long q0), .second, .val (.long q1), .second, .val (.long q2), .second, .val (.long q3), .second, iv p4, iv p5, .val (.long qq), .second, .val (.long dd), .second, .unset, .unset, .unset, .unset, .unset, .unset, .unset, .unset, .unset, .unset, .unset, .unset, .unset, .unset] [])) rfl (hb hby at_20) (by decide) (by decide)
  obtain ⟨b1, g1⟩ : ∃ z, z = h0.size := ⟨_, rfl⟩
  rw [← g1] at A1 D1 st1
  have new_b1 : n0 ≤ b1 := Nat.le_trans Z0 (Nat.le_of_eq g1.symm)
  have sz_b1 : h0.size ≤ b1 := Nat.le_trans (Keep.refl h0 []).1 (Nat.le_of_eq g1.symm)
  have K1 := (Keep.refl h0 []).ext E1
  have F_b1_operations_1 : Fld Z h1 b1 "com/example/matchgate/matchgate/bench/Contender$Run" "operations" "J" (.long (0 : Int64)) := D1 (Or.inr (wd hw 15 rfl)) (ty := .long) (by decide)
  have F_b1_trades_1 : Fld Z h1 b1 "com/example/matchgate/matchgate/bench/Contender$Run" "trades" "J" (.long (0 : Int64)) := D1 (Or.inr (wd hw 17 rfl)) (ty := .long) (by decide)
  have F_b1_nanos_1 : Fld Z h1 b1 "com/example/matchgate/matchgate/bench/Contender$Run" "nanos" "J" (.long (0 : Int64)) := D1 (Or.inr (wd hw 19 rfl)) (ty := .long) (by decide)
  refine own_go (b := T1.setTop (mkF m 33 #[.val (.long q0), .second, .val (.long q1), .second, .val (.long q2), .second, .val (.long q3), .second, iv p4, iv p5, .val (.long qq), .second, .val (.long dd), .second, .unset, .unset, .unset, .unset, .unset, .unset, .unset, .unset, .unset, .unset, .unset, .unset, .unset, .unset] [(.long dd), (.long q2), (.long (qq * dd)), .ref b1, .ref b1])) (fun t k => XS.lstore X0.here hx rfl (hb hby at_18) rfl (l' := #[.val (.long q0), .second, .val (.long q1), .second, .val (.long q2), .second, .val (.long q3), .second, iv p4, iv p5, .val (.long qq), .second, .val (.long dd), .second, .unset, .unset, .unset, .unset, .unset, .unset, .unset, .unset, .unset, .unset, .unset, .unset, .unset, .unset]) rfl (st1 _ (xdup X1 hx hby rfl at_23 rfl rfl (XS.lload X1.here hx rfl (hb hby at_24) rfl (XS.lload X1.here hx rfl (hb hby at_26) rfl (XS.lmul X1.here hx rfl (hb hby at_28) rfl (show Steps p.tables e below (T1.setTop (mkF m 29 #[.val (.long q0), .second, .val (.long q1), .second, .val (.long q2), .second, .val (.long q3), .second, iv p4, iv p5, .val (.long qq), .second, .val (.long dd), .second, .unset, .unset, .unset, .unset, .unset, .unset, .unset, .unset, .unset, .unset, .unset, .unset, .unset, .unset] [(.long (qq * dd)), .ref b1, .ref b1])) _ from XS.lload X1.here hx rfl (hb hby at_29) rfl (XS.lload X1.here hx rfl (hb hby at_31) rfl k)))))))) ?_
  clear E1 D1 st1
  refine own_ci X1 hx hZ hown hml e1 (wd hw 3 rfl) (wd hw 4 rfl) (wd hw 2 rfl) (wd hw 5 rfl) (own_rmRun l Z a0 hw [] b1 (qq * dd) q2 dd h1 n0 (Nat.le_trans Z0 K1.1) A1 F_b1_operations_1 F_b1_trades_1 F_b1_nanos_1 new_b1) own_pd1 (hb hby at_33) 1 [.ref b1] rfl rfl ⟨rfl, rfl, rfl, rfl, rfl⟩ (by decide) rfl ?_
  rintro T2 L2 v2 X2 hQ2
  obtain ⟨rfl, N2q, K2q, B2_0, B2_1⟩ := hQ2
  have E_b1_2 := A1.keep K2q
  have N2 := Fr.app N0 N2q
  have K2 := K1.trans K2q (fun x hx => by cases List.mem_singleton.mp hx; exact Or.inr sz_b1)
  refine own_go (b := T2.setTop (mkF m 36 #[.val (.long q0), .second, .val (.long q1), .second, .val (.long q2), .second, .val (.long q3), .second, iv p4, iv p5, .val (.long qq), .second, .val (.long dd), .second, .unset, .unset, .unset, .unset, .unset, .unset, .unset, .unset, .unset, .unset, .unset, .unset, .unset, .unset] [.ref b1])) (fun t k => ?_) ?_
  · exact k
  clear X1 e1 A1 K1 F_b1_operations_1 F_b1_trades_1 F_b1_nanos_1 N2q K2q
  refine own_cv X2 hx hZ hown hml rfl (wd hw 20 rfl) (wd hw 21 rfl) (wd hw 23 rfl) (wd hw 22 rfl) (wd hw 2 rfl) (wd hw 24 rfl) E_b1_2 (own_rmOps l Z a0 hw [] b1 (qq * dd) dd T2.heap n0 (Nat.le_trans Z0 K2.1) B2_0 B2_1 hdd.1) own_pd2 (hb hby at_36) 0 [] rfl rfl ⟨rfl, rfl, rfl, rfl, rfl⟩ (by decide) ?_
  rintro T3 L3 v3 X3 hQ3
  obtain ⟨rfl, N3q, e3⟩ := hQ3
  have N3 := Fr.app N2 N3q
  refine own_go (b := T3.setTop (mkF m 67 #[.val (.long q0), .second, .val (.long q1), .second, .val (.long q2), .second, .val (.long q3), .second, iv p4, iv p5, .val (.long qq), .second, .val (.long dd), .second, .val (.double (FP.Core.own_ops (qq * dd) dd)), .second, iv 1, .unset, .unset, .unset, .unset, .unset, .unset, .unset, .unset, .unset, .unset, .unset] [(.long (q3 &&& (9223372036854775807 : Int64)))])) (fun t k => XS.own_dstore X3.here hx rfl (hb hby at_39) rfl (l' := #[.val (.long q0), .second, .val (.long q1), .second, .val (.long q2), .second, .val (.long q3), .second, iv p4, iv p5, .val (.long qq), .second, .val (.long dd), .second, .val (.double (FP.Core.own_ops (qq * dd) dd)), .second, .unset, .unset, .unset, .unset, .unset, .unset, .unset, .unset, .unset, .unset, .unset, .unset]) rfl (XS.own_dload X3.here hx rfl (hb hby at_41) rfl (XS.lload X3.here hx rfl (hb hby at_43) rfl (X3.ldc2Long hx hown (mvT hZ (wd hw 26 rfl)) (g := (mkF m 45 #[.val (.long q0), .second, .val (.long q1), .second, .val (.long q2), .second, .val (.long q3), .second, iv p4, iv p5, .val (.long qq), .second, .val (.long dd), .second, .val (.double (FP.Core.own_ops (qq * dd) dd)), .second, .unset, .unset, .unset, .unset, .unset, .unset, .unset, .unset, .unset, .unset, .unset, .unset] [(.long qq), (.double (FP.Core.own_ops (qq * dd) dd))])) rfl (hb hby at_45) _ (XS.lmul X3.here hx rfl (hb hby at_48) rfl (XS.own_l2d X3.here hx rfl (hb hby at_49) rfl (show Steps p.tables e below (T3.setTop (mkF m 50 #[.val (.long q0), .second, .val (.long q1), .second, .val (.long q2), .second, .val (.long q3), .second, iv p4, iv p5, .val (.long qq), .second, .val (.long dd), .second, .val (.double (FP.Core.own_ops (qq * dd) dd)), .second, .unset, .unset, .unset, .unset, .unset, .unset, .unset, .unset, .unset, .unset, .unset, .unset] [(.double (FP.l2d (qq * (1000000000 : Int64)))), (.double (FP.Core.own_ops (qq * dd) dd))])) _ from XS.own_dcmpI X3.here hx rfl (hb hby at_50) rfl (xifNo X3 hx hby rfl at_51 rfl ((if0 _ _).trans (teq (own_L1 hqq hdd.1 hdd.2 : (cmpValue (FP.dcmp (FP.Core.own_ops (qq * dd) dd) (FP.l2d (qq * (1000000000 : Int64)))) .l) = (0 : Int32))).2) (xiconst X3 hx hby rfl at_54 (xgoto X3 hx hby rfl 55 59 rfl at_55 (by decide) (by decide) (xistore X3 hx hby rfl at_59 rfl (l' := #[.val (.long q0), .second, .val (.long q1), .second, .val (.long q2), .second, .val (.long q3), .second, iv p4, iv p5, .val (.long qq), .second, .val (.long dd), .second, .val (.double (FP.Core.own_ops (qq * dd) dd)), .second, iv 1, .unset, .unset, .unset, .unset, .unset, .unset, .unset, .unset, .unset, .unset, .unset]) rfl (XS.lload X3.here hx rfl (hb hby at_61) rfl (show Steps p.tables e below (T3.setTop (mkF m 63 #[.val (.long q0), .second, .val (.long q1), .second, .val (.long q2), .second, .val (.long q3), .second, iv p4, iv p5, .val (.long qq), .second, .val (.long dd), .second, .val (.double (FP.Core.own_ops (qq * dd) dd)), .second, iv 1, .unset, .unset, .unset, .unset, .unset, .unset, .unset, .unset, .unset, .unset, .unset] [(.long q3)])) _ from X3.ldc2Long hx hown (mvT hZ (wd hw 27 rfl)) (g := (mkF m 63 #[.val (.long q0), .second, .val (.long q1), .second, .val (.long q2), .second, .val (.long q3), .second, iv p4, iv p5, .val (.long qq), .second, .val (.long dd), .second, .val (.double (FP.Core.own_ops (qq * dd) dd)), .second, iv 1, .unset, .unset, .unset, .unset, .unset, .unset, .unset, .unset, .unset, .unset, .unset] [(.long q3)])) rfl (hb hby at_63) _ (XS.land X3.here hx rfl (hb hby at_66) rfl k)))))))))))))) ?_
  clear X2 N2 N3q
  have hnn0 := own_hnn q3
  generalize (q3 &&& (9223372036854775807 : Int64)) = nn0 at hnn0 ⊢
  refine own_go (b := T3.setTop (mkF m 73 #[.val (.long q0), .second, .val (.long q1), .second, .val (.long q2), .second, .val (.long q3), .second, iv p4, iv p5, .val (.long qq), .second, .val (.long dd), .second, .val (.double (FP.Core.own_ops (qq * dd) dd)), .second, iv 1, .val (.long nn0), .second, .unset, .unset, .unset, .unset, .unset, .unset, .unset, .unset, .unset] [(.int (lcmpW nn0 (0 : Int64)))])) (fun t k => XS.lstore X3.here hx rfl (hb hby at_67) rfl (l' := #[.val (.long q0), .second, .val (.long q1), .second, .val (.long q2), .second, .val (.long q3), .second, iv p4, iv p5, .val (.long qq), .second, .val (.long dd), .second, .val (.double (FP.Core.own_ops (qq * dd) dd)), .second, iv 1, .val (.long nn0), .second, .unset, .unset, .unset, .unset, .unset, .unset, .unset, .unset, .unset]) rfl (XS.lload X3.here hx rfl (hb hby at_69) rfl (XS.lconst X3.here hx rfl (hb hby at_71) (show Steps p.tables e below (T3.setTop (mkF m 72 #[.val (.long q0), .second, .val (.long q1), .second, .val (.long q2), .second, .val (.long q3), .second, iv p4, iv p5, .val (.long qq), .second, .val (.long dd), .second, .val (.double (FP.Core.own_ops (qq * dd) dd)), .second, iv 1, .val (.long nn0), .second, .unset, .unset, .unset, .unset, .unset, .unset, .unset, .unset, .unset] [(.long (0 : Int64)), (.long nn0)])) _ from XS.lcmp X3.here hx rfl (hb hby at_72) rfl k)))) ?_
  by_cases hc73_4 : nn0 = (0 : Int64)
  · refine own_go (b := T3.setTop (mkF m 81 #[.val (.long q0), .second, .val (.long q1), .second, .val (.long q2), .second, .val (.long q3), .second, iv p4, iv p5, .val (.long qq), .second, .val (.long dd), .second, .val (.double (FP.Core.own_ops (qq * dd) dd)), .second, iv 1, .val (.long (1 : Int64)), .second, .unset, .unset, .unset, .unset, .unset, .unset, .unset, .unset, .unset] [(.long q1), (.long q0)])) (fun t k => xifNo X3 hx hby rfl at_73 rfl ((if0 _ _).trans (teq ((lw_eq _ _).mpr hc73_4)).2) (XS.lconst X3.here hx rfl (hb hby at_76) (XS.lstore X3.here hx rfl (hb hby at_77) rfl (l' := #[.val (.long q0), .second, .val (.long q1), .second, .val (.long q2), .second, .val (.long q3), .second, iv p4, iv p5, .val (.long qq), .second, .val (.long dd), .second, .val (.double (FP.Core.own_ops (qq * dd) dd)), .second, iv 1, .val (.long (1 : Int64)), .second, .unset, .unset, .unset, .unset, .unset, .unset, .unset, .unset, .unset]) rfl (XS.lloadN X3.here hx rfl (hb hby at_79) rfl (XS.lloadN X3.here hx rfl (hb hby at_80) rfl k))))) ?_
    refine own_cs X3 hx hZ hown hml e3 (wd hw 28 rfl) (wd hw 29 rfl) (wd hw 30 rfl) (wd hw 31 rfl) (own_rm_min l Z a0 hw [] q0 q1 T2.heap n0 (Nat.le_trans Z0 K2.1) ) own_pd3 (hb hby at_81) 0 [] rfl ⟨rfl, rfl, rfl, rfl, rfl⟩ (by decide) ?_
    rintro T5 L5 v5 X5 hQ5
    obtain ⟨rfl, N5q, e5⟩ := hQ5
    have N5 := Fr.app N3 N5q
    refine own_go (b := T5.setTop (mkF m 88 #[.val (.long q0), .second, .val (.long q1), .second, .val (.long q2), .second, .val (.long q3), .second, iv p4, iv p5, .val (.long qq), .second, .val (.long dd), .second, .val (.double (FP.Core.own_ops (qq * dd) dd)), .second, iv 1, .val (.long (1 : Int64)), .second, .val (.long (own_min q0 q1)), .second, .unset, .unset, .unset, .unset, .unset, .unset, .unset] [(.long q1), (.long q0)])) (fun t k => XS.lstore X5.here hx rfl (hb hby at_84) rfl (l' := #[.val (.long q0), .second, .val (.long q1), .second, .val (.long q2), .second, .val (.long q3), .second, iv p4, iv p5, .val (.long qq), .second, .val (.long dd), .second, .val (.double (FP.Core.own_ops (qq * dd) dd)), .second, iv 1, .val (.long (1 : Int64)), .second, .val (.long (own_min q0 q1)), .second, .unset, .unset, .unset, .unset, .unset, .unset, .unset]) rfl (XS.lloadN X5.here hx rfl (hb hby at_86) rfl (XS.lloadN X5.here hx rfl (hb hby at_87) rfl k))) ?_
    clear X3 e3 N3 N5q
    refine own_cs X5 hx hZ hown hml e5 (wd hw 32 rfl) (wd hw 33 rfl) (wd hw 30 rfl) (wd hw 34 rfl) (own_rm_max l Z a0 hw [] q0 q1 T2.heap n0 (Nat.le_trans Z0 K2.1) ) own_pd3 (hb hby at_88) 0 [] rfl ⟨rfl, rfl, rfl, rfl, rfl⟩ (by decide) ?_
    rintro T6 L6 v6 X6 hQ6
    obtain ⟨rfl, N6q, e6⟩ := hQ6
    have N6 := Fr.app N5 N6q
    obtain ⟨T7, h7, X7, e7, E7, A7, D7, -, st7⟩ := newO X6 hx hZ hown (wd hw 0 rfl) (wd hw 1 rfl) (wd hw 2 rfl) e6 (g := (mkF m 93 #[.val (.long q0), .second, .val (.long q1), .second, .val (.long q2), .second, .val (.long q3), .second, iv p4, iv p5, .val (.long qq), .second, .val (.long dd), .second, .val (.double (FP.Core.own_ops (qq * dd) dd)), .second, iv 1, .val (.long (1 : Int64)), .second, .val (.long (own_min q0 q1)), .second, .val (.long (own_max q0 q1)), .second, .unset, .unset, .unset, .unset, .unset] [])) rfl (hb hby at_93) (by decide) (by decide)
    obtain ⟨b7, g7⟩ : ∃ z, z = T2.heap.size := ⟨_, rfl⟩
    rw [← g7] at A7 D7 st7
    have new_b7 : n0 ≤ b7 := Nat.le_trans (Nat.le_trans Z0 K2.1) (Nat.le_of_eq g7.symm)
    have sz_b7 : h0.size ≤ b7 := Nat.le_trans K2.1 (Nat.le_of_eq g7.symm)
    have E_b1_7 := E_b1_2.ext E7
    have F_b1_operations_7 := B2_0.ext E7
    have F_b1_nanos_7 := B2_1.ext E7
    have K7 := K2.ext E7
    have F_b7_operations_7 : Fld Z h7 b7 "com/example/matchgate/matchgate/bench/Contender$Run" "operations" "J" (.long (0 : Int64)) := D7 (Or.inr (wd hw 15 rfl)) (ty := .long) (by decide)
    have F_b7_trades_7 : Fld Z h7 b7 "com/example/matchgate/matchgate/bench/Contender$Run" "trades" "J" (.long (0 : Int64)) := D7 (Or.inr (wd hw 17 rfl)) (ty := .long) (by decide)
    have F_b7_nanos_7 : Fld Z h7 b7 "com/example/matchgate/matchgate/bench/Contender$Run" "nanos" "J" (.long (0 : Int64)) := D7 (Or.inr (wd hw 19 rfl)) (ty := .long) (by decide)
    refine own_go (b := T7.setTop (mkF m 103 #[.val (.long q0), .second, .val (.long q1), .second, .val (.long q2), .second, .val (.long q3), .second, iv p4, iv p5, .val (.long qq), .second, .val (.long dd), .second, .val (.double (FP.Core.own_ops (qq * dd) dd)), .second, iv 1, .val (.long (1 : Int64)), .second, .val (.long (own_min q0 q1)), .second, .val (.long (own_max q0 q1)), .second, .unset, .unset, .unset, .unset, .unset] [(.long (1 : Int64)), (.long q2), (.long (own_min q0 q1)), .ref b7, .ref b7])) (fun t k => XS.lstore X6.here hx rfl (hb hby at_91) rfl (l' := #[.val (.long q0), .second, .val (.long q1), .second, .val (.long q2), .second, .val (.long q3), .second, iv p4, iv p5, .val (.long qq), .second, .val (.long dd), .second, .val (.double (FP.Core.own_ops (qq * dd) dd)), .second, iv 1, .val (.long (1 : Int64)), .second, .val (.long (own_min q0 q1)), .second, .val (.long (own_max q0 q1)), .second, .unset, .unset, .unset, .unset, .unset]) rfl (st7 _ (xdup X7 hx hby rfl at_96 rfl rfl (XS.lload X7.here hx rfl (hb hby at_97) rfl (XS.lload X7.here hx rfl (hb hby at_99) rfl (XS.lload X7.here hx rfl (hb hby at_101) rfl k)))))) ?_
    clear B2_0 B2_1 K2 X5 e5 N5 X6 N6q e6 E7 D7 st7
    refine own_ci X7 hx hZ hown hml e7 (wd hw 3 rfl) (wd hw 4 rfl) (wd hw 2 rfl) (wd hw 5 rfl) (own_rmRun l Z a0 hw [] b7 (own_min q0 q1) q2 (1 : Int64) h7 n0 (Nat.le_trans Z0 K7.1) A7 F_b7_operations_7 F_b7_trades_7 F_b7_nanos_7 new_b7) own_pd1 (hb hby at_103) 1 [.ref b7] rfl rfl ⟨rfl, rfl, rfl, rfl, rfl⟩ (by decide) rfl ?_
    rintro T8 L8 v8 X8 hQ8
    obtain ⟨rfl, N8q, K8q, B8_0, B8_1⟩ := hQ8
    have E_b1_8 := E_b1_7.keep K8q
    have F_b1_operations_8 := F_b1_operations_7.keep K8q (fun q => (nl E_b1_2.lt (Nat.le_of_eq g7.symm)) (List.mem_singleton.mp q))
    have F_b1_nanos_8 := F_b1_nanos_7.keep K8q (fun q => (nl E_b1_2.lt (Nat.le_of_eq g7.symm)) (List.mem_singleton.mp q))
    have E_b7_8 := A7.keep K8q
    have N8 := Fr.app N6 N8q
    have K8 := K7.trans K8q (fun x hx => by cases List.mem_singleton.mp hx; exact Or.inr sz_b7)
    refine own_go (b := T8.setTop (mkF m 106 #[.val (.long q0), .second, .val (.long q1), .second, .val (.long q2), .second, .val (.long q3), .second, iv p4, iv p5, .val (.long qq), .second, .val (.long dd), .second, .val (.double (FP.Core.own_ops (qq * dd) dd)), .second, iv 1, .val (.long (1 : Int64)), .second, .val (.long (own_min q0 q1)), .second, .val (.long (own_max q0 q1)), .second, .unset, .unset, .unset, .unset, .unset] [.ref b7])) (fun t k => ?_) ?_
    · exact k
    clear N6 X7 e7 A7 E_b1_7 F_b1_operations_7 F_b1_nanos_7 K7 F_b7_operations_7 F_b7_trades_7 F_b7_nanos_7 N8q K8q
    refine own_cv X8 hx hZ hown hml rfl (wd hw 20 rfl) (wd hw 21 rfl) (wd hw 23 rfl) (wd hw 22 rfl) (wd hw 2 rfl) (wd hw 24 rfl) E_b7_8 (own_rmOps l Z a0 hw [] b7 (own_min q0 q1) (1 : Int64) T8.heap n0 (Nat.le_trans Z0 K8.1) B8_0 B8_1 (by decide)) own_pd2 (hb hby at_106) 0 [] rfl rfl ⟨rfl, rfl, rfl, rfl, rfl⟩ (by decide) ?_
    rintro T9 L9 v9 X9 hQ9
    obtain ⟨rfl, N9q, e9⟩ := hQ9
    have N9 := Fr.app N8 N9q
    obtain ⟨T10, h10, X10, e10, E10, A10, D10, -, st10⟩ := newO X9 hx hZ hown (wd hw 0 rfl) (wd hw 1 rfl) (wd hw 2 rfl) e9 (g := (mkF m 111 #[.val (.long q0), .second, .val (.long q1), .second, .val (.long q2), .second, .val (.long q3), .second, iv p4, iv p5, .val (.long qq), .second, .val (.long dd), .second, .val (.double (FP.Core.own_ops (qq * dd) dd)), .second, iv 1, .val (.long (1 : Int64)), .second, .val (.long (own_min q0 q1)), .second, .val (.long (own_max q0 q1)), .second, .val (.double (FP.Core.own_ops (own_min q0 q1) (1 : Int64))), .second, .unset, .unset, .unset] [])) rfl (hb hby at_111) (by decide) (by decide)
    obtain ⟨b10, g10⟩ : ∃ z, z = T8.heap.size := ⟨_, rfl⟩
    rw [← g10] at A10 D10 st10
    have new_b10 : n0 ≤ b10 := Nat.le_trans (Nat.le_trans Z0 K8.1) (Nat.le_of_eq g10.symm)
    have sz_b10 : h0.size ≤ b10 := Nat.le_trans K8.1 (Nat.le_of_eq g10.symm)
    have E_b1_10 := E_b1_8.ext E10
    have F_b1_operations_10 := F_b1_operations_8.ext E10
    have F_b1_nanos_10 := F_b1_nanos_8.ext E10
    have E_b7_10 := E_b7_8.ext E10
    have F_b7_operations_10 := B8_0.ext E10
    have F_b7_nanos_10 := B8_1.ext E10
    have K10 := K8.ext E10
    have F_b10_operations_10 : Fld Z h10 b10 "com/example/matchgate/matchgate/bench/Contender$Run" "operations" "J" (.long (0 : Int64)) := D10 (Or.inr (wd hw 15 rfl)) (ty := .long) (by decide)
    have F_b10_trades_10 : Fld Z h10 b10 "com/example/matchgate/matchgate/bench/Contender$Run" "trades" "J" (.long (0 : Int64)) := D10 (Or.inr (wd hw 17 rfl)) (ty := .long) (by decide)
    have F_b10_nanos_10 : Fld Z h10 b10 "com/example/matchgate/matchgate/bench/Contender$Run" "nanos" "J" (.long (0 : Int64)) := D10 (Or.inr (wd hw 19 rfl)) (ty := .long) (by decide)
    refine own_go (b := T10.setTop (mkF m 121 #[.val (.long q0), .second, .val (.long q1), .second, .val (.long q2), .second, .val (.long q3), .second, iv p4, iv p5, .val (.long qq), .second, .val (.long dd), .second, .val (.double (FP.Core.own_ops (qq * dd) dd)), .second, iv 1, .val (.long (1 : Int64)), .second, .val (.long (own_min q0 q1)), .second, .val (.long (own_max q0 q1)), .second, .val (.double (FP.Core.own_ops (own_min q0 q1) (1 : Int64))), .second, .unset, .unset, .unset] [(.long (1 : Int64)), (.long q2), (.long (own_max q0 q1)), .ref b10, .ref b10])) (fun t k => XS.own_dstore X9.here hx rfl (hb hby at_109) rfl (l' := #[.val (.long q0), .second, .val (.long q1), .second, .val (.long q2), .second, .val (.long q3), .second, iv p4, iv p5, .val (.long qq), .second, .val (.long dd), .second, .val (.double (FP.Core.own_ops (qq * dd) dd)), .second, iv 1, .val (.long (1 : Int64)), .second, .val (.long (own_min q0 q1)), .second, .val (.long (own_max q0 q1)), .second, .val (.double (FP.Core.own_ops (own_min q0 q1) (1 : Int64))), .second, .unset, .unset, .unset]) rfl (st10 _ (xdup X10 hx hby rfl at_114 rfl rfl (XS.lload X10.here hx rfl (hb hby at_115) rfl (XS.lload X10.here hx rfl (hb hby at_117) rfl (XS.lload X10.here hx rfl (hb hby at_119) rfl k)))))) ?_
    clear X8 B8_0 B8_1 F_b1_operations_8 F_b1_nanos_8 N8 K8 X9 N9q e9 E10 D10 st10
    refine own_ci X10 hx hZ hown hml e10 (wd hw 3 rfl) (wd hw 4 rfl) (wd hw 2 rfl) (wd hw 5 rfl) (own_rmRun l Z a0 hw [] b10 (own_max q0 q1) q2 (1 : Int64) h10 n0 (Nat.le_trans Z0 K10.1) A10 F_b10_operations_10 F_b10_trades_10 F_b10_nanos_10 new_b10) own_pd1 (hb hby at_121) 1 [.ref b10] rfl rfl ⟨rfl, rfl, rfl, rfl, rfl⟩ (by decide) rfl ?_
    rintro T11 L11 v11 X11 hQ11
    obtain ⟨rfl, N11q, K11q, B11_0, B11_1⟩ := hQ11
    have E_b1_11 := E_b1_10.keep K11q
    have F_b1_operations_11 := F_b1_operations_10.keep K11q (fun q => (nl E_b1_8.lt (Nat.le_of_eq g10.symm)) (List.mem_singleton.mp q))
    have F_b1_nanos_11 := F_b1_nanos_10.keep K11q (fun q => (nl E_b1_8.lt (Nat.le_of_eq g10.symm)) (List.mem_singleton.mp q))
    have E_b7_11 := E_b7_10.keep K11q
    have F_b7_operations_11 := F_b7_operations_10.keep K11q (fun q => (nl E_b7_8.lt (Nat.le_of_eq g10.symm)) (List.mem_singleton.mp q))
    have F_b7_nanos_11 := F_b7_nanos_10.keep K11q (fun q => (nl E_b7_8.lt (Nat.le_of_eq g10.symm)) (List.mem_singleton.mp q))
    have E_b10_11 := A10.keep K11q
    have N11 := Fr.app N9 N11q
    have K11 := K10.trans K11q (fun x hx => by cases List.mem_singleton.mp hx; exact Or.inr sz_b10)
    refine own_go (b := T11.setTop (mkF m 124 #[.val (.long q0), .second, .val (.long q1), .second, .val (.long q2), .second, .val (.long q3), .second, iv p4, iv p5, .val (.long qq), .second, .val (.long dd), .second, .val (.double (FP.Core.own_ops (qq * dd) dd)), .second, iv 1, .val (.long (1 : Int64)), .second, .val (.long (own_min q0 q1)), .second, .val (.long (own_max q0 q1)), .second, .val (.double (FP.Core.own_ops (own_min q0 q1) (1 : Int64))), .second, .unset, .unset, .unset] [.ref b10])) (fun t k => ?_) ?_
    · exact k
    clear N9 X10 e10 A10 E_b1_10 F_b1_operations_10 F_b1_nanos_10 E_b7_10 F_b7_operations_10 F_b7_nanos_10 K10 F_b10_operations_10 F_b10_trades_10 F_b10_nanos_10 N11q K11q
    refine own_cv X11 hx hZ hown hml rfl (wd hw 20 rfl) (wd hw 21 rfl) (wd hw 23 rfl) (wd hw 22 rfl) (wd hw 2 rfl) (wd hw 24 rfl) E_b10_11 (own_rmOps l Z a0 hw [] b10 (own_max q0 q1) (1 : Int64) T11.heap n0 (Nat.le_trans Z0 K11.1) B11_0 B11_1 (by decide)) own_pd2 (hb hby at_124) 0 [] rfl rfl ⟨rfl, rfl, rfl, rfl, rfl⟩ (by decide) ?_
    rintro T12 L12 v12 X12 hQ12
    obtain ⟨rfl, N12q, e12⟩ := hQ12
    have N12 := Fr.app N11 N12q
    refine own_go (b := T12.setTop (mkF m 158 #[.val (.long q0), .second, .val (.long q1), .second, .val (.long q2), .second, .val (.long q3), .second, iv p4, iv p5, .val (.long qq), .second, .val (.long dd), .second, .val (.double (FP.Core.own_ops (qq * dd) dd)), .second, iv 1, .val (.long (1 : Int64)), .second, .val (.long (own_min q0 q1)), .second, .val (.long (own_max q0 q1)), .second, .val (.double (FP.Core.own_ops (own_min q0 q1) (1 : Int64))), .second, .val (.double (FP.Core.own_ops (own_max q0 q1) (1 : Int64))), .second, iv 1] [(.double (FP.Core.own_ops (own_min q0 q1) (1 : Int64))), (.long (own_min q0 q1))])) (fun t k => XS.own_dstore X12.here hx rfl (hb hby at_127) rfl (l' := #[.val (.long q0), .second, .val (.long q1), .second, .val (.long q2), .second, .val (.long q3), .second, iv p4, iv p5, .val (.long qq), .second, .val (.long dd), .second, .val (.double (FP.Core.own_ops (qq * dd) dd)), .second, iv 1, .val (.long (1 : Int64)), .second, .val (.long (own_min q0 q1)), .second, .val (.long (own_max q0 q1)), .second, .val (.double (FP.Core.own_ops (own_min q0 q1) (1 : Int64))), .second, .val (.double (FP.Core.own_ops (own_max q0 q1) (1 : Int64))), .second, .unset]) rfl (XS.own_dload X12.here hx rfl (hb hby at_129) rfl (XS.own_dload X12.here hx rfl (hb hby at_131) rfl (XS.own_dcmpI X12.here hx rfl (hb hby at_133) rfl (xifNo X12 hx hby rfl at_134 rfl ((if0 _ _).trans (flt (own_L2 q0 q1 (1 : Int64) (by decide) : ¬ ((0 : Int32) < (cmpValue (FP.dcmp (FP.Core.own_ops (own_min q0 q1) (1 : Int64)) (FP.Core.own_ops (own_max q0 q1) (1 : Int64))) .g)))).2.2.1) (xiconst X12 hx hby rfl at_137 (show Steps p.tables e below (T12.setTop (mkF m 138 #[.val (.long q0), .second, .val (.long q1), .second, .val (.long q2), .second, .val (.long q3), .second, iv p4, iv p5, .val (.long qq), .second, .val (.long dd), .second, .val (.double (FP.Core.own_ops (qq * dd) dd)), .second, iv 1, .val (.long (1 : Int64)), .second, .val (.long (own_min q0 q1)), .second, .val (.long (own_max q0 q1)), .second, .val (.double (FP.Core.own_ops (own_min q0 q1) (1 : Int64))), .second, .val (.double (FP.Core.own_ops (own_max q0 q1) (1 : Int64))), .second, .unset] [.int 1])) _ from xgoto X12 hx hby rfl 138 142 rfl at_138 (by decide) (by decide) (xistore X12 hx hby rfl at_142 rfl (l' := #[.val (.long q0), .second, .val (.long q1), .second, .val (.long q2), .second, .val (.long q3), .second, iv p4, iv p5, .val (.long qq), .second, .val (.long dd), .second, .val (.double (FP.Core.own_ops (qq * dd) dd)), .second, iv 1, .val (.long (1 : Int64)), .second, .val (.long (own_min q0 q1)), .second, .val (.long (own_max q0 q1)), .second, .val (.double (FP.Core.own_ops (own_min q0 q1) (1 : Int64))), .second, .val (.double (FP.Core.own_ops (own_max q0 q1) (1 : Int64))), .second, iv 1]) rfl (xiload X12 hx hby rfl at_144 rfl (xifNo X12 hx hby rfl at_146 rfl ((if0 _ _).trans (feq ((by decide) : ¬ ((1 : Int32) = (0 : Int32)))).1) (xiload X12 hx hby rfl at_149 rfl (xifNo X12 hx hby rfl at_151 rfl ((if0 _ _).trans (feq ((by decide) : ¬ ((1 : Int32) = (0 : Int32)))).1) (show Steps p.tables e below (T12.setTop (mkF m 154 #[.val (.long q0), .second, .val (.long q1), .second, .val (.long q2), .second, .val (.long q3), .second, iv p4, iv p5, .val (.long qq), .second, .val (.long dd), .second, .val (.double (FP.Core.own_ops (qq * dd) dd)), .second, iv 1, .val (.long (1 : Int64)), .second, .val (.long (own_min q0 q1)), .second, .val (.long (own_max q0 q1)), .second, .val (.double (FP.Core.own_ops (own_min q0 q1) (1 : Int64))), .second, .val (.double (FP.Core.own_ops (own_max q0 q1) (1 : Int64))), .second, iv 1] [])) _ from XS.lload X12.here hx rfl (hb hby at_154) rfl (XS.own_dload X12.here hx rfl (hb hby at_156) rfl k)))))))))))))) ?_
    clear X11 N11 N12q
    refine own_cs X12 hx hZ hown hml e12 (wd hw 35 rfl) (wd hw 36 rfl) (wd hw 37 rfl) (wd hw 38 rfl) (own_rmSg l Z a0 hw [] (own_min q0 q1) (FP.Core.own_ops (own_min q0 q1) (1 : Int64)) T11.heap n0 (Nat.le_trans Z0 K11.1) (own_L3 (own_min q0 q1) (1 : Int64) (by decide)).1 (own_L3 (own_min q0 q1) (1 : Int64) (by decide)).2.1 (own_L3 (own_min q0 q1) (1 : Int64) (by decide)).2.2) own_pd4 (hb hby at_158) 0 [] rfl ⟨rfl, rfl, rfl, rfl, rfl⟩ (by decide) ?_
    rintro T13 L13 v13 X13 hQ13
    obtain ⟨rfl, N13q, e13⟩ := hQ13
    have N13 := Fr.app N12 N13q
    refine own_go (b := T13.setTop (mkF m 168 #[.val (.long q0), .second, .val (.long q1), .second, .val (.long q2), .second, .val (.long q3), .second, iv p4, iv p5, .val (.long qq), .second, .val (.long dd), .second, .val (.double (FP.Core.own_ops (qq * dd) dd)), .second, iv 1, .val (.long (1 : Int64)), .second, .val (.long (own_min q0 q1)), .second, .val (.long (own_max q0 q1)), .second, .val (.double (FP.Core.own_ops (own_min q0 q1) (1 : Int64))), .second, .val (.double (FP.Core.own_ops (own_max q0 q1) (1 : Int64))), .second, iv 1] [(.double (FP.Core.own_ops (own_max q0 q1) (1 : Int64))), (.long (own_max q0 q1))])) (fun t k => xifNo X13 hx hby rfl at_161 rfl ((if0 _ _).trans (feq ((by decide) : ¬ ((1 : Int32) = (0 : Int32)))).1) (XS.lload X13.here hx rfl (hb hby at_164) rfl (XS.own_dload X13.here hx rfl (hb hby at_166) rfl k))) ?_
    clear X12 e12 N12 N13q
    refine own_cs X13 hx hZ hown hml e13 (wd hw 35 rfl) (wd hw 36 rfl) (wd hw 37 rfl) (wd hw 38 rfl) (own_rmSg l Z a0 hw [] (own_max q0 q1) (FP.Core.own_ops (own_max q0 q1) (1 : Int64)) T11.heap n0 (Nat.le_trans Z0 K11.1) (own_L3 (own_max q0 q1) (1 : Int64) (by decide)).1 (own_L3 (own_max q0 q1) (1 : Int64) (by decide)).2.1 (own_L3 (own_max q0 q1) (1 : Int64) (by decide)).2.2) own_pd4 (hb hby at_168) 0 [] rfl ⟨rfl, rfl, rfl, rfl, rfl⟩ (by decide) ?_
    rintro T14 L14 v14 X14 hQ14
    obtain ⟨rfl, N14q, e14⟩ := hQ14
    have N14 := Fr.app N13 N14q
    obtain ⟨fs, hr, hrun, hended, hW, hsame⟩ := X14.leave (v := some (.int 1)) (fun h => by rw [Bd.returns] at h; cases h)
    refine ⟨_, _, ?_, hrun, hended, _, _, rfl, ?_, ⟨_, rfl⟩, hW, hsame.mono (by decide) (by decide)⟩
    · refine xifNo X14 hx hby rfl at_171 rfl ((if0 _ _).trans (feq ((by decide) : ¬ ((1 : Int32) = (0 : Int32)))).1) (xiconst X14 hx hby rfl at_174 (xgoto X14 hx hby rfl 175 179 rfl at_175 (by decide) (by decide) (retN X14 hx (t := .boolean) Bd.returns (by simp) (hb hby at_179) hr)))
    · show own_Q0 n0 _ T14.heap _
      rw [e14]
      exact ⟨rfl, N14⟩
  · refine own_go (b := T3.setTop (mkF m 81 #[.val (.long q0), .second, .val (.long q1), .second, .val (.long q2), .second, .val (.long q3), .second, iv p4, iv p5, .val (.long qq), .second, .val (.long dd), .second, .val (.double (FP.Core.own_ops (qq * dd) dd)), .second, iv 1, .val (.long nn0), .second, .unset, .unset, .unset, .unset, .unset, .unset, .unset, .unset, .unset] [(.long q1), (.long q0)])) (fun t k => xifYes X3 hx hby rfl 73 79 rfl at_73 rfl ((if0 _ _).trans (feq (mt (lw_eq _ _).mp hc73_4)).2) (by decide) (by decide) (XS.lloadN X3.here hx rfl (hb hby at_79) rfl (XS.lloadN X3.here hx rfl (hb hby at_80) rfl k))) ?_
    refine own_cs X3 hx hZ hown hml e3 (wd hw 28 rfl) (wd hw 29 rfl) (wd hw 30 rfl) (wd hw 31 rfl) (own_rm_min l Z a0 hw [] q0 q1 T2.heap n0 (Nat.le_trans Z0 K2.1) ) own_pd3 (hb hby at_81) 0 [] rfl ⟨rfl, rfl, rfl, rfl, rfl⟩ (by decide) ?_
    rintro T15 L15 v15 X15 hQ15
    obtain ⟨rfl, N15q, e15⟩ := hQ15
    have N15 := Fr.app N3 N15q
    refine own_go (b := T15.setTop (mkF m 88 #[.val (.long q0), .second, .val (.long q1), .second, .val (.long q2), .second, .val (.long q3), .second, iv p4, iv p5, .val (.long qq), .second, .val (.long dd), .second, .val (.double (FP.Core.own_ops (qq * dd) dd)), .second, iv 1, .val (.long nn0), .second, .val (.long (own_min q0 q1)), .second, .unset, .unset, .unset, .unset, .unset, .unset, .unset] [(.long q1), (.long q0)])) (fun t k => XS.lstore X15.here hx rfl (hb hby at_84) rfl (l' := #[.val (.long q0), .second, .val (.long q1), .second, .val (.long q2), .second, .val (.long q3), .second, iv p4, iv p5, .val (.long qq), .second, .val (.long dd), .second, .val (.double (FP.Core.own_ops (qq * dd) dd)), .second, iv 1, .val (.long nn0), .second, .val (.long (own_min q0 q1)), .second, .unset, .unset, .unset, .unset, .unset, .unset, .unset]) rfl (XS.lloadN X15.here hx rfl (hb hby at_86) rfl (XS.lloadN X15.here hx rfl (hb hby at_87) rfl k))) ?_
    clear X3 e3 N3 N15q
    refine own_cs X15 hx hZ hown hml e15 (wd hw 32 rfl) (wd hw 33 rfl) (wd hw 30 rfl) (wd hw 34 rfl) (own_rm_max l Z a0 hw [] q0 q1 T2.heap n0 (Nat.le_trans Z0 K2.1) ) own_pd3 (hb hby at_88) 0 [] rfl ⟨rfl, rfl, rfl, rfl, rfl⟩ (by decide) ?_
    rintro T16 L16 v16 X16 hQ16
    obtain ⟨rfl, N16q, e16⟩ := hQ16
    have N16 := Fr.app N15 N16q
    obtain ⟨T17, h17, X17, e17, E17, A17, D17, -, st17⟩ := newO X16 hx hZ hown (wd hw 0 rfl) (wd hw 1 rfl) (wd hw 2 rfl) e16 (g := (mkF m 93 #[.val (.long q0), .second, .val (.long q1), .second, .val (.long q2), .second, .val (.long q3), .second, iv p4, iv p5, .val (.long qq), .second, .val (.long dd), .second, .val (.double (FP.Core.own_ops (qq * dd) dd)), .second, iv 1, .val (.long nn0), .second, .val (.long (own_min q0 q1)), .second, .val (.long (own_max q0 q1)), .second, .unset, .unset, .unset, .unset, .unset] [])) rfl (hb hby at_93) (by decide) (by decide)
    obtain ⟨b17, g17⟩ : ∃ z, z = T2.heap.size := ⟨_, rfl⟩
    rw [← g17] at A17 D17 st17
    have new_b17 : n0 ≤ b17 := Nat.le_trans (Nat.le_trans Z0 K2.1) (Nat.le_of_eq g17.symm)
    have sz_b17 : h0.size ≤ b17 := Nat.le_trans K2.1 (Nat.le_of_eq g17.symm)
    have E_b1_17 := E_b1_2.ext E17
    have F_b1_operations_17 := B2_0.ext E17
    have F_b1_nanos_17 := B2_1.ext E17
    have K17 := K2.ext E17
    have F_b17_operations_17 : Fld Z h17 b17 "com/example/matchgate/matchgate/bench/Contender$Run" "operations" "J" (.long (0 : Int64)) := D17 (Or.inr (wd hw 15 rfl)) (ty := .long) (by decide)
    have F_b17_trades_17 : Fld Z h17 b17 "com/example/matchgate/matchgate/bench/Contender$Run" "trades" "J" (.long (0 : Int64)) := D17 (Or.inr (wd hw 17 rfl)) (ty := .long) (by decide)
    have F_b17_nanos_17 : Fld Z h17 b17 "com/example/matchgate/matchgate/bench/Contender$Run" "nanos" "J" (.long (0 : Int64)) := D17 (Or.inr (wd hw 19 rfl)) (ty := .long) (by decide)
    refine own_go (b := T17.setTop (mkF m 103 #[.val (.long q0), .second, .val (.long q1), .second, .val (.long q2), .second, .val (.long q3), .second, iv p4, iv p5, .val (.long qq), .second, .val (.long dd), .second, .val (.double (FP.Core.own_ops (qq * dd) dd)), .second, iv 1, .val (.long nn0), .second, .val (.long (own_min q0 q1)), .second, .val (.long (own_max q0 q1)), .second, .unset, .unset, .unset, .unset, .unset] [(.long nn0), (.long q2), (.long (own_min q0 q1)), .ref b17, .ref b17])) (fun t k => XS.lstore X16.here hx rfl (hb hby at_91) rfl (l' := #[.val (.long q0), .second, .val (.long q1), .second, .val (.long q2), .second, .val (.long q3), .second, iv p4, iv p5, .val (.long qq), .second, .val (.long dd), .second, .val (.double (FP.Core.own_ops (qq * dd) dd)), .second, iv 1, .val (.long nn0), .second, .val (.long (own_min q0 q1)), .second, .val (.long (own_max q0 q1)), .second, .unset, .unset, .unset, .unset, .unset]) rfl (st17 _ (xdup X17 hx hby rfl at_96 rfl rfl (XS.lload X17.here hx rfl (hb hby at_97) rfl (XS.lload X17.here hx rfl (hb hby at_99) rfl (XS.lload X17.here hx rfl (hb hby at_101) rfl k)))))) ?_
    clear B2_0 B2_1 K2 X15 e15 N15 X16 N16q e16 E17 D17 st17
    refine own_ci X17 hx hZ hown hml e17 (wd hw 3 rfl) (wd hw 4 rfl) (wd hw 2 rfl) (wd hw 5 rfl) (own_rmRun l Z a0 hw [] b17 (own_min q0 q1) q2 nn0 h17 n0 (Nat.le_trans Z0 K17.1) A17 F_b17_operations_17 F_b17_trades_17 F_b17_nanos_17 new_b17) own_pd1 (hb hby at_103) 1 [.ref b17] rfl rfl ⟨rfl, rfl, rfl, rfl, rfl⟩ (by decide) rfl ?_
    rintro T18 L18 v18 X18 hQ18
    obtain ⟨rfl, N18q, K18q, B18_0, B18_1⟩ := hQ18
    have E_b1_18 := E_b1_17.keep K18q
    have F_b1_operations_18 := F_b1_operations_17.keep K18q (fun q => (nl E_b1_2.lt (Nat.le_of_eq g17.symm)) (List.mem_singleton.mp q))
    have F_b1_nanos_18 := F_b1_nanos_17.keep K18q (fun q => (nl E_b1_2.lt (Nat.le_of_eq g17.symm)) (List.mem_singleton.mp q))
    have E_b17_18 := A17.keep K18q
    have N18 := Fr.app N16 N18q
    have K18 := K17.trans K18q (fun x hx => by cases List.mem_singleton.mp hx; exact Or.inr sz_b17)
    refine own_go (b := T18.setTop (mkF m 106 #[.val (.long q0), .second, .val (.long q1), .second, .val (.long q2), .second, .val (.long q3), .second, iv p4, iv p5, .val (.long qq), .second, .val (.long dd), .second, .val (.double (FP.Core.own_ops (qq * dd) dd)), .second, iv 1, .val (.long nn0), .second, .val (.long (own_min q0 q1)), .second, .val (.long (own_max q0 q1)), .second, .unset, .unset, .unset, .unset, .unset] [.ref b17])) (fun t k => ?_) ?_
    · exact k
    clear N16 X17 e17 A17 E_b1_17 F_b1_operations_17 F_b1_nanos_17 K17 F_b17_operations_17 F_b17_trades_17 F_b17_nanos_17 N18q K18q
    refine own_cv X18 hx hZ hown hml rfl (wd hw 20 rfl) (wd hw 21 rfl) (wd hw 23 rfl) (wd hw 22 rfl) (wd hw 2 rfl) (wd hw 24 rfl) E_b17_18 (own_rmOps l Z a0 hw [] b17 (own_min q0 q1) nn0 T18.heap n0 (Nat.le_trans Z0 K18.1) B18_0 B18_1 (own_nnp hnn0 hc73_4)) own_pd2 (hb hby at_106) 0 [] rfl rfl ⟨rfl, rfl, rfl, rfl, rfl⟩ (by decide) ?_
    rintro T19 L19 v19 X19 hQ19
    obtain ⟨rfl, N19q, e19⟩ := hQ19
    have N19 := Fr.app N18 N19q
    obtain ⟨T20, h20, X20, e20, E20, A20, D20, -, st20⟩ := newO X19 hx hZ hown (wd hw 0 rfl) (wd hw 1 rfl) (wd hw 2 rfl) e19 (g := (mkF m 111 #[.val (.long q0), .second, .val (.long q1), .second, .val (.long q2), .second, .val (.long q3), .second, iv p4, iv p5, .val (.long qq), .second, .val (.long dd), .second, .val (.double (FP.Core.own_ops (qq * dd) dd)), .second, iv 1, .val (.long nn0), .second, .val (.long (own_min q0 q1)), .second, .val (.long (own_max q0 q1)), .second, .val (.double (FP.Core.own_ops (own_min q0 q1) nn0)), .second, .unset, .unset, .unset] [])) rfl (hb hby at_111) (by decide) (by decide)
    obtain ⟨b20, g20⟩ : ∃ z, z = T18.heap.size := ⟨_, rfl⟩
    rw [← g20] at A20 D20 st20
    have new_b20 : n0 ≤ b20 := Nat.le_trans (Nat.le_trans Z0 K18.1) (Nat.le_of_eq g20.symm)
    have sz_b20 : h0.size ≤ b20 := Nat.le_trans K18.1 (Nat.le_of_eq g20.symm)
    have E_b1_20 := E_b1_18.ext E20
    have F_b1_operations_20 := F_b1_operations_18.ext E20
    have F_b1_nanos_20 := F_b1_nanos_18.ext E20
    have E_b17_20 := E_b17_18.ext E20
    have F_b17_operations_20 := B18_0.ext E20
    have F_b17_nanos_20 := B18_1.ext E20
    have K20 := K18.ext E20
    have F_b20_operations_20 : Fld Z h20 b20 "com/example/matchgate/matchgate/bench/Contender$Run" "operations" "J" (.long (0 : Int64)) := D20 (Or.inr (wd hw 15 rfl)) (ty := .long) (by decide)
    have F_b20_trades_20 : Fld Z h20 b20 "com/example/matchgate/matchgate/bench/Contender$Run" "trades" "J" (.long (0 : Int64)) := D20 (Or.inr (wd hw 17 rfl)) (ty := .long) (by decide)
    have F_b20_nanos_20 : Fld Z h20 b20 "com/example/matchgate/matchgate/bench/Contender$Run" "nanos" "J" (.long (0 : Int64)) := D20 (Or.inr (wd hw 19 rfl)) (ty := .long) (by decide)
    refine own_go (b := T20.setTop (mkF m 121 #[.val (.long q0), .second, .val (.long q1), .second, .val (.long q2), .second, .val (.long q3), .second, iv p4, iv p5, .val (.long qq), .second, .val (.long dd), .second, .val (.double (FP.Core.own_ops (qq * dd) dd)), .second, iv 1, .val (.long nn0), .second, .val (.long (own_min q0 q1)), .second, .val (.long (own_max q0 q1)), .second, .val (.double (FP.Core.own_ops (own_min q0 q1) nn0)), .second, .unset, .unset, .unset] [(.long nn0), (.long q2), (.long (own_max q0 q1)), .ref b20, .ref b20])) (fun t k => XS.own_dstore X19.here hx rfl (hb hby at_109) rfl (l' := #[.val (.long q0), .second, .val (.long q1), .second, .val (.long q2), .second, .val (.long q3), .second, iv p4, iv p5, .val (.long qq), .second, .val (.long dd), .second, .val (.double (FP.Core.own_ops (qq * dd) dd)), .second, iv 1, .val (.long nn0), .second, .val (.long (own_min q0 q1)), .second, .val (.long (own_max q0 q1)), .second, .val (.double (FP.Core.own_ops (own_min q0 q1) nn0)), .second, .unset, .unset, .unset]) rfl (st20 _ (xdup X20 hx hby rfl at_114 rfl rfl (XS.lload X20.here hx rfl (hb hby at_115) rfl (XS.lload X20.here hx rfl (hb hby at_117) rfl (XS.lload X20.here hx rfl (hb hby at_119) rfl k)))))) ?_
    clear X18 B18_0 B18_1 F_b1_operations_18 F_b1_nanos_18 N18 K18 X19 N19q e19 E20 D20 st20
    refine own_ci X20 hx hZ hown hml e20 (wd hw 3 rfl) (wd hw 4 rfl) (wd hw 2 rfl) (wd hw 5 rfl) (own_rmRun l Z a0 hw [] b20 (own_max q0 q1) q2 nn0 h20 n0 (Nat.le_trans Z0 K20.1) A20 F_b20_operations_20 F_b20_trades_20 F_b20_nanos_20 new_b20) own_pd1 (hb hby at_121) 1 [.ref b20] rfl rfl ⟨rfl, rfl, rfl, rfl, rfl⟩ (by decide) rfl ?_
    rintro T21 L21 v21 X21 hQ21
    obtain ⟨rfl, N21q, K21q, B21_0, B21_1⟩ := hQ21
    have E_b1_21 := E_b1_20.keep K21q
    have F_b1_operations_21 := F_b1_operations_20.keep K21q (fun q => (nl E_b1_18.lt (Nat.le_of_eq g20.symm)) (List.mem_singleton.mp q))
    have F_b1_nanos_21 := F_b1_nanos_20.keep K21q (fun q => (nl E_b1_18.lt (Nat.le_of_eq g20.symm)) (List.mem_singleton.mp q))
    have E_b17_21 := E_b17_20.keep K21q
    have F_b17_operations_21 := F_b17_operations_20.keep K21q (fun q => (nl E_b17_18.lt (Nat.le_of_eq g20.symm)) (List.mem_singleton.mp q))
    have F_b17_nanos_21 := F_b17_nanos_20.keep K21q (fun q => (nl E_b17_18.lt (Nat.le_of_eq g20.symm)) (List.mem_singleton.mp q))
    have E_b20_21 := A20.keep K21q
    have N21 := Fr.app N19 N21q
    have K21 := K20.trans K21q (fun x hx => by cases List.mem_singleton.mp hx; exact Or.inr sz_b20)
    refine own_go (b := T21.setTop (mkF m 124 #[.val (.long q0), .second, .val (.long q1), .second, .val (.long q2), .second, .val (.long q3), .second, iv p4, iv p5, .val (.long qq), .second, .val (.long dd), .second, .val (.double (FP.Core.own_ops (qq * dd) dd)), .second, iv 1, .val (.long nn0), .second, .val (.long (own_min q0 q1)), .second, .val (.long (own_max q0 q1)), .second, .val (.double (FP.Core.own_ops (own_min q0 q1) nn0)), .second, .unset, .unset, .unset] [.ref b20])) (fun t k => ?_) ?_
    · exact k
    clear N19 X20 e20 A20 E_b1_20 F_b1_operations_20 F_b1_nanos_20 E_b17_20 F_b17_operations_20 F_b17_nanos_20 K20 F_b20_operations_20 F_b20_trades_20 F_b20_nanos_20 N21q K21q
    refine own_cv X21 hx hZ hown hml rfl (wd hw 20 rfl) (wd hw 21 rfl) (wd hw 23 rfl) (wd hw 22 rfl) (wd hw 2 rfl) (wd hw 24 rfl) E_b20_21 (own_rmOps l Z a0 hw [] b20 (own_max q0 q1) nn0 T21.heap n0 (Nat.le_trans Z0 K21.1) B21_0 B21_1 (own_nnp hnn0 hc73_4)) own_pd2 (hb hby at_124) 0 [] rfl rfl ⟨rfl, rfl, rfl, rfl, rfl⟩ (by decide) ?_
    rintro T22 L22 v22 X22 hQ22
    obtain ⟨rfl, N22q, e22⟩ := hQ22
    have N22 := Fr.app N21 N22q
    refine own_go (b := T22.setTop (mkF m 158 #[.val (.long q0), .second, .val (.long q1), .second, .val (.long q2), .second, .val (.long q3), .second, iv p4, iv p5, .val (.long qq), .second, .val (.long dd), .second, .val (.double (FP.Core.own_ops (qq * dd) dd)), .second, iv 1, .val (.long nn0), .second, .val (.long (own_min q0 q1)), .second, .val (.long (own_max q0 q1)), .second, .val (.double (FP.Core.own_ops (own_min q0 q1) nn0)), .second, .val (.double (FP.Core.own_ops (own_max q0 q1) nn0)), .second, iv 1] [(.double (FP.Core.own_ops (own_min q0 q1) nn0)), (.long (own_min q0 q1))])) (fun t k => XS.own_dstore X22.here hx rfl (hb hby at_127) rfl (l' := #[.val (.long q0), .second, .val (.long q1), .second, .val (.long q2), .second, .val (.long q3), .second, iv p4, iv p5, .val (.long qq), .second, .val (.long dd), .second, .val (.double (FP.Core.own_ops (qq * dd) dd)), .second, iv 1, .val (.long nn0), .second, .val (.long (own_min q0 q1)), .second, .val (.long (own_max q0 q1)), .second, .val (.double (FP.Core.own_ops (own_min q0 q1) nn0)), .second, .val (.double (FP.Core.own_ops (own_max q0 q1) nn0)), .second, .unset]) rfl (XS.own_dload X22.here hx rfl (hb hby at_129) rfl (XS.own_dload X22.here hx rfl (hb hby at_131) rfl (XS.own_dcmpI X22.here hx rfl (hb hby at_133) rfl (xifNo X22 hx hby rfl at_134 rfl ((if0 _ _).trans (flt (own_L2 q0 q1 nn0 (own_nnp hnn0 hc73_4) : ¬ ((0 : Int32) < (cmpValue (FP.dcmp (FP.Core.own_ops (own_min q0 q1) nn0) (FP.Core.own_ops (own_max q0 q1) nn0)) .g)))).2.2.1) (xiconst X22 hx hby rfl at_137 (show Steps p.tables e below (T22.setTop (mkF m 138 #[.val (.long q0), .second, .val (.long q1), .second, .val (.long q2), .second, .val (.long q3), .second, iv p4, iv p5, .val (.long qq), .second, .val (.long dd), .second, .val (.double (FP.Core.own_ops (qq * dd) dd)), .second, iv 1, .val (.long nn0), .second, .val (.long (own_min q0 q1)), .second, .val (.long (own_max q0 q1)), .second, .val (.double (FP.Core.own_ops (own_min q0 q1) nn0)), .second, .val (.double (FP.Core.own_ops (own_max q0 q1) nn0)), .second, .unset] [.int 1])) _ from xgoto X22 hx hby rfl 138 142 rfl at_138 (by decide) (by decide) (xistore X22 hx hby rfl at_142 rfl (l' := #[.val (.long q0), .second, .val (.long q1), .second, .val (.long q2), .second, .val (.long q3), .second, iv p4, iv p5, .val (.long qq), .second, .val (.long dd), .second, .val (.double (FP.Core.own_ops (qq * dd) dd)), .second, iv 1, .val (.long nn0), .second, .val (.long (own_min q0 q1)), .second, .val (.long (own_max q0 q1)), .second, .val (.double (FP.Core.own_ops (own_min q0 q1) nn0)), .second, .val (.double (FP.Core.own_ops (own_max q0 q1) nn0)), .second, iv 1]) rfl (xiload X22 hx hby rfl at_144 rfl (xifNo X22 hx hby rfl at_146 rfl ((if0 _ _).trans (feq ((by decide) : ¬ ((1 : Int32) = (0 : Int32)))).1) (xiload X22 hx hby rfl at_149 rfl (xifNo X22 hx hby rfl at_151 rfl ((if0 _ _).trans (feq ((by decide) : ¬ ((1 : Int32) = (0 : Int32)))).1) (show Steps p.tables e below (T22.setTop (mkF m 154 #[.val (.long q0), .second, .val (.long q1), .second, .val (.long q2), .second, .val (.long q3), .second, iv p4, iv p5, .val (.long qq), .second, .val (.long dd), .second, .val (.double (FP.Core.own_ops (qq * dd) dd)), .second, iv 1, .val (.long nn0), .second, .val (.long (own_min q0 q1)), .second, .val (.long (own_max q0 q1)), .second, .val (.double (FP.Core.own_ops (own_min q0 q1) nn0)), .second, .val (.double (FP.Core.own_ops (own_max q0 q1) nn0)), .second, iv 1] [])) _ from XS.lload X22.here hx rfl (hb hby at_154) rfl (XS.own_dload X22.here hx rfl (hb hby at_156) rfl k)))))))))))))) ?_
    clear X21 N21 N22q
    refine own_cs X22 hx hZ hown hml e22 (wd hw 35 rfl) (wd hw 36 rfl) (wd hw 37 rfl) (wd hw 38 rfl) (own_rmSg l Z a0 hw [] (own_min q0 q1) (FP.Core.own_ops (own_min q0 q1) nn0) T21.heap n0 (Nat.le_trans Z0 K21.1) (own_L3 (own_min q0 q1) nn0 (own_nnp hnn0 hc73_4)).1 (own_L3 (own_min q0 q1) nn0 (own_nnp hnn0 hc73_4)).2.1 (own_L3 (own_min q0 q1) nn0 (own_nnp hnn0 hc73_4)).2.2) own_pd4 (hb hby at_158) 0 [] rfl ⟨rfl, rfl, rfl, rfl, rfl⟩ (by decide) ?_
    rintro T23 L23 v23 X23 hQ23
    obtain ⟨rfl, N23q, e23⟩ := hQ23
    have N23 := Fr.app N22 N23q
    refine own_go (b := T23.setTop (mkF m 168 #[.val (.long q0), .second, .val (.long q1), .second, .val (.long q2), .second, .val (.long q3), .second, iv p4, iv p5, .val (.long qq), .second, .val (.long dd), .second, .val (.double (FP.Core.own_ops (qq * dd) dd)), .second, iv 1, .val (.long nn0), .second, .val (.long (own_min q0 q1)), .second, .val (.long (own_max q0 q1)), .second, .val (.double (FP.Core.own_ops (own_min q0 q1) nn0)), .second, .val (.double (FP.Core.own_ops (own_max q0 q1) nn0)), .second, iv 1] [(.double (FP.Core.own_ops (own_max q0 q1) nn0)), (.long (own_max q0 q1))])) (fun t k => xifNo X23 hx hby rfl at_161 rfl ((if0 _ _).trans (feq ((by decide) : ¬ ((1 : Int32) = (0 : Int32)))).1) (XS.lload X23.here hx rfl (hb hby at_164) rfl (XS.own_dload X23.here hx rfl (hb hby at_166) rfl k))) ?_
    clear X22 e22 N22 N23q
    refine own_cs X23 hx hZ hown hml e23 (wd hw 35 rfl) (wd hw 36 rfl) (wd hw 37 rfl) (wd hw 38 rfl) (own_rmSg l Z a0 hw [] (own_max q0 q1) (FP.Core.own_ops (own_max q0 q1) nn0) T21.heap n0 (Nat.le_trans Z0 K21.1) (own_L3 (own_max q0 q1) nn0 (own_nnp hnn0 hc73_4)).1 (own_L3 (own_max q0 q1) nn0 (own_nnp hnn0 hc73_4)).2.1 (own_L3 (own_max q0 q1) nn0 (own_nnp hnn0 hc73_4)).2.2) own_pd4 (hb hby at_168) 0 [] rfl ⟨rfl, rfl, rfl, rfl, rfl⟩ (by decide) ?_
    rintro T24 L24 v24 X24 hQ24
    obtain ⟨rfl, N24q, e24⟩ := hQ24
    have N24 := Fr.app N23 N24q
    obtain ⟨fs, hr, hrun, hended, hW, hsame⟩ := X24.leave (v := some (.int 1)) (fun h => by rw [Bd.returns] at h; cases h)
    refine ⟨_, _, ?_, hrun, hended, _, _, rfl, ?_, ⟨_, rfl⟩, hW, hsame.mono (by decide) (by decide)⟩
    · refine xifNo X24 hx hby rfl at_171 rfl ((if0 _ _).trans (feq ((by decide) : ¬ ((1 : Int32) = (0 : Int32)))).1) (xiconst X24 hx hby rfl at_174 (xgoto X24 hx hby rfl 175 179 rfl at_175 (by decide) (by decide) (retN X24 hx (t := .boolean) Bd.returns (by simp) (hb hby at_179) hr)))
    · show own_Q0 n0 _ T24.heap _
      rw [e24]
      exact ⟨rfl, N24⟩
set_option maxRecDepth 65536 in
set_option maxHeartbeats 40000000 in
theorem comes_1 {Post : Tables → Env → Array Value → State → Outcome → State → Prop} (hpost : ∀ tb e args s v u, (limb_1_1.after args s (.returned v) u = true ∧ limb_1_2.after args s (.returned v) u = true ∧ True) → FrameEnd s (.returned v) u (Jvm.fieldLocs frame_1_writes args s ++ Jvm.arrayLocs frame_1_arrays args s ++ Jvm.staticLocs frame_1_statics s) 16 128 → Post tb e args s (.returned v) u) :
    ArmFor flags0 classFile x code maxLocals ret World_1 tables_1 room_1 Calls_1 rest_1 Pre_1 Post := by
  intro l hfl _ _ p e ha hc hk s m args below hf hA hF happ hP
  obtain ⟨hcalls, hrest, hpre⟩ := hP
  obtain ⟨-, -, -, hnamed, -, -, -, hat⟩ := (Spec.applies_iff hf).mp happ
  obtain ⟨hg, hn⟩ := and_e (Cond.before_iff.mp (show (Jvm.Cond.and given_1 narrow_1).before args s = true from hpre))
  obtain ⟨gc0, gr0⟩ := and_e hg
  obtain ⟨gc1, gr1⟩ := and_e gr0
  obtain ⟨gc2, gr2⟩ := and_e gr1
  obtain ⟨gc3, gr3⟩ := and_e gr2
  obtain ⟨gc4, gr4⟩ := and_e gr3
  obtain ⟨gc5, gr5⟩ := and_e gr4
  obtain ⟨w0, w1, w2, w3, w4, w5, rfl⟩ : ∃ w0 w1 w2 w3 w4 w5 : Value, args = #[w0, w1, w2, w3, w4, w5] := by
    have hs : args.size = 6 := by simpa [Cond.value, given_1] using gc0
    obtain ⟨L⟩ := args
    match L, hs with
    | [w0, w1, w2, w3, w4, w5], _ => exact ⟨w0, w1, w2, w3, w4, w5, rfl⟩
  have hw := fun d (hd : d ∈ tables_1) => atoms_spec (ws := Jvm.Cond.code x code maxLocals ret :: tables_1) hat d (List.mem_cons_of_mem _ hd)
  obtain ⟨i0, ei0⟩ := isL_v gc1
  obtain rfl : w0 = (.long i0) := Option.some.inj ei0
  obtain ⟨i1, ei1⟩ := isL_v gc2
  obtain rfl : w1 = (.long i1) := Option.some.inj ei1
  obtain ⟨i2, ei2⟩ := isL_v gc3
  obtain rfl : w2 = (.long i2) := Option.some.inj ei2
  obtain ⟨i3, ei3⟩ := isL_v gc4
  obtain rfl : w3 = (.long i3) := Option.some.inj ei3
  obtain ⟨i4, ei4⟩ := is_v gc5
  obtain rfl : w4 = (.int i4) := Option.some.inj ei4
  obtain ⟨i5, ei5⟩ := is_v gr5
  obtain rfl : w5 = (.int i5) := Option.some.inj ei5
  obtain ⟨n, o, h1, h2, h3, _, L, rfl, ⟨rfl, N⟩, hq⟩ := own_rm0 l s _ hw tables_1 i0 i1 i2 i3 i4 i5 s.heap s.heap.size (Nat.le_refl _) p e ha hc hk s m _ below hf ((Spec.applies_iff_loose hf).mp happ).1 ⟨rfl, State.Warmed39.refl s, rfl⟩ trivial
  refine ⟨n, _, h1, h2, h3, hpost _ _ _ _ _ _ ⟨Cond.after_iff.mpr rfl, Cond.after_iff.mpr (eq_i res_at (Term.int_eval (1)) rfl), trivial⟩ ⟨hq.1, hq.2.1, (hq.2.2.sift fun y hy => Or.inr (N y hy)).mono (by decide) (by decide)⟩⟩
theorem main_1_1 : Claimed_1_1 := comes_1 fun _ _ _ _ _ _ h hF => ⟨h.1, hF⟩
theorem main_1_2 : Claimed_1_2 := comes_1 fun _ _ _ _ _ _ h hF => ⟨h.2.1, hF⟩
end Jvm.Pilot.@@N@@
namespace Jvm.Pilot.@@N@@
open Jvm Jvm.ClassFile Sem Op Lib Jvm.Free Jvm.Stand Jvm.Pilot.@@N@@.Jvm.D
/-! MADE BY PROGRAM (witnessworld.py) out of the Statement's table words and the real class files: 11 classes; the members and pool entries that the words name. The judged class is class 1, her method 1. -/
namespace start1
open Jvm.ClassFile
def u (s : String) : CpInfo := .utf8 (stringToUtf16 s)
/-- a pool by its gaps: so many unusable entries, then the entry; so many at the end -/
def gap : Nat → List CpInfo → List CpInfo
  | 0, r => r
  | n + 1, r => .unusable :: gap n r
def poolList (es : List (Nat × CpInfo)) (last : Nat) : List CpInfo := es.foldr (fun e r => gap e.1 (e.2 :: r)) (gap last [])
def pool (es : List (Nat × CpInfo)) (last : Nat) : Array CpInfo := ⟨poolList es last⟩
def fileOf (pool : Array CpInfo) (this : Nat) (attrs : Array Attribute := #[]) (ms : Array MethodInfo := #[]) (fl : Nat := 33) (sup : Nat := 0) (ifs : Array Nat := #[]) (fds : Array FieldInfo := #[]) : ClassFile where
  minorVersion := 0
  majorVersion := 65
  constantPool := pool
  accessFlags := fl
  thisClass := this
  superClass := sup
  interfaces := ifs
  fields := fds
  methods := ms
  attributes := attrs
def plain (name : String) (sup : Option ClassId) : Class where
  name := name
  kind := .ordinary
  loader := none
  accessFlags := 33
  super := sup
  interfaces := #[]
  cf := none
  fields := #[]
  methods := #[]
  instanceTypes := #[]
  staticTypes := #[]
  resolved := #[]
  callSites := []
  init := .initialized
  statics := none
  mirror := none

def pool0 : Array CpInfo := pool [(5, u "<init>"), (0, u "()V"), (1, .class_ 10), (1, u "java/lang/Object")] 113

def k0c0 : Code := { maxStack := 0, maxLocals := 1, code := object_method_1_code, exceptionTable := #[], attributes := #[] }
def k0m0 : Method := { name := "<init>", desc := "()V", sig := { parameters := [], returnType := none }, accessFlags := 1, code := some k0c0 }
/-- java/lang/Object -/
def k0 : Class := { plain "java/lang/Object" none with
  accessFlags := 33
  interfaces := #[]
  cf := some (fileOf pool0 8 #[] #[{ accessFlags := 1, nameIndex := 5, descriptorIndex := 6, attributes := #[] }] 33 0 #[] #[])
  fields := #[]
  methods := #[k0m0]
  instanceTypes := #[]
  staticTypes := #[]
  resolved := Array.replicate 124 none
  statics := none }

def pool1 : Array CpInfo := pool [(2, .class_ 4), (1, u "java/lang/Object"), (0, u "<init>"), (0, u "()V"), (0, .class_ 8), (0, u "com/example/matchgate/matchgate/bench/Contender$Run"), (0, .methodref 7 10), (0, .nameAndType 5 11), (0, u "(JJJ)V"), (0, .methodref 7 13), (0, .nameAndType 14 15), (0, u "operationsPerSecond"), (0, u "()D"), (0, .long 1000000000), (3, .long 9223372036854775807), (1, .methodref 23 24), (0, .class_ 25), (0, .nameAndType 26 27), (0, u "java/lang/Math"), (0, u "min"), (0, u "(JJ)J"), (0, .methodref 23 29), (0, .nameAndType 30 27), (0, u "max"), (0, .methodref 32 33), (0, .class_ 34), (0, .nameAndType 35 36), (0, u "com/example/matchgate/matchgate/bench/RunOperationsPerSecondPinLaw"), (0, u "sign"), (0, u "(JD)Z"), (2, u "law"), (0, u "(JJJJII)Z")] 7

def k1m0 : Method := { name := "<init>", desc := "()V", sig := { parameters := [], returnType := none }, accessFlags := 1, code := none }
def k1c1 : Code := { maxStack := 8, maxLocals := 28, code := code, exceptionTable := #[], attributes := #[] }
def k1m1 : Method := { name := "law", desc := "(JJJJII)Z", sig := { parameters := [.long, .long, .long, .long, .int, .int], returnType := some .boolean }, accessFlags := 9, code := some k1c1 }
def k1c2 : Code := { maxStack := 4, maxLocals := 4, code := method_3_code, exceptionTable := #[], attributes := #[] }
def k1m2 : Method := { name := "sign", desc := "(JD)Z", sig := { parameters := [.long, .double], returnType := some .boolean }, accessFlags := 10, code := some k1c2 }
/-- com/example/matchgate/matchgate/bench/RunOperationsPerSecondPinLaw -/
def k1 : Class := { plain "com/example/matchgate/matchgate/bench/RunOperationsPerSecondPinLaw" (some 0) with
  accessFlags := 49
  interfaces := #[]
  cf := some (fileOf pool1 32 #[] #[{ accessFlags := 1, nameIndex := 5, descriptorIndex := 6, attributes := #[] }, { accessFlags := 9, nameIndex := 39, descriptorIndex := 40, attributes := #[] }, { accessFlags := 10, nameIndex := 35, descriptorIndex := 36, attributes := #[] }] 49 2 #[] #[])
  fields := #[]
  methods := #[k1m0, k1m1, k1m2]
  instanceTypes := #[]
  staticTypes := #[]
  resolved := Array.replicate 48 none
  statics := none }

def pool2 : Array CpInfo := pool [(1, .methodref 2 3), (0, .class_ 4), (0, .nameAndType 5 6), (0, u "java/lang/Object"), (0, u "<init>"), (0, u "()V"), (0, .class_ 8), (0, u "java/lang/Record")] 13

def k2c0 : Code := { maxStack := 1, maxLocals := 1, code := jdk_30_method_1_code, exceptionTable := #[], attributes := #[] }
def k2m0 : Method := { name := "<init>", desc := "()V", sig := { parameters := [], returnType := none }, accessFlags := 4, code := some k2c0 }
/-- java/lang/Record -/
def k2 : Class := { plain "java/lang/Record" (some 0) with
  accessFlags := 1057
  interfaces := #[]
  cf := some (fileOf pool2 7 #[] #[{ accessFlags := 4, nameIndex := 5, descriptorIndex := 6, attributes := #[] }] 1057 2 #[] #[])
  fields := #[]
  methods := #[k2m0]
  instanceTypes := #[]
  staticTypes := #[]
  resolved := Array.replicate 22 none
  statics := none }

def pool3 : Array CpInfo := pool [(1, .methodref 2 3), (0, .class_ 4), (0, .nameAndType 5 6), (0, u "java/lang/Record"), (0, u "<init>"), (0, u "()V"), (0, .fieldref 8 9), (0, .class_ 10), (0, .nameAndType 11 12), (0, u "com/example/matchgate/matchgate/bench/Contender$Run"), (0, u "operations"), (0, u "J"), (0, .fieldref 8 14), (0, .nameAndType 15 12), (0, u "trades"), (0, .fieldref 8 17), (0, .nameAndType 18 12), (0, u "nanos"), (25, u "(JJJ)V"), (3, .double 4741671816366391296), (23, u "operationsPerSecond"), (0, u "()D"), (6, .class_ 81), (0, u "com/example/matchgate/matchgate/bench/Contender")] 31

def k3c0 : Code := { maxStack := 3, maxLocals := 7, code := prog_2_method_1_code, exceptionTable := #[], attributes := #[] }
def k3m0 : Method := { name := "<init>", desc := "(JJJ)V", sig := { parameters := [.long, .long, .long], returnType := none }, accessFlags := 1, code := some k3c0 }
def k3c1 : Code := { maxStack := 4, maxLocals := 1, code := prog_2_method_4_code, exceptionTable := #[], attributes := #[] }
def k3m1 : Method := { name := "operationsPerSecond", desc := "()D", sig := { parameters := [], returnType := some .double }, accessFlags := 0, code := some k3c1 }
/-- com/example/matchgate/matchgate/bench/Contender$Run -/
def k3 : Class := { plain "com/example/matchgate/matchgate/bench/Contender$Run" (some 2) with
  accessFlags := 49
  interfaces := #[]
  cf := some (fileOf pool3 8 #[.nestHost 80] #[{ accessFlags := 1, nameIndex := 5, descriptorIndex := 44, attributes := #[] }, { accessFlags := 0, nameIndex := 72, descriptorIndex := 73, attributes := #[] }] 49 2 #[] #[{ accessFlags := 18, nameIndex := 11, descriptorIndex := 12, attributes := #[] }, { accessFlags := 18, nameIndex := 15, descriptorIndex := 12, attributes := #[] }, { accessFlags := 18, nameIndex := 18, descriptorIndex := 12, attributes := #[] }])
  fields := #[{ name := "operations", type := .long, accessFlags := 18, slot := 0, constantValue := 0 }, { name := "trades", type := .long, accessFlags := 18, slot := 1, constantValue := 0 }, { name := "nanos", type := .long, accessFlags := 18, slot := 2, constantValue := 0 }]
  methods := #[k3m0, k3m1]
  instanceTypes := #[.long, .long, .long]
  staticTypes := #[]
  resolved := Array.replicate 113 none
  statics := none }

def pool4 : Array CpInfo := pool [(1, .class_ 2), (0, u "java/lang/Math"), (1, .class_ 6), (1, u "java/lang/Object"), (0, u "<init>"), (0, u "()V"), (89, .class_ 100), (1, u "java/lang/Math$RandomNumberGeneratorHolder"), (20, u "(JJ)J"), (50, u "negativeZeroFloatBits"), (0, u "J"), (2, u "negativeZeroDoubleBits"), (21, u "max"), (2, u "min"), (43, u "$assertionsDisabled"), (0, u "Z"), (91, u "twoToTheDoubleScaleDown"), (0, u "D"), (4, u "twoToTheDoubleScaleUp"), (9, u "E"), (3, u "PI"), (2, u "TAU"), (2, u "DEGREES_TO_RADIANS"), (0, u "RADIANS_TO_DEGREES")] 94

def k4m0 : Method := { name := "<init>", desc := "()V", sig := { parameters := [], returnType := none }, accessFlags := 2, code := none }
def k4c1 : Code := { maxStack := 4, maxLocals := 4, code := jdk_29_method_66_code, exceptionTable := #[], attributes := #[] }
def k4m1 : Method := { name := "max", desc := "(JJ)J", sig := { parameters := [.long, .long], returnType := some .long }, accessFlags := 9, code := some k4c1 }
def k4c2 : Code := { maxStack := 4, maxLocals := 4, code := jdk_29_method_70_code, exceptionTable := #[], attributes := #[] }
def k4m2 : Method := { name := "min", desc := "(JJ)J", sig := { parameters := [.long, .long], returnType := some .long }, accessFlags := 9, code := some k4c2 }
/-- java/lang/Math -/
def k4 : Class := { plain "java/lang/Math" (some 0) with
  accessFlags := 49
  interfaces := #[]
  cf := some (fileOf pool4 1 #[.nestMembers #[98]] #[{ accessFlags := 2, nameIndex := 7, descriptorIndex := 8, attributes := #[] }, { accessFlags := 9, nameIndex := 198, descriptorIndex := 121, attributes := #[] }, { accessFlags := 9, nameIndex := 201, descriptorIndex := 121, attributes := #[] }] 49 4 #[] #[{ accessFlags := 25, nameIndex := 354, descriptorIndex := 339, attributes := #[] }, { accessFlags := 25, nameIndex := 358, descriptorIndex := 339, attributes := #[] }, { accessFlags := 25, nameIndex := 361, descriptorIndex := 339, attributes := #[] }, { accessFlags := 26, nameIndex := 364, descriptorIndex := 339, attributes := #[] }, { accessFlags := 26, nameIndex := 365, descriptorIndex := 339, attributes := #[] }, { accessFlags := 26, nameIndex := 172, descriptorIndex := 173, attributes := #[] }, { accessFlags := 26, nameIndex := 176, descriptorIndex := 173, attributes := #[] }, { accessFlags := 8, nameIndex := 344, descriptorIndex := 339, attributes := #[] }, { accessFlags := 8, nameIndex := 338, descriptorIndex := 339, attributes := #[] }, { accessFlags := 4120, nameIndex := 245, descriptorIndex := 246, attributes := #[] }])
  fields := #[{ name := "E", type := .double, accessFlags := 25, slot := 0, constantValue := 0 }, { name := "PI", type := .double, accessFlags := 25, slot := 1, constantValue := 0 }, { name := "TAU", type := .double, accessFlags := 25, slot := 2, constantValue := 0 }, { name := "DEGREES_TO_RADIANS", type := .double, accessFlags := 26, slot := 3, constantValue := 0 }, { name := "RADIANS_TO_DEGREES", type := .double, accessFlags := 26, slot := 4, constantValue := 0 }, { name := "negativeZeroFloatBits", type := .long, accessFlags := 26, slot := 5, constantValue := 0 }, { name := "negativeZeroDoubleBits", type := .long, accessFlags := 26, slot := 6, constantValue := 0 }, { name := "twoToTheDoubleScaleUp", type := .double, accessFlags := 8, slot := 7, constantValue := 0 }, { name := "twoToTheDoubleScaleDown", type := .double, accessFlags := 8, slot := 8, constantValue := 0 }, { name := "$assertionsDisabled", type := .boolean, accessFlags := 4120, slot := 9, constantValue := 0 }]
  methods := #[k4m0, k4m1, k4m2]
  instanceTypes := #[]
  staticTypes := #[.double, .double, .double, .double, .double, .long, .long, .double, .double, .boolean]
  resolved := Array.replicate 460 none
  statics := none }

def pool5 : Array CpInfo := pool [(1, u "java/lang/Cloneable"), (0, .class_ 1), (0, u "java/lang/Object"), (0, .class_ 3)] 3

/-- java/lang/Cloneable -/
def k5 : Class := { plain "java/lang/Cloneable" (some 0) with
  accessFlags := 1537
  interfaces := #[]
  cf := some (fileOf pool5 2 #[] #[] 1537 4 #[] #[])
  fields := #[]
  methods := #[]
  instanceTypes := #[]
  staticTypes := #[]
  resolved := Array.replicate 8 none
  statics := none }

def pool6 : Array CpInfo := pool [(1, u "java/io/Serializable"), (0, .class_ 1), (0, u "java/lang/Object"), (0, .class_ 3)] 3

/-- java/io/Serializable -/
def k6 : Class := { plain "java/io/Serializable" (some 0) with
  accessFlags := 1537
  interfaces := #[]
  cf := some (fileOf pool6 2 #[] #[] 1537 4 #[] #[])
  fields := #[]
  methods := #[]
  instanceTypes := #[]
  staticTypes := #[]
  resolved := Array.replicate 8 none
  statics := none }

/-- the primitive byte -/
def k7 : Class := { plain "byte" none with kind := .primitive 'B', accessFlags := 0x411 }
/-- [B -/
def k8 : Class := { plain "[B" (some 0) with kind := .array 7 .byte, interfaces := #[5, 6], accessFlags := 1041 }

/-- the primitive int -/
def k9 : Class := { plain "int" none with kind := .primitive 'I', accessFlags := 0x411 }
/-- [I -/
def k10 : Class := { plain "[I" (some 0) with kind := .array 9 .int, interfaces := #[5, 6], accessFlags := 1041 }

def heap : Heap := #[]
def classes : Array Class := #[k0, k1, k2, k3, k4, k5, k6, k7, k8, k9, k10]
def interned : List (Array UInt16 × Addr) := []
def slotsUsed : Nat := 0
def theMethod : MethodId := ⟨1, 1⟩
def args0 : Array Value := #[.long 5, .long 7, .long 9, .long 3, .int 65, .int 8]
def aboutOver (below : List Frame) : State where
  vm := { classes := classes, interned := interned.toArray }
  heap := heap
  slotsUsed := slotsUsed
  threads := #[{ frames := .invoking theMethod args0 :: below }]
def below0 : List Frame := [.native { method := ⟨0, 0⟩, args := #[] }]
def about1 : State := aboutOver below0
def p0 : Program := .bare "" "" ""
def e0 : Env := launch0.env 0 0 0
theorem w_frames : about1.frames = Frame.invoking theMethod args0 :: below0 := rfl
set_option maxRecDepth 65536 in
theorem w_args : argsFit about1.vm theMethod args0 = true := by decide +kernel
set_option maxRecDepth 65536 in
theorem w_heap : heapFits about1 = true := by decide +kernel
set_option maxRecDepth 65536 in
theorem w_runnable : about1.curStatus? = some .runnable := by decide +kernel
set_option maxRecDepth 65536 in
theorem w_alone : about1.alone = true := by decide +kernel
set_option maxRecDepth 65536 in
theorem w_named : about1.methodNamed? x = some theMethod := by decide +kernel
set_option maxRecDepth 65536 in
theorem w_hears : about1.hears theMethod below0 = true := by decide +kernel
set_option maxRecDepth 65536 in
theorem w_ripe : about1.ripe theMethod args0 below0 = true := by decide +kernel
theorem w_running : about1.status = .running := rfl
set_option maxRecDepth 65536 in
theorem w_room : about1.hasRoom e0.platform room_1 = true :=
  launch0.hasRoom_least _ room_1 (by decide +kernel) (by decide +kernel) (by decide +kernel) (by decide +kernel) (by decide +kernel) (by decide +kernel)
theorem allAtoms_all (ts : List Jvm.Cond) (a : Array Jvm.Value) (st : Jvm.State) : (allAtoms ts).before a st = ts.all (fun c => c.before a st) := by
  induction ts with
  | nil => rfl
  | cons c t ih =>
    show (Jvm.Cond.and c (allAtoms t)).before a st = _
    rw [Jvm.Cond.before_and, ih, List.all_cons]
def words1 : List Jvm.Cond := Jvm.Cond.code x code maxLocals ret :: tables_1
/-- a 'code' word, met by the world's own term for the bytes: nothing is compared byte by byte -/
theorem code_word {y : MethodName} {bytes : ByteArray} {mx : Nat} {rt : Option FieldType} {a : Array Value} {s : State} {m : MethodId} {meth : Method} {c : Code} (h1 : s.methodNamed? y = some m) (h2 : s.vm.method? m = some meth) (h3 : meth.code = some c) (h4 : c.code = bytes)
    (h5 : (c.maxLocals == mx && c.exceptionTable.isEmpty && decide (c.maxStack ≤ mostOperands) && decide (meth.sig.returnType = rt) && !meth.locks && decide (parseMethodDescriptor y.desc = some meth.sig)) = true) : (Jvm.Cond.code y bytes mx rt).before a s = true := by
  simp only [Bool.and_eq_true, beq_iff_eq, Bool.not_eq_true', decide_eq_true_eq] at h5
  obtain ⟨⟨⟨⟨⟨g1, g2⟩, g3⟩, g4⟩, g5⟩, g6⟩ := h5
  simp [Cond.before, Cond.holds, Cond.value, h1, h2, h3, h4, g1, g2, g3, g4, g5, g6]
def isCode : Jvm.Cond → Bool
  | .code _ _ _ _ => true
  | _ => false
theorem all_split {L : List Jvm.Cond} {P : Jvm.Cond → Bool} (h1 : L.all (fun c => isCode c || P c) = true) (h2 : ∀ c ∈ L.filter isCode, P c = true) : L.all P = true := by
  refine List.all_eq_true.mpr fun c hc => ?_
  have h := List.all_eq_true.mp h1 c hc
  rcases Bool.eq_false_or_eq_true (isCode c) with hi | hi
  · exact h2 c (List.mem_filter.mpr ⟨hc, hi⟩)
  · simpa [hi] using h
set_option maxRecDepth 65536 in
theorem w_c0 : (Jvm.Cond.code x code maxLocals ret).before args0 about1 = true := code_word (m := ⟨1, 1⟩) (meth := k1m1) (c := k1c1) (by decide +kernel) rfl rfl rfl (by decide +kernel)
set_option maxRecDepth 65536 in
theorem w_c1 : (Jvm.Cond.code ({ cls := "com/example/matchgate/matchgate/bench/Contender$Run", name := "<init>", desc := "(JJJ)V" } : Jvm.MethodName) prog_2_method_1_code (7 : Nat) (Option.none : Option Jvm.ClassFile.FieldType)).before args0 about1 = true := code_word (m := ⟨3, 0⟩) (meth := k3m0) (c := k3c0) (by decide +kernel) rfl rfl rfl (by decide +kernel)
set_option maxRecDepth 65536 in
theorem w_c2 : (Jvm.Cond.code ({ cls := "java/lang/Record", name := "<init>", desc := "()V" } : Jvm.MethodName) jdk_30_method_1_code (1 : Nat) (Option.none : Option Jvm.ClassFile.FieldType)).before args0 about1 = true := code_word (m := ⟨2, 0⟩) (meth := k2m0) (c := k2c0) (by decide +kernel) rfl rfl rfl (by decide +kernel)
set_option maxRecDepth 65536 in
theorem w_c3 : (Jvm.Cond.code ({ cls := "java/lang/Object", name := "<init>", desc := "()V" } : Jvm.MethodName) object_method_1_code (1 : Nat) (Option.none : Option Jvm.ClassFile.FieldType)).before args0 about1 = true := code_word (m := ⟨0, 0⟩) (meth := k0m0) (c := k0c0) (by decide +kernel) rfl rfl rfl (by decide +kernel)
set_option maxRecDepth 65536 in
theorem w_c4 : (Jvm.Cond.code ({ cls := "com/example/matchgate/matchgate/bench/Contender$Run", name := "operationsPerSecond", desc := "()D" } : Jvm.MethodName) prog_2_method_4_code (1 : Nat) (Option.some Jvm.ClassFile.FieldType.double)).before args0 about1 = true := code_word (m := ⟨3, 1⟩) (meth := k3m1) (c := k3c1) (by decide +kernel) rfl rfl rfl (by decide +kernel)
set_option maxRecDepth 65536 in
theorem w_c5 : (Jvm.Cond.code ({ cls := "java/lang/Math", name := "min", desc := "(JJ)J" } : Jvm.MethodName) jdk_29_method_70_code (4 : Nat) (Option.some Jvm.ClassFile.FieldType.long)).before args0 about1 = true := code_word (m := ⟨4, 2⟩) (meth := k4m2) (c := k4c2) (by decide +kernel) rfl rfl rfl (by decide +kernel)
set_option maxRecDepth 65536 in
theorem w_c6 : (Jvm.Cond.code ({ cls := "java/lang/Math", name := "max", desc := "(JJ)J" } : Jvm.MethodName) jdk_29_method_66_code (4 : Nat) (Option.some Jvm.ClassFile.FieldType.long)).before args0 about1 = true := code_word (m := ⟨4, 1⟩) (meth := k4m1) (c := k4c1) (by decide +kernel) rfl rfl rfl (by decide +kernel)
set_option maxRecDepth 65536 in
theorem w_c7 : (Jvm.Cond.code ({ cls := "com/example/matchgate/matchgate/bench/RunOperationsPerSecondPinLaw", name := "sign", desc := "(JD)Z" } : Jvm.MethodName) method_3_code (4 : Nat) (Option.some Jvm.ClassFile.FieldType.boolean)).before args0 about1 = true := code_word (m := ⟨1, 2⟩) (meth := k1m2) (c := k1c2) (by decide +kernel) rfl rfl rfl (by decide +kernel)
def codes1 : List Jvm.Cond := [Jvm.Cond.code x code maxLocals ret, Jvm.Cond.code ({ cls := "com/example/matchgate/matchgate/bench/Contender$Run", name := "<init>", desc := "(JJJ)V" } : Jvm.MethodName) prog_2_method_1_code (7 : Nat) (Option.none : Option Jvm.ClassFile.FieldType), Jvm.Cond.code ({ cls := "java/lang/Record", name := "<init>", desc := "()V" } : Jvm.MethodName) jdk_30_method_1_code (1 : Nat) (Option.none : Option Jvm.ClassFile.FieldType), Jvm.Cond.code ({ cls := "java/lang/Object", name := "<init>", desc := "()V" } : Jvm.MethodName) object_method_1_code (1 : Nat) (Option.none : Option Jvm.ClassFile.FieldType), Jvm.Cond.code ({ cls := "com/example/matchgate/matchgate/bench/Contender$Run", name := "operationsPerSecond", desc := "()D" } : Jvm.MethodName) prog_2_method_4_code (1 : Nat) (Option.some Jvm.ClassFile.FieldType.double), Jvm.Cond.code ({ cls := "java/lang/Math", name := "min", desc := "(JJ)J" } : Jvm.MethodName) jdk_29_method_70_code (4 : Nat) (Option.some Jvm.ClassFile.FieldType.long), Jvm.Cond.code ({ cls := "java/lang/Math", name := "max", desc := "(JJ)J" } : Jvm.MethodName) jdk_29_method_66_code (4 : Nat) (Option.some Jvm.ClassFile.FieldType.long), Jvm.Cond.code ({ cls := "com/example/matchgate/matchgate/bench/RunOperationsPerSecondPinLaw", name := "sign", desc := "(JD)Z" } : Jvm.MethodName) method_3_code (4 : Nat) (Option.some Jvm.ClassFile.FieldType.boolean)]
set_option maxRecDepth 65536 in
theorem codes_eq : words1.filter isCode = codes1 := rfl
theorem w_codes : ∀ c ∈ words1.filter isCode, c.before args0 about1 = true := by
  rw [codes_eq]
  intro c hc
  simp only [codes1, List.mem_cons, List.not_mem_nil, or_false] at hc
  rcases hc with rfl | rfl | rfl | rfl | rfl | rfl | rfl | rfl
  · exact w_c0
  · exact w_c1
  · exact w_c2
  · exact w_c3
  · exact w_c4
  · exact w_c5
  · exact w_c6
  · exact w_c7
set_option maxRecDepth 65536 in
theorem w_t1 : (words1.take 24).all (fun c => isCode c || c.before args0 about1) = true := by decide +kernel
set_option maxRecDepth 65536 in
theorem w_t2 : (words1.drop 24).all (fun c => isCode c || c.before args0 about1) = true := by decide +kernel
theorem w_tables : (allAtoms (Jvm.Cond.code x code maxLocals ret :: tables_1)).before args0 about1 = true := by
  rw [allAtoms_all]
  show words1.all (fun c => c.before args0 about1) = true
  refine all_split ?_ w_codes
  rw [← List.take_append_drop 24 words1, List.all_append, w_t1, w_t2]
  rfl
set_option maxRecDepth 65536 in
theorem w_case : (Jvm.Cond.and given_1 narrow_1).before args0 about1 = true := by decide +kernel
theorem w_applies : (headSpec (Jvm.Cond.code x code maxLocals ret :: tables_1) room_1).applies x e0.platform about1 = true :=
  (Spec.applies_iff w_frames).mpr ⟨w_running, w_runnable, w_alone, w_named, w_hears, w_ripe, w_room, w_tables⟩
theorem atStart : AtStart classFile x code maxLocals ret World_1 tables_1 room_1 Calls_1 rest_1 Pre_1 launch0 p0 e0 about1 theMethod args0 below0 :=
  ⟨lists_1, trivial, launch0.admits_env _ _ _, launch0.least_env, fairChoices_fair.cas, fairChoices_fair.clock, w_frames, w_args, w_heap, w_applies, trivial, trivial, w_case⟩
end start1
theorem witness_1 : WitnessClaimed_1 := ⟨start1.p0, start1.e0, start1.about1, start1.theMethod, start1.args0, start1.below0, start1.atStart⟩
end Jvm.Pilot.@@N@@
