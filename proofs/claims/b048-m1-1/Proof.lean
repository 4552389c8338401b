import JvmDerived
import JvmDerived.Pilot.@@N@@Statement
import JvmDerived.Pilot.@@N@@Code
set_option linter.unusedVariables false
set_option linter.unusedSimpArgs false
@@BLOCK:NumsL.lean.txt@@
namespace Jvm.RoadKit
open Sem ClassFile Op Lib Jvm.Stand Jvm.Free Jvm.LawKit
section New
variable {p : Program} {l : Launch} {e : Env} {R : Room} {s : State} {m : MethodId} {args : Array Value} {below : List Frame} {meth : Method} {c : Code} {T : State} {locs : List Loc} {cells slots : Nat}
theorem retI (X : Stand p l e R s m args below meth c T locs cells slots) (hx : p.tables.exec = Jvm.exec) {pc : Nat} {Ls : Array Slot} {z : Int32} {rest : List Value} (hret : meth.sig.returnType = some .int) (hd : decode c.code pc = .ok (.ireturn, 1)) {fs : List Frame}
    (hl : ∀ (f : JFrame) (acts : List Action), f.method = m → f.locked = none → f.entered = [] → (doReturn e (T.setTop f) acts (some (.int z))).1 = T.setFrames fs) : Steps p.tables e below (T.setTop (mkF m pc Ls (.int z :: rest))) (T.setFrames fs) := by
  have hm' : T.vm.method? m = some meth := X.method'
  have hn : narrow .int (.int z) = .int z := rfl
  show Steps p.tables e below (T.setTop { method := m, pc := pc, locals := Ls, stack := _ :: rest, locked := none }) _
  jvm_step X.here [X.here.top, hx, hd, hm', hret, hn]
  first | (intro acts; rw [hl _ acts rfl rfl rfl]) | rw [hl _ _ rfl rfl rfl]
  exact Steps.refl _
end New
end Jvm.RoadKit
namespace Jvm.Pilot.@@N@@
open Jvm Jvm.ClassFile Sem Op Lib Jvm.Free Jvm.Stand Jvm.LawKit Jvm.RoadKit Bundle Jvm.Pilot.@@N@@.Jvm.D
/-- a step ahead of a run that ends -/
theorem own_go {p : Program} {e : Env} {below : List Frame} {P : State → Outcome → Prop} {a b : State} (h : ∀ t, Steps p.tables e below b t → Steps p.tables e below a t) (k : ∃ s₂ o, Steps p.tables e below b s₂ ∧ P s₂ o) : ∃ s₂ o, Steps p.tables e below a s₂ ∧ P s₂ o := by
  obtain ⟨t, o, h1, h2⟩ := k; exact ⟨t, o, h t h1, h2⟩
section Steps
variable {p : Program} {l : Launch} {e : Env} {R : Room} {s : State} {m : MethodId} {args : Array Value} {below : List Frame} {meth : Method} {c : Code} {T target : State} {locs : List Loc} {cells slots : Nat} {g : JFrame} {B : ByteArray}
abbrev xaconstNull (X : Stand p l e R s m args below meth c T locs cells slots) (hx : p.tables.exec = Jvm.exec) (hby : c.code = B) (hg : g.method = m) (hd : decode B g.pc = .ok (.aconst_null, 1)) := Jvm.Free.XS.aconstNull (e := e) (target := target) X.here hx hg (hb hby hd)
abbrev xaload (X : Stand p l e R s m args below meth c T locs cells slots) (hx : p.tables.exec = Jvm.exec) (hby : c.code = B) (hg : g.method = m) {k : Nat} {v : Value} (hd : decode B g.pc = .ok (.aload k, 2)) := Jvm.Free.XS.aload (e := e) (target := target) (k := k) (v := v) X.here hx hg (hb hby hd)
abbrev xaloadN (X : Stand p l e R s m args below meth c T locs cells slots) (hx : p.tables.exec = Jvm.exec) (hby : c.code = B) (hg : g.method = m) {k : Fin 4} {v : Value} (hd : decode B g.pc = .ok (.aload_n k, 1)) := Jvm.Free.XS.aloadN (e := e) (target := target) (k := k) (v := v) X.here hx hg (hb hby hd)
abbrev xastore (X : Stand p l e R s m args below meth c T locs cells slots) (hx : p.tables.exec = Jvm.exec) (hby : c.code = B) (hg : g.method = m) {k : Nat} {x : Value} {rest : List Value} {l' : Array Slot} (hd : decode B g.pc = .ok (.astore k, 2)) := Jvm.Free.XS.astore (e := e) (target := target) (k := k) (x := x) (rest := rest) (l' := l') X.here hx hg (hb hby hd)
abbrev xastoreN (X : Stand p l e R s m args below meth c T locs cells slots) (hx : p.tables.exec = Jvm.exec) (hby : c.code = B) (hg : g.method = m) {k : Fin 4} {x : Value} {rest : List Value} {l' : Array Slot} (hd : decode B g.pc = .ok (.astore_n k, 1)) := Jvm.Free.XS.astoreN (e := e) (target := target) (k := k) (x := x) (rest := rest) (l' := l') X.here hx hg (hb hby hd)
abbrev xbipush (X : Stand p l e R s m args below meth c T locs cells slots) (hx : p.tables.exec = Jvm.exec) (hby : c.code = B) (hg : g.method = m) {i : Int} (hd : decode B g.pc = .ok (.bipush i, 2)) := Jvm.Free.XS.bipush (e := e) (target := target) (i := i) X.here hx hg (hb hby hd)
abbrev xdup (X : Stand p l e R s m args below meth c T locs cells slots) (hx : p.tables.exec = Jvm.exec) (hby : c.code = B) (hg : g.method = m) {x : Value} {rest : List Value} (hd : decode B g.pc = .ok (.dup, 1)) := Jvm.Free.XS.dup (e := e) (target := target) (x := x) (rest := rest) X.here hx hg (hb hby hd)
abbrev xgoto (X : Stand p l e R s m args below meth c T locs cells slots) (hx : p.tables.exec = Jvm.exec) (hby : c.code = B) (hg : g.method = m) {o : Int} (pc0 pc' : Nat) (hpc : g.pc = pc0) (hd : decode B g.pc = .ok (.goto o, 3)) := Jvm.Free.XS.goto (e := e) (target := target) (o := o) (pc0 := pc0) (pc' := pc') X.here hx hg hpc (hb hby hd)
abbrev xiadd (X : Stand p l e R s m args below meth c T locs cells slots) (hx : p.tables.exec = Jvm.exec) (hby : c.code = B) (hg : g.method = m) {x y : Int32} {rest : List Value} (hd : decode B g.pc = .ok (.iadd, 1)) := Jvm.Free.XS.iadd (e := e) (target := target) (x := x) (y := y) (rest := rest) X.here hx hg (hb hby hd)
abbrev xiand (X : Stand p l e R s m args below meth c T locs cells slots) (hx : p.tables.exec = Jvm.exec) (hby : c.code = B) (hg : g.method = m) {x y : Int32} {rest : List Value} (hd : decode B g.pc = .ok (.iand, 1)) := Jvm.Free.XS.iand (e := e) (target := target) (x := x) (y := y) (rest := rest) X.here hx hg (hb hby hd)
abbrev xicmpNo (X : Stand p l e R s m args below meth c T locs cells slots) (hx : p.tables.exec = Jvm.exec) (hby : c.code = B) (hg : g.method = m) {cd : ClassFile.Cond} {o : Int} {x y : Int32} {rest : List Value} (hd : decode B g.pc = .ok (.if_icmp cd o, 3)) := Jvm.Free.XS.icmpNo (e := e) (target := target) (cd := cd) (o := o) (x := x) (y := y) (rest := rest) X.here hx hg (hb hby hd)
abbrev xicmpYes (X : Stand p l e R s m args below meth c T locs cells slots) (hx : p.tables.exec = Jvm.exec) (hby : c.code = B) (hg : g.method = m) {cd : ClassFile.Cond} {x y : Int32} {rest : List Value} {o : Int} (pc0 pc' : Nat) (hpc : g.pc = pc0) (hd : decode B g.pc = .ok (.if_icmp cd o, 3)) := Jvm.Free.XS.icmpYes (e := e) (target := target) (cd := cd) (x := x) (y := y) (rest := rest) (o := o) (pc0 := pc0) (pc' := pc') X.here hx hg hpc (hb hby hd)
abbrev xiconst (X : Stand p l e R s m args below meth c T locs cells slots) (hx : p.tables.exec = Jvm.exec) (hby : c.code = B) (hg : g.method = m) {i : Int} (hd : decode B g.pc = .ok (.iconst i, 1)) := Jvm.Free.XS.iconst (e := e) (target := target) (i := i) X.here hx hg (hb hby hd)
abbrev xifNo (X : Stand p l e R s m args below meth c T locs cells slots) (hx : p.tables.exec = Jvm.exec) (hby : c.code = B) (hg : g.method = m) {cd : ClassFile.Cond} {o : Int} {x : Int32} {rest : List Value} (hd : decode B g.pc = .ok (.ifCond cd o, 3)) := Jvm.Free.XS.ifNo (e := e) (target := target) (cd := cd) (o := o) (x := x) (rest := rest) X.here hx hg (hb hby hd)
abbrev xifYes (X : Stand p l e R s m args below meth c T locs cells slots) (hx : p.tables.exec = Jvm.exec) (hby : c.code = B) (hg : g.method = m) {cd : ClassFile.Cond} {x : Int32} {rest : List Value} {o : Int} (pc0 pc' : Nat) (hpc : g.pc = pc0) (hd : decode B g.pc = .ok (.ifCond cd o, 3)) := Jvm.Free.XS.ifYes (e := e) (target := target) (cd := cd) (x := x) (rest := rest) (o := o) (pc0 := pc0) (pc' := pc') X.here hx hg hpc (hb hby hd)
abbrev xiinc (X : Stand p l e R s m args below meth c T locs cells slots) (hx : p.tables.exec = Jvm.exec) (hby : c.code = B) (hg : g.method = m) {k : Nat} {cst : Int} {x : Int32} {l' : Array Slot} (hd : decode B g.pc = .ok (.iinc k cst, 3)) := Jvm.Free.XS.iinc (e := e) (target := target) (k := k) (cst := cst) (x := x) (l' := l') X.here hx hg (hb hby hd)
abbrev xiload (X : Stand p l e R s m args below meth c T locs cells slots) (hx : p.tables.exec = Jvm.exec) (hby : c.code = B) (hg : g.method = m) {k : Nat} {v : Int32} (hd : decode B g.pc = .ok (.iload k, 2)) := Jvm.Free.XS.iload (e := e) (target := target) (k := k) (v := v) X.here hx hg (hb hby hd)
abbrev xiloadN (X : Stand p l e R s m args below meth c T locs cells slots) (hx : p.tables.exec = Jvm.exec) (hby : c.code = B) (hg : g.method = m) {k : Fin 4} {v : Int32} (hd : decode B g.pc = .ok (.iload_n k, 1)) := Jvm.Free.XS.iloadN (e := e) (target := target) (k := k) (v := v) X.here hx hg (hb hby hd)
abbrev xirem (X : Stand p l e R s m args below meth c T locs cells slots) (hx : p.tables.exec = Jvm.exec) (hby : c.code = B) (hg : g.method = m) {x y : Int32} {rest : List Value} (hd : decode B g.pc = .ok (.irem, 1)) := Jvm.Free.XS.irem (e := e) (target := target) (x := x) (y := y) (rest := rest) X.here hx hg (hb hby hd)
abbrev xistore (X : Stand p l e R s m args below meth c T locs cells slots) (hx : p.tables.exec = Jvm.exec) (hby : c.code = B) (hg : g.method = m) {k : Nat} {x : Int32} {rest : List Value} {l' : Array Slot} (hd : decode B g.pc = .ok (.istore k, 2)) := Jvm.Free.XS.istore (e := e) (target := target) (k := k) (x := x) (rest := rest) (l' := l') X.here hx hg (hb hby hd)
abbrev xistoreN (X : Stand p l e R s m args below meth c T locs cells slots) (hx : p.tables.exec = Jvm.exec) (hby : c.code = B) (hg : g.method = m) {k : Fin 4} {x : Int32} {rest : List Value} {l' : Array Slot} (hd : decode B g.pc = .ok (.istore_n k, 1)) := Jvm.Free.XS.istoreN (e := e) (target := target) (k := k) (x := x) (rest := rest) (l' := l') X.here hx hg (hb hby hd)
abbrev xisub (X : Stand p l e R s m args below meth c T locs cells slots) (hx : p.tables.exec = Jvm.exec) (hby : c.code = B) (hg : g.method = m) {x y : Int32} {rest : List Value} (hd : decode B g.pc = .ok (.isub, 1)) := Jvm.Free.XS.isub (e := e) (target := target) (x := x) (y := y) (rest := rest) X.here hx hg (hb hby hd)
abbrev xsipush (X : Stand p l e R s m args below meth c T locs cells slots) (hx : p.tables.exec = Jvm.exec) (hby : c.code = B) (hg : g.method = m) {i : Int} (hd : decode B g.pc = .ok (.sipush i, 3)) := Jvm.Free.XS.sipush (e := e) (target := target) (i := i) X.here hx hg (hb hby hd)
end Steps
abbrev y0N : MethodName := ⟨"com/example/corollary/corollary/EstimateMethod", "named", "(Ljava/lang/String;)Lcom/example/corollary/corollary/EstimateMethod;"⟩
abbrev y3N : MethodName := ⟨"com/example/corollary/corollary/EstimateMethodNamedPinLaw", "take", "([CI)Ljava/lang/String;"⟩
abbrev y4N : MethodName := ⟨"java/lang/String", "<init>", "([C)V"⟩
abbrev y5N : MethodName := ⟨"java/lang/String", "<init>", "([CIILjava/lang/Void;)V"⟩
abbrev y7N : MethodName := ⟨"java/lang/String", "checkIndex", "(II)V"⟩
abbrev y9N : MethodName := ⟨"java/lang/String", "equals", "(Ljava/lang/Object;)Z"⟩
abbrev y13N : MethodName := ⟨"java/lang/StringLatin1", "equals", "([B[B)Z"⟩
theorem own_in {T : State} {h : Heap} {a : Addr} {c : Cell} (e : T.heap = h) (q : h[a]? = some c) : T.heap[a]? = some c := by rw [e]; exact q
theorem nNl {a : Addr} : a ∉ ([] : List Addr) := List.not_mem_nil
theorem nl {a n b : Nat} (h : a < n) (h2 : n ≤ b) : a ≠ b := Nat.ne_of_lt (Nat.lt_of_lt_of_le h h2)
theorem wd {Z : State} {a0 : Array Value} (hw : ∀ d ∈ tables_1, d.before a0 Z = true) (i : Nat) {d : Jvm.Cond} (h : tables_1[i]? = some d) : d.before a0 Z = true := hw d (List.mem_of_getElem? h)
theorem nv {r : Option FieldType} {t : FieldType} {v : Option Value} (h : r = some t) : r = none → v = none := fun q => by rw [h] at q; cases q
theorem retA {p : Program} {l : Launch} {e : Env} {R : Room} {s : State} {m : MethodId} {args : Array Value} {below : List Frame} {meth : Method} {c : Code} {T : State} {locs : List Loc} {cells slots : Nat} (X : Stand p l e R s m args below meth c T locs cells slots) (hx : p.tables.exec = Jvm.exec) {pc : Nat} {Ls : Array Slot} {w : Value} {t : FieldType} {rest : List Value} (hret : meth.sig.returnType = some t) (hd : decode c.code pc = .ok (.areturn, 1)) {fs : List Frame} (hl : ∀ (f : JFrame) (acts : List Action), f.method = m → f.locked = none → f.entered = [] → (doReturn e (T.setTop f) acts (some w)).1 = T.setFrames fs) (hn : narrow t w = w := by rfl) (ht : t.isReference = true := by rfl) (hw : w.isRef = true := by rfl) : Steps p.tables e below (T.setTop (mkF m pc Ls (w :: rest))) (T.setFrames fs) := retOut X hx hret hn (Or.inr (Or.inr (Or.inr (Or.inr ⟨rfl, ht, hw⟩)))) hd hl
theorem retL {p : Program} {l : Launch} {e : Env} {R : Room} {s : State} {m : MethodId} {args : Array Value} {below : List Frame} {meth : Method} {c : Code} {T : State} {locs : List Loc} {cells slots : Nat} (X : Stand p l e R s m args below meth c T locs cells slots) (hx : p.tables.exec = Jvm.exec) {pc : Nat} {Ls : Array Slot} {z : Int64} {rest : List Value} (hret : meth.sig.returnType = some .long) (hd : decode c.code pc = .ok (.lreturn, 1)) {fs : List Frame} (hl : ∀ (f : JFrame) (acts : List Action), f.method = m → f.locked = none → f.entered = [] → (doReturn e (T.setTop f) acts (some (.long z))).1 = T.setFrames fs) : Steps p.tables e below (T.setTop (mkF m pc Ls (.long z :: rest))) (T.setFrames fs) := retOut X hx hret rfl (Or.inr (Or.inl ⟨rfl, rfl, _, rfl⟩)) hd hl
theorem own_ret {p : Program} {l : Launch} {e : Env} {R : Room} {s : State} {m : MethodId} {args : Array Value} {below : List Frame} {meth : Method} {c : Code} {T a : State} {locs : List Loc} {cells slots kc ks : Nat} {h : Heap} {Q : Option Value → Heap → List Loc → Prop} {v : Option Value} (X : Stand p l e R s m args below meth c T locs cells slots) (eT : T.heap = h) (hlk : meth.locks = false) (hv : meth.sig.returnType = none → v = none) (hst : ∀ fs, (∀ (f : JFrame) (acts : List Action), f.method = m → f.locked = none → f.entered = [] → (doReturn e (T.setTop f) acts v).1 = T.setFrames fs) → Steps p.tables e below a (T.setFrames fs)) (hQ : Q v h locs) (hcs : cells ≤ kc ∧ slots ≤ ks) : ∃ s₂ o, Steps p.tables e below a s₂ ∧ s₂.status = .running ∧ Ended s₂ below o ∧ ∃ v L, o = .returned v ∧ Q v s₂.heap L ∧ FrameEnd s o s₂ L kc ks := by
  obtain ⟨fs, hr, hrun, hended, hW, hsame⟩ := X.leave (v := v) hv hlk
  refine ⟨_, _, hst fs hr, hrun, hended, v, locs, rfl, ?_, ⟨_, rfl⟩, hW, hsame.mono hcs.1 hcs.2⟩
  show Q v T.heap locs
  rw [eT]
  exact hQ
abbrev own_M (l : Launch) (Z : State) (y : MethodName) (B : ByteArray) (ml : Nat) (rt : Option FieldType) (ws : List Jvm.Cond) (rm : Room) (as' : Array Value) (h0 : Heap) (Q : Option Value → Heap → List Loc → Prop) : Prop := MetFree l y (head1 (Jvm.Cond.code y B ml rt :: ws) rm) (fun a U => a = as' ∧ Z.Warmed39 U.vm ∧ U.heap = h0) (fun _ _ _ _ _ => True) (fun _ U o U' => ∃ v L, o = .returned v ∧ Q v U'.heap L ∧ FrameEnd U o U' L rm.cells rm.slots)
theorem own_begin {l : Launch} {Z : State} {y : MethodName} {B : ByteArray} {ml : Nat} {rt : Option FieldType} {ws : List Jvm.Cond} {rm : Room} {as' : Array Value} {h0 : Heap} {n0 : Nat} {Q : Option Value → Heap → List Loc → Prop} {f0 : JFrame} (hp : plainFor y = true) (hf : ∀ m, entryFrame m as' ml = { f0 with method := m })
    (body : ∀ p e s m below meth c s₁, BodyLoose p l y (head1 (Jvm.Cond.code y B ml rt :: ws) rm) B ml rt e s m as' below meth c s₁ → Z.Warmed39 s.vm → p.tables.exec = Jvm.exec → c.code = B → c.maxLocals = ml → s.vm.findClass y.cls = some m.cls → meth.name = y.name → Stand p l e rm s m as' below meth c s₁ [] 0 0 → s₁.heap = h0 → Fr n0 [] → ∃ s₂ o, Steps p.tables e below (s₁.setTop { f0 with method := m }) s₂ ∧ s₂.status = .running ∧ Ended s₂ below o ∧ ∃ v L, o = .returned v ∧ Q v s₂.heap L ∧ FrameEnd s o s₂ L rm.cells rm.slots) : own_M l Z y B ml rt ws rm as' h0 Q := by
  refine MetFree.of_bodySF hp hisR ?_
  intro p e s m args below meth c s₁ Bd hml hP hK
  obtain ⟨rfl, hZ, hh⟩ := hP
  have e0 : s₁.heap = h0 := by rw [← hh, Bd.state]; rfl
  obtain ⟨s₂, o, h1, h2⟩ := body p e s m below meth c s₁ Bd hZ Bd.exec Bd.bytes hml (findClass_of_methodNamed Bd.named) (name_of_methodNamed Bd.named Bd.method).1 (Stand.of_body Bd) e0 (Fr.nil n0)
  exact ⟨s₂, o, castTop (hf m) h1, h2⟩
section Calls
variable {p : Program} {l : Launch} {e : Env} {R rm : Room} {s : State} {m : MethodId} {args : Array Value} {below : List Frame} {meth : Method} {c : Code} {T : State} {locs : List Loc} {cells slots : Nat} {Z : State} {a0 as' : Array Value} {h : Heap} {P : State → Outcome → Prop} {own : String} {index : Nat} {y : MethodName} {bytes : ByteArray} {maxL ml : Nat} {ret : Option FieldType} {Q : Option Value → Heap → List Loc → Prop} {g : JFrame} {ps : List FieldType} {rt : Option FieldType}
theorem own_cs (X : Stand p l e R s m args below meth c T locs cells slots) (hx : p.tables.exec = Jvm.exec) (hZ : Z.Warmed39 s.vm) (hown : s.vm.findClass own = some m.cls) (hml : c.maxLocals = ml) (eT : T.heap = h) (wl : (Jvm.Cond.methodLink own index y).before a0 Z = true) (wst : (Jvm.Cond.static y).before a0 Z = true) (wi : (Jvm.Cond.initialized y.cls).before a0 Z = true) (wc : (Jvm.Cond.code y bytes maxL ret).before a0 Z = true)
    (hM : MetFree l y (head1 [Jvm.Cond.code y bytes maxL ret] rm) (fun a U => a = as' ∧ Z.Warmed39 U.vm ∧ U.heap = h) (fun _ _ _ _ _ => True) (fun _ U o U' => ∃ v L, o = .returned v ∧ Q v U'.heap L ∧ FrameEnd U o U' L rm.cells rm.slots)) (hpd : parseMethodDescriptor y.desc = some ⟨ps, rt⟩) (hd : decode c.code g.pc = .ok (.invokestatic index, 3)) (W : Nat) (rest : List Value) (hs : g.stack = as'.toList.reverse ++ rest) (hr : g.method = m ∧ g.locals.size = ml ∧ as'.toList.length = ps.length ∧ g.monitorRoom = 0 ∧ (rest.map fun v => v.category).sum = W) (hq : (y.cls ≠ "java/lang/invoke/MethodHandle" ∧ y.cls ≠ "java/lang/invoke/VarHandle") ∧ rm.frames + 1 ≤ R.frames ∧ W + (maxL + 11) + rm.locals ≤ R.locals ∧ cells + rm.cells ≤ R.cells ∧ slots + rm.slots ≤ R.slots)
    (k : ∀ T' L' v, Stand p l e R s m args below meth c T' (locs ++ L') (cells + rm.cells) (slots + rm.slots) → Q v T'.heap L' → ∃ s₂ o, Steps p.tables e below (T'.setTop { g with pc := g.pc + 3, stack := v.toList ++ rest }) s₂ ∧ P s₂ o) : ∃ s₂ o, Steps p.tables e below (T.setTop g) s₂ ∧ P s₂ o := by
  obtain ⟨hg, hsz, hn, hm0, hW⟩ := hr
  obtain ⟨hy, hf, hl, hc, hsl⟩ := hq
  obtain ⟨v, vm₁, ⟨B, L1, c1, n1⟩, -, X', ⟨L, hQ, e1, e2, e3⟩, st⟩ := Jvm.LawKit.callS X hx hown (mvT hZ wl) (mvT hZ wst) (mvT hZ wi) (mvT hZ wc) hy (backOf (W := W) hM hZ wc wi hf hl) hg (hsz.trans hml.symm) (argsL := as'.toList) (rest := rest) (lenOf hpd hn) hs (by rw [hm0, hW]; exact Nat.le_of_eq (Nat.zero_add W)) hd (fun _ _ => ⟨rfl, eT, hc, hsl⟩)
  dsimp only [Pt.U, Pt.locs, Pt.cells, Pt.slots] at X' hQ e1 e2 e3 st
  subst e1 e2 e3
  obtain ⟨s₂, o, h1, h2⟩ := k B L v X' hQ
  exact ⟨s₂, o, st _ h1, h2⟩
theorem own_cv {C : String} {b : Addr} {aL : List Value} (X : Stand p l e R s m args below meth c T locs cells slots) (hx : p.tables.exec = Jvm.exec) (hZ : Z.Warmed39 s.vm) (hown : s.vm.findClass own = some m.cls) (hml : c.maxLocals = ml) (eT : T.heap = h) (wl : (Jvm.Cond.methodLink own index y).before a0 Z = true) (wdc : (Jvm.Cond.declares y).before a0 Z = true) (wse : (Jvm.Cond.selects C y y).before a0 Z = true) (win : (Jvm.Cond.instanceMethod y).before a0 Z = true) (wi : (Jvm.Cond.initialized y.cls).before a0 Z = true) (wc : (Jvm.Cond.code y bytes maxL ret).before a0 Z = true) (E : Exa Z h b C)
    (hM : MetFree l y (head1 [Jvm.Cond.code y bytes maxL ret] rm) (fun a U => a = as' ∧ Z.Warmed39 U.vm ∧ U.heap = h) (fun _ _ _ _ _ => True) (fun _ U o U' => ∃ v L, o = .returned v ∧ Q v U'.heap L ∧ FrameEnd U o U' L rm.cells rm.slots)) (hpd : parseMethodDescriptor y.desc = some ⟨ps, rt⟩) (hd : decode c.code g.pc = .ok (.invokevirtual index, 3)) (W : Nat) (rest : List Value) (ha : as' = (.ref b :: aL).toArray) (hs : g.stack = aL.reverse ++ .ref b :: rest) (hr : g.method = m ∧ g.locals.size = ml ∧ aL.length = ps.length ∧ g.monitorRoom = 0 ∧ (rest.map fun v => v.category).sum = W) (hq : (y.cls ≠ "java/lang/invoke/MethodHandle" ∧ y.cls ≠ "java/lang/invoke/VarHandle") ∧ rm.frames + 1 ≤ R.frames ∧ W + (maxL + 11) + rm.locals ≤ R.locals ∧ cells + rm.cells ≤ R.cells ∧ slots + rm.slots ≤ R.slots)
    (k : ∀ T' L' v, Stand p l e R s m args below meth c T' (locs ++ L') (cells + rm.cells) (slots + rm.slots) → Q v T'.heap L' → ∃ s₂ o, Steps p.tables e below (T'.setTop { g with pc := g.pc + 3, stack := v.toList ++ rest }) s₂ ∧ P s₂ o) : ∃ s₂ o, Steps p.tables e below (T.setTop g) s₂ ∧ P s₂ o := by
  obtain ⟨hg, hsz, hn, hm0, hW⟩ := hr
  obtain ⟨hy, hf, hl, hc, hsl⟩ := hq
  subst ha
  obtain ⟨cq, kq, qa, qb, qc⟩ := isOf hZ eT E
  obtain ⟨v, vm₁, ⟨B, L1, c1, n1⟩, -, X', ⟨L, hQ, e1, e2, e3⟩, st⟩ := X.virtualBack hx (z := y) hown (mvT hZ wl) (mvT hZ wdc) (notFace_of_selects (args := #[]) (mvT hZ wse)) (mvT hZ wse) (mvT hZ win) hy (backOf (W := W) hM hZ wc wi hf hl) qa qc hg (hsz.trans hml.symm) (Steps.refl _) (argsL := aL) (rest := rest) (lenOf hpd hn) hs (by rw [hm0, hW]; exact Nat.le_of_eq (Nat.zero_add W)) hd (fun _ _ => ⟨rfl, eT, hc, hsl⟩)
  dsimp only [Pt.U, Pt.locs, Pt.cells, Pt.slots] at X' hQ e1 e2 e3 st
  subst e1 e2 e3
  obtain ⟨s₂, o, h1, h2⟩ := k B L v X' hQ
  exact ⟨s₂, o, st.trans h1, h2⟩
theorem own_ci {b : Addr} {aL : List Value} (X : Stand p l e R s m args below meth c T locs cells slots) (hx : p.tables.exec = Jvm.exec) (hZ : Z.Warmed39 s.vm) (hown : s.vm.findClass own = some m.cls) (hml : c.maxLocals = ml) (eT : T.heap = h) (wl : (Jvm.Cond.methodLink own index y).before a0 Z = true) (win : (Jvm.Cond.instanceMethod y).before a0 Z = true) (wi : (Jvm.Cond.initialized y.cls).before a0 Z = true) (wc : (Jvm.Cond.code y bytes maxL none).before a0 Z = true)
    (hM : MetFree l y (head1 [Jvm.Cond.code y bytes maxL none] rm) (fun a U => a = as' ∧ Z.Warmed39 U.vm ∧ U.heap = h) (fun _ _ _ _ _ => True) (fun _ U o U' => ∃ v L, o = .returned v ∧ Q v U'.heap L ∧ FrameEnd U o U' L rm.cells rm.slots)) (hpd : parseMethodDescriptor y.desc = some ⟨ps, rt⟩) (hd : decode c.code g.pc = .ok (.invokespecial index, 3)) (W : Nat) (rest : List Value) (ha : as' = (.ref b :: aL).toArray) (hs : g.stack = aL.reverse ++ .ref b :: rest) (hr : g.method = m ∧ g.locals.size = ml ∧ aL.length = ps.length ∧ g.monitorRoom = 0 ∧ (rest.map fun v => v.category).sum = W) (hq : (y.cls ≠ "java/lang/invoke/MethodHandle" ∧ y.cls ≠ "java/lang/invoke/VarHandle") ∧ rm.frames + 1 ≤ R.frames ∧ W + (maxL + 11) + rm.locals ≤ R.locals ∧ cells + rm.cells ≤ R.cells ∧ slots + rm.slots ≤ R.slots) (hy1 : y.name = "<init>")
    (k : ∀ T' L' v, Stand p l e R s m args below meth c T' (locs ++ L') (cells + rm.cells) (slots + rm.slots) → Q v T'.heap L' → ∃ s₂ o, Steps p.tables e below (T'.setTop { g with pc := g.pc + 3, stack := v.toList ++ rest }) s₂ ∧ P s₂ o) : ∃ s₂ o, Steps p.tables e below (T.setTop g) s₂ ∧ P s₂ o := by
  obtain ⟨hg, hsz, hn, hm0, hW⟩ := hr
  obtain ⟨hy, hf, hl, hc, hsl⟩ := hq
  subst ha
  obtain ⟨v, vm₁, ⟨B, L1, c1, n1⟩, -, X', ⟨L, hQ, e1, e2, e3⟩, st⟩ := X.specialBack hx hy1 hown (mvT hZ wl) (mvT hZ win) (mvT hZ wc) hy (backOf (W := W) hM hZ wc wi hf hl) hg (hsz.trans hml.symm) (Steps.refl _) (argsL := aL) (rest := rest) (lenOf hpd hn) hs (by rw [hm0, hW]; exact Nat.le_of_eq (Nat.zero_add W)) hd (fun _ _ => ⟨rfl, eT, hc, hsl⟩)
  dsimp only [Pt.U, Pt.locs, Pt.cells, Pt.slots] at X' hQ e1 e2 e3 st
  subst e1 e2 e3
  obtain ⟨s₂, o, h1, h2⟩ := k B L v X' hQ
  exact ⟨s₂, o, st.trans h1, h2⟩
end Calls
theorem own_rem (x y : Int32) : (x - (x / y) * y).toInt = x.toInt.tmod y.toInt := by
  have a := (x % y).toInt_lt; have b := (x % y).le_toInt
  rw [Int32.toInt_mod] at a b
  rw [Int32.toInt_sub, Int32.toInt_mul, Int32.toInt_div, ← Int.sub_bmod_bmod, ← Int.bmod_mul_bmod]
  simp only [Int.bmod_bmod, Int.bmod_mul_bmod, Int.sub_bmod_bmod]
  have h : x.toInt - x.toInt.tdiv y.toInt * y.toInt = x.toInt.tmod y.toInt := by
    have := Int.mul_tdiv_add_tmod x.toInt y.toInt
    rw [Int.mul_comm]; omega
  rw [h]
  exact Int.bmod_eq_of_le (by omega) (by omega)
/-- x % k for 0 <= x and a small k > 0 -/
theorem own_rem_pos {x y : Int32} (hx : 0 ≤ x.toInt) : (x - (x / y) * y).toInt = x.toInt % y.toInt := by rw [own_rem, Int.tmod_eq_emod_of_nonneg hx]
theorem own_mask31 (x : Int32) : 0 ≤ (x &&& (2147483647 : Int32)).toInt := by
  have e1 : (x &&& (2147483647 : Int32)).toInt = x.toInt % 2 ^ 31 := Jvm.Kit.i32_mask x 2147483647 (k := 31) (by decide) (by decide)
  rw [e1]; exact Int.emod_nonneg _ (by decide)
def own_b (x : Int32) : Int32 := nar .byte (x.toInt8.toInt32)
theorem own_u16 (u : UInt16) : (u.toUInt32.toInt32).toInt = u.toNat := by
  have hu := u.toNat_lt
  have hm : (u.toUInt32.toInt32).toBitVec.toNat = u.toNat := by
    show u.toUInt32.toNat = _
    simp
  show (u.toUInt32.toInt32).toBitVec.toInt = _
  rw [BitVec.toInt_eq_toNat_cond, hm, if_pos (by omega)]
theorem own_bnd {x : Int32} (l : ¬ x < (0 : Int32)) (u : ¬ (255 : Int32) < x) : 0 ≤ x.toInt ∧ x.toInt ≤ 255 := by
  have e1 : (0 : Int32).toInt = 0 := by decide
  have e2 : (255 : Int32).toInt = 255 := by decide
  rw [Int32.lt_iff_toInt_lt] at l u
  omega
theorem own_bnd' {x : Int32} (h : 0 ≤ x.toInt ∧ x.toInt ≤ 255) : ¬ x < (0 : Int32) ∧ ¬ (255 : Int32) < x := by
  have e1 : (0 : Int32).toInt = 0 := by decide
  have e2 : (255 : Int32).toInt = 255 := by decide
  rw [Int32.lt_iff_toInt_lt, Int32.lt_iff_toInt_lt]
  omega
theorem own_narc {x : Int32} (l : ¬ x < (0 : Int32)) (u : ¬ (255 : Int32) < x) : nar .char x = x := by
  have hb := own_bnd l u
  have hx : x.toInt = if 2 * x.toBitVec.toNat < 2 ^ 32 then (x.toBitVec.toNat : Int) else (x.toBitVec.toNat : Int) - ((2 ^ 32 : Nat) : Int) := BitVec.toInt_eq_toNat_cond x.toBitVec
  have hlt : x.toBitVec.toNat < 2 ^ 32 := x.toBitVec.isLt
  have hn : x.toInt = (x.toBitVec.toNat : Int) := by
    rw [hx]
    split
    · rfl
    · rename_i q
      rw [if_neg q] at hx
      omega
  rw [← Int32.toInt_inj]
  show (x.toUInt32.toUInt16.toUInt32.toInt32).toInt = _
  rw [own_u16]
  have h2 : x.toUInt32.toUInt16.toNat = x.toBitVec.toNat % 2 ^ 16 := by
    rw [UInt32.toNat_toUInt16]
    rfl
  rw [h2, hn]
  omega
theorem own_r1 {x : Int32} (l : ¬ x < (0 : Int32)) (u : ¬ (255 : Int32) < x) : ¬ nar .char x < (0 : Int32) ∧ ¬ (255 : Int32) < nar .char x := by
  rw [own_narc l u]
  exact ⟨l, u⟩
theorem own_m255 (x : Int32) : ¬ (x &&& (255 : Int32)) < (0 : Int32) ∧ ¬ (255 : Int32) < (x &&& (255 : Int32)) := by
  have e1 : (x &&& (255 : Int32)).toInt = x.toInt % 2 ^ 8 := Jvm.Kit.i32_mask x 255 (k := 8) (by decide) (by decide)
  exact own_bnd' (by rw [e1]; omega)
theorem own_c255 (x : Int32) : ¬ ((x &&& (255 : Int32)).toUInt32.toUInt16.toUInt32.toInt32) < (0 : Int32) ∧ ¬ (255 : Int32) < ((x &&& (255 : Int32)).toUInt32.toUInt16.toUInt32.toInt32) := own_r1 (own_m255 x).1 (own_m255 x).2
theorem own_r255 (x : Int32) : ¬ nar .char ((x &&& (255 : Int32)).toUInt32.toUInt16.toUInt32.toInt32) < (0 : Int32) ∧ ¬ (255 : Int32) < nar .char ((x &&& (255 : Int32)).toUInt32.toUInt16.toUInt32.toInt32) := own_r1 (own_c255 x).1 (own_c255 x).2
theorem own_r2 {z : Int32} (l : ¬ z < (97 : Int32)) (u : ¬ (122 : Int32) < z) : ¬ nar .char ((z - (32 : Int32)).toUInt32.toUInt16.toUInt32.toInt32) < (0 : Int32) ∧ ¬ (255 : Int32) < nar .char ((z - (32 : Int32)).toUInt32.toUInt16.toUInt32.toInt32) := by
  have e1 : (97 : Int32).toInt = 97 := by decide
  have e2 : (122 : Int32).toInt = 122 := by decide
  have e3 : (32 : Int32).toInt = 32 := by decide
  rw [Int32.lt_iff_toInt_lt, e1] at l
  rw [Int32.lt_iff_toInt_lt, e2] at u
  have e4 : (z - (32 : Int32)).toInt = z.toInt - 32 := by
    rw [Int32.toInt_sub, e3]
    exact Int.bmod_eq_of_le (by omega) (by omega)
  have h := own_bnd' (x := z - (32 : Int32)) (by rw [e4]; omega)
  have h2 := own_r1 h.1 h.2
  exact own_r1 h2.1 h2.2
theorem own_byte {v : Value} (h : fits .byte v = true) : ∃ w : Int32, v = .int w := by
  cases v <;> first | exact ⟨_, rfl⟩ | cases h
theorem own_fldSame {Z : State} {h : Heap} {a : Addr} {C n d : String} {v w : Value} (F : Fld Z h a C n d v) (G : Fld Z h a C n d w) : v = w := by
  obtain ⟨c1, f1, k1, i1, g1, p1, p2, -, -, -, -, p7⟩ := F
  obtain ⟨c2, f2, k2, i2, g2, q1, q2, -, -, -, -, q7⟩ := G
  cases p1.symm.trans q1
  cases p2.symm.trans q2
  exact Option.some.inj (p7.symm.trans q7)
theorem own_neNull {Z : State} {h : Heap} {a b c : Addr} {C n d : String} (F : Fld Z h b C n d .null) (G : Fld Z h a C n d (.ref c)) : a ≠ b := fun e => by
  subst e
  cases own_fldSame F G
theorem own_neStr {Z : State} {h : Heap} {a b va vb : Addr} {ka kb : ClassId} {za zb : Int32} {vsa vsb : List Value} {C n d : String} (F : Fld Z h a C n d (.ref va)) (G : Fld Z h b C n d (.ref vb)) (A : Arv Z h va ka .byte za vsa (.int 0)) (B : Arv Z h vb kb .byte zb vsb (.int 0)) (hz : ¬ za = zb) : ¬ a = b := fun e => by
  subst e
  cases own_fldSame F G
  obtain ⟨c1, p1, -, p3, p4, -⟩ := A
  obtain ⟨c2, q1, -, q3, q4, -⟩ := B
  cases p1.1.symm.trans q1.1
  refine hz (Int32.toInt_inj.mp ?_)
  have e0 : (0 : Int32).toInt = 0 := by decide
  rw [Int32.lt_iff_toInt_lt, e0] at p4 q4
  have e1 : za.toInt.toNat = zb.toInt.toNat := p3.symm.trans q3
  omega
theorem own_safeNull {Z : State} {EL : List (String × Nat)} {vm : Vm} {h : Heap} {x : Addr} (hal : Z.vm.Alike vm) (E : Exa Z h x "java/lang/String") (N : Fld Z h x "java/lang/String" "value" "[B" .null) : Safe Z EL vm h x := fun B => by
  obtain ⟨cell, k, e1, e2, e3, -, -⟩ := E
  have nm : ∀ {n : String} {c : ClassId}, vm.findClass n = some c → c = cell.cls → n = "java/lang/String" := fun {n c} f e => by
    subst e
    rw [hal.findClass] at f
    obtain ⟨k1, q1, q2⟩ := Vm.findClass_spec f
    obtain ⟨k2, q3, q4⟩ := Vm.findClass_spec e2
    cases q1.symm.trans q3
    exact q2.symm.trans q4
  obtain ⟨p, -, u, a, -, q, -, F, rfl | rfl⟩ := B
  · obtain ⟨cS, ⟨⟨s1, -, -, ⟨cv, kv, iv, s4, -⟩, -, -, -, s8, -⟩, -, -⟩, -⟩ := F
    obtain ⟨c1, f1, k1, i1, g1, p1, p2, -, -, -, -, p7⟩ := N
    cases (show h[q.sa]? = some q.sC from s1).symm.trans p1
    obtain ⟨kv', z4⟩ := ff_back (U := Wst Z vm h) hal s4
    cases z4.symm.trans p2
    cases p7.symm.trans s8
  · cases (show h[q.sd]? = some q.SA from F.hd).symm.trans e1
    obtain ⟨cS, -, -, f, -⟩ := F
    exact absurd (nm f rfl) (by decide)
theorem own_mod6 (x : Int32) : ((x &&& (2147483647 : Int32)) - ((x &&& (2147483647 : Int32)) / (6 : Int32)) * (6 : Int32)) = (0 : Int32) ∨ ((x &&& (2147483647 : Int32)) - ((x &&& (2147483647 : Int32)) / (6 : Int32)) * (6 : Int32)) = (1 : Int32) ∨ ((x &&& (2147483647 : Int32)) - ((x &&& (2147483647 : Int32)) / (6 : Int32)) * (6 : Int32)) = (2 : Int32) ∨ ((x &&& (2147483647 : Int32)) - ((x &&& (2147483647 : Int32)) / (6 : Int32)) * (6 : Int32)) = (3 : Int32) ∨ ((x &&& (2147483647 : Int32)) - ((x &&& (2147483647 : Int32)) / (6 : Int32)) * (6 : Int32)) = (4 : Int32) ∨ ((x &&& (2147483647 : Int32)) - ((x &&& (2147483647 : Int32)) / (6 : Int32)) * (6 : Int32)) = (5 : Int32) := by
  have h1 := own_mask31 x
  have e0 : (6 : Int32).toInt = 6 := rfl
  have h2 := own_rem_pos (y := (6 : Int32)) h1
  rw [e0] at h2
  have l0 : (0 : Int32).toInt = 0 := rfl
  have l1 : (1 : Int32).toInt = 1 := rfl
  have l2 : (2 : Int32).toInt = 2 := rfl
  have l3 : (3 : Int32).toInt = 3 := rfl
  have l4 : (4 : Int32).toInt = 4 := rfl
  have l5 : (5 : Int32).toInt = 5 := rfl
  simp only [← Int32.toInt_inj, h2, l0, l1, l2, l3, l4, l5]
  omega
theorem own_mod12 (x : Int32) : ((x &&& (2147483647 : Int32)) - ((x &&& (2147483647 : Int32)) / (12 : Int32)) * (12 : Int32)) = (0 : Int32) ∨ ((x &&& (2147483647 : Int32)) - ((x &&& (2147483647 : Int32)) / (12 : Int32)) * (12 : Int32)) = (1 : Int32) ∨ ((x &&& (2147483647 : Int32)) - ((x &&& (2147483647 : Int32)) / (12 : Int32)) * (12 : Int32)) = (2 : Int32) ∨ ((x &&& (2147483647 : Int32)) - ((x &&& (2147483647 : Int32)) / (12 : Int32)) * (12 : Int32)) = (3 : Int32) ∨ ((x &&& (2147483647 : Int32)) - ((x &&& (2147483647 : Int32)) / (12 : Int32)) * (12 : Int32)) = (4 : Int32) ∨ ((x &&& (2147483647 : Int32)) - ((x &&& (2147483647 : Int32)) / (12 : Int32)) * (12 : Int32)) = (5 : Int32) ∨ ((x &&& (2147483647 : Int32)) - ((x &&& (2147483647 : Int32)) / (12 : Int32)) * (12 : Int32)) = (6 : Int32) ∨ ((x &&& (2147483647 : Int32)) - ((x &&& (2147483647 : Int32)) / (12 : Int32)) * (12 : Int32)) = (7 : Int32) ∨ ((x &&& (2147483647 : Int32)) - ((x &&& (2147483647 : Int32)) / (12 : Int32)) * (12 : Int32)) = (8 : Int32) ∨ ((x &&& (2147483647 : Int32)) - ((x &&& (2147483647 : Int32)) / (12 : Int32)) * (12 : Int32)) = (9 : Int32) ∨ ((x &&& (2147483647 : Int32)) - ((x &&& (2147483647 : Int32)) / (12 : Int32)) * (12 : Int32)) = (10 : Int32) ∨ ((x &&& (2147483647 : Int32)) - ((x &&& (2147483647 : Int32)) / (12 : Int32)) * (12 : Int32)) = (11 : Int32) := by
  have h1 := own_mask31 x
  have e0 : (12 : Int32).toInt = 12 := rfl
  have h2 := own_rem_pos (y := (12 : Int32)) h1
  rw [e0] at h2
  have l0 : (0 : Int32).toInt = 0 := rfl
  have l1 : (1 : Int32).toInt = 1 := rfl
  have l2 : (2 : Int32).toInt = 2 := rfl
  have l3 : (3 : Int32).toInt = 3 := rfl
  have l4 : (4 : Int32).toInt = 4 := rfl
  have l5 : (5 : Int32).toInt = 5 := rfl
  have l6 : (6 : Int32).toInt = 6 := rfl
  have l7 : (7 : Int32).toInt = 7 := rfl
  have l8 : (8 : Int32).toInt = 8 := rfl
  have l9 : (9 : Int32).toInt = 9 := rfl
  have l10 : (10 : Int32).toInt = 10 := rfl
  have l11 : (11 : Int32).toInt = 11 := rfl
  simp only [← Int32.toInt_inj, h2, l0, l1, l2, l3, l4, l5, l6, l7, l8, l9, l10, l11]
  omega
theorem own_shr0 (z : Int32) : (z >>> ((0 : Int32) &&& 31)) = z := by
  have h : ((0 : Int32) &&& 31) = 0 := by decide
  rw [h]
  simp
theorem own_cf0 (z : Int32) : nar .byte (((((z - z).toUInt32 >>> ((31 : Int32) &&& 31).toUInt32).toInt32).toInt8.toInt32)) = (0 : Int32) := by
  have h : z - z = 0 := Int32.sub_self z
  rw [h]
  decide
theorem own_capN {z : Int32} (N : Nat) (J : Int32) (e : J.toInt = N) (h : ¬ J < z) : z.toNatClampNeg ≤ N := by
  rw [Int32.lt_iff_toInt_lt] at h
  simp only [Int32.toNatClampNeg]
  omega
theorem own_ltn {z j : Int32} (h : ¬ j < z) : z.toNatClampNeg ≤ j.toNatClampNeg := by
  rw [Int32.lt_iff_toInt_lt] at h
  simp only [Int32.toNatClampNeg]
  omega
theorem own_tk {α : Type} {l l' : List α} {i k : Nat} {d : α} (q : l'.take i = l.take i) (h : k < i) : l'.getD k d = l.getD k d := by
  have e : (l'.take i).getD k d = (l.take i).getD k d := by rw [q]
  simpa [List.getD_eq_getElem?_getD, List.getElem?_take, h] using e
theorem own_cut {Z : State} {h : Heap} {a : Addr} {k : ClassId} {ty : FieldType} {z j : Int32} {vs vs' : List Value} {dv : Value} (F : Arv Z h a k ty z vs dv) (i : Nat) (hj : j.toNatClampNeg = i) (hz : ¬ j < z) (q : vs'.take i = vs.take i) : Arv Z h a k ty z vs' dv := by
  obtain ⟨c, A, r1, r2, r3, H, G⟩ := F
  have e : ∀ x, x < c.slots.size → vs'.getD x dv = vs.getD x dv := fun x hx => own_tk q (by have := own_ltn hz; rw [r2] at hx; omega)
  exact ⟨c, A, r1, r2, r3, fun x hx => by rw [e x hx]; exact H x hx, fun x hx => by rw [e x hx]; exact G x hx⟩
theorem own_len {args : Array Value} {s : State} {t : Term} {x : Addr} {cl : Cell} {ty : FieldType} {k : Int32} (et : t.eval args s none [] s = some (.ref x)) (A : Arr s s.heap x cl ty) (h : (Jvm.Cond.eq (Jvm.Term.length t) (Jvm.Term.int k)).value args s none s [] = some true) : cl.slots.size < 2 ^ 31 ∧ cl.slots.size.toInt32 = k := by
  have e := eqv_i (Term.int_eval k) h
  have hA := A.fin (Vm.Alike.refl s.vm)
  by_cases q : cl.slots.size < 2 ^ 31
  · rw [len_f et hA q] at e
    exact ⟨q, Value.int.inj (Option.some.inj e)⟩
  · simp [Term.eval, et, hA, q] at e
theorem own_elem {args : Array Value} {s : State} {t u : Term} {x : Addr} {cl : Cell} {ty : FieldType} {j : Int32} {v : Value} (et : t.eval args s none [] s = some (.ref x)) (A : Arr s s.heap x cl ty) (hj : ¬ j < 0) (h : (Jvm.Term.elem t (Jvm.Term.int j)).eval args s none [] s = some v) : cl.slots[j.toNatClampNeg]? = some v := by
  rw [elem_f et (Term.int_eval j) (A.fin (Vm.Alike.refl s.vm)) hj] at h
  exact h
theorem own_refs {args : Array Value} {s : State} {a b : Term} {x : Addr} (hb : b.eval args s none [] s = some (.ref x)) (h : (Jvm.Cond.eq a b).value args s none s [] = some true) : a.eval args s none [] s = some (.ref x) := by
  obtain ⟨u, w, h1, h2, k1, k2⟩ := cmp_v (Or.inl h)
  cases hb.symm.trans h2
  have hu : u.isRef = true := by cases u <;> simp_all [Kin, Value.isRef]
  have q := eq_R h1 h2 hu rfl
  rw [h1, gotT q h]
theorem own_staKeep {Z : State} {h h' : Heap} {C n d K : String} {w : Value} {a : Addr} (F : Sta Z h C n d w) (E : Exa Z h a K) (Kp : Keep h h' [a]) : Sta Z h' C n d w := by
  obtain ⟨cf, i, k, f, st, cell, h1, h2, h3, h4, h5, h6, h7⟩ := F
  refine ⟨cf, i, k, f, st, cell, h1, h2, h3, h4, Kp.2.1 st cell h5 ?_, h6, h7⟩
  intro q
  cases List.mem_singleton.mp q
  obtain ⟨c2, k2, e1, -, -, e4, -⟩ := E
  cases h5.symm.trans e1
  rw [h6] at e4
  cases e4
theorem own_staKeep0 {Z : State} {h h' : Heap} {C n d : String} {w : Value} (F : Sta Z h C n d w) (Kp : Keep h h' []) : Sta Z h' C n d w := by
  obtain ⟨cf, i, k, f, st, cell, h1, h2, h3, h4, h5, h6, h7⟩ := F
  exact ⟨cf, i, k, f, st, cell, h1, h2, h3, h4, Kp.2.1 st cell h5 List.not_mem_nil, h6, h7⟩
theorem own_nin {a b c : Addr} (h1 : a ≠ b) (h2 : a ≠ c) : a ∉ [b, c] := by
  intro q
  simp only [List.mem_cons, List.not_mem_nil, or_false] at q
  exact q.elim h1 h2
theorem own_in2 {a b c : Addr} (q : a ∈ [b, c]) : a = b ∨ a = c := by
  simpa only [List.mem_cons, List.not_mem_nil, or_false] using q
theorem own_selPriv {s : State} {args : Array Value} {y z : MethodName} (hcls : z.cls = y.cls) (hi : (Cond.instanceMethod y).before args s = true) (hpriv : s.PrivateAt y) (hz : (Cond.selects z.cls z z).before args s = true) (hy : y.cls ≠ "java/lang/invoke/MethodHandle" ∧ y.cls ≠ "java/lang/invoke/VarHandle") : (Cond.selects y.cls y y).before args s = true := by
  obtain ⟨c2, r2, m2, z1, -, z3, -, kP, hkP, hkPi⟩ := Cond.selects_spec hz
  have hcz := findClass_of_methodNamed z3
  rw [hcls] at hcz
  exact selects_self_of_private hcz hkP hkPi hpriv hi hy
theorem ef_0_0 (m : MethodId) : entryFrame m #[] 0 = mkF m 0 #[] [] := by simp [entryFrame, mkF, argsToLocals]
theorem ef_1_1 (m : MethodId) (a0 : Value) (h0 : a0.category = 1) : entryFrame m #[a0] 1 = mkF m 0 #[.val a0] [] := by simp [entryFrame, mkF, argsToLocals, h0]
theorem ef_1_5 (m : MethodId) (a0 : Value) (h0 : a0.category = 1) : entryFrame m #[a0] 5 = mkF m 0 #[.val a0, .unset, .unset, .unset, .unset] [] := by simp [entryFrame, mkF, argsToLocals, h0]
theorem ef_2_2 (m : MethodId) (a0 a1 : Value) (h0 : a0.category = 1) (h1 : a1.category = 1) : entryFrame m #[a0, a1] 2 = mkF m 0 #[.val a0, .val a1] [] := by simp [entryFrame, mkF, argsToLocals, h0, h1]
theorem ef_2_3 (m : MethodId) (a0 a1 : Value) (h0 : a0.category = 1) (h1 : a1.category = 1) : entryFrame m #[a0, a1] 3 = mkF m 0 #[.val a0, .val a1, .unset] [] := by simp [entryFrame, mkF, argsToLocals, h0, h1]
theorem ef_3_3 (m : MethodId) (a0 a1 a2 : Value) (h0 : a0.category = 1) (h1 : a1.category = 1) (h2 : a2.category = 1) : entryFrame m #[a0, a1, a2] 3 = mkF m 0 #[.val a0, .val a1, .val a2] [] := by simp [entryFrame, mkF, argsToLocals, h0, h1, h2]
theorem ef_3_6 (m : MethodId) (a0 a1 a2 : Value) (h0 : a0.category = 1) (h1 : a1.category = 1) (h2 : a2.category = 1) : entryFrame m #[a0, a1, a2] 6 = mkF m 0 #[.val a0, .val a1, .val a2, .unset, .unset, .unset] [] := by simp [entryFrame, mkF, argsToLocals, h0, h1, h2]
theorem ef_4_5 (m : MethodId) (a0 a1 a2 a3 : Value) (h0 : a0.category = 1) (h1 : a1.category = 1) (h2 : a2.category = 1) (h3 : a3.category = 1) : entryFrame m #[a0, a1, a2, a3] 5 = mkF m 0 #[.val a0, .val a1, .val a2, .val a3, .unset] [] := by simp [entryFrame, mkF, argsToLocals, h0, h1, h2, h3]
theorem ef_5_6 (m : MethodId) (a0 a1 a2 a3 a4 : Value) (h0 : a0.category = 1) (h1 : a1.category = 1) (h2 : a2.category = 1) (h3 : a3.category = 1) (h4 : a4.category = 1) : entryFrame m #[a0, a1, a2, a3, a4] 6 = mkF m 0 #[.val a0, .val a1, .val a2, .val a3, .val a4, .unset] [] := by simp [entryFrame, mkF, argsToLocals, h0, h1, h2, h3, h4]
theorem ef_5_7 (m : MethodId) (a0 a1 a2 a3 a4 : Value) (h0 : a0.category = 1) (h1 : a1.category = 1) (h2 : a2.category = 1) (h3 : a3.category = 1) (h4 : a4.category = 1) : entryFrame m #[a0, a1, a2, a3, a4] 7 = mkF m 0 #[.val a0, .val a1, .val a2, .val a3, .val a4, .unset, .unset] [] := by simp [entryFrame, mkF, argsToLocals, h0, h1, h2, h3, h4]
theorem own_pd0 : parseMethodDescriptor "()B" = some ⟨[], some .byte⟩ := by decide +kernel
theorem own_pd1 : parseMethodDescriptor "(IILjava/util/function/BiFunction;)I" = some ⟨[.int, .int, (.object "java/util/function/BiFunction")], some .int⟩ := by decide +kernel
theorem own_pd2 : parseMethodDescriptor "([CI[BII)I" = some ⟨[(.array .char), .int, (.array .byte), .int, .int], some .int⟩ := by decide +kernel
theorem own_pd3 : parseMethodDescriptor "([CII)[B" = some ⟨[(.array .char), .int, .int], some (.array .byte)⟩ := by decide +kernel
theorem own_pd4 : parseMethodDescriptor "([BI)B" = some ⟨[(.array .byte), .int], some .byte⟩ := by decide +kernel
theorem own_pd5 : parseMethodDescriptor "([CIILjava/lang/Void;)V" = some ⟨[(.array .char), .int, .int, (.object "java/lang/Void")], none⟩ := by decide +kernel
theorem own_pd6 : parseMethodDescriptor "(II)V" = some ⟨[.int, .int], none⟩ := by decide +kernel
theorem own_pd7 : parseMethodDescriptor "()Z" = some ⟨[], some .boolean⟩ := by decide +kernel
theorem own_pd8 : parseMethodDescriptor "([BI)C" = some ⟨[(.array .byte), .int], some .char⟩ := by decide +kernel
theorem own_pd9 : parseMethodDescriptor "()I" = some ⟨[], some .int⟩ := by decide +kernel
theorem own_pd10 : parseMethodDescriptor "(I)C" = some ⟨[.int], some .char⟩ := by decide +kernel
theorem own_pd11 : parseMethodDescriptor "([C)V" = some ⟨[(.array .char)], none⟩ := by decide +kernel
theorem own_pd12 : parseMethodDescriptor "([B[B)Z" = some ⟨[(.array .byte), (.array .byte)], some .boolean⟩ := by decide +kernel
theorem own_pd13 : parseMethodDescriptor "()[Lcom/example/corollary/corollary/EstimateMethod;" = some ⟨[], some (.array (.object "com/example/corollary/corollary/EstimateMethod"))⟩ := by decide +kernel
theorem own_pd14 : parseMethodDescriptor "(Ljava/lang/Object;)Z" = some ⟨[(.object "java/lang/Object")], some .boolean⟩ := by decide +kernel
theorem own_pd15 : parseMethodDescriptor "(Ljava/lang/String;ICZ)C" = some ⟨[(.object "java/lang/String"), .int, .char, .boolean], some .char⟩ := by decide +kernel
theorem own_pd16 : parseMethodDescriptor "([CI)Ljava/lang/String;" = some ⟨[(.array .char), .int], some (.object "java/lang/String")⟩ := by decide +kernel
theorem own_pd17 : parseMethodDescriptor "(Ljava/lang/String;)Lcom/example/corollary/corollary/EstimateMethod;" = some ⟨[(.object "java/lang/String")], some (.object "com/example/corollary/corollary/EstimateMethod")⟩ := by decide +kernel
theorem own_pn0 : plainName "java/lang/String" = true := by first | (simp [plainName, overriddenIn]; done) | decide +kernel
theorem own_pn1 : plainName "jdk/internal/util/Preconditions" = true := by first | (simp [plainName, overriddenIn]; done) | decide +kernel
theorem own_pn2 : plainName "java/lang/StringUTF16" = true := by first | (simp [plainName, overriddenIn]; done) | decide +kernel
theorem own_pn3 : plainName "java/lang/StringLatin1" = true := by first | (simp [plainName, overriddenIn]; done) | decide +kernel
theorem own_pn4 : plainName "com/example/corollary/corollary/EstimateMethodNamedPinLaw" = true := by first | (simp [plainName, overriddenIn]; done) | decide +kernel
theorem own_pn5 : plainName "com/example/corollary/corollary/EstimateMethod" = true := by first | (simp [plainName, overriddenIn]; done) | decide +kernel
theorem own_atoms {Z : State} {a0 : Array Value} (hw : ∀ d ∈ tables_1, d.before a0 Z = true) : ∀ a ∈ Bundle.stringAtoms, a.before a0 Z = true := by
  intro d hd
  simp only [Bundle.stringAtoms, Bundle.sN, List.mem_cons, List.not_mem_nil, or_false] at hd
  rcases hd with rfl | rfl | rfl | rfl | rfl | rfl | rfl
  · exact (wd hw 1 rfl)
  · exact (wd hw 2 rfl)
  · exact (wd hw 3 rfl)
  · exact (wd hw 4 rfl)
  · exact (wd hw 5 rfl)
  · exact (wd hw 6 rfl)
  · exact (wd hw 7 rfl)
def own_EL : List (String × Nat) := [("com/example/corollary/corollary/EstimateMethodNamedPinLaw", 7), ("com/example/corollary/corollary/EstimateMethodNamedPinLaw", 9), ("java/lang/String", 7)]
theorem own_EW {Z : State} {a0 : Array Value} (hw : ∀ d ∈ tables_1, d.before a0 Z = true) : EW Z a0 own_EL := EW.cons (wd hw 0 rfl) (by decide +kernel) (EW.cons (wd hw 82 rfl) (by decide +kernel) (EW.cons (wd hw 106 rfl) (by decide +kernel) EW.nil))
def own_QN (h0 : Heap) (n0 : Nat) (v : Option Value) (h : Heap) (L : List Loc) : Prop := v = none ∧ Fr n0 L ∧ h = h0
def own_QI (r : Int32) (h0 : Heap) (n0 : Nat) (v : Option Value) (h : Heap) (L : List Loc) : Prop := v = some (.int r) ∧ Fr n0 L ∧ h = h0
def own_QV (r : Value) (h0 : Heap) (n0 : Nat) (v : Option Value) (h : Heap) (L : List Loc) : Prop := v = some r ∧ Fr n0 L ∧ h = h0
def own_QJ (r : Int64) (h0 : Heap) (n0 : Nat) (v : Option Value) (h : Heap) (L : List Loc) : Prop := v = some (.long r) ∧ Fr n0 L ∧ h = h0
theorem d_B0_0 : decode jdk_42_method_152_code 0 = .ok (.getstatic 38, 3) := by decide +kernel
theorem d_B0_3 : decode jdk_42_method_152_code 3 = .ok (.ifCond .eq 10, 3) := by decide +kernel
theorem d_B0_6 : decode jdk_42_method_152_code 6 = .ok (.aload_n 0, 1) := by decide +kernel
theorem d_B0_7 : decode jdk_42_method_152_code 7 = .ok (.getfield 15, 3) := by decide +kernel
theorem d_B0_10 : decode jdk_42_method_152_code 10 = .ok (.goto 4, 3) := by decide +kernel
theorem d_B0_14 : decode jdk_42_method_152_code 14 = .ok (.ireturn, 1) := by decide +kernel
set_option maxRecDepth 65536 in
set_option maxHeartbeats 40000000 in
theorem own_rmCod (l : Launch) (Z : State) (a0 : Array Value) (hw : ∀ d ∈ tables_1, d.before a0 Z = true) (ws : List Jvm.Cond) (b0 : Addr) (cs : Int32) (h0 : Heap) (n0 : Nat) (Z0 : n0 ≤ h0.size) (F_c : Fld Z h0 b0 "java/lang/String" "coder" "B" (.int 0)) (S_cs : Sta Z h0 "java/lang/String" "COMPACT_STRINGS" "Z" (.int cs)) (hcs : ¬ cs = (0 : Int32)) : own_M l Z (⟨"java/lang/String", "coder", "()B"⟩ : MethodName) jdk_42_method_152_code 1 (some .byte) ws ({ frames := 0, cells := 0, slots := 0, locals := 0 } : Room) #[.ref b0] h0 (own_QI (0 : Int32) h0 n0) := by
  refine own_begin (n0 := n0) (f0 := mkF ⟨0, 0⟩ 0 #[rv b0] []) (plainFor_of_name own_pn0) (fun m => ef_1_1 m _ rfl) ?_
  intro p e s m below meth c s₁ Bd hZ hx hby hml hown hnm X0 e0 N0
  obtain ⟨T1, X1, e1, st1⟩ := getS2 X0 hx hZ hown (host := "") (Or.inl (wd hw 19 rfl)) Via.refl e0 S_cs (g := (mkF m 0 #[rv b0] [])) rfl (hb hby d_B0_0)
  obtain ⟨T2, X2, e2, st2⟩ := getF X1 hx hZ hown (host := "") (Or.inl (wd hw 20 rfl)) Via.refl e1 F_c (g := (mkF m 7 #[rv b0] [.ref b0])) rfl rfl (hb hby d_B0_7)
  exact own_ret (v := some (.int 0)) X2 e2 Bd.notSynchronized (nv Bd.returns) (fun fs hr => st1 _ (xifNo X1 hx hby rfl d_B0_3 rfl ((if0 _ _).trans (feq (hcs : ¬ (cs = (0 : Int32)))).1) (xaloadN X1 hx hby rfl d_B0_6 rfl rfl (st2 _ (xgoto X2 hx hby rfl 10 14 rfl d_B0_10 (by decide) (by decide) (retN X2 hx (t := .byte) Bd.returns (by simp) (hb hby d_B0_14) hr)))))) ⟨rfl, N0, rfl⟩ (by decide)
theorem d_B1_0 : decode jdk_42_method_154_code 0 = .ok (.getstatic 38, 3) := by decide +kernel
theorem d_B1_3 : decode jdk_42_method_154_code 3 = .ok (.ifCond .eq 14, 3) := by decide +kernel
theorem d_B1_6 : decode jdk_42_method_154_code 6 = .ok (.aload_n 0, 1) := by decide +kernel
theorem d_B1_7 : decode jdk_42_method_154_code 7 = .ok (.getfield 15, 3) := by decide +kernel
theorem d_B1_10 : decode jdk_42_method_154_code 10 = .ok (.ifCond .ne 7, 3) := by decide +kernel
theorem d_B1_13 : decode jdk_42_method_154_code 13 = .ok (.iconst 1, 1) := by decide +kernel
theorem d_B1_14 : decode jdk_42_method_154_code 14 = .ok (.goto 4, 3) := by decide +kernel
theorem d_B1_18 : decode jdk_42_method_154_code 18 = .ok (.ireturn, 1) := by decide +kernel
set_option maxRecDepth 65536 in
set_option maxHeartbeats 40000000 in
theorem own_rmIl (l : Launch) (Z : State) (a0 : Array Value) (hw : ∀ d ∈ tables_1, d.before a0 Z = true) (ws : List Jvm.Cond) (b0 : Addr) (cs : Int32) (h0 : Heap) (n0 : Nat) (Z0 : n0 ≤ h0.size) (F_c : Fld Z h0 b0 "java/lang/String" "coder" "B" (.int 0)) (S_cs : Sta Z h0 "java/lang/String" "COMPACT_STRINGS" "Z" (.int cs)) (hcs : ¬ cs = (0 : Int32)) : own_M l Z (⟨"java/lang/String", "isLatin1", "()Z"⟩ : MethodName) jdk_42_method_154_code 1 (some .boolean) ws ({ frames := 0, cells := 0, slots := 0, locals := 0 } : Room) #[.ref b0] h0 (own_QI (1 : Int32) h0 n0) := by
  refine own_begin (n0 := n0) (f0 := mkF ⟨0, 0⟩ 0 #[rv b0] []) (plainFor_of_name own_pn0) (fun m => ef_1_1 m _ rfl) ?_
  intro p e s m below meth c s₁ Bd hZ hx hby hml hown hnm X0 e0 N0
  obtain ⟨T1, X1, e1, st1⟩ := getS2 X0 hx hZ hown (host := "") (Or.inl (wd hw 19 rfl)) Via.refl e0 S_cs (g := (mkF m 0 #[rv b0] [])) rfl (hb hby d_B1_0)
  obtain ⟨T2, X2, e2, st2⟩ := getF X1 hx hZ hown (host := "") (Or.inl (wd hw 20 rfl)) Via.refl e1 F_c (g := (mkF m 7 #[rv b0] [.ref b0])) rfl rfl (hb hby d_B1_7)
  exact own_ret (v := some (.int 1)) X2 e2 Bd.notSynchronized (nv Bd.returns) (fun fs hr => st1 _ (xifNo X1 hx hby rfl d_B1_3 rfl ((if0 _ _).trans (feq (hcs : ¬ (cs = (0 : Int32)))).1) (xaloadN X1 hx hby rfl d_B1_6 rfl rfl (st2 _ (xifNo X2 hx hby rfl d_B1_10 rfl ((if0 _ _).trans (teq ((by decide) : (0 : Int32) = (0 : Int32))).2) (xiconst X2 hx hby rfl d_B1_13 (xgoto X2 hx hby rfl 14 18 rfl d_B1_14 (by decide) (by decide) (retN X2 hx (t := .boolean) Bd.returns (by simp) (hb hby d_B1_18) hr)))))))) ⟨rfl, N0, rfl⟩ (by decide)
theorem d_B2_0 : decode jdk_42_method_54_code 0 = .ok (.aload_n 0, 1) := by decide +kernel
theorem d_B2_1 : decode jdk_42_method_54_code 1 = .ok (.getfield 9, 3) := by decide +kernel
theorem d_B2_4 : decode jdk_42_method_54_code 4 = .ok (.arraylength, 1) := by decide +kernel
theorem d_B2_5 : decode jdk_42_method_54_code 5 = .ok (.aload_n 0, 1) := by decide +kernel
theorem d_B2_6 : decode jdk_42_method_54_code 6 = .ok (.invokevirtual 335, 3) := by decide +kernel
theorem d_B2_9 : decode jdk_42_method_54_code 9 = .ok (.ishr, 1) := by decide +kernel
theorem d_B2_10 : decode jdk_42_method_54_code 10 = .ok (.ireturn, 1) := by decide +kernel
set_option maxRecDepth 65536 in
set_option maxHeartbeats 40000000 in
theorem own_rmLen (l : Launch) (Z : State) (a0 : Array Value) (hw : ∀ d ∈ tables_1, d.before a0 Z = true) (ws : List Jvm.Cond) (b0 : Addr) (v0 : Addr) (kv : ClassId) (z : Int32) (vs : List Value) (cs : Int32) (h0 : Heap) (n0 : Nat) (Z0 : n0 ≤ h0.size) (E_b0 : Exa Z h0 b0 "java/lang/String") (F_cb0 : Fld Z h0 b0 "java/lang/String" "coder" "B" (.int 0)) (F_vb0 : Fld Z h0 b0 "java/lang/String" "value" "[B" (.ref v0)) (V_v0 : Arv Z h0 v0 kv .byte z vs (.int 0)) (S_cs : Sta Z h0 "java/lang/String" "COMPACT_STRINGS" "Z" (.int cs)) (hcs : ¬ cs = (0 : Int32)) : own_M l Z (⟨"java/lang/String", "length", "()I"⟩ : MethodName) jdk_42_method_54_code 1 (some .int) ws ({ frames := 1, cells := 0, slots := 0, locals := 13 } : Room) #[.ref b0] h0 (own_QI z h0 n0) := by
  refine own_begin (n0 := n0) (f0 := mkF ⟨0, 0⟩ 0 #[rv b0] []) (plainFor_of_name own_pn0) (fun m => ef_1_1 m _ rfl) ?_
  intro p e s m below meth c s₁ Bd hZ hx hby hml hown hnm X0 e0 N0
  obtain ⟨T1, X1, e1, st1⟩ := getF X0 hx hZ hown (host := "") (Or.inl (wd hw 13 rfl)) Via.refl e0 F_vb0 (g := (mkF m 1 #[rv b0] [.ref b0])) rfl rfl (hb hby d_B2_1)
  obtain ⟨cl2, Ar2, -, Sz2, M2, -, -⟩ := id V_v0
  refine own_go (b := T1.setTop (mkF m 6 #[rv b0] [.ref b0, .int z])) (fun t k => ?_) ?_
  · refine xaloadN X0 hx hby rfl d_B2_0 rfl rfl (st1 _ (X1.arraylength hx (own_in e1 Ar2.1) (State.isArrayOf_alike hZ.alike Ar2.2.1) (g := (mkF m 4 #[rv b0] [.ref v0])) rfl rfl (hb hby d_B2_4) _ ?_))
    rw [len_of Sz2 M2]
    refine xaloadN X1 hx hby rfl d_B2_5 rfl rfl k
  refine own_cv X1 hx hZ hown hml e1 (wd hw 14 rfl) (wd hw 15 rfl) (wd hw 17 rfl) (wd hw 16 rfl) (wd hw 1 rfl) (wd hw 18 rfl) E_b0 (own_rmCod l Z a0 hw [] b0 cs h0 n0 Z0 F_cb0 S_cs hcs) own_pd0 (hb hby d_B2_6) 1 [.int z] rfl rfl ⟨rfl, rfl, rfl, rfl, rfl⟩ (by decide) ?_
  rintro T3 L3 v3 X3 hQ3
  obtain ⟨rfl, N3q, e3⟩ := hQ3
  have N3 := Fr.app N0 N3q
  exact own_ret (v := some (.int (z >>> ((0 : Int32) &&& 31)))) X3 e3 Bd.notSynchronized (nv Bd.returns) (fun fs hr => XS.ishr X3.here hx rfl (hb hby d_B2_9) rfl (retI X3 hx Bd.returns (hb hby d_B2_10) hr)) ⟨congrArg (fun q => some (Value.int q)) (own_shr0 z), N3, rfl⟩ (by decide)
theorem d_B3_0 : decode jdk_41_method_11_code 0 = .ok (.iload_n 0, 1) := by decide +kernel
theorem d_B3_1 : decode jdk_41_method_11_code 1 = .ok (.ifCond .lt 8, 3) := by decide +kernel
theorem d_B3_4 : decode jdk_41_method_11_code 4 = .ok (.iload_n 0, 1) := by decide +kernel
theorem d_B3_5 : decode jdk_41_method_11_code 5 = .ok (.iload_n 1, 1) := by decide +kernel
theorem d_B3_6 : decode jdk_41_method_11_code 6 = .ok (.if_icmp .lt 10, 3) := by decide +kernel
theorem d_B3_16 : decode jdk_41_method_11_code 16 = .ok (.iload_n 0, 1) := by decide +kernel
theorem d_B3_17 : decode jdk_41_method_11_code 17 = .ok (.ireturn, 1) := by decide +kernel
set_option maxRecDepth 65536 in
set_option maxHeartbeats 40000000 in
theorem own_rmPcN (l : Launch) (Z : State) (a0 : Array Value) (hw : ∀ d ∈ tables_1, d.before a0 Z = true) (ws : List Jvm.Cond) (p0 : Int32) (p1 : Int32) (h0 : Heap) (n0 : Nat) (Z0 : n0 ≤ h0.size) (h1 : ¬ p0 < (0 : Int32)) (h2 : p0 < p1) : own_M l Z (⟨"jdk/internal/util/Preconditions", "checkIndex", "(IILjava/util/function/BiFunction;)I"⟩ : MethodName) jdk_41_method_11_code 3 (some .int) ws ({ frames := 0, cells := 0, slots := 0, locals := 0 } : Room) #[.int p0, .int p1, .null] h0 (own_QI p0 h0 n0) := by
  refine own_begin (n0 := n0) (f0 := mkF ⟨0, 0⟩ 0 #[iv p0, iv p1, .val .null] []) (plainFor_of_name own_pn1) (fun m => ef_3_3 m _ _ _ rfl rfl rfl) ?_
  intro p e s m below meth c s₁ Bd hZ hx hby hml hown hnm X0 e0 N0
  exact own_ret (v := some (.int p0)) X0 e0 Bd.notSynchronized (nv Bd.returns) (fun fs hr => xiloadN X0 hx hby rfl d_B3_0 rfl (xifNo X0 hx hby rfl d_B3_1 rfl ((if0 _ _).trans (flt (h1 : ¬ (p0 < (0 : Int32)))).1) (xiloadN X0 hx hby rfl d_B3_4 rfl (xiloadN X0 hx hby rfl d_B3_5 rfl (xicmpYes X0 hx hby rfl 6 16 rfl d_B3_6 rfl (tlt (h2 : p0 < p1)).1 (by decide) (by decide) (xiloadN X0 hx hby rfl d_B3_16 rfl (retI X0 hx Bd.returns (hb hby d_B3_17) hr))))))) ⟨rfl, N0, rfl⟩ (by decide)
set_option maxRecDepth 65536 in
set_option maxHeartbeats 40000000 in
theorem own_rmPcR (l : Launch) (Z : State) (a0 : Array Value) (hw : ∀ d ∈ tables_1, d.before a0 Z = true) (ws : List Jvm.Cond) (p0 : Int32) (p1 : Int32) (b2 : Addr) (h0 : Heap) (n0 : Nat) (Z0 : n0 ≤ h0.size) (h1 : ¬ p0 < (0 : Int32)) (h2 : p0 < p1) : own_M l Z (⟨"jdk/internal/util/Preconditions", "checkIndex", "(IILjava/util/function/BiFunction;)I"⟩ : MethodName) jdk_41_method_11_code 3 (some .int) ws ({ frames := 0, cells := 0, slots := 0, locals := 0 } : Room) #[.int p0, .int p1, .ref b2] h0 (own_QI p0 h0 n0) := by
  refine own_begin (n0 := n0) (f0 := mkF ⟨0, 0⟩ 0 #[iv p0, iv p1, rv b2] []) (plainFor_of_name own_pn1) (fun m => ef_3_3 m _ _ _ rfl rfl rfl) ?_
  intro p e s m below meth c s₁ Bd hZ hx hby hml hown hnm X0 e0 N0
  exact own_ret (v := some (.int p0)) X0 e0 Bd.notSynchronized (nv Bd.returns) (fun fs hr => xiloadN X0 hx hby rfl d_B3_0 rfl (xifNo X0 hx hby rfl d_B3_1 rfl ((if0 _ _).trans (flt (h1 : ¬ (p0 < (0 : Int32)))).1) (xiloadN X0 hx hby rfl d_B3_4 rfl (xiloadN X0 hx hby rfl d_B3_5 rfl (xicmpYes X0 hx hby rfl 6 16 rfl d_B3_6 rfl (tlt (h2 : p0 < p1)).1 (by decide) (by decide) (xiloadN X0 hx hby rfl d_B3_16 rfl (retI X0 hx Bd.returns (hb hby d_B3_17) hr))))))) ⟨rfl, N0, rfl⟩ (by decide)
theorem d_B4_0 : decode jdk_42_method_155_code 0 = .ok (.iload_n 0, 1) := by decide +kernel
theorem d_B4_1 : decode jdk_42_method_155_code 1 = .ok (.iload_n 1, 1) := by decide +kernel
theorem d_B4_2 : decode jdk_42_method_155_code 2 = .ok (.getstatic 1053, 3) := by decide +kernel
theorem d_B4_5 : decode jdk_42_method_155_code 5 = .ok (.invokestatic 1059, 3) := by decide +kernel
theorem d_B4_8 : decode jdk_42_method_155_code 8 = .ok (.pop, 1) := by decide +kernel
theorem d_B4_9 : decode jdk_42_method_155_code 9 = .ok (.return_, 1) := by decide +kernel
set_option maxRecDepth 65536 in
set_option maxHeartbeats 40000000 in
theorem own_rmCiN (l : Launch) (Z : State) (a0 : Array Value) (hw : ∀ d ∈ tables_1, d.before a0 Z = true) (ws : List Jvm.Cond) (p0 : Int32) (p1 : Int32) (h0 : Heap) (n0 : Nat) (Z0 : n0 ≤ h0.size) (h1 : ¬ p0 < (0 : Int32)) (h2 : p0 < p1) (S_f : Sta Z h0 "jdk/internal/util/Preconditions" "SIOOBE_FORMATTER" "Ljava/util/function/BiFunction;" .null) : own_M l Z y7N jdk_42_method_155_code 2 none ws ({ frames := 1, cells := 0, slots := 0, locals := 14 } : Room) #[.int p0, .int p1] h0 (own_QN h0 n0) := by
  refine own_begin (n0 := n0) (f0 := mkF ⟨0, 0⟩ 0 #[iv p0, iv p1] []) (plainFor_of_name own_pn0) (fun m => ef_2_2 m _ _ rfl rfl) ?_
  intro p e s m below meth c s₁ Bd hZ hx hby hml hown hnm X0 e0 N0
  obtain ⟨T1, X1, e1, st1⟩ := getS2 X0 hx hZ hown (host := "") (Or.inl (wd hw 43 rfl)) Via.refl e0 S_f (g := (mkF m 2 #[iv p0, iv p1] [.int p1, .int p0])) rfl (hb hby d_B4_2)
  refine own_go (b := T1.setTop (mkF m 5 #[iv p0, iv p1] [.null, .int p1, .int p0])) (fun t k => xiloadN X0 hx hby rfl d_B4_0 rfl (xiloadN X0 hx hby rfl d_B4_1 rfl (st1 _ k))) ?_
  refine own_cs X1 hx hZ hown hml e1 (wd hw 45 rfl) (wd hw 46 rfl) (wd hw 44 rfl) (wd hw 47 rfl) (own_rmPcN l Z a0 hw [] p0 p1 h0 n0 Z0 h1 h2) own_pd1 (hb hby d_B4_5) 0 [] rfl ⟨rfl, rfl, rfl, rfl, rfl⟩ (by decide) ?_
  rintro T2 L2 v2 X2 hQ2
  obtain ⟨rfl, N2q, e2⟩ := hQ2
  have N2 := Fr.app N0 N2q
  exact own_ret (v := none) X2 e2 Bd.notSynchronized (fun _ => rfl) (fun fs hr => XS.pop X2.here hx rfl (hb hby d_B4_8) rfl rfl (X2.returnOut hx Bd.returns (hb hby d_B4_9) hr)) ⟨rfl, N2, rfl⟩ (by decide)
set_option maxRecDepth 65536 in
set_option maxHeartbeats 40000000 in
theorem own_rmCiR (l : Launch) (Z : State) (a0 : Array Value) (hw : ∀ d ∈ tables_1, d.before a0 Z = true) (ws : List Jvm.Cond) (p0 : Int32) (p1 : Int32) (bf : Addr) (h0 : Heap) (n0 : Nat) (Z0 : n0 ≤ h0.size) (h1 : ¬ p0 < (0 : Int32)) (h2 : p0 < p1) (S_f : Sta Z h0 "jdk/internal/util/Preconditions" "SIOOBE_FORMATTER" "Ljava/util/function/BiFunction;" (.ref bf)) : own_M l Z y7N jdk_42_method_155_code 2 none ws ({ frames := 1, cells := 0, slots := 0, locals := 14 } : Room) #[.int p0, .int p1] h0 (own_QN h0 n0) := by
  refine own_begin (n0 := n0) (f0 := mkF ⟨0, 0⟩ 0 #[iv p0, iv p1] []) (plainFor_of_name own_pn0) (fun m => ef_2_2 m _ _ rfl rfl) ?_
  intro p e s m below meth c s₁ Bd hZ hx hby hml hown hnm X0 e0 N0
  obtain ⟨T1, X1, e1, st1⟩ := getS2 X0 hx hZ hown (host := "") (Or.inl (wd hw 43 rfl)) Via.refl e0 S_f (g := (mkF m 2 #[iv p0, iv p1] [.int p1, .int p0])) rfl (hb hby d_B4_2)
  refine own_go (b := T1.setTop (mkF m 5 #[iv p0, iv p1] [.ref bf, .int p1, .int p0])) (fun t k => xiloadN X0 hx hby rfl d_B4_0 rfl (xiloadN X0 hx hby rfl d_B4_1 rfl (st1 _ k))) ?_
  refine own_cs X1 hx hZ hown hml e1 (wd hw 45 rfl) (wd hw 46 rfl) (wd hw 44 rfl) (wd hw 47 rfl) (own_rmPcR l Z a0 hw [] p0 p1 bf h0 n0 Z0 h1 h2) own_pd1 (hb hby d_B4_5) 0 [] rfl ⟨rfl, rfl, rfl, rfl, rfl⟩ (by decide) ?_
  rintro T2 L2 v2 X2 hQ2
  obtain ⟨rfl, N2q, e2⟩ := hQ2
  have N2 := Fr.app N0 N2q
  exact own_ret (v := none) X2 e2 Bd.notSynchronized (fun _ => rfl) (fun fs hr => XS.pop X2.here hx rfl (hb hby d_B4_8) rfl rfl (X2.returnOut hx Bd.returns (hb hby d_B4_9) hr)) ⟨rfl, N2, rfl⟩ (by decide)
theorem own_rmCi (l : Launch) (Z : State) (a0 : Array Value) (hw : ∀ d ∈ tables_1, d.before a0 Z = true) (ws : List Jvm.Cond) (p0 p1 : Int32) (fv : Value) (h0 : Heap) (n0 : Nat) (Z0 : n0 ≤ h0.size) (h1 : ¬ p0 < (0 : Int32)) (h2 : p0 < p1) (S_f : Sta Z h0 "jdk/internal/util/Preconditions" "SIOOBE_FORMATTER" "Ljava/util/function/BiFunction;" fv) (hfv : fv.isRef = true) : own_M l Z y7N jdk_42_method_155_code 2 none ws ({ frames := 1, cells := 0, slots := 0, locals := 14 } : Room) #[.int p0, .int p1] h0 (own_QN h0 n0) := by
  rcases ref_cases hfv with rfl | ⟨f, rfl⟩
  · exact own_rmCiN l Z a0 hw ws p0 p1 h0 n0 Z0 h1 h2 S_f
  · exact own_rmCiR l Z a0 hw ws p0 p1 f h0 n0 Z0 h1 h2 S_f
def own_Q5 (Z : State) (b : Addr) (k : ClassId) (n : Int32) (vs : List Value) (h0 : Heap) (n0 : Nat) (v : Option Value) (h : Heap) (L : List Loc) : Prop := v = some (.int n) ∧ Fr n0 L ∧ Keep h0 h [b] ∧ Arv Z h b k .byte n vs (.int 0)
def own_Q3 (Z : State) (n : Int32) (vs : List Value) (h0 : Heap) (n0 : Nat) (v : Option Value) (h : Heap) (L : List Loc) : Prop := ∃ (r : Addr) (k : ClassId), v = some (.ref r) ∧ Fr n0 L ∧ Keep h0 h [] ∧ Arv Z h r k .byte n vs (.int 0) ∧ h0.size ≤ r
def own_Q4 (Z : State) (b : Addr) (n : Int32) (vs : List Value) (h0 : Heap) (n0 : Nat) (v : Option Value) (h : Heap) (L : List Loc) : Prop := ∃ (r : Addr) (k : ClassId), v = none ∧ Fr n0 L ∧ Keep h0 h [b] ∧ Fld Z h b "java/lang/String" "value" "[B" (.ref r) ∧ Fld Z h b "java/lang/String" "coder" "B" (.int 0) ∧ Arv Z h r k .byte n vs (.int 0)
theorem d_B5_0 : decode jdk_52_method_21_code 0 = .ok (.iconst 0, 1) := by decide +kernel
theorem d_B5_1 : decode jdk_52_method_21_code 1 = .ok (.istore 5, 2) := by decide +kernel
theorem d_B5_3 : decode jdk_52_method_21_code 3 = .ok (.iload 5, 2) := by decide +kernel
theorem d_B5_5 : decode jdk_52_method_21_code 5 = .ok (.iload 4, 2) := by decide +kernel
theorem d_B5_7 : decode jdk_52_method_21_code 7 = .ok (.if_icmp .ge 37, 3) := by decide +kernel
theorem d_B5_10 : decode jdk_52_method_21_code 10 = .ok (.aload_n 0, 1) := by decide +kernel
theorem d_B5_11 : decode jdk_52_method_21_code 11 = .ok (.iload_n 1, 1) := by decide +kernel
theorem d_B5_12 : decode jdk_52_method_21_code 12 = .ok (.caload, 1) := by decide +kernel
theorem d_B5_13 : decode jdk_52_method_21_code 13 = .ok (.istore 6, 2) := by decide +kernel
theorem d_B5_15 : decode jdk_52_method_21_code 15 = .ok (.iload 6, 2) := by decide +kernel
theorem d_B5_17 : decode jdk_52_method_21_code 17 = .ok (.sipush 255, 3) := by decide +kernel
theorem d_B5_20 : decode jdk_52_method_21_code 20 = .ok (.if_icmp .le 6, 3) := by decide +kernel
theorem d_B5_26 : decode jdk_52_method_21_code 26 = .ok (.aload_n 2, 1) := by decide +kernel
theorem d_B5_27 : decode jdk_52_method_21_code 27 = .ok (.iload_n 3, 1) := by decide +kernel
theorem d_B5_28 : decode jdk_52_method_21_code 28 = .ok (.iload 6, 2) := by decide +kernel
theorem d_B5_30 : decode jdk_52_method_21_code 30 = .ok (.i2b, 1) := by decide +kernel
theorem d_B5_31 : decode jdk_52_method_21_code 31 = .ok (.bastore, 1) := by decide +kernel
theorem d_B5_32 : decode jdk_52_method_21_code 32 = .ok (.iinc 1 1, 3) := by decide +kernel
theorem d_B5_35 : decode jdk_52_method_21_code 35 = .ok (.iinc 3 1, 3) := by decide +kernel
theorem d_B5_38 : decode jdk_52_method_21_code 38 = .ok (.iinc 5 1, 3) := by decide +kernel
theorem d_B5_41 : decode jdk_52_method_21_code 41 = .ok (.goto (-38), 3) := by decide +kernel
theorem d_B5_44 : decode jdk_52_method_21_code 44 = .ok (.iload 4, 2) := by decide +kernel
theorem d_B5_46 : decode jdk_52_method_21_code 46 = .ok (.ireturn, 1) := by decide +kernel
set_option maxRecDepth 65536 in
set_option maxHeartbeats 40000000 in
theorem own_rmC5 (l : Launch) (Z : State) (a0 : Array Value) (hw : ∀ d ∈ tables_1, d.before a0 Z = true) (ws : List Jvm.Cond) (b0 : Addr) (b2 : Addr) (z : Int32) (kc kb : ClassId) (x0 x1 x2 x3 x4 x5 x6 x7 x8 x9 x10 : Int32) (h0 : Heap) (n0 : Nat) (Z0 : n0 ≤ h0.size) (V_b0 : Arv Z h0 b0 kc .char z [.int x0, .int x1, .int x2, .int x3, .int x4, .int x5, .int x6, .int x7, .int x8, .int x9, .int x10] (.int 0)) (V_b2 : Arv Z h0 b2 kb .byte z [.int 0, .int 0, .int 0, .int 0, .int 0, .int 0, .int 0, .int 0, .int 0, .int 0, .int 0] (.int 0)) (hne : b0 ≠ b2) (g_2 : n0 ≤ b2) (h0z : ¬ z < (0 : Int32)) (hNz : ¬ (11 : Int32) < z) (l_x0 : ¬ x0 < (0 : Int32)) (u_x0 : ¬ (255 : Int32) < x0) (l_x1 : ¬ x1 < (0 : Int32)) (u_x1 : ¬ (255 : Int32) < x1) (l_x2 : ¬ x2 < (0 : Int32)) (u_x2 : ¬ (255 : Int32) < x2) (l_x3 : ¬ x3 < (0 : Int32)) (u_x3 : ¬ (255 : Int32) < x3) (l_x4 : ¬ x4 < (0 : Int32)) (u_x4 : ¬ (255 : Int32) < x4) (l_x5 : ¬ x5 < (0 : Int32)) (u_x5 : ¬ (255 : Int32) < x5) (l_x6 : ¬ x6 < (0 : Int32)) (u_x6 : ¬ (255 : Int32) < x6) (l_x7 : ¬ x7 < (0 : Int32)) (u_x7 : ¬ (255 : Int32) < x7) (l_x8 : ¬ x8 < (0 : Int32)) (u_x8 : ¬ (255 : Int32) < x8) (l_x9 : ¬ x9 < (0 : Int32)) (u_x9 : ¬ (255 : Int32) < x9) (l_x10 : ¬ x10 < (0 : Int32)) (u_x10 : ¬ (255 : Int32) < x10) : own_M l Z (⟨"java/lang/StringUTF16", "compress", "([CI[BII)I"⟩ : MethodName) jdk_52_method_21_code 7 (some .int) ws ({ frames := 0, cells := 0, slots := 0, locals := 0 } : Room) #[.ref b0, .int 0, .ref b2, .int 0, .int z] h0 (own_Q5 Z b2 kb z [(.int (own_b x0)), (.int (own_b x1)), (.int (own_b x2)), (.int (own_b x3)), (.int (own_b x4)), (.int (own_b x5)), (.int (own_b x6)), (.int (own_b x7)), (.int (own_b x8)), (.int (own_b x9)), (.int (own_b x10))] h0 n0) := by
  refine own_begin (n0 := n0) (f0 := mkF ⟨0, 0⟩ 0 #[rv b0, iv 0, rv b2, iv 0, iv z, .unset, .unset] []) (plainFor_of_name own_pn2) (fun m => ef_5_7 m _ _ _ _ _ rfl rfl rfl rfl rfl) ?_
  intro p e s m below meth c s₁ Bd hZ hx hby hml hown hnm X0 e0 N0
  refine own_go (b := s₁.setTop (mkF m 7 #[rv b0, iv 0, rv b2, iv 0, iv z, iv 0, .unset] [.int z, .int 0])) (fun t k => xiconst X0 hx hby rfl d_B5_0 (xistore X0 hx hby rfl d_B5_1 rfl (l' := #[rv b0, iv 0, rv b2, iv 0, iv z, iv 0, .unset]) rfl (xiload X0 hx hby rfl d_B5_3 rfl (xiload X0 hx hby rfl d_B5_5 rfl k)))) ?_
  by_cases hc7_1 : (0 : Int32) < z
  · obtain ⟨cl2, Ar2, -, Sz2, M2, Hs2, Gs2⟩ := id V_b0
    have hin2 := inb_of (j := (0 : Int32)) Sz2 ⟨by decide, hc7_1⟩
    obtain ⟨cl3, Ar3, q3, Sz3, M3, Hs3, Gs3⟩ := id V_b2
    have hin3 := inb_of (j := (0 : Int32)) Sz3 ⟨by decide, hc7_1⟩
    obtain ⟨T4, h4, X4, e4, W4, st4⟩ := stB X0 hx hZ e0 Ar3 (j := (0 : Int32)) hin3 (g := (mkF m 31 #[rv b0, iv 0, rv b2, iv 0, iv z, iv 0, iv x0] [(.int (x0.toInt8.toInt32)), .int 0, .ref b2])) rfl rfl (hb hby d_B5_31)
    have V_b0_4 := V_b0.other W4 hne
    have K4 := (Keep.refl h0 [b2]).wr W4 (Or.inl (List.mem_of_getElem? (i := 0) rfl))
    have N4 := Fr.snoc X4 N0 g_2
    have V_b2_4 := Arv.set Ar3 q3 Sz3 M3 Hs3 Gs3 (fits_nar_byte _) W4 0 rfl (Nat.le_of_ble_eq_true rfl)
    refine own_go (b := T4.setTop (mkF m 7 #[rv b0, iv 1, rv b2, iv 1, iv z, iv 1, iv x0] [.int z, .int 1])) (fun t k => xicmpNo X0 hx hby rfl d_B5_7 rfl (tlt hc7_1).2.1 (xaloadN X0 hx hby rfl d_B5_10 rfl rfl (xiloadN X0 hx hby rfl d_B5_11 rfl (X0.caload hx (j := (0 : Int32)) (v := (.int x0)) (own_in e0 Ar2.1) (State.isArrayOf_alike hZ.alike Ar2.2.1) Ar2.2.2 hin2 (Has.at Hs2 hin2 rfl) (g := (mkF m 12 #[rv b0, iv 0, rv b2, iv 0, iv z, iv 0, .unset] [.int 0, .ref b0])) rfl rfl (hb hby d_B5_12) _ (xistore X0 hx hby rfl d_B5_13 rfl (l' := #[rv b0, iv 0, rv b2, iv 0, iv z, iv 0, iv x0]) rfl (xiload X0 hx hby rfl d_B5_15 rfl (xsipush X0 hx hby rfl d_B5_17 (xicmpYes X0 hx hby rfl 20 26 rfl d_B5_20 rfl (flt (u_x0 : ¬ ((255 : Int32) < x0))).2.2.2 (by decide) (by decide) (xaloadN X0 hx hby rfl d_B5_26 rfl rfl (xiloadN X0 hx hby rfl d_B5_27 rfl (xiload X0 hx hby rfl d_B5_28 rfl (XS.i2b X0.here hx rfl (hb hby d_B5_30) rfl (st4 _ (xiinc X4 hx hby rfl d_B5_32 rfl (l' := #[rv b0, iv 1, rv b2, iv 0, iv z, iv 0, iv x0]) rfl (xiinc X4 hx hby rfl d_B5_35 rfl (l' := #[rv b0, iv 1, rv b2, iv 1, iv z, iv 0, iv x0]) rfl (xiinc X4 hx hby rfl d_B5_38 rfl (l' := #[rv b0, iv 1, rv b2, iv 1, iv z, iv 1, iv x0]) rfl (xgoto X4 hx hby rfl 41 3 rfl d_B5_41 (by decide) (by decide) (xiload X4 hx hby rfl d_B5_3 rfl (xiload X4 hx hby rfl d_B5_5 rfl k))))))))))))))))))) ?_
    clear V_b0 V_b2 Ar2 Sz2 M2 Hs2 Gs2 hin2 q3 Sz3 M3 Hs3 Gs3 hin3 W4 st4
    by_cases hc7_5 : (1 : Int32) < z
    · obtain ⟨cl6, Ar6, -, Sz6, M6, Hs6, Gs6⟩ := id V_b0_4
      have hin6 := inb_of (j := (1 : Int32)) Sz6 ⟨by decide, hc7_5⟩
      obtain ⟨cl7, Ar7, q7, Sz7, M7, Hs7, Gs7⟩ := id V_b2_4
      have hin7 := inb_of (j := (1 : Int32)) Sz7 ⟨by decide, hc7_5⟩
      obtain ⟨T8, h8, X8, e8, W8, st8⟩ := stB X4 hx hZ e4 Ar7 (j := (1 : Int32)) hin7 (g := (mkF m 31 #[rv b0, iv 1, rv b2, iv 1, iv z, iv 1, iv x1] [(.int (x1.toInt8.toInt32)), .int 1, .ref b2])) rfl rfl (hb hby d_B5_31)
      have V_b0_8 := V_b0_4.other W8 hne
      have K8 := K4.wr W8 (Or.inl (List.mem_of_getElem? (i := 0) rfl))
      have N8 := Fr.snoc X8 N4 g_2
      have V_b2_8 := Arv.set Ar7 q7 Sz7 M7 Hs7 Gs7 (fits_nar_byte _) W8 1 rfl (Nat.le_of_ble_eq_true rfl)
      refine own_go (b := T8.setTop (mkF m 7 #[rv b0, iv 2, rv b2, iv 2, iv z, iv 2, iv x1] [.int z, .int 2])) (fun t k => xicmpNo X4 hx hby rfl d_B5_7 rfl (tlt hc7_5).2.1 (xaloadN X4 hx hby rfl d_B5_10 rfl rfl (xiloadN X4 hx hby rfl d_B5_11 rfl (X4.caload hx (j := (1 : Int32)) (v := (.int x1)) (own_in e4 Ar6.1) (State.isArrayOf_alike hZ.alike Ar6.2.1) Ar6.2.2 hin6 (Has.at Hs6 hin6 rfl) (g := (mkF m 12 #[rv b0, iv 1, rv b2, iv 1, iv z, iv 1, iv x0] [.int 1, .ref b0])) rfl rfl (hb hby d_B5_12) _ (xistore X4 hx hby rfl d_B5_13 rfl (l' := #[rv b0, iv 1, rv b2, iv 1, iv z, iv 1, iv x1]) rfl (xiload X4 hx hby rfl d_B5_15 rfl (xsipush X4 hx hby rfl d_B5_17 (xicmpYes X4 hx hby rfl 20 26 rfl d_B5_20 rfl (flt (u_x1 : ¬ ((255 : Int32) < x1))).2.2.2 (by decide) (by decide) (xaloadN X4 hx hby rfl d_B5_26 rfl rfl (xiloadN X4 hx hby rfl d_B5_27 rfl (xiload X4 hx hby rfl d_B5_28 rfl (XS.i2b X4.here hx rfl (hb hby d_B5_30) rfl (st8 _ (xiinc X8 hx hby rfl d_B5_32 rfl (l' := #[rv b0, iv 2, rv b2, iv 1, iv z, iv 1, iv x1]) rfl (xiinc X8 hx hby rfl d_B5_35 rfl (l' := #[rv b0, iv 2, rv b2, iv 2, iv z, iv 1, iv x1]) rfl (xiinc X8 hx hby rfl d_B5_38 rfl (l' := #[rv b0, iv 2, rv b2, iv 2, iv z, iv 2, iv x1]) rfl (xgoto X8 hx hby rfl 41 3 rfl d_B5_41 (by decide) (by decide) (xiload X8 hx hby rfl d_B5_3 rfl (xiload X8 hx hby rfl d_B5_5 rfl k))))))))))))))))))) ?_
      clear Ar3 X4 e4 V_b0_4 K4 N4 V_b2_4 Ar6 Sz6 M6 Hs6 Gs6 hin6 q7 Sz7 M7 Hs7 Gs7 hin7 W8 st8
      by_cases hc7_9 : (2 : Int32) < z
      · obtain ⟨cl10, Ar10, -, Sz10, M10, Hs10, Gs10⟩ := id V_b0_8
        have hin10 := inb_of (j := (2 : Int32)) Sz10 ⟨by decide, hc7_9⟩
        obtain ⟨cl11, Ar11, q11, Sz11, M11, Hs11, Gs11⟩ := id V_b2_8
        have hin11 := inb_of (j := (2 : Int32)) Sz11 ⟨by decide, hc7_9⟩
        obtain ⟨T12, h12, X12, e12, W12, st12⟩ := stB X8 hx hZ e8 Ar11 (j := (2 : Int32)) hin11 (g := (mkF m 31 #[rv b0, iv 2, rv b2, iv 2, iv z, iv 2, iv x2] [(.int (x2.toInt8.toInt32)), .int 2, .ref b2])) rfl rfl (hb hby d_B5_31)
        have V_b0_12 := V_b0_8.other W12 hne
        have K12 := K8.wr W12 (Or.inl (List.mem_of_getElem? (i := 0) rfl))
        have N12 := Fr.snoc X12 N8 g_2
        have V_b2_12 := Arv.set Ar11 q11 Sz11 M11 Hs11 Gs11 (fits_nar_byte _) W12 2 rfl (Nat.le_of_ble_eq_true rfl)
        refine own_go (b := T12.setTop (mkF m 7 #[rv b0, iv 3, rv b2, iv 3, iv z, iv 3, iv x2] [.int z, .int 3])) (fun t k => xicmpNo X8 hx hby rfl d_B5_7 rfl (tlt hc7_9).2.1 (xaloadN X8 hx hby rfl d_B5_10 rfl rfl (xiloadN X8 hx hby rfl d_B5_11 rfl (X8.caload hx (j := (2 : Int32)) (v := (.int x2)) (own_in e8 Ar10.1) (State.isArrayOf_alike hZ.alike Ar10.2.1) Ar10.2.2 hin10 (Has.at Hs10 hin10 rfl) (g := (mkF m 12 #[rv b0, iv 2, rv b2, iv 2, iv z, iv 2, iv x1] [.int 2, .ref b0])) rfl rfl (hb hby d_B5_12) _ (xistore X8 hx hby rfl d_B5_13 rfl (l' := #[rv b0, iv 2, rv b2, iv 2, iv z, iv 2, iv x2]) rfl (xiload X8 hx hby rfl d_B5_15 rfl (xsipush X8 hx hby rfl d_B5_17 (xicmpYes X8 hx hby rfl 20 26 rfl d_B5_20 rfl (flt (u_x2 : ¬ ((255 : Int32) < x2))).2.2.2 (by decide) (by decide) (xaloadN X8 hx hby rfl d_B5_26 rfl rfl (xiloadN X8 hx hby rfl d_B5_27 rfl (xiload X8 hx hby rfl d_B5_28 rfl (XS.i2b X8.here hx rfl (hb hby d_B5_30) rfl (st12 _ (xiinc X12 hx hby rfl d_B5_32 rfl (l' := #[rv b0, iv 3, rv b2, iv 2, iv z, iv 2, iv x2]) rfl (xiinc X12 hx hby rfl d_B5_35 rfl (l' := #[rv b0, iv 3, rv b2, iv 3, iv z, iv 2, iv x2]) rfl (xiinc X12 hx hby rfl d_B5_38 rfl (l' := #[rv b0, iv 3, rv b2, iv 3, iv z, iv 3, iv x2]) rfl (xgoto X12 hx hby rfl 41 3 rfl d_B5_41 (by decide) (by decide) (xiload X12 hx hby rfl d_B5_3 rfl (xiload X12 hx hby rfl d_B5_5 rfl k))))))))))))))))))) ?_
        clear Ar7 X8 e8 V_b0_8 K8 N8 V_b2_8 Ar10 Sz10 M10 Hs10 Gs10 hin10 q11 Sz11 M11 Hs11 Gs11 hin11 W12 st12
        by_cases hc7_13 : (3 : Int32) < z
        · obtain ⟨cl14, Ar14, -, Sz14, M14, Hs14, Gs14⟩ := id V_b0_12
          have hin14 := inb_of (j := (3 : Int32)) Sz14 ⟨by decide, hc7_13⟩
          obtain ⟨cl15, Ar15, q15, Sz15, M15, Hs15, Gs15⟩ := id V_b2_12
          have hin15 := inb_of (j := (3 : Int32)) Sz15 ⟨by decide, hc7_13⟩
          obtain ⟨T16, h16, X16, e16, W16, st16⟩ := stB X12 hx hZ e12 Ar15 (j := (3 : Int32)) hin15 (g := (mkF m 31 #[rv b0, iv 3, rv b2, iv 3, iv z, iv 3, iv x3] [(.int (x3.toInt8.toInt32)), .int 3, .ref b2])) rfl rfl (hb hby d_B5_31)
          have V_b0_16 := V_b0_12.other W16 hne
          have K16 := K12.wr W16 (Or.inl (List.mem_of_getElem? (i := 0) rfl))
          have N16 := Fr.snoc X16 N12 g_2
          have V_b2_16 := Arv.set Ar15 q15 Sz15 M15 Hs15 Gs15 (fits_nar_byte _) W16 3 rfl (Nat.le_of_ble_eq_true rfl)
          refine own_go (b := T16.setTop (mkF m 7 #[rv b0, iv 4, rv b2, iv 4, iv z, iv 4, iv x3] [.int z, .int 4])) (fun t k => xicmpNo X12 hx hby rfl d_B5_7 rfl (tlt hc7_13).2.1 (xaloadN X12 hx hby rfl d_B5_10 rfl rfl (xiloadN X12 hx hby rfl d_B5_11 rfl (X12.caload hx (j := (3 : Int32)) (v := (.int x3)) (own_in e12 Ar14.1) (State.isArrayOf_alike hZ.alike Ar14.2.1) Ar14.2.2 hin14 (Has.at Hs14 hin14 rfl) (g := (mkF m 12 #[rv b0, iv 3, rv b2, iv 3, iv z, iv 3, iv x2] [.int 3, .ref b0])) rfl rfl (hb hby d_B5_12) _ (xistore X12 hx hby rfl d_B5_13 rfl (l' := #[rv b0, iv 3, rv b2, iv 3, iv z, iv 3, iv x3]) rfl (xiload X12 hx hby rfl d_B5_15 rfl (xsipush X12 hx hby rfl d_B5_17 (xicmpYes X12 hx hby rfl 20 26 rfl d_B5_20 rfl (flt (u_x3 : ¬ ((255 : Int32) < x3))).2.2.2 (by decide) (by decide) (xaloadN X12 hx hby rfl d_B5_26 rfl rfl (xiloadN X12 hx hby rfl d_B5_27 rfl (xiload X12 hx hby rfl d_B5_28 rfl (XS.i2b X12.here hx rfl (hb hby d_B5_30) rfl (st16 _ (xiinc X16 hx hby rfl d_B5_32 rfl (l' := #[rv b0, iv 4, rv b2, iv 3, iv z, iv 3, iv x3]) rfl (xiinc X16 hx hby rfl d_B5_35 rfl (l' := #[rv b0, iv 4, rv b2, iv 4, iv z, iv 3, iv x3]) rfl (xiinc X16 hx hby rfl d_B5_38 rfl (l' := #[rv b0, iv 4, rv b2, iv 4, iv z, iv 4, iv x3]) rfl (xgoto X16 hx hby rfl 41 3 rfl d_B5_41 (by decide) (by decide) (xiload X16 hx hby rfl d_B5_3 rfl (xiload X16 hx hby rfl d_B5_5 rfl k))))))))))))))))))) ?_
          clear Ar11 X12 e12 V_b0_12 K12 N12 V_b2_12 Ar14 Sz14 M14 Hs14 Gs14 hin14 q15 Sz15 M15 Hs15 Gs15 hin15 W16 st16
          by_cases hc7_17 : (4 : Int32) < z
          · obtain ⟨cl18, Ar18, -, Sz18, M18, Hs18, Gs18⟩ := id V_b0_16
            have hin18 := inb_of (j := (4 : Int32)) Sz18 ⟨by decide, hc7_17⟩
            obtain ⟨cl19, Ar19, q19, Sz19, M19, Hs19, Gs19⟩ := id V_b2_16
            have hin19 := inb_of (j := (4 : Int32)) Sz19 ⟨by decide, hc7_17⟩
            obtain ⟨T20, h20, X20, e20, W20, st20⟩ := stB X16 hx hZ e16 Ar19 (j := (4 : Int32)) hin19 (g := (mkF m 31 #[rv b0, iv 4, rv b2, iv 4, iv z, iv 4, iv x4] [(.int (x4.toInt8.toInt32)), .int 4, .ref b2])) rfl rfl (hb hby d_B5_31)
            have V_b0_20 := V_b0_16.other W20 hne
            have K20 := K16.wr W20 (Or.inl (List.mem_of_getElem? (i := 0) rfl))
            have N20 := Fr.snoc X20 N16 g_2
            have V_b2_20 := Arv.set Ar19 q19 Sz19 M19 Hs19 Gs19 (fits_nar_byte _) W20 4 rfl (Nat.le_of_ble_eq_true rfl)
            refine own_go (b := T20.setTop (mkF m 7 #[rv b0, iv 5, rv b2, iv 5, iv z, iv 5, iv x4] [.int z, .int 5])) (fun t k => xicmpNo X16 hx hby rfl d_B5_7 rfl (tlt hc7_17).2.1 (xaloadN X16 hx hby rfl d_B5_10 rfl rfl (xiloadN X16 hx hby rfl d_B5_11 rfl (X16.caload hx (j := (4 : Int32)) (v := (.int x4)) (own_in e16 Ar18.1) (State.isArrayOf_alike hZ.alike Ar18.2.1) Ar18.2.2 hin18 (Has.at Hs18 hin18 rfl) (g := (mkF m 12 #[rv b0, iv 4, rv b2, iv 4, iv z, iv 4, iv x3] [.int 4, .ref b0])) rfl rfl (hb hby d_B5_12) _ (xistore X16 hx hby rfl d_B5_13 rfl (l' := #[rv b0, iv 4, rv b2, iv 4, iv z, iv 4, iv x4]) rfl (xiload X16 hx hby rfl d_B5_15 rfl (xsipush X16 hx hby rfl d_B5_17 (xicmpYes X16 hx hby rfl 20 26 rfl d_B5_20 rfl (flt (u_x4 : ¬ ((255 : Int32) < x4))).2.2.2 (by decide) (by decide) (xaloadN X16 hx hby rfl d_B5_26 rfl rfl (xiloadN X16 hx hby rfl d_B5_27 rfl (xiload X16 hx hby rfl d_B5_28 rfl (XS.i2b X16.here hx rfl (hb hby d_B5_30) rfl (st20 _ (xiinc X20 hx hby rfl d_B5_32 rfl (l' := #[rv b0, iv 5, rv b2, iv 4, iv z, iv 4, iv x4]) rfl (xiinc X20 hx hby rfl d_B5_35 rfl (l' := #[rv b0, iv 5, rv b2, iv 5, iv z, iv 4, iv x4]) rfl (xiinc X20 hx hby rfl d_B5_38 rfl (l' := #[rv b0, iv 5, rv b2, iv 5, iv z, iv 5, iv x4]) rfl (xgoto X20 hx hby rfl 41 3 rfl d_B5_41 (by decide) (by decide) (xiload X20 hx hby rfl d_B5_3 rfl (xiload X20 hx hby rfl d_B5_5 rfl k))))))))))))))))))) ?_
            clear Ar15 X16 e16 V_b0_16 K16 N16 V_b2_16 Ar18 Sz18 M18 Hs18 Gs18 hin18 q19 Sz19 M19 Hs19 Gs19 hin19 W20 st20
            by_cases hc7_21 : (5 : Int32) < z
            · obtain ⟨cl22, Ar22, -, Sz22, M22, Hs22, Gs22⟩ := id V_b0_20
              have hin22 := inb_of (j := (5 : Int32)) Sz22 ⟨by decide, hc7_21⟩
              obtain ⟨cl23, Ar23, q23, Sz23, M23, Hs23, Gs23⟩ := id V_b2_20
              have hin23 := inb_of (j := (5 : Int32)) Sz23 ⟨by decide, hc7_21⟩
              obtain ⟨T24, h24, X24, e24, W24, st24⟩ := stB X20 hx hZ e20 Ar23 (j := (5 : Int32)) hin23 (g := (mkF m 31 #[rv b0, iv 5, rv b2, iv 5, iv z, iv 5, iv x5] [(.int (x5.toInt8.toInt32)), .int 5, .ref b2])) rfl rfl (hb hby d_B5_31)
              have V_b0_24 := V_b0_20.other W24 hne
              have K24 := K20.wr W24 (Or.inl (List.mem_of_getElem? (i := 0) rfl))
              have N24 := Fr.snoc X24 N20 g_2
              have V_b2_24 := Arv.set Ar23 q23 Sz23 M23 Hs23 Gs23 (fits_nar_byte _) W24 5 rfl (Nat.le_of_ble_eq_true rfl)
              refine own_go (b := T24.setTop (mkF m 7 #[rv b0, iv 6, rv b2, iv 6, iv z, iv 6, iv x5] [.int z, .int 6])) (fun t k => xicmpNo X20 hx hby rfl d_B5_7 rfl (tlt hc7_21).2.1 (xaloadN X20 hx hby rfl d_B5_10 rfl rfl (xiloadN X20 hx hby rfl d_B5_11 rfl (X20.caload hx (j := (5 : Int32)) (v := (.int x5)) (own_in e20 Ar22.1) (State.isArrayOf_alike hZ.alike Ar22.2.1) Ar22.2.2 hin22 (Has.at Hs22 hin22 rfl) (g := (mkF m 12 #[rv b0, iv 5, rv b2, iv 5, iv z, iv 5, iv x4] [.int 5, .ref b0])) rfl rfl (hb hby d_B5_12) _ (xistore X20 hx hby rfl d_B5_13 rfl (l' := #[rv b0, iv 5, rv b2, iv 5, iv z, iv 5, iv x5]) rfl (xiload X20 hx hby rfl d_B5_15 rfl (xsipush X20 hx hby rfl d_B5_17 (xicmpYes X20 hx hby rfl 20 26 rfl d_B5_20 rfl (flt (u_x5 : ¬ ((255 : Int32) < x5))).2.2.2 (by decide) (by decide) (xaloadN X20 hx hby rfl d_B5_26 rfl rfl (xiloadN X20 hx hby rfl d_B5_27 rfl (xiload X20 hx hby rfl d_B5_28 rfl (XS.i2b X20.here hx rfl (hb hby d_B5_30) rfl (st24 _ (xiinc X24 hx hby rfl d_B5_32 rfl (l' := #[rv b0, iv 6, rv b2, iv 5, iv z, iv 5, iv x5]) rfl (xiinc X24 hx hby rfl d_B5_35 rfl (l' := #[rv b0, iv 6, rv b2, iv 6, iv z, iv 5, iv x5]) rfl (xiinc X24 hx hby rfl d_B5_38 rfl (l' := #[rv b0, iv 6, rv b2, iv 6, iv z, iv 6, iv x5]) rfl (xgoto X24 hx hby rfl 41 3 rfl d_B5_41 (by decide) (by decide) (xiload X24 hx hby rfl d_B5_3 rfl (xiload X24 hx hby rfl d_B5_5 rfl k))))))))))))))))))) ?_
              clear Ar19 X20 e20 V_b0_20 K20 N20 V_b2_20 Ar22 Sz22 M22 Hs22 Gs22 hin22 q23 Sz23 M23 Hs23 Gs23 hin23 W24 st24
              by_cases hc7_25 : (6 : Int32) < z
              · obtain ⟨cl26, Ar26, -, Sz26, M26, Hs26, Gs26⟩ := id V_b0_24
                have hin26 := inb_of (j := (6 : Int32)) Sz26 ⟨by decide, hc7_25⟩
                obtain ⟨cl27, Ar27, q27, Sz27, M27, Hs27, Gs27⟩ := id V_b2_24
                have hin27 := inb_of (j := (6 : Int32)) Sz27 ⟨by decide, hc7_25⟩
                obtain ⟨T28, h28, X28, e28, W28, st28⟩ := stB X24 hx hZ e24 Ar27 (j := (6 : Int32)) hin27 (g := (mkF m 31 #[rv b0, iv 6, rv b2, iv 6, iv z, iv 6, iv x6] [(.int (x6.toInt8.toInt32)), .int 6, .ref b2])) rfl rfl (hb hby d_B5_31)
                have V_b0_28 := V_b0_24.other W28 hne
                have K28 := K24.wr W28 (Or.inl (List.mem_of_getElem? (i := 0) rfl))
                have N28 := Fr.snoc X28 N24 g_2
                have V_b2_28 := Arv.set Ar27 q27 Sz27 M27 Hs27 Gs27 (fits_nar_byte _) W28 6 rfl (Nat.le_of_ble_eq_true rfl)
                refine own_go (b := T28.setTop (mkF m 7 #[rv b0, iv 7, rv b2, iv 7, iv z, iv 7, iv x6] [.int z, .int 7])) (fun t k => xicmpNo X24 hx hby rfl d_B5_7 rfl (tlt hc7_25).2.1 (xaloadN X24 hx hby rfl d_B5_10 rfl rfl (xiloadN X24 hx hby rfl d_B5_11 rfl (X24.caload hx (j := (6 : Int32)) (v := (.int x6)) (own_in e24 Ar26.1) (State.isArrayOf_alike hZ.alike Ar26.2.1) Ar26.2.2 hin26 (Has.at Hs26 hin26 rfl) (g := (mkF m 12 #[rv b0, iv 6, rv b2, iv 6, iv z, iv 6, iv x5] [.int 6, .ref b0])) rfl rfl (hb hby d_B5_12) _ (xistore X24 hx hby rfl d_B5_13 rfl (l' := #[rv b0, iv 6, rv b2, iv 6, iv z, iv 6, iv x6]) rfl (xiload X24 hx hby rfl d_B5_15 rfl (xsipush X24 hx hby rfl d_B5_17 (xicmpYes X24 hx hby rfl 20 26 rfl d_B5_20 rfl (flt (u_x6 : ¬ ((255 : Int32) < x6))).2.2.2 (by decide) (by decide) (xaloadN X24 hx hby rfl d_B5_26 rfl rfl (xiloadN X24 hx hby rfl d_B5_27 rfl (xiload X24 hx hby rfl d_B5_28 rfl (XS.i2b X24.here hx rfl (hb hby d_B5_30) rfl (st28 _ (xiinc X28 hx hby rfl d_B5_32 rfl (l' := #[rv b0, iv 7, rv b2, iv 6, iv z, iv 6, iv x6]) rfl (xiinc X28 hx hby rfl d_B5_35 rfl (l' := #[rv b0, iv 7, rv b2, iv 7, iv z, iv 6, iv x6]) rfl (xiinc X28 hx hby rfl d_B5_38 rfl (l' := #[rv b0, iv 7, rv b2, iv 7, iv z, iv 7, iv x6]) rfl (xgoto X28 hx hby rfl 41 3 rfl d_B5_41 (by decide) (by decide) (xiload X28 hx hby rfl d_B5_3 rfl (xiload X28 hx hby rfl d_B5_5 rfl k))))))))))))))))))) ?_
                clear Ar23 X24 e24 V_b0_24 K24 N24 V_b2_24 Ar26 Sz26 M26 Hs26 Gs26 hin26 q27 Sz27 M27 Hs27 Gs27 hin27 W28 st28
                by_cases hc7_29 : (7 : Int32) < z
                · obtain ⟨cl30, Ar30, -, Sz30, M30, Hs30, Gs30⟩ := id V_b0_28
                  have hin30 := inb_of (j := (7 : Int32)) Sz30 ⟨by decide, hc7_29⟩
                  obtain ⟨cl31, Ar31, q31, Sz31, M31, Hs31, Gs31⟩ := id V_b2_28
                  have hin31 := inb_of (j := (7 : Int32)) Sz31 ⟨by decide, hc7_29⟩
                  obtain ⟨T32, h32, X32, e32, W32, st32⟩ := stB X28 hx hZ e28 Ar31 (j := (7 : Int32)) hin31 (g := (mkF m 31 #[rv b0, iv 7, rv b2, iv 7, iv z, iv 7, iv x7] [(.int (x7.toInt8.toInt32)), .int 7, .ref b2])) rfl rfl (hb hby d_B5_31)
                  have V_b0_32 := V_b0_28.other W32 hne
                  have K32 := K28.wr W32 (Or.inl (List.mem_of_getElem? (i := 0) rfl))
                  have N32 := Fr.snoc X32 N28 g_2
                  have V_b2_32 := Arv.set Ar31 q31 Sz31 M31 Hs31 Gs31 (fits_nar_byte _) W32 7 rfl (Nat.le_of_ble_eq_true rfl)
                  refine own_go (b := T32.setTop (mkF m 7 #[rv b0, iv 8, rv b2, iv 8, iv z, iv 8, iv x7] [.int z, .int 8])) (fun t k => xicmpNo X28 hx hby rfl d_B5_7 rfl (tlt hc7_29).2.1 (xaloadN X28 hx hby rfl d_B5_10 rfl rfl (xiloadN X28 hx hby rfl d_B5_11 rfl (X28.caload hx (j := (7 : Int32)) (v := (.int x7)) (own_in e28 Ar30.1) (State.isArrayOf_alike hZ.alike Ar30.2.1) Ar30.2.2 hin30 (Has.at Hs30 hin30 rfl) (g := (mkF m 12 #[rv b0, iv 7, rv b2, iv 7, iv z, iv 7, iv x6] [.int 7, .ref b0])) rfl rfl (hb hby d_B5_12) _ (xistore X28 hx hby rfl d_B5_13 rfl (l' := #[rv b0, iv 7, rv b2, iv 7, iv z, iv 7, iv x7]) rfl (xiload X28 hx hby rfl d_B5_15 rfl (xsipush X28 hx hby rfl d_B5_17 (xicmpYes X28 hx hby rfl 20 26 rfl d_B5_20 rfl (flt (u_x7 : ¬ ((255 : Int32) < x7))).2.2.2 (by decide) (by decide) (xaloadN X28 hx hby rfl d_B5_26 rfl rfl (xiloadN X28 hx hby rfl d_B5_27 rfl (xiload X28 hx hby rfl d_B5_28 rfl (XS.i2b X28.here hx rfl (hb hby d_B5_30) rfl (st32 _ (xiinc X32 hx hby rfl d_B5_32 rfl (l' := #[rv b0, iv 8, rv b2, iv 7, iv z, iv 7, iv x7]) rfl (xiinc X32 hx hby rfl d_B5_35 rfl (l' := #[rv b0, iv 8, rv b2, iv 8, iv z, iv 7, iv x7]) rfl (xiinc X32 hx hby rfl d_B5_38 rfl (l' := #[rv b0, iv 8, rv b2, iv 8, iv z, iv 8, iv x7]) rfl (xgoto X32 hx hby rfl 41 3 rfl d_B5_41 (by decide) (by decide) (xiload X32 hx hby rfl d_B5_3 rfl (xiload X32 hx hby rfl d_B5_5 rfl k))))))))))))))))))) ?_
                  clear Ar27 X28 e28 V_b0_28 K28 N28 V_b2_28 Ar30 Sz30 M30 Hs30 Gs30 hin30 q31 Sz31 M31 Hs31 Gs31 hin31 W32 st32
                  by_cases hc7_33 : (8 : Int32) < z
                  · obtain ⟨cl34, Ar34, -, Sz34, M34, Hs34, Gs34⟩ := id V_b0_32
                    have hin34 := inb_of (j := (8 : Int32)) Sz34 ⟨by decide, hc7_33⟩
                    obtain ⟨cl35, Ar35, q35, Sz35, M35, Hs35, Gs35⟩ := id V_b2_32
                    have hin35 := inb_of (j := (8 : Int32)) Sz35 ⟨by decide, hc7_33⟩
                    obtain ⟨T36, h36, X36, e36, W36, st36⟩ := stB X32 hx hZ e32 Ar35 (j := (8 : Int32)) hin35 (g := (mkF m 31 #[rv b0, iv 8, rv b2, iv 8, iv z, iv 8, iv x8] [(.int (x8.toInt8.toInt32)), .int 8, .ref b2])) rfl rfl (hb hby d_B5_31)
                    have V_b0_36 := V_b0_32.other W36 hne
                    have K36 := K32.wr W36 (Or.inl (List.mem_of_getElem? (i := 0) rfl))
                    have N36 := Fr.snoc X36 N32 g_2
                    have V_b2_36 := Arv.set Ar35 q35 Sz35 M35 Hs35 Gs35 (fits_nar_byte _) W36 8 rfl (Nat.le_of_ble_eq_true rfl)
                    refine own_go (b := T36.setTop (mkF m 7 #[rv b0, iv 9, rv b2, iv 9, iv z, iv 9, iv x8] [.int z, .int 9])) (fun t k => xicmpNo X32 hx hby rfl d_B5_7 rfl (tlt hc7_33).2.1 (xaloadN X32 hx hby rfl d_B5_10 rfl rfl (xiloadN X32 hx hby rfl d_B5_11 rfl (X32.caload hx (j := (8 : Int32)) (v := (.int x8)) (own_in e32 Ar34.1) (State.isArrayOf_alike hZ.alike Ar34.2.1) Ar34.2.2 hin34 (Has.at Hs34 hin34 rfl) (g := (mkF m 12 #[rv b0, iv 8, rv b2, iv 8, iv z, iv 8, iv x7] [.int 8, .ref b0])) rfl rfl (hb hby d_B5_12) _ (xistore X32 hx hby rfl d_B5_13 rfl (l' := #[rv b0, iv 8, rv b2, iv 8, iv z, iv 8, iv x8]) rfl (xiload X32 hx hby rfl d_B5_15 rfl (xsipush X32 hx hby rfl d_B5_17 (xicmpYes X32 hx hby rfl 20 26 rfl d_B5_20 rfl (flt (u_x8 : ¬ ((255 : Int32) < x8))).2.2.2 (by decide) (by decide) (xaloadN X32 hx hby rfl d_B5_26 rfl rfl (xiloadN X32 hx hby rfl d_B5_27 rfl (xiload X32 hx hby rfl d_B5_28 rfl (XS.i2b X32.here hx rfl (hb hby d_B5_30) rfl (st36 _ (xiinc X36 hx hby rfl d_B5_32 rfl (l' := #[rv b0, iv 9, rv b2, iv 8, iv z, iv 8, iv x8]) rfl (xiinc X36 hx hby rfl d_B5_35 rfl (l' := #[rv b0, iv 9, rv b2, iv 9, iv z, iv 8, iv x8]) rfl (xiinc X36 hx hby rfl d_B5_38 rfl (l' := #[rv b0, iv 9, rv b2, iv 9, iv z, iv 9, iv x8]) rfl (xgoto X36 hx hby rfl 41 3 rfl d_B5_41 (by decide) (by decide) (xiload X36 hx hby rfl d_B5_3 rfl (xiload X36 hx hby rfl d_B5_5 rfl k))))))))))))))))))) ?_
                    clear Ar31 X32 e32 V_b0_32 K32 N32 V_b2_32 Ar34 Sz34 M34 Hs34 Gs34 hin34 q35 Sz35 M35 Hs35 Gs35 hin35 W36 st36
                    by_cases hc7_37 : (9 : Int32) < z
                    · obtain ⟨cl38, Ar38, -, Sz38, M38, Hs38, Gs38⟩ := id V_b0_36
                      have hin38 := inb_of (j := (9 : Int32)) Sz38 ⟨by decide, hc7_37⟩
                      obtain ⟨cl39, Ar39, q39, Sz39, M39, Hs39, Gs39⟩ := id V_b2_36
                      have hin39 := inb_of (j := (9 : Int32)) Sz39 ⟨by decide, hc7_37⟩
                      obtain ⟨T40, h40, X40, e40, W40, st40⟩ := stB X36 hx hZ e36 Ar39 (j := (9 : Int32)) hin39 (g := (mkF m 31 #[rv b0, iv 9, rv b2, iv 9, iv z, iv 9, iv x9] [(.int (x9.toInt8.toInt32)), .int 9, .ref b2])) rfl rfl (hb hby d_B5_31)
                      have V_b0_40 := V_b0_36.other W40 hne
                      have K40 := K36.wr W40 (Or.inl (List.mem_of_getElem? (i := 0) rfl))
                      have N40 := Fr.snoc X40 N36 g_2
                      have V_b2_40 := Arv.set Ar39 q39 Sz39 M39 Hs39 Gs39 (fits_nar_byte _) W40 9 rfl (Nat.le_of_ble_eq_true rfl)
                      refine own_go (b := T40.setTop (mkF m 7 #[rv b0, iv 10, rv b2, iv 10, iv z, iv 10, iv x9] [.int z, .int 10])) (fun t k => xicmpNo X36 hx hby rfl d_B5_7 rfl (tlt hc7_37).2.1 (xaloadN X36 hx hby rfl d_B5_10 rfl rfl (xiloadN X36 hx hby rfl d_B5_11 rfl (X36.caload hx (j := (9 : Int32)) (v := (.int x9)) (own_in e36 Ar38.1) (State.isArrayOf_alike hZ.alike Ar38.2.1) Ar38.2.2 hin38 (Has.at Hs38 hin38 rfl) (g := (mkF m 12 #[rv b0, iv 9, rv b2, iv 9, iv z, iv 9, iv x8] [.int 9, .ref b0])) rfl rfl (hb hby d_B5_12) _ (xistore X36 hx hby rfl d_B5_13 rfl (l' := #[rv b0, iv 9, rv b2, iv 9, iv z, iv 9, iv x9]) rfl (xiload X36 hx hby rfl d_B5_15 rfl (xsipush X36 hx hby rfl d_B5_17 (xicmpYes X36 hx hby rfl 20 26 rfl d_B5_20 rfl (flt (u_x9 : ¬ ((255 : Int32) < x9))).2.2.2 (by decide) (by decide) (xaloadN X36 hx hby rfl d_B5_26 rfl rfl (xiloadN X36 hx hby rfl d_B5_27 rfl (xiload X36 hx hby rfl d_B5_28 rfl (XS.i2b X36.here hx rfl (hb hby d_B5_30) rfl (st40 _ (xiinc X40 hx hby rfl d_B5_32 rfl (l' := #[rv b0, iv 10, rv b2, iv 9, iv z, iv 9, iv x9]) rfl (xiinc X40 hx hby rfl d_B5_35 rfl (l' := #[rv b0, iv 10, rv b2, iv 10, iv z, iv 9, iv x9]) rfl (xiinc X40 hx hby rfl d_B5_38 rfl (l' := #[rv b0, iv 10, rv b2, iv 10, iv z, iv 10, iv x9]) rfl (xgoto X40 hx hby rfl 41 3 rfl d_B5_41 (by decide) (by decide) (xiload X40 hx hby rfl d_B5_3 rfl (xiload X40 hx hby rfl d_B5_5 rfl k))))))))))))))))))) ?_
                      clear Ar35 X36 e36 V_b0_36 K36 N36 V_b2_36 Ar38 Sz38 M38 Hs38 Gs38 hin38 q39 Sz39 M39 Hs39 Gs39 hin39 W40 st40
                      by_cases hc7_41 : (10 : Int32) < z
                      · obtain ⟨cl42, Ar42, -, Sz42, M42, Hs42, Gs42⟩ := id V_b0_40
                        have hin42 := inb_of (j := (10 : Int32)) Sz42 ⟨by decide, hc7_41⟩
                        obtain ⟨cl43, Ar43, q43, Sz43, M43, Hs43, Gs43⟩ := id V_b2_40
                        have hin43 := inb_of (j := (10 : Int32)) Sz43 ⟨by decide, hc7_41⟩
                        obtain ⟨T44, h44, X44, e44, W44, st44⟩ := stB X40 hx hZ e40 Ar43 (j := (10 : Int32)) hin43 (g := (mkF m 31 #[rv b0, iv 10, rv b2, iv 10, iv z, iv 10, iv x10] [(.int (x10.toInt8.toInt32)), .int 10, .ref b2])) rfl rfl (hb hby d_B5_31)
                        have V_b0_44 := V_b0_40.other W44 hne
                        have K44 := K40.wr W44 (Or.inl (List.mem_of_getElem? (i := 0) rfl))
                        have N44 := Fr.snoc X44 N40 g_2
                        have V_b2_44 := Arv.set Ar43 q43 Sz43 M43 Hs43 Gs43 (fits_nar_byte _) W44 10 rfl (Nat.le_of_ble_eq_true rfl)
                        exact own_ret (v := some (.int z)) X44 e44 Bd.notSynchronized (nv Bd.returns) (fun fs hr => xicmpNo X40 hx hby rfl d_B5_7 rfl (tlt hc7_41).2.1 (xaloadN X40 hx hby rfl d_B5_10 rfl rfl (xiloadN X40 hx hby rfl d_B5_11 rfl (X40.caload hx (j := (10 : Int32)) (v := (.int x10)) (own_in e40 Ar42.1) (State.isArrayOf_alike hZ.alike Ar42.2.1) Ar42.2.2 hin42 (Has.at Hs42 hin42 rfl) (g := (mkF m 12 #[rv b0, iv 10, rv b2, iv 10, iv z, iv 10, iv x9] [.int 10, .ref b0])) rfl rfl (hb hby d_B5_12) _ (xistore X40 hx hby rfl d_B5_13 rfl (l' := #[rv b0, iv 10, rv b2, iv 10, iv z, iv 10, iv x10]) rfl (xiload X40 hx hby rfl d_B5_15 rfl (xsipush X40 hx hby rfl d_B5_17 (xicmpYes X40 hx hby rfl 20 26 rfl d_B5_20 rfl (flt (u_x10 : ¬ ((255 : Int32) < x10))).2.2.2 (by decide) (by decide) (xaloadN X40 hx hby rfl d_B5_26 rfl rfl (xiloadN X40 hx hby rfl d_B5_27 rfl (xiload X40 hx hby rfl d_B5_28 rfl (XS.i2b X40.here hx rfl (hb hby d_B5_30) rfl (st44 _ (xiinc X44 hx hby rfl d_B5_32 rfl (l' := #[rv b0, iv 11, rv b2, iv 10, iv z, iv 10, iv x10]) rfl (xiinc X44 hx hby rfl d_B5_35 rfl (l' := #[rv b0, iv 11, rv b2, iv 11, iv z, iv 10, iv x10]) rfl (xiinc X44 hx hby rfl d_B5_38 rfl (l' := #[rv b0, iv 11, rv b2, iv 11, iv z, iv 11, iv x10]) rfl (xgoto X44 hx hby rfl 41 3 rfl d_B5_41 (by decide) (by decide) (xiload X44 hx hby rfl d_B5_3 rfl (xiload X44 hx hby rfl d_B5_5 rfl (xicmpYes X44 hx hby rfl 7 44 rfl d_B5_7 rfl (flt (hNz : ¬ ((11 : Int32) < z))).2.1 (by decide) (by decide) (xiload X44 hx hby rfl d_B5_44 rfl (retI X44 hx Bd.returns (hb hby d_B5_46) hr)))))))))))))))))))))) ⟨rfl, N44, K44, own_cut (j := (11 : Int32)) V_b2_44 11 rfl hNz rfl⟩ (by decide)
                      · exact own_ret (v := some (.int z)) X40 e40 Bd.notSynchronized (nv Bd.returns) (fun fs hr => xicmpYes X40 hx hby rfl 7 44 rfl d_B5_7 rfl (flt hc7_41).2.1 (by decide) (by decide) (xiload X40 hx hby rfl d_B5_44 rfl (retI X40 hx Bd.returns (hb hby d_B5_46) hr))) ⟨rfl, N40, K40, own_cut (j := (10 : Int32)) V_b2_40 10 rfl hc7_41 rfl⟩ (by decide)
                    · exact own_ret (v := some (.int z)) X36 e36 Bd.notSynchronized (nv Bd.returns) (fun fs hr => xicmpYes X36 hx hby rfl 7 44 rfl d_B5_7 rfl (flt hc7_37).2.1 (by decide) (by decide) (xiload X36 hx hby rfl d_B5_44 rfl (retI X36 hx Bd.returns (hb hby d_B5_46) hr))) ⟨rfl, N36, K36, own_cut (j := (9 : Int32)) V_b2_36 9 rfl hc7_37 rfl⟩ (by decide)
                  · exact own_ret (v := some (.int z)) X32 e32 Bd.notSynchronized (nv Bd.returns) (fun fs hr => xicmpYes X32 hx hby rfl 7 44 rfl d_B5_7 rfl (flt hc7_33).2.1 (by decide) (by decide) (xiload X32 hx hby rfl d_B5_44 rfl (retI X32 hx Bd.returns (hb hby d_B5_46) hr))) ⟨rfl, N32, K32, own_cut (j := (8 : Int32)) V_b2_32 8 rfl hc7_33 rfl⟩ (by decide)
                · exact own_ret (v := some (.int z)) X28 e28 Bd.notSynchronized (nv Bd.returns) (fun fs hr => xicmpYes X28 hx hby rfl 7 44 rfl d_B5_7 rfl (flt hc7_29).2.1 (by decide) (by decide) (xiload X28 hx hby rfl d_B5_44 rfl (retI X28 hx Bd.returns (hb hby d_B5_46) hr))) ⟨rfl, N28, K28, own_cut (j := (7 : Int32)) V_b2_28 7 rfl hc7_29 rfl⟩ (by decide)
              · exact own_ret (v := some (.int z)) X24 e24 Bd.notSynchronized (nv Bd.returns) (fun fs hr => xicmpYes X24 hx hby rfl 7 44 rfl d_B5_7 rfl (flt hc7_25).2.1 (by decide) (by decide) (xiload X24 hx hby rfl d_B5_44 rfl (retI X24 hx Bd.returns (hb hby d_B5_46) hr))) ⟨rfl, N24, K24, own_cut (j := (6 : Int32)) V_b2_24 6 rfl hc7_25 rfl⟩ (by decide)
            · exact own_ret (v := some (.int z)) X20 e20 Bd.notSynchronized (nv Bd.returns) (fun fs hr => xicmpYes X20 hx hby rfl 7 44 rfl d_B5_7 rfl (flt hc7_21).2.1 (by decide) (by decide) (xiload X20 hx hby rfl d_B5_44 rfl (retI X20 hx Bd.returns (hb hby d_B5_46) hr))) ⟨rfl, N20, K20, own_cut (j := (5 : Int32)) V_b2_20 5 rfl hc7_21 rfl⟩ (by decide)
          · exact own_ret (v := some (.int z)) X16 e16 Bd.notSynchronized (nv Bd.returns) (fun fs hr => xicmpYes X16 hx hby rfl 7 44 rfl d_B5_7 rfl (flt hc7_17).2.1 (by decide) (by decide) (xiload X16 hx hby rfl d_B5_44 rfl (retI X16 hx Bd.returns (hb hby d_B5_46) hr))) ⟨rfl, N16, K16, own_cut (j := (4 : Int32)) V_b2_16 4 rfl hc7_17 rfl⟩ (by decide)
        · exact own_ret (v := some (.int z)) X12 e12 Bd.notSynchronized (nv Bd.returns) (fun fs hr => xicmpYes X12 hx hby rfl 7 44 rfl d_B5_7 rfl (flt hc7_13).2.1 (by decide) (by decide) (xiload X12 hx hby rfl d_B5_44 rfl (retI X12 hx Bd.returns (hb hby d_B5_46) hr))) ⟨rfl, N12, K12, own_cut (j := (3 : Int32)) V_b2_12 3 rfl hc7_13 rfl⟩ (by decide)
      · exact own_ret (v := some (.int z)) X8 e8 Bd.notSynchronized (nv Bd.returns) (fun fs hr => xicmpYes X8 hx hby rfl 7 44 rfl d_B5_7 rfl (flt hc7_9).2.1 (by decide) (by decide) (xiload X8 hx hby rfl d_B5_44 rfl (retI X8 hx Bd.returns (hb hby d_B5_46) hr))) ⟨rfl, N8, K8, own_cut (j := (2 : Int32)) V_b2_8 2 rfl hc7_9 rfl⟩ (by decide)
    · exact own_ret (v := some (.int z)) X4 e4 Bd.notSynchronized (nv Bd.returns) (fun fs hr => xicmpYes X4 hx hby rfl 7 44 rfl d_B5_7 rfl (flt hc7_5).2.1 (by decide) (by decide) (xiload X4 hx hby rfl d_B5_44 rfl (retI X4 hx Bd.returns (hb hby d_B5_46) hr))) ⟨rfl, N4, K4, own_cut (j := (1 : Int32)) V_b2_4 1 rfl hc7_5 rfl⟩ (by decide)
  · exact own_ret (v := some (.int z)) X0 e0 Bd.notSynchronized (nv Bd.returns) (fun fs hr => xicmpYes X0 hx hby rfl 7 44 rfl d_B5_7 rfl (flt hc7_1).2.1 (by decide) (by decide) (xiload X0 hx hby rfl d_B5_44 rfl (retI X0 hx Bd.returns (hb hby d_B5_46) hr))) ⟨rfl, N0, (Keep.refl h0 [b2]), own_cut (j := (0 : Int32)) V_b2 0 rfl hc7_1 rfl⟩ (by decide)
theorem d_B6_0 : decode jdk_52_method_16_code 0 = .ok (.iload_n 2, 1) := by decide +kernel
theorem d_B6_1 : decode jdk_52_method_16_code 1 = .ok (.newarray .byte, 2) := by decide +kernel
theorem d_B6_3 : decode jdk_52_method_16_code 3 = .ok (.astore_n 3, 1) := by decide +kernel
theorem d_B6_4 : decode jdk_52_method_16_code 4 = .ok (.aload_n 0, 1) := by decide +kernel
theorem d_B6_5 : decode jdk_52_method_16_code 5 = .ok (.iload_n 1, 1) := by decide +kernel
theorem d_B6_6 : decode jdk_52_method_16_code 6 = .ok (.aload_n 3, 1) := by decide +kernel
theorem d_B6_7 : decode jdk_52_method_16_code 7 = .ok (.iconst 0, 1) := by decide +kernel
theorem d_B6_8 : decode jdk_52_method_16_code 8 = .ok (.iload_n 2, 1) := by decide +kernel
theorem d_B6_9 : decode jdk_52_method_16_code 9 = .ok (.invokestatic 115, 3) := by decide +kernel
theorem d_B6_12 : decode jdk_52_method_16_code 12 = .ok (.istore 4, 2) := by decide +kernel
theorem d_B6_14 : decode jdk_52_method_16_code 14 = .ok (.iload 4, 2) := by decide +kernel
theorem d_B6_16 : decode jdk_52_method_16_code 16 = .ok (.iload_n 2, 1) := by decide +kernel
theorem d_B6_17 : decode jdk_52_method_16_code 17 = .ok (.if_icmp .eq 40, 3) := by decide +kernel
theorem d_B6_57 : decode jdk_52_method_16_code 57 = .ok (.aload_n 3, 1) := by decide +kernel
theorem d_B6_58 : decode jdk_52_method_16_code 58 = .ok (.areturn, 1) := by decide +kernel
set_option maxRecDepth 65536 in
set_option maxHeartbeats 40000000 in
theorem own_rmC3 (l : Launch) (Z : State) (a0 : Array Value) (hw : ∀ d ∈ tables_1, d.before a0 Z = true) (ws : List Jvm.Cond) (b0 : Addr) (z : Int32) (kc : ClassId) (x0 x1 x2 x3 x4 x5 x6 x7 x8 x9 x10 : Int32) (h0 : Heap) (n0 : Nat) (Z0 : n0 ≤ h0.size) (V_b0 : Arv Z h0 b0 kc .char z [.int x0, .int x1, .int x2, .int x3, .int x4, .int x5, .int x6, .int x7, .int x8, .int x9, .int x10] (.int 0)) (h0z : ¬ z < (0 : Int32)) (hNz : ¬ (11 : Int32) < z) (l_x0 : ¬ x0 < (0 : Int32)) (u_x0 : ¬ (255 : Int32) < x0) (l_x1 : ¬ x1 < (0 : Int32)) (u_x1 : ¬ (255 : Int32) < x1) (l_x2 : ¬ x2 < (0 : Int32)) (u_x2 : ¬ (255 : Int32) < x2) (l_x3 : ¬ x3 < (0 : Int32)) (u_x3 : ¬ (255 : Int32) < x3) (l_x4 : ¬ x4 < (0 : Int32)) (u_x4 : ¬ (255 : Int32) < x4) (l_x5 : ¬ x5 < (0 : Int32)) (u_x5 : ¬ (255 : Int32) < x5) (l_x6 : ¬ x6 < (0 : Int32)) (u_x6 : ¬ (255 : Int32) < x6) (l_x7 : ¬ x7 < (0 : Int32)) (u_x7 : ¬ (255 : Int32) < x7) (l_x8 : ¬ x8 < (0 : Int32)) (u_x8 : ¬ (255 : Int32) < x8) (l_x9 : ¬ x9 < (0 : Int32)) (u_x9 : ¬ (255 : Int32) < x9) (l_x10 : ¬ x10 < (0 : Int32)) (u_x10 : ¬ (255 : Int32) < x10) : own_M l Z (⟨"java/lang/StringUTF16", "compress", "([CII)[B"⟩ : MethodName) jdk_52_method_16_code 6 (some (.array .byte)) ws ({ frames := 1, cells := 1, slots := 11, locals := 18 } : Room) #[.ref b0, .int 0, .int z] h0 (own_Q3 Z z [(.int (own_b x0)), (.int (own_b x1)), (.int (own_b x2)), (.int (own_b x3)), (.int (own_b x4)), (.int (own_b x5)), (.int (own_b x6)), (.int (own_b x7)), (.int (own_b x8)), (.int (own_b x9)), (.int (own_b x10))] h0 n0) := by
  refine own_begin (n0 := n0) (f0 := mkF ⟨0, 0⟩ 0 #[rv b0, iv 0, iv z, .unset, .unset, .unset] []) (plainFor_of_name own_pn2) (fun m => ef_3_6 m _ _ _ rfl rfl rfl) ?_
  intro p e s m below meth c s₁ Bd hZ hx hby hml hown hnm X0 e0 N0
  obtain ⟨T1, h1, k1, X1, e1, E1, A1, st1⟩ := newP X0 hx hZ (wd hw 3 rfl) e0 (g := (mkF m 1 #[rv b0, iv 0, iv z, .unset, .unset, .unset] [.int z])) rfl (hb hby d_B6_1) rfl h0z (cap := 11) (own_capN 11 (11 : Int32) (by decide) hNz) (by decide) (by decide) (by decide)
  obtain ⟨b1, g1⟩ : ∃ z, z = h0.size := ⟨_, rfl⟩
  rw [← g1] at A1 st1
  have new_b1 : n0 ≤ b1 := Nat.le_trans Z0 (Nat.le_of_eq g1.symm)
  have sz_b1 : h0.size ≤ b1 := Nat.le_trans (Keep.refl h0 []).1 (Nat.le_of_eq g1.symm)
  have K1 := (Keep.refl h0 []).ext E1
  have V_b1 : Arv Z h1 b1 k1 .byte z [.int 0, .int 0, .int 0, .int 0, .int 0, .int 0, .int 0, .int 0, .int 0, .int 0, .int 0] (.int 0) := (Arv.new A1 h0z).pad (pad_rep [] (.int 0) 11)
  refine own_go (b := T1.setTop (mkF m 9 #[rv b0, iv 0, iv z, rv b1, .unset, .unset] [.int z, .int 0, .ref b1, .int 0, .ref b0])) (fun t k => xiloadN X0 hx hby rfl d_B6_0 rfl (st1 _ (xastoreN X1 hx hby rfl d_B6_3 rfl rfl (l' := #[rv b0, iv 0, iv z, rv b1, .unset, .unset]) rfl (xaloadN X1 hx hby rfl d_B6_4 rfl rfl (xiloadN X1 hx hby rfl d_B6_5 rfl (xaloadN X1 hx hby rfl d_B6_6 rfl rfl (xiconst X1 hx hby rfl d_B6_7 (xiloadN X1 hx hby rfl d_B6_8 rfl k)))))))) ?_
  refine own_cs X1 hx hZ hown hml e1 (wd hw 67 rfl) (wd hw 68 rfl) (wd hw 65 rfl) (wd hw 69 rfl) (own_rmC5 l Z a0 hw [] b0 b1 z kc k1 x0 x1 x2 x3 x4 x5 x6 x7 x8 x9 x10 h1 n0 (Nat.le_trans Z0 K1.1) (V_b0.keep K1 nNl) V_b1 (nl V_b0.lt sz_b1) new_b1 h0z hNz l_x0 u_x0 l_x1 u_x1 l_x2 u_x2 l_x3 u_x3 l_x4 u_x4 l_x5 u_x5 l_x6 u_x6 l_x7 u_x7 l_x8 u_x8 l_x9 u_x9 l_x10 u_x10) own_pd2 (hb hby d_B6_9) 0 [] rfl ⟨rfl, rfl, rfl, rfl, rfl⟩ (by decide) ?_
  rintro T2 L2 v2 X2 hQ2
  obtain ⟨rfl, N2q, K2q, B2⟩ := hQ2
  have N2 := Fr.app N0 N2q
  have K2 := K1.trans K2q (fun x hx => by cases List.mem_singleton.mp hx; exact Or.inr sz_b1)
  exact own_ret (v := some (.ref b1)) X2 rfl Bd.notSynchronized (nv Bd.returns) (fun fs hr => xistore X2 hx hby rfl d_B6_12 rfl (l' := #[rv b0, iv 0, iv z, rv b1, iv z, .unset]) rfl (xiload X2 hx hby rfl d_B6_14 rfl (xiloadN X2 hx hby rfl d_B6_16 rfl (xicmpYes X2 hx hby rfl 17 57 rfl d_B6_17 rfl (teq (rfl : z = z)).1 (by decide) (by decide) (xaloadN X2 hx hby rfl d_B6_57 rfl rfl (retA X2 hx Bd.returns (hb hby d_B6_58) hr)))))) ⟨_, _, rfl, N2, K2, B2, sz_b1⟩ (by decide)
theorem d_B7_0 : decode jdk_52_method_15_code 0 = .ok (.iload_n 1, 1) := by decide +kernel
theorem d_B7_1 : decode jdk_52_method_15_code 1 = .ok (.aload_n 0, 1) := by decide +kernel
theorem d_B7_2 : decode jdk_52_method_15_code 2 = .ok (.arraylength, 1) := by decide +kernel
theorem d_B7_3 : decode jdk_52_method_15_code 3 = .ok (.isub, 1) := by decide +kernel
theorem d_B7_4 : decode jdk_52_method_15_code 4 = .ok (.bipush 31, 2) := by decide +kernel
theorem d_B7_6 : decode jdk_52_method_15_code 6 = .ok (.iushr, 1) := by decide +kernel
theorem d_B7_7 : decode jdk_52_method_15_code 7 = .ok (.i2b, 1) := by decide +kernel
theorem d_B7_8 : decode jdk_52_method_15_code 8 = .ok (.ireturn, 1) := by decide +kernel
set_option maxRecDepth 65536 in
set_option maxHeartbeats 40000000 in
theorem own_rmCf (l : Launch) (Z : State) (a0 : Array Value) (hw : ∀ d ∈ tables_1, d.before a0 Z = true) (ws : List Jvm.Cond) (b0 : Addr) (z : Int32) (kb : ClassId) (vs : List Value) (h0 : Heap) (n0 : Nat) (Z0 : n0 ≤ h0.size) (V_b0 : Arv Z h0 b0 kb .byte z vs (.int 0)) : own_M l Z (⟨"java/lang/StringUTF16", "coderFromArrayLen", "([BI)B"⟩ : MethodName) jdk_52_method_15_code 2 (some .byte) ws ({ frames := 0, cells := 0, slots := 0, locals := 0 } : Room) #[.ref b0, .int z] h0 (own_QI (0 : Int32) h0 n0) := by
  refine own_begin (n0 := n0) (f0 := mkF ⟨0, 0⟩ 0 #[rv b0, iv z] []) (plainFor_of_name own_pn2) (fun m => ef_2_2 m _ _ rfl rfl) ?_
  intro p e s m below meth c s₁ Bd hZ hx hby hml hown hnm X0 e0 N0
  obtain ⟨cl1, Ar1, -, Sz1, M1, -, -⟩ := id V_b0
  refine own_ret (v := some (.int (nar .byte ((((z - z).toUInt32 >>> ((31 : Int32) &&& 31).toUInt32).toInt32).toInt8.toInt32)))) X0 e0 Bd.notSynchronized (nv Bd.returns) (fun fs hr => ?_) ⟨congrArg (fun q => some (Value.int q)) (own_cf0 z), N0, rfl⟩ (by decide)
  refine xiloadN X0 hx hby rfl d_B7_0 rfl (xaloadN X0 hx hby rfl d_B7_1 rfl rfl (X0.arraylength hx (own_in e0 Ar1.1) (State.isArrayOf_alike hZ.alike Ar1.2.1) (g := (mkF m 2 #[rv b0, iv z] [.ref b0, .int z])) rfl rfl (hb hby d_B7_2) _ ?_))
  rw [len_of Sz1 M1]
  refine xisub X0 hx hby rfl d_B7_3 rfl (xbipush X0 hx hby rfl d_B7_4 (XS.iushr X0.here hx rfl (hb hby d_B7_6) rfl (XS.i2b X0.here hx rfl (hb hby d_B7_7) rfl (retN X0 hx (t := .byte) Bd.returns (by simp) (hb hby d_B7_8) hr))))
theorem d_B8_0 : decode jdk_42_method_149_code 0 = .ok (.aload_n 0, 1) := by decide +kernel
theorem d_B8_1 : decode jdk_42_method_149_code 1 = .ok (.invokespecial 1, 3) := by decide +kernel
theorem d_B8_4 : decode jdk_42_method_149_code 4 = .ok (.iload_n 3, 1) := by decide +kernel
theorem d_B8_5 : decode jdk_42_method_149_code 5 = .ok (.ifCond .ne 22, 3) := by decide +kernel
theorem d_B8_27 : decode jdk_42_method_149_code 27 = .ok (.getstatic 38, 3) := by decide +kernel
theorem d_B8_30 : decode jdk_42_method_149_code 30 = .ok (.ifCond .eq 28, 3) := by decide +kernel
theorem d_B8_33 : decode jdk_42_method_149_code 33 = .ok (.aload_n 1, 1) := by decide +kernel
theorem d_B8_34 : decode jdk_42_method_149_code 34 = .ok (.iload_n 2, 1) := by decide +kernel
theorem d_B8_35 : decode jdk_42_method_149_code 35 = .ok (.iload_n 3, 1) := by decide +kernel
theorem d_B8_36 : decode jdk_42_method_149_code 36 = .ok (.invokestatic 177, 3) := by decide +kernel
theorem d_B8_39 : decode jdk_42_method_149_code 39 = .ok (.astore 5, 2) := by decide +kernel
theorem d_B8_41 : decode jdk_42_method_149_code 41 = .ok (.aload_n 0, 1) := by decide +kernel
theorem d_B8_42 : decode jdk_42_method_149_code 42 = .ok (.aload 5, 2) := by decide +kernel
theorem d_B8_44 : decode jdk_42_method_149_code 44 = .ok (.iload_n 3, 1) := by decide +kernel
theorem d_B8_45 : decode jdk_42_method_149_code 45 = .ok (.invokestatic 47, 3) := by decide +kernel
theorem d_B8_48 : decode jdk_42_method_149_code 48 = .ok (.putfield 15, 3) := by decide +kernel
theorem d_B8_51 : decode jdk_42_method_149_code 51 = .ok (.aload_n 0, 1) := by decide +kernel
theorem d_B8_52 : decode jdk_42_method_149_code 52 = .ok (.aload 5, 2) := by decide +kernel
theorem d_B8_54 : decode jdk_42_method_149_code 54 = .ok (.putfield 9, 3) := by decide +kernel
theorem d_B8_57 : decode jdk_42_method_149_code 57 = .ok (.return_, 1) := by decide +kernel
set_option maxRecDepth 65536 in
set_option maxHeartbeats 40000000 in
theorem own_rmI4 (l : Launch) (Z : State) (a0 : Array Value) (hw : ∀ d ∈ tables_1, d.before a0 Z = true) (ws : List Jvm.Cond) (b0 : Addr) (b1 : Addr) (z : Int32) (kc : ClassId) (cs : Int32) (x0 x1 x2 x3 x4 x5 x6 x7 x8 x9 x10 : Int32) (h0 : Heap) (n0 : Nat) (Z0 : n0 ≤ h0.size) (E_0 : Exa Z h0 b0 "java/lang/String") (F_v : Fld Z h0 b0 "java/lang/String" "value" "[B" .null) (F_c : Fld Z h0 b0 "java/lang/String" "coder" "B" (.int 0)) (g_0 : n0 ≤ b0) (V_b1 : Arv Z h0 b1 kc .char z [.int x0, .int x1, .int x2, .int x3, .int x4, .int x5, .int x6, .int x7, .int x8, .int x9, .int x10] (.int 0)) (S_cs : Sta Z h0 "java/lang/String" "COMPACT_STRINGS" "Z" (.int cs)) (hcs : ¬ cs = (0 : Int32)) (h0z : ¬ z < (0 : Int32)) (hNz : ¬ (11 : Int32) < z) (l_x0 : ¬ x0 < (0 : Int32)) (u_x0 : ¬ (255 : Int32) < x0) (l_x1 : ¬ x1 < (0 : Int32)) (u_x1 : ¬ (255 : Int32) < x1) (l_x2 : ¬ x2 < (0 : Int32)) (u_x2 : ¬ (255 : Int32) < x2) (l_x3 : ¬ x3 < (0 : Int32)) (u_x3 : ¬ (255 : Int32) < x3) (l_x4 : ¬ x4 < (0 : Int32)) (u_x4 : ¬ (255 : Int32) < x4) (l_x5 : ¬ x5 < (0 : Int32)) (u_x5 : ¬ (255 : Int32) < x5) (l_x6 : ¬ x6 < (0 : Int32)) (u_x6 : ¬ (255 : Int32) < x6) (l_x7 : ¬ x7 < (0 : Int32)) (u_x7 : ¬ (255 : Int32) < x7) (l_x8 : ¬ x8 < (0 : Int32)) (u_x8 : ¬ (255 : Int32) < x8) (l_x9 : ¬ x9 < (0 : Int32)) (u_x9 : ¬ (255 : Int32) < x9) (l_x10 : ¬ x10 < (0 : Int32)) (u_x10 : ¬ (255 : Int32) < x10) (h01 : b1 ≠ b0) (hz0 : ¬ z = (0 : Int32)) : own_M l Z y5N jdk_42_method_149_code 6 none ws ({ frames := 2, cells := 1, slots := 11, locals := 35 } : Room) #[.ref b0, .ref b1, .int 0, .int z, .null] h0 (own_Q4 Z b0 z [(.int (own_b x0)), (.int (own_b x1)), (.int (own_b x2)), (.int (own_b x3)), (.int (own_b x4)), (.int (own_b x5)), (.int (own_b x6)), (.int (own_b x7)), (.int (own_b x8)), (.int (own_b x9)), (.int (own_b x10))] h0 n0) := by
  refine own_begin (n0 := n0) (f0 := mkF ⟨0, 0⟩ 0 #[rv b0, rv b1, iv 0, iv z, .val .null, .unset] []) (plainFor_of_name own_pn0) (fun m => ef_5_6 m _ _ _ _ _ rfl rfl rfl rfl rfl) ?_
  intro p e s m below meth c s₁ Bd hZ hx hby hml hown hnm X0 e0 N0
  refine own_go (b := s₁.setTop (mkF m 1 #[rv b0, rv b1, iv 0, iv z, .val .null, .unset] [.ref b0])) (fun t k => xaloadN X0 hx hby rfl d_B8_0 rfl rfl k) ?_
  obtain ⟨T1, X1, e1, st1⟩ := initO X0 hx hZ hown (wd hw 60 rfl) (wd hw 61 rfl) (wd hw 62 rfl) e0 (g := (mkF m 1 #[rv b0, rv b1, iv 0, iv z, .val .null, .unset] [.ref b0])) rfl (by rw [hml]; rfl) rfl (hb hby d_B8_1) (by decide) (W := 0) (by show 2 * 0 + _ ≤ _; exact Nat.le_of_eq rfl) (by decide)
  obtain ⟨T2, X2, e2, st2⟩ := getS2 X1 hx hZ hown (host := "") (Or.inl (wd hw 19 rfl)) Via.refl e1 S_cs (g := (mkF m 27 #[rv b0, rv b1, iv 0, iv z, .val .null, .unset] [])) rfl (hb hby d_B8_27)
  refine own_go (b := T2.setTop (mkF m 36 #[rv b0, rv b1, iv 0, iv z, .val .null, .unset] [.int z, .int 0, .ref b1])) (fun t k => st1 _ (xiloadN X1 hx hby rfl d_B8_4 rfl (xifYes X1 hx hby rfl 5 27 rfl d_B8_5 rfl ((if0 _ _).trans (feq (hz0 : ¬ (z = (0 : Int32)))).2) (by decide) (by decide) (st2 _ (xifNo X2 hx hby rfl d_B8_30 rfl ((if0 _ _).trans (feq (hcs : ¬ (cs = (0 : Int32)))).1) (xaloadN X2 hx hby rfl d_B8_33 rfl rfl (xiloadN X2 hx hby rfl d_B8_34 rfl (xiloadN X2 hx hby rfl d_B8_35 rfl k)))))))) ?_
  refine own_cs X2 hx hZ hown hml e2 (wd hw 63 rfl) (wd hw 64 rfl) (wd hw 65 rfl) (wd hw 66 rfl) (own_rmC3 l Z a0 hw [] b1 z kc x0 x1 x2 x3 x4 x5 x6 x7 x8 x9 x10 h0 n0 Z0 V_b1 h0z hNz l_x0 u_x0 l_x1 u_x1 l_x2 u_x2 l_x3 u_x3 l_x4 u_x4 l_x5 u_x5 l_x6 u_x6 l_x7 u_x7 l_x8 u_x8 l_x9 u_x9 l_x10 u_x10) own_pd3 (hb hby d_B8_36) 0 [] rfl ⟨rfl, rfl, rfl, rfl, rfl⟩ (by decide) ?_
  rintro T3 L3 v3 X3 hQ3
  obtain ⟨bc3, kb3, rfl, N3q, K3q, B3_0, B3_1⟩ := hQ3
  have E_b0_3 := E_0.keep K3q
  have F_b0_value_3 := F_v.keep K3q List.not_mem_nil
  have F_b0_coder_3 := F_c.keep K3q List.not_mem_nil
  have V_b1_3 := V_b1.keep K3q List.not_mem_nil
  have S_String_COMPACT_STRINGS_3 := own_staKeep0 S_cs K3q
  have N3 := Fr.app N0 N3q
  have K3 := (Keep.refl h0 [b0]).trans K3q (fun x hx => nomatch hx)
  refine own_go (b := T3.setTop (mkF m 45 #[rv b0, rv b1, iv 0, iv z, .val .null, rv bc3] [.int z, .ref bc3, .ref b0])) (fun t k => xastore X3 hx hby rfl d_B8_39 rfl rfl (l' := #[rv b0, rv b1, iv 0, iv z, .val .null, rv bc3]) rfl (xaloadN X3 hx hby rfl d_B8_41 rfl rfl (xaload X3 hx hby rfl d_B8_42 rfl rfl (xiloadN X3 hx hby rfl d_B8_44 rfl k)))) ?_
  refine own_cs X3 hx hZ hown hml rfl (wd hw 70 rfl) (wd hw 71 rfl) (wd hw 65 rfl) (wd hw 72 rfl) (own_rmCf l Z a0 hw [] bc3 z kb3 _ T3.heap n0 (Nat.le_trans Z0 K3.1) B3_0) own_pd4 (hb hby d_B8_45) 1 [.ref b0] rfl ⟨rfl, rfl, rfl, rfl, rfl⟩ (by decide) ?_
  rintro T4 L4 v4 X4 hQ4
  obtain ⟨rfl, N4q, e4⟩ := hQ4
  have N4 := Fr.app N3 N4q
  obtain ⟨T5, h5, X5, e5, W5, st5⟩ := putFN X4 hx hZ hown (wd hw 20 rfl) Via.refl e4 F_b0_coder_3 E_b0_3 (Or.inr ⟨(wd hw 5 rfl), rfl, hnm⟩) (wd hw 2 rfl) (ty := .byte) (v' := (.int (nar .byte (0 : Int32)))) (by decide) rfl (fits_nar_byte _) (g := (mkF m 48 #[rv b0, rv b1, iv 0, iv z, .val .null, rv bc3] [.int 0, .ref b0])) rfl rfl (hb hby d_B8_48)
  have E_b0_5 := E_b0_3.wr W5
  have F_b0_value_5 := F_b0_value_3.other W5 (Or.inr (slot_ne (Or.inr (wd hw 4 rfl)) (Or.inr (wd hw 5 rfl)) (by decide) (t := (.array .byte)) (t' := .byte) (by decide) (by decide)))
  have V_b1_5 := V_b1_3.other W5 h01
  have S_String_COMPACT_STRINGS_5 := S_String_COMPACT_STRINGS_3.wr W5
  have V_bc3_5 := B3_0.other W5 (Ne.symm (nl E_0.lt B3_1))
  have K5 := K3.wr W5 (Or.inl (List.mem_of_getElem? (i := 0) rfl))
  have N5 := Fr.snoc X5 N4 g_0
  have F_b0_coder_5 := F_b0_coder_3.same W5
  obtain ⟨T6, h6, X6, e6, W6, st6⟩ := putF X5 hx hZ hown (host := "") (Or.inl (wd hw 13 rfl)) Via.refl e5 F_b0_value_5 E_b0_5 (Or.inr ⟨(wd hw 4 rfl), rfl, hnm⟩) (wd hw 2 rfl) (ty := (.array .byte)) (by decide) rfl rfl (g := (mkF m 54 #[rv b0, rv b1, iv 0, iv z, .val .null, rv bc3] [.ref bc3, .ref b0])) rfl rfl (hb hby d_B8_54)
  have E_b0_6 := E_b0_5.wr W6
  have V_b1_6 := V_b1_5.other W6 h01
  have S_String_COMPACT_STRINGS_6 := S_String_COMPACT_STRINGS_5.wr W6
  have V_bc3_6 := V_bc3_5.other W6 (Ne.symm (nl E_0.lt B3_1))
  have F_b0_coder_6 := F_b0_coder_5.other W6 (Or.inr (slot_ne (Or.inr (wd hw 5 rfl)) (Or.inr (wd hw 4 rfl)) (by decide) (t := .byte) (t' := (.array .byte)) (by decide) (by decide)))
  have K6 := K5.wr W6 (Or.inl (List.mem_of_getElem? (i := 0) rfl))
  have N6 := Fr.snoc X6 N5 g_0
  have F_b0_value_6 := F_b0_value_5.same W6
  exact own_ret (v := none) X6 e6 Bd.notSynchronized (fun _ => rfl) (fun fs hr => st5 _ (xaloadN X5 hx hby rfl d_B8_51 rfl rfl (xaload X5 hx hby rfl d_B8_52 rfl rfl (st6 _ (X6.returnOut hx Bd.returns (hb hby d_B8_57) hr))))) ⟨_, _, rfl, N6, K6, F_b0_value_6, F_b0_coder_6, V_bc3_6⟩ (by decide)
theorem d_B9_0 : decode jdk_42_method_3_code 0 = .ok (.aload_n 0, 1) := by decide +kernel
theorem d_B9_1 : decode jdk_42_method_3_code 1 = .ok (.aload_n 1, 1) := by decide +kernel
theorem d_B9_2 : decode jdk_42_method_3_code 2 = .ok (.iconst 0, 1) := by decide +kernel
theorem d_B9_3 : decode jdk_42_method_3_code 3 = .ok (.aload_n 1, 1) := by decide +kernel
theorem d_B9_4 : decode jdk_42_method_3_code 4 = .ok (.arraylength, 1) := by decide +kernel
theorem d_B9_5 : decode jdk_42_method_3_code 5 = .ok (.aconst_null, 1) := by decide +kernel
theorem d_B9_6 : decode jdk_42_method_3_code 6 = .ok (.invokespecial 27, 3) := by decide +kernel
theorem d_B9_9 : decode jdk_42_method_3_code 9 = .ok (.return_, 1) := by decide +kernel
set_option maxRecDepth 65536 in
set_option maxHeartbeats 40000000 in
theorem own_rmI1 (l : Launch) (Z : State) (a0 : Array Value) (hw : ∀ d ∈ tables_1, d.before a0 Z = true) (ws : List Jvm.Cond) (b0 : Addr) (b1 : Addr) (kc : ClassId) (z cs : Int32) (x0 x1 x2 x3 x4 x5 x6 x7 x8 x9 x10 : Int32) (h0 : Heap) (n0 : Nat) (Z0 : n0 ≤ h0.size) (E_0 : Exa Z h0 b0 "java/lang/String") (F_v : Fld Z h0 b0 "java/lang/String" "value" "[B" .null) (F_c : Fld Z h0 b0 "java/lang/String" "coder" "B" (.int 0)) (g_0 : n0 ≤ b0) (V_b1 : Arv Z h0 b1 kc .char z [.int x0, .int x1, .int x2, .int x3, .int x4, .int x5, .int x6, .int x7, .int x8, .int x9, .int x10] (.int 0)) (S_cs : Sta Z h0 "java/lang/String" "COMPACT_STRINGS" "Z" (.int cs)) (hcs : ¬ cs = (0 : Int32)) (h0z : ¬ z < (0 : Int32)) (hNz : ¬ (11 : Int32) < z) (l_x0 : ¬ x0 < (0 : Int32)) (u_x0 : ¬ (255 : Int32) < x0) (l_x1 : ¬ x1 < (0 : Int32)) (u_x1 : ¬ (255 : Int32) < x1) (l_x2 : ¬ x2 < (0 : Int32)) (u_x2 : ¬ (255 : Int32) < x2) (l_x3 : ¬ x3 < (0 : Int32)) (u_x3 : ¬ (255 : Int32) < x3) (l_x4 : ¬ x4 < (0 : Int32)) (u_x4 : ¬ (255 : Int32) < x4) (l_x5 : ¬ x5 < (0 : Int32)) (u_x5 : ¬ (255 : Int32) < x5) (l_x6 : ¬ x6 < (0 : Int32)) (u_x6 : ¬ (255 : Int32) < x6) (l_x7 : ¬ x7 < (0 : Int32)) (u_x7 : ¬ (255 : Int32) < x7) (l_x8 : ¬ x8 < (0 : Int32)) (u_x8 : ¬ (255 : Int32) < x8) (l_x9 : ¬ x9 < (0 : Int32)) (u_x9 : ¬ (255 : Int32) < x9) (l_x10 : ¬ x10 < (0 : Int32)) (u_x10 : ¬ (255 : Int32) < x10) (h01 : b1 ≠ b0) (hz0 : ¬ z = (0 : Int32)) : own_M l Z y4N jdk_42_method_3_code 2 none ws ({ frames := 3, cells := 1, slots := 11, locals := 52 } : Room) #[.ref b0, .ref b1] h0 (own_Q4 Z b0 z [(.int (own_b x0)), (.int (own_b x1)), (.int (own_b x2)), (.int (own_b x3)), (.int (own_b x4)), (.int (own_b x5)), (.int (own_b x6)), (.int (own_b x7)), (.int (own_b x8)), (.int (own_b x9)), (.int (own_b x10))] h0 n0) := by
  refine own_begin (n0 := n0) (f0 := mkF ⟨0, 0⟩ 0 #[rv b0, rv b1] []) (plainFor_of_name own_pn0) (fun m => ef_2_2 m _ _ rfl rfl) ?_
  intro p e s m below meth c s₁ Bd hZ hx hby hml hown hnm X0 e0 N0
  obtain ⟨cl1, Ar1, -, Sz1, M1, -, -⟩ := id V_b1
  refine own_go (b := s₁.setTop (mkF m 6 #[rv b0, rv b1] [.null, .int z, .int 0, .ref b1, .ref b0])) (fun t k => ?_) ?_
  · refine xaloadN X0 hx hby rfl d_B9_0 rfl rfl (xaloadN X0 hx hby rfl d_B9_1 rfl rfl (xiconst X0 hx hby rfl d_B9_2 (xaloadN X0 hx hby rfl d_B9_3 rfl rfl (X0.arraylength hx (own_in e0 Ar1.1) (State.isArrayOf_alike hZ.alike Ar1.2.1) (g := (mkF m 4 #[rv b0, rv b1] [.ref b1, .int 0, .ref b1, .ref b0])) rfl rfl (hb hby d_B9_4) _ ?_))))
    rw [len_of Sz1 M1]
    refine xaconstNull X0 hx hby rfl d_B9_5 k
  refine own_ci X0 hx hZ hown hml e0 (wd hw 56 rfl) (wd hw 57 rfl) (wd hw 1 rfl) (wd hw 59 rfl) (own_rmI4 l Z a0 hw [] b0 b1 z kc cs x0 x1 x2 x3 x4 x5 x6 x7 x8 x9 x10 h0 n0 Z0 E_0 F_v F_c g_0 V_b1 S_cs hcs h0z hNz l_x0 u_x0 l_x1 u_x1 l_x2 u_x2 l_x3 u_x3 l_x4 u_x4 l_x5 u_x5 l_x6 u_x6 l_x7 u_x7 l_x8 u_x8 l_x9 u_x9 l_x10 u_x10 h01 hz0) own_pd5 (hb hby d_B9_6) 0 [] rfl rfl ⟨rfl, rfl, rfl, rfl, rfl⟩ (by decide) rfl ?_
  rintro T2 L2 v2 X2 hQ2
  obtain ⟨bq2, kq2, rfl, N2q, K2q, B2_0, B2_1, B2_2⟩ := hQ2
  have E_b0_2 := E_0.keep K2q
  have V_b1_2 := V_b1.keep K2q (fun q => h01 (List.mem_singleton.mp q))
  have S_String_COMPACT_STRINGS_2 := own_staKeep S_cs E_0 K2q
  have N2 := Fr.app N0 N2q
  have K2 := (Keep.refl h0 [b0]).trans K2q (fun x hx => by cases List.mem_singleton.mp hx; exact Or.inl (List.mem_of_getElem? (i := 0) rfl))
  exact own_ret (v := none) X2 rfl Bd.notSynchronized (fun _ => rfl) (fun fs hr => (X2.returnOut hx Bd.returns (hb hby d_B9_9) hr)) ⟨_, _, rfl, N2, K2, B2_0, B2_1, B2_2⟩ (by decide)
theorem d_B8_8 : decode jdk_42_method_149_code 8 = .ok (.aload_n 0, 1) := by decide +kernel
theorem d_B8_9 : decode jdk_42_method_149_code 9 = .ok (.ldc 7, 2) := by decide +kernel
theorem d_B8_11 : decode jdk_42_method_149_code 11 = .ok (.getfield 9, 3) := by decide +kernel
theorem d_B8_14 : decode jdk_42_method_149_code 14 = .ok (.putfield 9, 3) := by decide +kernel
theorem d_B8_17 : decode jdk_42_method_149_code 17 = .ok (.aload_n 0, 1) := by decide +kernel
theorem d_B8_18 : decode jdk_42_method_149_code 18 = .ok (.ldc 7, 2) := by decide +kernel
theorem d_B8_20 : decode jdk_42_method_149_code 20 = .ok (.getfield 15, 3) := by decide +kernel
theorem d_B8_23 : decode jdk_42_method_149_code 23 = .ok (.putfield 15, 3) := by decide +kernel
theorem d_B8_26 : decode jdk_42_method_149_code 26 = .ok (.return_, 1) := by decide +kernel
theorem ef_own_rmI4_0 (m : MethodId) (x0 : Addr) (x1 : Addr) : entryFrame m #[.ref x0, .ref x1, .int 0, .int 0, .null] 6 = mkF m 0 #[rv x0, rv x1, iv 0, iv 0, .val .null, .unset] [] := by first | (simp [entryFrame, mkF, argsToLocals, Value.category]; done) | rfl
set_option maxRecDepth 65536 in
set_option maxHeartbeats 40000000 in
theorem own_rmI4_0 (l : Launch) (Z : State) (a0 : Array Value) (hw : ∀ d ∈ tables_1, d.before a0 Z = true) (ws : List Jvm.Cond) (b0 : Addr) (b1 : Addr) (h0 : Heap) (n0 : Nat) (Z0 : n0 ≤ h0.size) (E_0 : Exa Z h0 b0 "java/lang/String") (F_v : Fld Z h0 b0 "java/lang/String" "value" "[B" .null) (F_c : Fld Z h0 b0 "java/lang/String" "coder" "B" (.int 0)) (g_0 : n0 ≤ b0) :
    MetFree l y5N (head1 (Jvm.Cond.code y5N jdk_42_method_149_code 6 none :: ws) ({ frames := 1, cells := 2, slots := 4, locals := 12 } : Room)) (fun a U => a = #[.ref b0, .ref b1, .int 0, .int 0, .null] ∧ Z.Warmed39 U.vm ∧ U.heap = h0 ∧ CHv Z own_EL U.vm h0) (fun _ _ _ _ _ => True) (fun _ U o U' => ∃ v L, o = .returned v ∧ own_Q4 Z b0 (0 : Int32) [] h0 n0 v U'.heap L ∧ CHr Z own_EL U.vm U.heap U'.vm U'.heap ∧ ReturnedEndW U o U' L ({ frames := 1, cells := 2, slots := 4, locals := 12 } : Room).cells ({ frames := 1, cells := 2, slots := 4, locals := 12 } : Room).slots) := by
  refine MetFree.of_bodySF (plainFor_of_name own_pn0) hisR ?_
  intro p e s m args below meth c s₁ Bd hml0 hP hK
  obtain ⟨rfl, hZ, hh, hCH0⟩ := hP
  have hx := Bd.exec
  have hby := Bd.bytes
  have hml : c.maxLocals = 6 := hml0
  have hown : s.vm.findClass "java/lang/String" = some m.cls := findClass_of_methodNamed Bd.named
  have hnm := (name_of_methodNamed Bd.named Bd.method).1
  have X0 : Stand p l e ({ frames := 1, cells := 2, slots := 4, locals := 12 } : Room) s m #[.ref b0, .ref b1, .int 0, .int 0, .null] below meth c s₁ [] 0 0 := Stand.of_body Bd
  have e0 : s₁.heap = h0 := by rw [← hh, Bd.state]; rfl
  have N0 := Fr.nil n0
  refine own_go (b := s₁.setTop (mkF m 0 #[rv b0, rv b1, iv 0, iv 0, .val .null, .unset] [])) (fun t k => castTop (ef_own_rmI4_0 m b0 b1) k) ?_
  refine own_go (b := s₁.setTop (mkF m 1 #[rv b0, rv b1, iv 0, iv 0, .val .null, .unset] [.ref b0])) (fun t k => xaloadN X0 hx hby rfl d_B8_0 rfl rfl k) ?_
  obtain ⟨T1, X1, e1, st1⟩ := initO X0 hx hZ hown (wd hw 60 rfl) (wd hw 61 rfl) (wd hw 62 rfl) e0 (g := (mkF m 1 #[rv b0, rv b1, iv 0, iv 0, .val .null, .unset] [.ref b0])) rfl (by rw [hml]; rfl) rfl (hb hby d_B8_1) (by decide) (W := 0) (by show 2 * 0 + _ ≤ _; exact Nat.le_of_eq rfl) (by decide)
  refine own_go (b := T1.setTop (mkF m 9 #[rv b0, rv b1, iv 0, iv 0, .val .null, .unset] [.ref b0])) (fun t k => st1 _ (xiloadN X1 hx hby rfl d_B8_4 rfl (xifNo X1 hx hby rfl d_B8_5 rfl ((if0 _ _).trans (teq ((by decide) : (0 : Int32) = (0 : Int32))).2) (xaloadN X1 hx hby rfl d_B8_8 rfl rfl k)))) ?_
  obtain ⟨sa2, T2, h2, kk2, sb2, kb2, X2, e2, E2, hS2, hk2_, hZ, hown, Ea2, Fc2, Fv2, Va2, la2, lb2, CRl2, hL2, hne2, st2⟩ := ldcCH (s := s) (show Stand p l e _ (s.setVm s.vm) m _ below meth c _ _ _ _ from X1) hx hZ hown (wd hw 106 rfl) (own_atoms hw) e1 ((State.WarmedH.refl s).since 0) (Nat.zero_le _) (own_EW hw) (List.mem_of_getElem? (i := 2) rfl) (CHr.refl hCH0).1 (vs := []) (z := (0 : Int32)) (by decide +kernel) (by decide) (by decide +kernel) (g := (mkF m 9 #[rv b0, rv b1, iv 0, iv 0, .val .null, .unset] [.ref b0])) rfl (hb hby d_B8_9) (n := 0) (by decide +kernel) (by decide) (by decide) (by decide)
  have E_b0_2 := E_0.ext E2
  have F_b0_value_2 := F_v.ext E2
  have F_b0_coder_2 := F_c.ext E2
  have K2 := (Keep.refl h0 [b0]).ext E2
  have CR2 := (CHr.refl hCH0).trans CRl2
  have nxa := own_neNull F_b0_value_2 Fv2
  obtain ⟨_, Arx, _⟩ := id Va2
  have nxb := ne_arr E_b0_2 (wd hw 2 rfl) Arx
  have Sf0 := own_safeNull (EL := own_EL) hZ.alike E_b0_2 F_b0_value_2
  obtain ⟨T3, X3, e3, st3⟩ := getF X2 hx hZ hown (host := "") (Or.inl (wd hw 13 rfl)) Via.refl e2 Fv2 (g := (mkF m 11 #[rv b0, rv b1, iv 0, iv 0, .val .null, .unset] [.ref sa2, .ref b0])) rfl rfl (hb hby d_B8_11)
  obtain ⟨T4, h4, X4, e4, W4, st4⟩ := putF X3 hx hZ hown (host := "") (Or.inl (wd hw 13 rfl)) Via.refl e3 F_b0_value_2 E_b0_2 (Or.inr ⟨(wd hw 4 rfl), rfl, hnm⟩) (wd hw 2 rfl) (ty := (.array .byte)) (by decide) rfl rfl (g := (mkF m 14 #[rv b0, rv b1, iv 0, iv 0, .val .null, .unset] [.ref sb2, .ref b0])) rfl rfl (hb hby d_B8_14)
  have E_b0_4 := E_b0_2.wr W4
  have F_b0_coder_4 := F_b0_coder_2.other W4 (Or.inr (slot_ne (Or.inr (wd hw 5 rfl)) (Or.inr (wd hw 4 rfl)) (by decide) (t := .byte) (t' := (.array .byte)) (by decide) (by decide)))
  have E_sa2_4 := Ea2.wr W4
  have F_sa2_coder_4 := Fc2.other W4 (Or.inl nxa)
  have F_sa2_value_4 := Fv2.other W4 (Or.inl nxa)
  have V_sb2_4 := Va2.other W4 (Ne.symm nxb)
  have hk4 := Nat.le_trans hk2_ (Keep.of_wr W4).1
  have CR4 := CR2.trans (CHr.wr W4 Sf0 CR2.1)
  have K4 := K2.wr W4 (Or.inl (List.mem_of_getElem? (i := 0) rfl))
  have N4 := Fr.snoc X4 N0 g_0
  have F_b0_value_4 := F_b0_value_2.same W4
  have Sf1 := Safe.wr W4 Sf0 CR2.1 Sf0
  refine own_go (b := T4.setTop (mkF m 18 #[rv b0, rv b1, iv 0, iv 0, .val .null, .unset] [.ref b0])) (fun t k => st2 _ (st3 _ (st4 _ (xaloadN X4 hx hby rfl d_B8_17 rfl rfl k)))) ?_
  obtain ⟨T5, X5, e5, st5⟩ := getF X4 hx hZ hown (host := "") (Or.inl (wd hw 20 rfl)) Via.refl e4 F_sa2_coder_4 (g := (mkF m 20 #[rv b0, rv b1, iv 0, iv 0, .val .null, .unset] [.ref sa2, .ref b0])) rfl rfl (hb hby d_B8_20)
  obtain ⟨T6, h6, X6, e6, W6, st6⟩ := putFN X5 hx hZ hown (wd hw 20 rfl) Via.refl e5 F_b0_coder_4 E_b0_4 (Or.inr ⟨(wd hw 5 rfl), rfl, hnm⟩) (wd hw 2 rfl) (ty := .byte) (v' := (.int (nar .byte (0 : Int32)))) (by decide) rfl (fits_nar_byte _) (g := (mkF m 23 #[rv b0, rv b1, iv 0, iv 0, .val .null, .unset] [.int 0, .ref b0])) rfl rfl (hb hby d_B8_23)
  have E_b0_6 := E_b0_4.wr W6
  have E_sa2_6 := E_sa2_4.wr W6
  have F_sa2_coder_6 := F_sa2_coder_4.other W6 (Or.inl nxa)
  have F_sa2_value_6 := F_sa2_value_4.other W6 (Or.inl nxa)
  have V_sb2_6 := V_sb2_4.other W6 (Ne.symm nxb)
  have F_b0_value_6 := F_b0_value_4.other W6 (Or.inr (slot_ne (Or.inr (wd hw 4 rfl)) (Or.inr (wd hw 5 rfl)) (by decide) (t := (.array .byte)) (t' := .byte) (by decide) (by decide)))
  have hk6 := Nat.le_trans hk4 (Keep.of_wr W6).1
  have CR6 := CR4.trans (CHr.wr W6 Sf1 CR4.1)
  have K6 := K4.wr W6 (Or.inl (List.mem_of_getElem? (i := 0) rfl))
  have N6 := Fr.snoc X6 N4 g_0
  have F_b0_coder_6 := F_b0_coder_4.same W6
  obtain ⟨fs, hr, hrun, hended, hRE⟩ := Jvm.Stand.leaveW (s := s) X6 hS2 (by show _ ≤ T6.heap.size; rw [e6]; exact hk6) (v := none) (fun _ => rfl)
  refine ⟨_, _, ?_, hrun, hended, _, _, rfl, ?_, ?_, hRE.1, hRE.2.1, hRE.2.2.1, hRE.2.2.2.mono (by decide) (by decide)⟩
  · refine ldcAgain (s := s) X4 hx hZ hown (wd hw 106 rfl) hL2 (g := (mkF m 18 #[rv b0, rv b1, iv 0, iv 0, .val .null, .unset] [.ref b0])) rfl (hb hby d_B8_18) _ (st5 _ (st6 _ (X6.returnOut hx Bd.returns (hb hby d_B8_26) hr)))
  · show own_Q4 Z b0 (0 : Int32) [] h0 n0 _ T6.heap _
    rw [e6]
    exact ⟨_, _, rfl, N6, K6, F_b0_value_6, F_b0_coder_6, V_sb2_6⟩
  · show CHr Z own_EL s.vm s.heap T6.vm T6.heap
    rw [hh, e6]
    exact CR6.trans (CHv.at (s := s) X6 hZ (own_EW hw) CR6.1)
theorem ef_own_rmI1_0 (m : MethodId) (x0 : Addr) (x1 : Addr) : entryFrame m #[.ref x0, .ref x1] 2 = mkF m 0 #[rv x0, rv x1] [] := by first | (simp [entryFrame, mkF, argsToLocals, Value.category]; done) | rfl
set_option maxRecDepth 65536 in
set_option maxHeartbeats 40000000 in
theorem own_rmI1_0 (l : Launch) (Z : State) (a0 : Array Value) (hw : ∀ d ∈ tables_1, d.before a0 Z = true) (ws : List Jvm.Cond) (b0 : Addr) (b1 : Addr) (kc : ClassId) (vs : List Value) (h0 : Heap) (n0 : Nat) (Z0 : n0 ≤ h0.size) (E_0 : Exa Z h0 b0 "java/lang/String") (F_v : Fld Z h0 b0 "java/lang/String" "value" "[B" .null) (F_c : Fld Z h0 b0 "java/lang/String" "coder" "B" (.int 0)) (g_0 : n0 ≤ b0) (V_b1 : Arv Z h0 b1 kc .char (0 : Int32) vs (.int 0)) :
    MetFree l y4N (head1 (Jvm.Cond.code y4N jdk_42_method_3_code 2 none :: ws) ({ frames := 2, cells := 2, slots := 4, locals := 29 } : Room)) (fun a U => a = #[.ref b0, .ref b1] ∧ Z.Warmed39 U.vm ∧ U.heap = h0 ∧ CHv Z own_EL U.vm h0) (fun _ _ _ _ _ => True) (fun _ U o U' => ∃ v L, o = .returned v ∧ own_Q4 Z b0 (0 : Int32) [] h0 n0 v U'.heap L ∧ CHr Z own_EL U.vm U.heap U'.vm U'.heap ∧ ReturnedEndW U o U' L ({ frames := 2, cells := 2, slots := 4, locals := 29 } : Room).cells ({ frames := 2, cells := 2, slots := 4, locals := 29 } : Room).slots) := by
  refine MetFree.of_bodySF (plainFor_of_name own_pn0) hisR ?_
  intro p e s m args below meth c s₁ Bd hml0 hP hK
  obtain ⟨rfl, hZ, hh, hCH0⟩ := hP
  have hx := Bd.exec
  have hby := Bd.bytes
  have hml : c.maxLocals = 2 := hml0
  have hown : s.vm.findClass "java/lang/String" = some m.cls := findClass_of_methodNamed Bd.named
  have hnm := (name_of_methodNamed Bd.named Bd.method).1
  have X0 : Stand p l e ({ frames := 2, cells := 2, slots := 4, locals := 29 } : Room) s m #[.ref b0, .ref b1] below meth c s₁ [] 0 0 := Stand.of_body Bd
  have e0 : s₁.heap = h0 := by rw [← hh, Bd.state]; rfl
  have N0 := Fr.nil n0
  refine own_go (b := s₁.setTop (mkF m 0 #[rv b0, rv b1] [])) (fun t k => castTop (ef_own_rmI1_0 m b0 b1) k) ?_
  obtain ⟨cl1, Ar1, -, Sz1, M1, -, -⟩ := id V_b1
  refine own_go (b := s₁.setTop (mkF m 6 #[rv b0, rv b1] [.null, .int 0, .int 0, .ref b1, .ref b0])) (fun t k => ?_) ?_
  · refine xaloadN X0 hx hby rfl d_B9_0 rfl rfl (xaloadN X0 hx hby rfl d_B9_1 rfl rfl (xiconst X0 hx hby rfl d_B9_2 (xaloadN X0 hx hby rfl d_B9_3 rfl rfl (X0.arraylength hx (own_in e0 Ar1.1) (State.isArrayOf_alike hZ.alike Ar1.2.1) (g := (mkF m 4 #[rv b0, rv b1] [.ref b1, .int 0, .ref b1, .ref b0])) rfl rfl (hb hby d_B9_4) _ ?_))))
    rw [len_of Sz1 M1]
    refine xaconstNull X0 hx hby rfl d_B9_5 k
  obtain ⟨_, _, ⟨T2, L2, k2, n2⟩, -, X2, hS2x, hk2x, ⟨Lc2, hQ2, l2, y2, z2, CRq2⟩, st2⟩ := Jvm.Stand.specialBackS (show Stand p l e _ (s.setVm s.vm) m _ below meth c _ _ _ _ from X0) hx (y := y5N) rfl hown (mvT hZ (wd hw 56 rfl)) (mvT hZ (wd hw 57 rfl)) (mvT hZ (wd hw 59 rfl)) (by decide) (backOfSH (W := 0) (own_rmI4_0 l Z a0 hw [] b0 b1 h0 n0 Z0 E_0 F_v F_c g_0) hZ (wd hw 59 rfl) (wd hw 1 rfl) (by decide) (by decide) (own_EW hw) (CHr.refl hCH0).1) (g := (mkF m 6 #[rv b0, rv b1] [.null, .int 0, .int 0, .ref b1, .ref b0])) rfl (by rw [hml]; rfl) (Steps.refl _) (a := b0) (argsL := [.ref b1, .int 0, .int 0, .null]) (rest := []) (lenOf own_pd5 rfl) rfl (by show 2 * 0 + _ ≤ _; exact Nat.le_of_eq rfl) (hb hby d_B9_6) (fun _ _ => ⟨rfl, e0, (by decide : 0 + 2 ≤ _), (by decide : 0 + 4 ≤ _)⟩)
  dsimp only [Pt.U, Pt.locs, Pt.cells, Pt.slots] at X2 l2 y2 z2 st2 hQ2 hS2x hk2x CRq2
  subst l2 y2 z2
  have hS2 : s.Since T2.vm T2.heap.size := ((State.WarmedH.refl s).since 0).trans hS2x (Nat.le_trans (Nat.zero_le _) hk2x)
  have X2 : Stand p l e _ (s.setVm T2.vm) m _ below meth c T2 _ _ _ := X2
  have hZ : Z.Warmed39 (s.setVm T2.vm).vm := State.Warmed39.trans (t := s.setVm s.vm) hZ hS2x.1
  have hown : (s.setVm T2.vm).vm.findClass "java/lang/String" = some m.cls := by show T2.vm.findClass _ = _; rw [hS2x.1.alike.findClass]; exact hown
  have CR2 := (CHr.refl hCH0).trans CRq2
  obtain ⟨bq2, kq2, rfl, N2q, K2q, B2_0, B2_1, B2_2⟩ := hQ2
  have E_b0_2 := E_0.keep K2q
  have N2 := Fr.app N0 N2q
  have K2 := (Keep.refl h0 [b0]).trans K2q (fun x hx => by cases List.mem_singleton.mp hx; exact Or.inl (List.mem_of_getElem? (i := 0) rfl))
  have hk2w : T2.heap.size ≤ T2.heap.size := Nat.le_refl _
  obtain ⟨fs, hr, hrun, hended, hRE⟩ := Jvm.Stand.leaveW (s := s) X2 hS2 (by show _ ≤ T2.heap.size; exact hk2w) (v := none) (fun _ => rfl)
  refine ⟨_, _, ?_, hrun, hended, _, _, rfl, ?_, ?_, hRE.1, hRE.2.1, hRE.2.2.1, hRE.2.2.2.mono (by decide) (by decide)⟩
  · refine st2.trans (X2.returnOut hx Bd.returns (hb hby d_B9_9) hr)
  · show own_Q4 Z b0 (0 : Int32) [] h0 n0 _ T2.heap _
    exact ⟨_, _, rfl, N2, K2, B2_0, B2_1, B2_2⟩
  · show CHr Z own_EL s.vm s.heap T2.vm T2.heap
    rw [hh]
    exact CR2.trans (CHv.at (s := s) X2 hZ (own_EW hw) CR2.1)
def own_QZ (h0 : Heap) (n0 : Nat) (v : Option Value) (h : Heap) (L : List Loc) : Prop := ∃ u : Int32, v = some (.int u) ∧ Fr n0 L ∧ h = h0 ∧ ¬ u < (0 : Int32) ∧ ¬ (255 : Int32) < u
theorem d_B10_0 : decode jdk_43_method_2_code 0 = .ok (.iload_n 1, 1) := by decide +kernel
theorem d_B10_1 : decode jdk_43_method_2_code 1 = .ok (.aload_n 0, 1) := by decide +kernel
theorem d_B10_2 : decode jdk_43_method_2_code 2 = .ok (.arraylength, 1) := by decide +kernel
theorem d_B10_3 : decode jdk_43_method_2_code 3 = .ok (.invokestatic 9, 3) := by decide +kernel
theorem d_B10_6 : decode jdk_43_method_2_code 6 = .ok (.aload_n 0, 1) := by decide +kernel
theorem d_B10_7 : decode jdk_43_method_2_code 7 = .ok (.iload_n 1, 1) := by decide +kernel
theorem d_B10_8 : decode jdk_43_method_2_code 8 = .ok (.baload, 1) := by decide +kernel
theorem d_B10_9 : decode jdk_43_method_2_code 9 = .ok (.sipush 255, 3) := by decide +kernel
theorem d_B10_12 : decode jdk_43_method_2_code 12 = .ok (.iand, 1) := by decide +kernel
theorem d_B10_13 : decode jdk_43_method_2_code 13 = .ok (.i2c, 1) := by decide +kernel
theorem d_B10_14 : decode jdk_43_method_2_code 14 = .ok (.ireturn, 1) := by decide +kernel
set_option maxRecDepth 65536 in
set_option maxHeartbeats 40000000 in
theorem own_rmLc (l : Launch) (Z : State) (a0 : Array Value) (hw : ∀ d ∈ tables_1, d.before a0 Z = true) (ws : List Jvm.Cond) (b0 : Addr) (p1 : Int32) (kv : ClassId) (z : Int32) (vs : List Value) (fv : Value) (h0 : Heap) (n0 : Nat) (Z0 : n0 ≤ h0.size) (V_b0 : Arv Z h0 b0 kv .byte z vs (.int 0)) (h1 : ¬ p1 < (0 : Int32)) (h2 : p1 < z) (S_f : Sta Z h0 "jdk/internal/util/Preconditions" "SIOOBE_FORMATTER" "Ljava/util/function/BiFunction;" fv) (hfv : fv.isRef = true) : own_M l Z (⟨"java/lang/StringLatin1", "charAt", "([BI)C"⟩ : MethodName) jdk_43_method_2_code 2 (some .char) ws ({ frames := 2, cells := 0, slots := 0, locals := 27 } : Room) #[.ref b0, .int p1] h0 (own_QZ h0 n0) := by
  refine own_begin (n0 := n0) (f0 := mkF ⟨0, 0⟩ 0 #[rv b0, iv p1] []) (plainFor_of_name own_pn3) (fun m => ef_2_2 m _ _ rfl rfl) ?_
  intro p e s m below meth c s₁ Bd hZ hx hby hml hown hnm X0 e0 N0
  obtain ⟨cl1, Ar1, -, Sz1, M1, -, -⟩ := id V_b0
  refine own_go (b := s₁.setTop (mkF m 3 #[rv b0, iv p1] [.int z, .int p1])) (fun t k => ?_) ?_
  · refine xiloadN X0 hx hby rfl d_B10_0 rfl (xaloadN X0 hx hby rfl d_B10_1 rfl rfl (X0.arraylength hx (own_in e0 Ar1.1) (State.isArrayOf_alike hZ.alike Ar1.2.1) (g := (mkF m 2 #[rv b0, iv p1] [.ref b0, .int p1])) rfl rfl (hb hby d_B10_2) _ ?_))
    rw [len_of Sz1 M1]
    exact k
  refine own_cs X0 hx hZ hown hml e0 (wd hw 40 rfl) (wd hw 41 rfl) (wd hw 1 rfl) (wd hw 42 rfl) (own_rmCi l Z a0 hw [] p1 z fv h0 n0 Z0 h1 h2 S_f hfv) own_pd6 (hb hby d_B10_3) 0 [] rfl ⟨rfl, rfl, rfl, rfl, rfl⟩ (by decide) ?_
  rintro T2 L2 v2 X2 hQ2
  obtain ⟨rfl, N2q, e2⟩ := hQ2
  have N2 := Fr.app N0 N2q
  obtain ⟨cl3, Ar3, -, Sz3, M3, Hs3, Gs3⟩ := id V_b0
  have hin3 := inb_of (j := p1) Sz3 ⟨h1, h2⟩
  obtain ⟨w3, hw3⟩ := own_byte (Gs3 p1.toNatClampNeg (by have := hin3; omega))
  have hat3 := Has.at Hs3 hin3 hw3
  exact own_ret (v := some (.int (nar .char ((w3 &&& (255 : Int32)).toUInt32.toUInt16.toUInt32.toInt32)))) X2 e2 Bd.notSynchronized (nv Bd.returns) (fun fs hr => xaloadN X2 hx hby rfl d_B10_6 rfl rfl (xiloadN X2 hx hby rfl d_B10_7 rfl (X2.baloadBytes hx (j := p1) (v := (.int w3)) (own_in e2 Ar3.1) (State.isArrayOf_alike hZ.alike Ar3.2.1) Ar3.2.2 hin3 hat3 (g := (mkF m 8 #[rv b0, iv p1] [.int p1, .ref b0])) rfl rfl (hb hby d_B10_8) _ (xsipush X2 hx hby rfl d_B10_9 (xiand X2 hx hby rfl d_B10_12 rfl (XS.i2c X2.here hx rfl (hb hby d_B10_13) rfl (retN X2 hx (t := .char) Bd.returns (by simp) (hb hby d_B10_14) hr))))))) ⟨_, rfl, N2, rfl, own_r255 _⟩ (by decide)
theorem d_B11_0 : decode jdk_42_method_56_code 0 = .ok (.aload_n 0, 1) := by decide +kernel
theorem d_B11_1 : decode jdk_42_method_56_code 1 = .ok (.invokevirtual 492, 3) := by decide +kernel
theorem d_B11_4 : decode jdk_42_method_56_code 4 = .ok (.ifCond .eq 12, 3) := by decide +kernel
theorem d_B11_7 : decode jdk_42_method_56_code 7 = .ok (.aload_n 0, 1) := by decide +kernel
theorem d_B11_8 : decode jdk_42_method_56_code 8 = .ok (.getfield 9, 3) := by decide +kernel
theorem d_B11_11 : decode jdk_42_method_56_code 11 = .ok (.iload_n 1, 1) := by decide +kernel
theorem d_B11_12 : decode jdk_42_method_56_code 12 = .ok (.invokestatic 495, 3) := by decide +kernel
theorem d_B11_15 : decode jdk_42_method_56_code 15 = .ok (.ireturn, 1) := by decide +kernel
set_option maxRecDepth 65536 in
set_option maxHeartbeats 40000000 in
theorem own_rmCh (l : Launch) (Z : State) (a0 : Array Value) (hw : ∀ d ∈ tables_1, d.before a0 Z = true) (ws : List Jvm.Cond) (b0 : Addr) (p1 : Int32) (v0 : Addr) (kv : ClassId) (z : Int32) (vs : List Value) (cs : Int32) (fv : Value) (h0 : Heap) (n0 : Nat) (Z0 : n0 ≤ h0.size) (E_b0 : Exa Z h0 b0 "java/lang/String") (F_cb0 : Fld Z h0 b0 "java/lang/String" "coder" "B" (.int 0)) (F_vb0 : Fld Z h0 b0 "java/lang/String" "value" "[B" (.ref v0)) (V_v0 : Arv Z h0 v0 kv .byte z vs (.int 0)) (S_cs : Sta Z h0 "java/lang/String" "COMPACT_STRINGS" "Z" (.int cs)) (hcs : ¬ cs = (0 : Int32)) (h1 : ¬ p1 < (0 : Int32)) (h2 : p1 < z) (S_f : Sta Z h0 "jdk/internal/util/Preconditions" "SIOOBE_FORMATTER" "Ljava/util/function/BiFunction;" fv) (hfv : fv.isRef = true) : own_M l Z (⟨"java/lang/String", "charAt", "(I)C"⟩ : MethodName) jdk_42_method_56_code 2 (some .char) ws ({ frames := 3, cells := 0, slots := 0, locals := 40 } : Room) #[.ref b0, .int p1] h0 (own_QZ h0 n0) := by
  refine own_begin (n0 := n0) (f0 := mkF ⟨0, 0⟩ 0 #[rv b0, iv p1] []) (plainFor_of_name own_pn0) (fun m => ef_2_2 m _ _ rfl rfl) ?_
  intro p e s m below meth c s₁ Bd hZ hx hby hml hown hnm X0 e0 N0
  refine own_go (b := s₁.setTop (mkF m 1 #[rv b0, iv p1] [.ref b0])) (fun t k => xaloadN X0 hx hby rfl d_B11_0 rfl rfl k) ?_
  refine own_cv X0 hx hZ hown hml e0 (wd hw 31 rfl) (wd hw 32 rfl) (wd hw 34 rfl) (wd hw 33 rfl) (wd hw 1 rfl) (wd hw 35 rfl) E_b0 (own_rmIl l Z a0 hw [] b0 cs h0 n0 Z0 F_cb0 S_cs hcs) own_pd7 (hb hby d_B11_1) 0 [] rfl rfl ⟨rfl, rfl, rfl, rfl, rfl⟩ (by decide) ?_
  rintro T1 L1 v1 X1 hQ1
  obtain ⟨rfl, N1q, e1⟩ := hQ1
  have N1 := Fr.app N0 N1q
  obtain ⟨T2, X2, e2, st2⟩ := getF X1 hx hZ hown (host := "") (Or.inl (wd hw 13 rfl)) Via.refl e1 F_vb0 (g := (mkF m 8 #[rv b0, iv p1] [.ref b0])) rfl rfl (hb hby d_B11_8)
  refine own_go (b := T2.setTop (mkF m 12 #[rv b0, iv p1] [.int p1, .ref v0])) (fun t k => xifNo X1 hx hby rfl d_B11_4 rfl ((if0 _ _).trans (feq ((by decide) : ¬ ((1 : Int32) = (0 : Int32)))).1) (xaloadN X1 hx hby rfl d_B11_7 rfl rfl (st2 _ (xiloadN X2 hx hby rfl d_B11_11 rfl k)))) ?_
  refine own_cs X2 hx hZ hown hml e2 (wd hw 36 rfl) (wd hw 37 rfl) (wd hw 38 rfl) (wd hw 39 rfl) (own_rmLc l Z a0 hw [] v0 p1 kv z vs fv h0 n0 Z0 V_v0 h1 h2 S_f hfv) own_pd8 (hb hby d_B11_12) 0 [] rfl ⟨rfl, rfl, rfl, rfl, rfl⟩ (by decide) ?_
  rintro T3 L3 v3 X3 hQ3
  obtain ⟨z3', rfl, N3q, e3, lz3, uz3⟩ := hQ3
  have N3 := Fr.app N1 N3q
  exact own_ret (v := some (.int (nar .char z3'))) X3 e3 Bd.notSynchronized (nv Bd.returns) (fun fs hr => (retN X3 hx (t := .char) Bd.returns (by simp) (hb hby d_B11_15) hr)) ⟨_, rfl, N3, rfl, own_r1 lz3 uz3⟩ (by decide)
theorem d_B12_0 : decode method_3_code 0 = .ok (.iload_n 1, 1) := by decide +kernel
theorem d_B12_1 : decode method_3_code 1 = .ok (.aload_n 0, 1) := by decide +kernel
theorem d_B12_2 : decode method_3_code 2 = .ok (.invokevirtual 11, 3) := by decide +kernel
theorem d_B12_5 : decode method_3_code 5 = .ok (.if_icmp .lt 5, 3) := by decide +kernel
theorem d_B12_8 : decode method_3_code 8 = .ok (.iload_n 2, 1) := by decide +kernel
theorem d_B12_9 : decode method_3_code 9 = .ok (.ireturn, 1) := by decide +kernel
theorem d_B12_10 : decode method_3_code 10 = .ok (.aload_n 0, 1) := by decide +kernel
theorem d_B12_11 : decode method_3_code 11 = .ok (.iload_n 1, 1) := by decide +kernel
theorem d_B12_12 : decode method_3_code 12 = .ok (.invokevirtual 45, 3) := by decide +kernel
theorem d_B12_15 : decode method_3_code 15 = .ok (.istore 4, 2) := by decide +kernel
theorem d_B12_17 : decode method_3_code 17 = .ok (.iload_n 3, 1) := by decide +kernel
theorem d_B12_18 : decode method_3_code 18 = .ok (.ifCond .eq 24, 3) := by decide +kernel
theorem d_B12_21 : decode method_3_code 21 = .ok (.iload 4, 2) := by decide +kernel
theorem d_B12_23 : decode method_3_code 23 = .ok (.bipush 97, 2) := by decide +kernel
theorem d_B12_25 : decode method_3_code 25 = .ok (.if_icmp .lt 17, 3) := by decide +kernel
theorem d_B12_28 : decode method_3_code 28 = .ok (.iload 4, 2) := by decide +kernel
theorem d_B12_30 : decode method_3_code 30 = .ok (.bipush 122, 2) := by decide +kernel
theorem d_B12_32 : decode method_3_code 32 = .ok (.if_icmp .gt 10, 3) := by decide +kernel
theorem d_B12_35 : decode method_3_code 35 = .ok (.iload 4, 2) := by decide +kernel
theorem d_B12_37 : decode method_3_code 37 = .ok (.bipush 32, 2) := by decide +kernel
theorem d_B12_39 : decode method_3_code 39 = .ok (.isub, 1) := by decide +kernel
theorem d_B12_40 : decode method_3_code 40 = .ok (.i2c, 1) := by decide +kernel
theorem d_B12_41 : decode method_3_code 41 = .ok (.ireturn, 1) := by decide +kernel
theorem d_B12_42 : decode method_3_code 42 = .ok (.iload 4, 2) := by decide +kernel
theorem d_B12_44 : decode method_3_code 44 = .ok (.ireturn, 1) := by decide +kernel
set_option maxRecDepth 65536 in
set_option maxHeartbeats 40000000 in
theorem own_rmAt (l : Launch) (Z : State) (a0 : Array Value) (hw : ∀ d ∈ tables_1, d.before a0 Z = true) (ws : List Jvm.Cond) (b0 : Addr) (p1 : Int32) (p2 : Int32) (p3 : Int32) (v0 : Addr) (kv : ClassId) (z : Int32) (vs : List Value) (cs : Int32) (fv : Value) (h0 : Heap) (n0 : Nat) (Z0 : n0 ≤ h0.size) (E_b0 : Exa Z h0 b0 "java/lang/String") (F_cb0 : Fld Z h0 b0 "java/lang/String" "coder" "B" (.int 0)) (F_vb0 : Fld Z h0 b0 "java/lang/String" "value" "[B" (.ref v0)) (V_v0 : Arv Z h0 v0 kv .byte z vs (.int 0)) (S_cs : Sta Z h0 "java/lang/String" "COMPACT_STRINGS" "Z" (.int cs)) (hcs : ¬ cs = (0 : Int32)) (S_f : Sta Z h0 "jdk/internal/util/Preconditions" "SIOOBE_FORMATTER" "Ljava/util/function/BiFunction;" fv) (hfv : fv.isRef = true) (lc : ¬ p2 < (0 : Int32)) (uc : ¬ (255 : Int32) < p2) (h1 : ¬ p1 < (0 : Int32)) : own_M l Z (⟨"com/example/corollary/corollary/EstimateMethodNamedPinLaw", "at", "(Ljava/lang/String;ICZ)C"⟩ : MethodName) method_3_code 5 (some .char) ws ({ frames := 4, cells := 0, slots := 0, locals := 53 } : Room) #[.ref b0, .int p1, .int p2, .int p3] h0 (own_QZ h0 n0) := by
  refine own_begin (n0 := n0) (f0 := mkF ⟨0, 0⟩ 0 #[rv b0, iv p1, iv p2, iv p3, .unset] []) (plainFor_of_name own_pn4) (fun m => ef_4_5 m _ _ _ _ rfl rfl rfl rfl) ?_
  intro p e s m below meth c s₁ Bd hZ hx hby hml hown hnm X0 e0 N0
  refine own_go (b := s₁.setTop (mkF m 2 #[rv b0, iv p1, iv p2, iv p3, .unset] [.ref b0, .int p1])) (fun t k => xiloadN X0 hx hby rfl d_B12_0 rfl (xaloadN X0 hx hby rfl d_B12_1 rfl rfl k)) ?_
  refine own_cv X0 hx hZ hown hml e0 (wd hw 8 rfl) (wd hw 9 rfl) (wd hw 11 rfl) (wd hw 10 rfl) (wd hw 1 rfl) (wd hw 12 rfl) E_b0 (own_rmLen l Z a0 hw [] b0 v0 kv z vs cs h0 n0 Z0 E_b0 F_cb0 F_vb0 V_v0 S_cs hcs) own_pd9 (hb hby d_B12_2) 1 [.int p1] rfl rfl ⟨rfl, rfl, rfl, rfl, rfl⟩ (by decide) ?_
  rintro T1 L1 v1 X1 hQ1
  obtain ⟨rfl, N1q, e1⟩ := hQ1
  have N1 := Fr.app N0 N1q
  refine own_go (b := T1.setTop (mkF m 5 #[rv b0, iv p1, iv p2, iv p3, .unset] [.int z, .int p1])) (fun t k => ?_) ?_
  · exact k
  by_cases hc5_2 : p1 < z
  · refine own_go (b := T1.setTop (mkF m 12 #[rv b0, iv p1, iv p2, iv p3, .unset] [.int p1, .ref b0])) (fun t k => xicmpYes X1 hx hby rfl 5 10 rfl d_B12_5 rfl (tlt hc5_2).1 (by decide) (by decide) (xaloadN X1 hx hby rfl d_B12_10 rfl rfl (xiloadN X1 hx hby rfl d_B12_11 rfl k))) ?_
    refine own_cv X1 hx hZ hown hml e1 (wd hw 26 rfl) (wd hw 27 rfl) (wd hw 29 rfl) (wd hw 28 rfl) (wd hw 1 rfl) (wd hw 30 rfl) E_b0 (own_rmCh l Z a0 hw [] b0 p1 v0 kv z vs cs fv h0 n0 Z0 E_b0 F_cb0 F_vb0 V_v0 S_cs hcs h1 hc5_2 S_f hfv) own_pd10 (hb hby d_B12_12) 0 [] rfl rfl ⟨rfl, rfl, rfl, rfl, rfl⟩ (by decide) ?_
    rintro T3 L3 v3 X3 hQ3
    obtain ⟨z3', rfl, N3q, e3, lz3, uz3⟩ := hQ3
    have N3 := Fr.app N1 N3q
    refine own_go (b := T3.setTop (mkF m 18 #[rv b0, iv p1, iv p2, iv p3, iv z3'] [.int p3])) (fun t k => xistore X3 hx hby rfl d_B12_15 rfl (l' := #[rv b0, iv p1, iv p2, iv p3, iv z3']) rfl (xiloadN X3 hx hby rfl d_B12_17 rfl k)) ?_
    by_cases hc18_4 : p3 = (0 : Int32)
    · exact own_ret (v := some (.int (nar .char z3'))) X3 e3 Bd.notSynchronized (nv Bd.returns) (fun fs hr => xifYes X3 hx hby rfl 18 42 rfl d_B12_18 rfl ((if0 _ _).trans (teq hc18_4).1) (by decide) (by decide) (xiload X3 hx hby rfl d_B12_42 rfl (retN X3 hx (t := .char) Bd.returns (by simp) (hb hby d_B12_44) hr))) ⟨_, rfl, N3, rfl, own_r1 lz3 uz3⟩ (by decide)
    · refine own_go (b := T3.setTop (mkF m 25 #[rv b0, iv p1, iv p2, iv p3, iv z3'] [.int 97, (.int z3')])) (fun t k => xifNo X3 hx hby rfl d_B12_18 rfl ((if0 _ _).trans (feq hc18_4).1) (xiload X3 hx hby rfl d_B12_21 rfl (xbipush X3 hx hby rfl d_B12_23 k))) ?_
      by_cases hc25_5 : z3' < (97 : Int32)
      · exact own_ret (v := some (.int (nar .char z3'))) X3 e3 Bd.notSynchronized (nv Bd.returns) (fun fs hr => xicmpYes X3 hx hby rfl 25 42 rfl d_B12_25 rfl (tlt hc25_5).1 (by decide) (by decide) (xiload X3 hx hby rfl d_B12_42 rfl (retN X3 hx (t := .char) Bd.returns (by simp) (hb hby d_B12_44) hr))) ⟨_, rfl, N3, rfl, own_r1 lz3 uz3⟩ (by decide)
      · refine own_go (b := T3.setTop (mkF m 32 #[rv b0, iv p1, iv p2, iv p3, iv z3'] [.int 122, (.int z3')])) (fun t k => xicmpNo X3 hx hby rfl d_B12_25 rfl (flt hc25_5).1 (xiload X3 hx hby rfl d_B12_28 rfl (xbipush X3 hx hby rfl d_B12_30 k))) ?_
        by_cases hc32_6 : (122 : Int32) < z3'
        · exact own_ret (v := some (.int (nar .char z3'))) X3 e3 Bd.notSynchronized (nv Bd.returns) (fun fs hr => xicmpYes X3 hx hby rfl 32 42 rfl d_B12_32 rfl (tlt hc32_6).2.2.1 (by decide) (by decide) (xiload X3 hx hby rfl d_B12_42 rfl (retN X3 hx (t := .char) Bd.returns (by simp) (hb hby d_B12_44) hr))) ⟨_, rfl, N3, rfl, own_r1 lz3 uz3⟩ (by decide)
        · exact own_ret (v := some (.int (nar .char ((z3' - (32 : Int32)).toUInt32.toUInt16.toUInt32.toInt32)))) X3 e3 Bd.notSynchronized (nv Bd.returns) (fun fs hr => xicmpNo X3 hx hby rfl d_B12_32 rfl (flt hc32_6).2.2.1 (xiload X3 hx hby rfl d_B12_35 rfl (xbipush X3 hx hby rfl d_B12_37 (xisub X3 hx hby rfl d_B12_39 rfl (XS.i2c X3.here hx rfl (hb hby d_B12_40) rfl (retN X3 hx (t := .char) Bd.returns (by simp) (hb hby d_B12_41) hr)))))) ⟨_, rfl, N3, rfl, own_r2 hc25_5 hc32_6⟩ (by decide)
  · exact own_ret (v := some (.int (nar .char p2))) X1 e1 Bd.notSynchronized (nv Bd.returns) (fun fs hr => xicmpNo X1 hx hby rfl d_B12_5 rfl (flt hc5_2).1 (xiloadN X1 hx hby rfl d_B12_8 rfl (retN X1 hx (t := .char) Bd.returns (by simp) (hb hby d_B12_9) hr))) ⟨_, rfl, N1, rfl, own_r1 lc uc⟩ (by decide)
def own_QT (Z : State) (n : Int32) (vs : List Value) (h0 : Heap) (n0 : Nat) (v : Option Value) (h : Heap) (L : List Loc) : Prop := ∃ (b r : Addr) (k : ClassId), v = some (.ref b) ∧ Fr n0 L ∧ Keep h0 h [] ∧ Exa Z h b "java/lang/String" ∧ Fld Z h b "java/lang/String" "coder" "B" (.int 0) ∧ Fld Z h b "java/lang/String" "value" "[B" (.ref r) ∧ Arv Z h r k .byte n vs (.int 0) ∧ h0.size ≤ b
theorem d_B13_0 : decode method_4_code 0 = .ok (.iload_n 1, 1) := by decide +kernel
theorem d_B13_1 : decode method_4_code 1 = .ok (.ifCond .ne 14, 3) := by decide +kernel
theorem d_B13_15 : decode method_4_code 15 = .ok (.iload_n 1, 1) := by decide +kernel
theorem d_B13_16 : decode method_4_code 16 = .ok (.iconst 1, 1) := by decide +kernel
theorem d_B13_17 : decode method_4_code 17 = .ok (.if_icmp .ne 20, 3) := by decide +kernel
theorem d_B13_20 : decode method_4_code 20 = .ok (.new 12, 3) := by decide +kernel
theorem d_B13_23 : decode method_4_code 23 = .ok (.dup, 1) := by decide +kernel
theorem d_B13_24 : decode method_4_code 24 = .ok (.iconst 1, 1) := by decide +kernel
theorem d_B13_25 : decode method_4_code 25 = .ok (.newarray .char, 2) := by decide +kernel
theorem d_B13_27 : decode method_4_code 27 = .ok (.dup, 1) := by decide +kernel
theorem d_B13_28 : decode method_4_code 28 = .ok (.iconst 0, 1) := by decide +kernel
theorem d_B13_29 : decode method_4_code 29 = .ok (.aload_n 0, 1) := by decide +kernel
theorem d_B13_30 : decode method_4_code 30 = .ok (.iconst 0, 1) := by decide +kernel
theorem d_B13_31 : decode method_4_code 31 = .ok (.caload, 1) := by decide +kernel
theorem d_B13_32 : decode method_4_code 32 = .ok (.castore, 1) := by decide +kernel
theorem d_B13_33 : decode method_4_code 33 = .ok (.invokespecial 49, 3) := by decide +kernel
theorem d_B13_36 : decode method_4_code 36 = .ok (.areturn, 1) := by decide +kernel
set_option maxRecDepth 65536 in
set_option maxHeartbeats 40000000 in
theorem own_rmTk_1 (l : Launch) (Z : State) (a0 : Array Value) (hw : ∀ d ∈ tables_1, d.before a0 Z = true) (ws : List Jvm.Cond) (b0 : Addr) (kc : ClassId) (cs : Int32) (x0 x1 x2 x3 x4 x5 x6 x7 x8 x9 x10 x11 : Int32) (h0 : Heap) (n0 : Nat) (Z0 : n0 ≤ h0.size) (V_b0 : Arv Z h0 b0 kc .char (12 : Int32) [.int x0, .int x1, .int x2, .int x3, .int x4, .int x5, .int x6, .int x7, .int x8, .int x9, .int x10, .int x11] (.int 0)) (S_cs : Sta Z h0 "java/lang/String" "COMPACT_STRINGS" "Z" (.int cs)) (hcs : ¬ cs = (0 : Int32)) (l_x0 : ¬ x0 < (0 : Int32)) (u_x0 : ¬ (255 : Int32) < x0) (l_x1 : ¬ x1 < (0 : Int32)) (u_x1 : ¬ (255 : Int32) < x1) (l_x2 : ¬ x2 < (0 : Int32)) (u_x2 : ¬ (255 : Int32) < x2) (l_x3 : ¬ x3 < (0 : Int32)) (u_x3 : ¬ (255 : Int32) < x3) (l_x4 : ¬ x4 < (0 : Int32)) (u_x4 : ¬ (255 : Int32) < x4) (l_x5 : ¬ x5 < (0 : Int32)) (u_x5 : ¬ (255 : Int32) < x5) (l_x6 : ¬ x6 < (0 : Int32)) (u_x6 : ¬ (255 : Int32) < x6) (l_x7 : ¬ x7 < (0 : Int32)) (u_x7 : ¬ (255 : Int32) < x7) (l_x8 : ¬ x8 < (0 : Int32)) (u_x8 : ¬ (255 : Int32) < x8) (l_x9 : ¬ x9 < (0 : Int32)) (u_x9 : ¬ (255 : Int32) < x9) (l_x10 : ¬ x10 < (0 : Int32)) (u_x10 : ¬ (255 : Int32) < x10) (l_x11 : ¬ x11 < (0 : Int32)) (u_x11 : ¬ (255 : Int32) < x11) : own_M l Z y3N method_4_code 2 (some (.object "java/lang/String")) ws ({ frames := 4, cells := 3, slots := 16, locals := 66 } : Room) #[.ref b0, .int 1] h0 (own_QT Z (1 : Int32) [(.int (own_b x0))] h0 n0) := by
  refine own_begin (n0 := n0) (f0 := mkF ⟨0, 0⟩ 0 #[rv b0, iv 1] []) (plainFor_of_name own_pn4) (fun m => ef_2_2 m _ _ rfl rfl) ?_
  intro p e s m below meth c s₁ Bd hZ hx hby hml hown hnm X0 e0 N0
  obtain ⟨T1, h1, X1, e1, E1, A1, D1, -, st1⟩ := newO X0 hx hZ hown (wd hw 52 rfl) (wd hw 2 rfl) (wd hw 1 rfl) e0 (g := (mkF m 20 #[rv b0, iv 1] [])) rfl (hb hby d_B13_20) (by decide) (by decide)
  obtain ⟨b1, g1⟩ : ∃ z, z = h0.size := ⟨_, rfl⟩
  rw [← g1] at A1 D1 st1
  have new_b1 : n0 ≤ b1 := Nat.le_trans Z0 (Nat.le_of_eq g1.symm)
  have sz_b1 : h0.size ≤ b1 := Nat.le_trans (Keep.refl h0 []).1 (Nat.le_of_eq g1.symm)
  have K1 := (Keep.refl h0 []).ext E1
  have F_b1_value_1 : Fld Z h1 b1 "java/lang/String" "value" "[B" .null := D1 (Or.inr (wd hw 4 rfl)) (ty := (.array .byte)) (by decide)
  have F_b1_coder_1 : Fld Z h1 b1 "java/lang/String" "coder" "B" (.int 0) := D1 (Or.inr (wd hw 5 rfl)) (ty := .byte) (by decide)
  obtain ⟨T2, h2, k2, X2, e2, E2, A2, st2⟩ := newP X1 hx hZ (wd hw 21 rfl) e1 (g := (mkF m 25 #[rv b0, iv 1] [.int 1, .ref b1, .ref b1])) rfl (hb hby d_B13_25) rfl (by decide) (cap := 1) (by decide) (by decide) (by decide) (by decide)
  obtain ⟨b2, g2⟩ : ∃ z, z = h1.size := ⟨_, rfl⟩
  rw [← g2] at A2 st2
  have new_b2 : n0 ≤ b2 := Nat.le_trans (Nat.le_trans Z0 K1.1) (Nat.le_of_eq g2.symm)
  have sz_b2 : h0.size ≤ b2 := Nat.le_trans K1.1 (Nat.le_of_eq g2.symm)
  have E_b1_2 := A1.ext E2
  have F_b1_value_2 := F_b1_value_1.ext E2
  have F_b1_coder_2 := F_b1_coder_1.ext E2
  have K2 := K1.ext E2
  have V_b2 : Arv Z h2 b2 k2 .char (1 : Int32) [.int 0] (.int 0) := (Arv.new A2 (by decide)).pad (pad_rep [] (.int 0) 1)
  obtain ⟨cl3, Ar3, -, Sz3, M3, Hs3, Gs3⟩ := id (V_b0.keep K2 nNl)
  have hin3 := inb_of (j := (0 : Int32)) Sz3 ⟨by decide, by decide⟩
  obtain ⟨cl4, Ar4, q4, Sz4, M4, Hs4, Gs4⟩ := id V_b2
  have hin4 := inb_of (j := (0 : Int32)) Sz4 ⟨by decide, by decide⟩
  obtain ⟨T5, h5, X5, e5, W5, st5⟩ := stC X2 hx hZ e2 Ar4 (j := (0 : Int32)) hin4 (g := (mkF m 32 #[rv b0, iv 1] [.int x0, .int 0, .ref b2, .ref b2, .ref b1, .ref b1])) rfl rfl (hb hby d_B13_32)
  have E_b1_5 := E_b1_2.wr W5
  have F_b1_value_5 := F_b1_value_2.other W5 (Or.inl (nl A1.lt (Nat.le_of_eq g2.symm)))
  have F_b1_coder_5 := F_b1_coder_2.other W5 (Or.inl (nl A1.lt (Nat.le_of_eq g2.symm)))
  have K5 := K2.wr W5 (Or.inr sz_b2)
  have N5 := Fr.snoc X5 N0 new_b2
  have V_b2_5 := Arv.set Ar4 q4 Sz4 M4 Hs4 Gs4 (fits_nar_char _) W5 0 rfl (Nat.le_of_ble_eq_true rfl)
  rw [own_narc l_x0 u_x0] at V_b2_5
  refine own_go (b := T5.setTop (mkF m 33 #[rv b0, iv 1] [.ref b2, .ref b1, .ref b1])) (fun t k => xiloadN X0 hx hby rfl d_B13_0 rfl (xifYes X0 hx hby rfl 1 15 rfl d_B13_1 rfl ((if0 _ _).trans (feq ((by decide) : ¬ ((1 : Int32) = (0 : Int32)))).2) (by decide) (by decide) (xiloadN X0 hx hby rfl d_B13_15 rfl (xiconst X0 hx hby rfl d_B13_16 (xicmpNo X0 hx hby rfl d_B13_17 rfl (teq ((by decide) : (1 : Int32) = (1 : Int32))).2 (st1 _ (xdup X1 hx hby rfl d_B13_23 rfl rfl (xiconst X1 hx hby rfl d_B13_24 (st2 _ (xdup X2 hx hby rfl d_B13_27 rfl rfl (xiconst X2 hx hby rfl d_B13_28 (xaloadN X2 hx hby rfl d_B13_29 rfl rfl (xiconst X2 hx hby rfl d_B13_30 (X2.caload hx (j := (0 : Int32)) (v := (.int x0)) (own_in e2 Ar3.1) (State.isArrayOf_alike hZ.alike Ar3.2.1) Ar3.2.2 hin3 (Has.at Hs3 hin3 rfl) (g := (mkF m 31 #[rv b0, iv 1] [.int 0, .ref b0, .int 0, .ref b2, .ref b2, .ref b1, .ref b1])) rfl rfl (hb hby d_B13_31) _ (st5 _ k))))))))))))))) ?_
  clear X1 e1 E1 D1 st1 K1 F_b1_value_1 F_b1_coder_1 X2 e2 E2 A2 st2 E_b1_2 F_b1_value_2 F_b1_coder_2 K2 V_b2 Ar3 Sz3 M3 Hs3 Gs3 hin3 q4 Sz4 M4 Hs4 Gs4 hin4 W5 st5
  refine own_ci X5 hx hZ hown hml e5 (wd hw 53 rfl) (wd hw 54 rfl) (wd hw 1 rfl) (wd hw 55 rfl) (own_rmI1 l Z a0 hw [] b1 b2 k2 (1 : Int32) cs x0 (0 : Int32) (0 : Int32) (0 : Int32) (0 : Int32) (0 : Int32) (0 : Int32) (0 : Int32) (0 : Int32) (0 : Int32) (0 : Int32) h5 n0 (Nat.le_trans Z0 K5.1) E_b1_5 F_b1_value_5 F_b1_coder_5 new_b1 (own_cut (j := (1 : Int32)) V_b2_5 1 rfl (by decide) rfl) (own_staKeep0 S_cs K5) hcs (by decide) (by decide) l_x0 u_x0 (by decide) (by decide) (by decide) (by decide) (by decide) (by decide) (by decide) (by decide) (by decide) (by decide) (by decide) (by decide) (by decide) (by decide) (by decide) (by decide) (by decide) (by decide) (by decide) (by decide) (Ne.symm (nl A1.lt (Nat.le_of_eq g2.symm))) (by decide)) own_pd11 (hb hby d_B13_33) 1 [.ref b1] rfl rfl ⟨rfl, rfl, rfl, rfl, rfl⟩ (by decide) rfl ?_
  rintro T6 L6 v6 X6 hQ6
  obtain ⟨bq6, kq6, rfl, N6q, K6q, B6_0, B6_1, B6_2⟩ := hQ6
  have E_b1_6 := E_b1_5.keep K6q
  have V_b2_6 := V_b2_5.keep K6q (fun q => (Ne.symm (nl A1.lt (Nat.le_of_eq g2.symm))) (List.mem_singleton.mp q))
  have N6 := Fr.app N5 N6q
  have K6 := K5.trans K6q (fun x hx => by cases List.mem_singleton.mp hx; exact Or.inr sz_b1)
  exact own_ret (v := some (.ref b1)) X6 rfl Bd.notSynchronized (nv Bd.returns) (fun fs hr => (retA X6 hx Bd.returns (hb hby d_B13_36) hr)) ⟨b1, bq6, _, rfl, N6, K6, E_b1_6, B6_1, B6_0, own_cut (j := (1 : Int32)) B6_2 1 rfl (by decide) rfl, sz_b1⟩ (by decide)
theorem d_B13_37 : decode method_4_code 37 = .ok (.iload_n 1, 1) := by decide +kernel
theorem d_B13_38 : decode method_4_code 38 = .ok (.bipush 8, 2) := by decide +kernel
theorem d_B13_40 : decode method_4_code 40 = .ok (.if_icmp .ne 67, 3) := by decide +kernel
theorem d_B13_43 : decode method_4_code 43 = .ok (.new 12, 3) := by decide +kernel
theorem d_B13_46 : decode method_4_code 46 = .ok (.dup, 1) := by decide +kernel
theorem d_B13_47 : decode method_4_code 47 = .ok (.bipush 8, 2) := by decide +kernel
theorem d_B13_49 : decode method_4_code 49 = .ok (.newarray .char, 2) := by decide +kernel
theorem d_B13_51 : decode method_4_code 51 = .ok (.dup, 1) := by decide +kernel
theorem d_B13_52 : decode method_4_code 52 = .ok (.iconst 0, 1) := by decide +kernel
theorem d_B13_53 : decode method_4_code 53 = .ok (.aload_n 0, 1) := by decide +kernel
theorem d_B13_54 : decode method_4_code 54 = .ok (.iconst 0, 1) := by decide +kernel
theorem d_B13_55 : decode method_4_code 55 = .ok (.caload, 1) := by decide +kernel
theorem d_B13_56 : decode method_4_code 56 = .ok (.castore, 1) := by decide +kernel
theorem d_B13_57 : decode method_4_code 57 = .ok (.dup, 1) := by decide +kernel
theorem d_B13_58 : decode method_4_code 58 = .ok (.iconst 1, 1) := by decide +kernel
theorem d_B13_59 : decode method_4_code 59 = .ok (.aload_n 0, 1) := by decide +kernel
theorem d_B13_60 : decode method_4_code 60 = .ok (.iconst 1, 1) := by decide +kernel
theorem d_B13_61 : decode method_4_code 61 = .ok (.caload, 1) := by decide +kernel
theorem d_B13_62 : decode method_4_code 62 = .ok (.castore, 1) := by decide +kernel
theorem d_B13_63 : decode method_4_code 63 = .ok (.dup, 1) := by decide +kernel
theorem d_B13_64 : decode method_4_code 64 = .ok (.iconst 2, 1) := by decide +kernel
theorem d_B13_65 : decode method_4_code 65 = .ok (.aload_n 0, 1) := by decide +kernel
theorem d_B13_66 : decode method_4_code 66 = .ok (.iconst 2, 1) := by decide +kernel
theorem d_B13_67 : decode method_4_code 67 = .ok (.caload, 1) := by decide +kernel
theorem d_B13_68 : decode method_4_code 68 = .ok (.castore, 1) := by decide +kernel
theorem d_B13_69 : decode method_4_code 69 = .ok (.dup, 1) := by decide +kernel
theorem d_B13_70 : decode method_4_code 70 = .ok (.iconst 3, 1) := by decide +kernel
theorem d_B13_71 : decode method_4_code 71 = .ok (.aload_n 0, 1) := by decide +kernel
theorem d_B13_72 : decode method_4_code 72 = .ok (.iconst 3, 1) := by decide +kernel
theorem d_B13_73 : decode method_4_code 73 = .ok (.caload, 1) := by decide +kernel
theorem d_B13_74 : decode method_4_code 74 = .ok (.castore, 1) := by decide +kernel
theorem d_B13_75 : decode method_4_code 75 = .ok (.dup, 1) := by decide +kernel
theorem d_B13_76 : decode method_4_code 76 = .ok (.iconst 4, 1) := by decide +kernel
theorem d_B13_77 : decode method_4_code 77 = .ok (.aload_n 0, 1) := by decide +kernel
theorem d_B13_78 : decode method_4_code 78 = .ok (.iconst 4, 1) := by decide +kernel
theorem d_B13_79 : decode method_4_code 79 = .ok (.caload, 1) := by decide +kernel
theorem d_B13_80 : decode method_4_code 80 = .ok (.castore, 1) := by decide +kernel
theorem d_B13_81 : decode method_4_code 81 = .ok (.dup, 1) := by decide +kernel
theorem d_B13_82 : decode method_4_code 82 = .ok (.iconst 5, 1) := by decide +kernel
theorem d_B13_83 : decode method_4_code 83 = .ok (.aload_n 0, 1) := by decide +kernel
theorem d_B13_84 : decode method_4_code 84 = .ok (.iconst 5, 1) := by decide +kernel
theorem d_B13_85 : decode method_4_code 85 = .ok (.caload, 1) := by decide +kernel
theorem d_B13_86 : decode method_4_code 86 = .ok (.castore, 1) := by decide +kernel
theorem d_B13_87 : decode method_4_code 87 = .ok (.dup, 1) := by decide +kernel
theorem d_B13_88 : decode method_4_code 88 = .ok (.bipush 6, 2) := by decide +kernel
theorem d_B13_90 : decode method_4_code 90 = .ok (.aload_n 0, 1) := by decide +kernel
theorem d_B13_91 : decode method_4_code 91 = .ok (.bipush 6, 2) := by decide +kernel
theorem d_B13_93 : decode method_4_code 93 = .ok (.caload, 1) := by decide +kernel
theorem d_B13_94 : decode method_4_code 94 = .ok (.castore, 1) := by decide +kernel
theorem d_B13_95 : decode method_4_code 95 = .ok (.dup, 1) := by decide +kernel
theorem d_B13_96 : decode method_4_code 96 = .ok (.bipush 7, 2) := by decide +kernel
theorem d_B13_98 : decode method_4_code 98 = .ok (.aload_n 0, 1) := by decide +kernel
theorem d_B13_99 : decode method_4_code 99 = .ok (.bipush 7, 2) := by decide +kernel
theorem d_B13_101 : decode method_4_code 101 = .ok (.caload, 1) := by decide +kernel
theorem d_B13_102 : decode method_4_code 102 = .ok (.castore, 1) := by decide +kernel
theorem d_B13_103 : decode method_4_code 103 = .ok (.invokespecial 49, 3) := by decide +kernel
theorem d_B13_106 : decode method_4_code 106 = .ok (.areturn, 1) := by decide +kernel
set_option maxRecDepth 65536 in
set_option maxHeartbeats 40000000 in
theorem own_rmTk_8 (l : Launch) (Z : State) (a0 : Array Value) (hw : ∀ d ∈ tables_1, d.before a0 Z = true) (ws : List Jvm.Cond) (b0 : Addr) (kc : ClassId) (cs : Int32) (x0 x1 x2 x3 x4 x5 x6 x7 x8 x9 x10 x11 : Int32) (h0 : Heap) (n0 : Nat) (Z0 : n0 ≤ h0.size) (V_b0 : Arv Z h0 b0 kc .char (12 : Int32) [.int x0, .int x1, .int x2, .int x3, .int x4, .int x5, .int x6, .int x7, .int x8, .int x9, .int x10, .int x11] (.int 0)) (S_cs : Sta Z h0 "java/lang/String" "COMPACT_STRINGS" "Z" (.int cs)) (hcs : ¬ cs = (0 : Int32)) (l_x0 : ¬ x0 < (0 : Int32)) (u_x0 : ¬ (255 : Int32) < x0) (l_x1 : ¬ x1 < (0 : Int32)) (u_x1 : ¬ (255 : Int32) < x1) (l_x2 : ¬ x2 < (0 : Int32)) (u_x2 : ¬ (255 : Int32) < x2) (l_x3 : ¬ x3 < (0 : Int32)) (u_x3 : ¬ (255 : Int32) < x3) (l_x4 : ¬ x4 < (0 : Int32)) (u_x4 : ¬ (255 : Int32) < x4) (l_x5 : ¬ x5 < (0 : Int32)) (u_x5 : ¬ (255 : Int32) < x5) (l_x6 : ¬ x6 < (0 : Int32)) (u_x6 : ¬ (255 : Int32) < x6) (l_x7 : ¬ x7 < (0 : Int32)) (u_x7 : ¬ (255 : Int32) < x7) (l_x8 : ¬ x8 < (0 : Int32)) (u_x8 : ¬ (255 : Int32) < x8) (l_x9 : ¬ x9 < (0 : Int32)) (u_x9 : ¬ (255 : Int32) < x9) (l_x10 : ¬ x10 < (0 : Int32)) (u_x10 : ¬ (255 : Int32) < x10) (l_x11 : ¬ x11 < (0 : Int32)) (u_x11 : ¬ (255 : Int32) < x11) : own_M l Z y3N method_4_code 2 (some (.object "java/lang/String")) ws ({ frames := 4, cells := 3, slots := 23, locals := 66 } : Room) #[.ref b0, .int 8] h0 (own_QT Z (8 : Int32) [(.int (own_b x0)), (.int (own_b x1)), (.int (own_b x2)), (.int (own_b x3)), (.int (own_b x4)), (.int (own_b x5)), (.int (own_b x6)), (.int (own_b x7))] h0 n0) := by
  refine own_begin (n0 := n0) (f0 := mkF ⟨0, 0⟩ 0 #[rv b0, iv 8] []) (plainFor_of_name own_pn4) (fun m => ef_2_2 m _ _ rfl rfl) ?_
  intro p e s m below meth c s₁ Bd hZ hx hby hml hown hnm X0 e0 N0
  obtain ⟨T1, h1, X1, e1, E1, A1, D1, -, st1⟩ := newO X0 hx hZ hown (wd hw 52 rfl) (wd hw 2 rfl) (wd hw 1 rfl) e0 (g := (mkF m 43 #[rv b0, iv 8] [])) rfl (hb hby d_B13_43) (by decide) (by decide)
  obtain ⟨b1, g1⟩ : ∃ z, z = h0.size := ⟨_, rfl⟩
  rw [← g1] at A1 D1 st1
  have new_b1 : n0 ≤ b1 := Nat.le_trans Z0 (Nat.le_of_eq g1.symm)
  have sz_b1 : h0.size ≤ b1 := Nat.le_trans (Keep.refl h0 []).1 (Nat.le_of_eq g1.symm)
  have K1 := (Keep.refl h0 []).ext E1
  have F_b1_value_1 : Fld Z h1 b1 "java/lang/String" "value" "[B" .null := D1 (Or.inr (wd hw 4 rfl)) (ty := (.array .byte)) (by decide)
  have F_b1_coder_1 : Fld Z h1 b1 "java/lang/String" "coder" "B" (.int 0) := D1 (Or.inr (wd hw 5 rfl)) (ty := .byte) (by decide)
  obtain ⟨T2, h2, k2, X2, e2, E2, A2, st2⟩ := newP X1 hx hZ (wd hw 21 rfl) e1 (g := (mkF m 49 #[rv b0, iv 8] [.int 8, .ref b1, .ref b1])) rfl (hb hby d_B13_49) rfl (by decide) (cap := 8) (by decide) (by decide) (by decide) (by decide)
  obtain ⟨b2, g2⟩ : ∃ z, z = h1.size := ⟨_, rfl⟩
  rw [← g2] at A2 st2
  have new_b2 : n0 ≤ b2 := Nat.le_trans (Nat.le_trans Z0 K1.1) (Nat.le_of_eq g2.symm)
  have sz_b2 : h0.size ≤ b2 := Nat.le_trans K1.1 (Nat.le_of_eq g2.symm)
  have E_b1_2 := A1.ext E2
  have F_b1_value_2 := F_b1_value_1.ext E2
  have F_b1_coder_2 := F_b1_coder_1.ext E2
  have K2 := K1.ext E2
  have V_b2 : Arv Z h2 b2 k2 .char (8 : Int32) [.int 0, .int 0, .int 0, .int 0, .int 0, .int 0, .int 0, .int 0] (.int 0) := (Arv.new A2 (by decide)).pad (pad_rep [] (.int 0) 8)
  obtain ⟨cl3, Ar3, -, Sz3, M3, Hs3, Gs3⟩ := id (V_b0.keep K2 nNl)
  have hin3 := inb_of (j := (0 : Int32)) Sz3 ⟨by decide, by decide⟩
  obtain ⟨cl4, Ar4, q4, Sz4, M4, Hs4, Gs4⟩ := id V_b2
  have hin4 := inb_of (j := (0 : Int32)) Sz4 ⟨by decide, by decide⟩
  obtain ⟨T5, h5, X5, e5, W5, st5⟩ := stC X2 hx hZ e2 Ar4 (j := (0 : Int32)) hin4 (g := (mkF m 56 #[rv b0, iv 8] [.int x0, .int 0, .ref b2, .ref b2, .ref b1, .ref b1])) rfl rfl (hb hby d_B13_56)
  have E_b1_5 := E_b1_2.wr W5
  have F_b1_value_5 := F_b1_value_2.other W5 (Or.inl (nl A1.lt (Nat.le_of_eq g2.symm)))
  have F_b1_coder_5 := F_b1_coder_2.other W5 (Or.inl (nl A1.lt (Nat.le_of_eq g2.symm)))
  have K5 := K2.wr W5 (Or.inr sz_b2)
  have N5 := Fr.snoc X5 N0 new_b2
  have V_b2_5 := Arv.set Ar4 q4 Sz4 M4 Hs4 Gs4 (fits_nar_char _) W5 0 rfl (Nat.le_of_ble_eq_true rfl)
  rw [own_narc l_x0 u_x0] at V_b2_5
  obtain ⟨cl6, Ar6, -, Sz6, M6, Hs6, Gs6⟩ := id (V_b0.keep K5 nNl)
  have hin6 := inb_of (j := (1 : Int32)) Sz6 ⟨by decide, by decide⟩
  obtain ⟨cl7, Ar7, q7, Sz7, M7, Hs7, Gs7⟩ := id V_b2_5
  have hin7 := inb_of (j := (1 : Int32)) Sz7 ⟨by decide, by decide⟩
  obtain ⟨T8, h8, X8, e8, W8, st8⟩ := stC X5 hx hZ e5 Ar7 (j := (1 : Int32)) hin7 (g := (mkF m 62 #[rv b0, iv 8] [.int x1, .int 1, .ref b2, .ref b2, .ref b1, .ref b1])) rfl rfl (hb hby d_B13_62)
  have E_b1_8 := E_b1_5.wr W8
  have F_b1_value_8 := F_b1_value_5.other W8 (Or.inl (nl A1.lt (Nat.le_of_eq g2.symm)))
  have F_b1_coder_8 := F_b1_coder_5.other W8 (Or.inl (nl A1.lt (Nat.le_of_eq g2.symm)))
  have K8 := K5.wr W8 (Or.inr sz_b2)
  have N8 := Fr.snoc X8 N5 new_b2
  have V_b2_8 := Arv.set Ar7 q7 Sz7 M7 Hs7 Gs7 (fits_nar_char _) W8 1 rfl (Nat.le_of_ble_eq_true rfl)
  rw [own_narc l_x1 u_x1] at V_b2_8
  obtain ⟨cl9, Ar9, -, Sz9, M9, Hs9, Gs9⟩ := id (V_b0.keep K8 nNl)
  have hin9 := inb_of (j := (2 : Int32)) Sz9 ⟨by decide, by decide⟩
  obtain ⟨cl10, Ar10, q10, Sz10, M10, Hs10, Gs10⟩ := id V_b2_8
  have hin10 := inb_of (j := (2 : Int32)) Sz10 ⟨by decide, by decide⟩
  obtain ⟨T11, h11, X11, e11, W11, st11⟩ := stC X8 hx hZ e8 Ar10 (j := (2 : Int32)) hin10 (g := (mkF m 68 #[rv b0, iv 8] [.int x2, .int 2, .ref b2, .ref b2, .ref b1, .ref b1])) rfl rfl (hb hby d_B13_68)
  have E_b1_11 := E_b1_8.wr W11
  have F_b1_value_11 := F_b1_value_8.other W11 (Or.inl (nl A1.lt (Nat.le_of_eq g2.symm)))
  have F_b1_coder_11 := F_b1_coder_8.other W11 (Or.inl (nl A1.lt (Nat.le_of_eq g2.symm)))
  have K11 := K8.wr W11 (Or.inr sz_b2)
  have N11 := Fr.snoc X11 N8 new_b2
  have V_b2_11 := Arv.set Ar10 q10 Sz10 M10 Hs10 Gs10 (fits_nar_char _) W11 2 rfl (Nat.le_of_ble_eq_true rfl)
  rw [own_narc l_x2 u_x2] at V_b2_11
  obtain ⟨cl12, Ar12, -, Sz12, M12, Hs12, Gs12⟩ := id (V_b0.keep K11 nNl)
  have hin12 := inb_of (j := (3 : Int32)) Sz12 ⟨by decide, by decide⟩
  obtain ⟨cl13, Ar13, q13, Sz13, M13, Hs13, Gs13⟩ := id V_b2_11
  have hin13 := inb_of (j := (3 : Int32)) Sz13 ⟨by decide, by decide⟩
  obtain ⟨T14, h14, X14, e14, W14, st14⟩ := stC X11 hx hZ e11 Ar13 (j := (3 : Int32)) hin13 (g := (mkF m 74 #[rv b0, iv 8] [.int x3, .int 3, .ref b2, .ref b2, .ref b1, .ref b1])) rfl rfl (hb hby d_B13_74)
  have E_b1_14 := E_b1_11.wr W14
  have F_b1_value_14 := F_b1_value_11.other W14 (Or.inl (nl A1.lt (Nat.le_of_eq g2.symm)))
  have F_b1_coder_14 := F_b1_coder_11.other W14 (Or.inl (nl A1.lt (Nat.le_of_eq g2.symm)))
  have K14 := K11.wr W14 (Or.inr sz_b2)
  have N14 := Fr.snoc X14 N11 new_b2
  have V_b2_14 := Arv.set Ar13 q13 Sz13 M13 Hs13 Gs13 (fits_nar_char _) W14 3 rfl (Nat.le_of_ble_eq_true rfl)
  rw [own_narc l_x3 u_x3] at V_b2_14
  obtain ⟨cl15, Ar15, -, Sz15, M15, Hs15, Gs15⟩ := id (V_b0.keep K14 nNl)
  have hin15 := inb_of (j := (4 : Int32)) Sz15 ⟨by decide, by decide⟩
  obtain ⟨cl16, Ar16, q16, Sz16, M16, Hs16, Gs16⟩ := id V_b2_14
  have hin16 := inb_of (j := (4 : Int32)) Sz16 ⟨by decide, by decide⟩
  obtain ⟨T17, h17, X17, e17, W17, st17⟩ := stC X14 hx hZ e14 Ar16 (j := (4 : Int32)) hin16 (g := (mkF m 80 #[rv b0, iv 8] [.int x4, .int 4, .ref b2, .ref b2, .ref b1, .ref b1])) rfl rfl (hb hby d_B13_80)
  have E_b1_17 := E_b1_14.wr W17
  have F_b1_value_17 := F_b1_value_14.other W17 (Or.inl (nl A1.lt (Nat.le_of_eq g2.symm)))
  have F_b1_coder_17 := F_b1_coder_14.other W17 (Or.inl (nl A1.lt (Nat.le_of_eq g2.symm)))
  have K17 := K14.wr W17 (Or.inr sz_b2)
  have N17 := Fr.snoc X17 N14 new_b2
  have V_b2_17 := Arv.set Ar16 q16 Sz16 M16 Hs16 Gs16 (fits_nar_char _) W17 4 rfl (Nat.le_of_ble_eq_true rfl)
  rw [own_narc l_x4 u_x4] at V_b2_17
  obtain ⟨cl18, Ar18, -, Sz18, M18, Hs18, Gs18⟩ := id (V_b0.keep K17 nNl)
  have hin18 := inb_of (j := (5 : Int32)) Sz18 ⟨by decide, by decide⟩
  obtain ⟨cl19, Ar19, q19, Sz19, M19, Hs19, Gs19⟩ := id V_b2_17
  have hin19 := inb_of (j := (5 : Int32)) Sz19 ⟨by decide, by decide⟩
  obtain ⟨T20, h20, X20, e20, W20, st20⟩ := stC X17 hx hZ e17 Ar19 (j := (5 : Int32)) hin19 (g := (mkF m 86 #[rv b0, iv 8] [.int x5, .int 5, .ref b2, .ref b2, .ref b1, .ref b1])) rfl rfl (hb hby d_B13_86)
  have E_b1_20 := E_b1_17.wr W20
  have F_b1_value_20 := F_b1_value_17.other W20 (Or.inl (nl A1.lt (Nat.le_of_eq g2.symm)))
  have F_b1_coder_20 := F_b1_coder_17.other W20 (Or.inl (nl A1.lt (Nat.le_of_eq g2.symm)))
  have K20 := K17.wr W20 (Or.inr sz_b2)
  have N20 := Fr.snoc X20 N17 new_b2
  have V_b2_20 := Arv.set Ar19 q19 Sz19 M19 Hs19 Gs19 (fits_nar_char _) W20 5 rfl (Nat.le_of_ble_eq_true rfl)
  rw [own_narc l_x5 u_x5] at V_b2_20
  obtain ⟨cl21, Ar21, -, Sz21, M21, Hs21, Gs21⟩ := id (V_b0.keep K20 nNl)
  have hin21 := inb_of (j := (6 : Int32)) Sz21 ⟨by decide, by decide⟩
  obtain ⟨cl22, Ar22, q22, Sz22, M22, Hs22, Gs22⟩ := id V_b2_20
  have hin22 := inb_of (j := (6 : Int32)) Sz22 ⟨by decide, by decide⟩
  obtain ⟨T23, h23, X23, e23, W23, st23⟩ := stC X20 hx hZ e20 Ar22 (j := (6 : Int32)) hin22 (g := (mkF m 94 #[rv b0, iv 8] [.int x6, .int 6, .ref b2, .ref b2, .ref b1, .ref b1])) rfl rfl (hb hby d_B13_94)
  have E_b1_23 := E_b1_20.wr W23
  have F_b1_value_23 := F_b1_value_20.other W23 (Or.inl (nl A1.lt (Nat.le_of_eq g2.symm)))
  have F_b1_coder_23 := F_b1_coder_20.other W23 (Or.inl (nl A1.lt (Nat.le_of_eq g2.symm)))
  have K23 := K20.wr W23 (Or.inr sz_b2)
  have N23 := Fr.snoc X23 N20 new_b2
  have V_b2_23 := Arv.set Ar22 q22 Sz22 M22 Hs22 Gs22 (fits_nar_char _) W23 6 rfl (Nat.le_of_ble_eq_true rfl)
  rw [own_narc l_x6 u_x6] at V_b2_23
  obtain ⟨cl24, Ar24, -, Sz24, M24, Hs24, Gs24⟩ := id (V_b0.keep K23 nNl)
  have hin24 := inb_of (j := (7 : Int32)) Sz24 ⟨by decide, by decide⟩
  obtain ⟨cl25, Ar25, q25, Sz25, M25, Hs25, Gs25⟩ := id V_b2_23
  have hin25 := inb_of (j := (7 : Int32)) Sz25 ⟨by decide, by decide⟩
  obtain ⟨T26, h26, X26, e26, W26, st26⟩ := stC X23 hx hZ e23 Ar25 (j := (7 : Int32)) hin25 (g := (mkF m 102 #[rv b0, iv 8] [.int x7, .int 7, .ref b2, .ref b2, .ref b1, .ref b1])) rfl rfl (hb hby d_B13_102)
  have E_b1_26 := E_b1_23.wr W26
  have F_b1_value_26 := F_b1_value_23.other W26 (Or.inl (nl A1.lt (Nat.le_of_eq g2.symm)))
  have F_b1_coder_26 := F_b1_coder_23.other W26 (Or.inl (nl A1.lt (Nat.le_of_eq g2.symm)))
  have K26 := K23.wr W26 (Or.inr sz_b2)
  have N26 := Fr.snoc X26 N23 new_b2
  have V_b2_26 := Arv.set Ar25 q25 Sz25 M25 Hs25 Gs25 (fits_nar_char _) W26 7 rfl (Nat.le_of_ble_eq_true rfl)
  rw [own_narc l_x7 u_x7] at V_b2_26
  refine own_go (b := T26.setTop (mkF m 103 #[rv b0, iv 8] [.ref b2, .ref b1, .ref b1])) (fun t k => xiloadN X0 hx hby rfl d_B13_0 rfl (xifYes X0 hx hby rfl 1 15 rfl d_B13_1 rfl ((if0 _ _).trans (feq ((by decide) : ¬ ((8 : Int32) = (0 : Int32)))).2) (by decide) (by decide) (xiloadN X0 hx hby rfl d_B13_15 rfl (xiconst X0 hx hby rfl d_B13_16 (xicmpYes X0 hx hby rfl 17 37 rfl d_B13_17 rfl (feq ((by decide) : ¬ ((8 : Int32) = (1 : Int32)))).2 (by decide) (by decide) (xiloadN X0 hx hby rfl d_B13_37 rfl (xbipush X0 hx hby rfl d_B13_38 (xicmpNo X0 hx hby rfl d_B13_40 rfl (teq ((by decide) : (8 : Int32) = (8 : Int32))).2 (st1 _ (xdup X1 hx hby rfl d_B13_46 rfl rfl (xbipush X1 hx hby rfl d_B13_47 (st2 _ (xdup X2 hx hby rfl d_B13_51 rfl rfl (xiconst X2 hx hby rfl d_B13_52 (xaloadN X2 hx hby rfl d_B13_53 rfl rfl (xiconst X2 hx hby rfl d_B13_54 (X2.caload hx (j := (0 : Int32)) (v := (.int x0)) (own_in e2 Ar3.1) (State.isArrayOf_alike hZ.alike Ar3.2.1) Ar3.2.2 hin3 (Has.at Hs3 hin3 rfl) (g := (mkF m 55 #[rv b0, iv 8] [.int 0, .ref b0, .int 0, .ref b2, .ref b2, .ref b1, .ref b1])) rfl rfl (hb hby d_B13_55) _ (st5 _ (xdup X5 hx hby rfl d_B13_57 rfl rfl (xiconst X5 hx hby rfl d_B13_58 (xaloadN X5 hx hby rfl d_B13_59 rfl rfl (xiconst X5 hx hby rfl d_B13_60 (X5.caload hx (j := (1 : Int32)) (v := (.int x1)) (own_in e5 Ar6.1) (State.isArrayOf_alike hZ.alike Ar6.2.1) Ar6.2.2 hin6 (Has.at Hs6 hin6 rfl) (g := (mkF m 61 #[rv b0, iv 8] [.int 1, .ref b0, .int 1, .ref b2, .ref b2, .ref b1, .ref b1])) rfl rfl (hb hby d_B13_61) _ (st8 _ (xdup X8 hx hby rfl d_B13_63 rfl rfl (xiconst X8 hx hby rfl d_B13_64 (xaloadN X8 hx hby rfl d_B13_65 rfl rfl (xiconst X8 hx hby rfl d_B13_66 (X8.caload hx (j := (2 : Int32)) (v := (.int x2)) (own_in e8 Ar9.1) (State.isArrayOf_alike hZ.alike Ar9.2.1) Ar9.2.2 hin9 (Has.at Hs9 hin9 rfl) (g := (mkF m 67 #[rv b0, iv 8] [.int 2, .ref b0, .int 2, .ref b2, .ref b2, .ref b1, .ref b1])) rfl rfl (hb hby d_B13_67) _ (st11 _ (xdup X11 hx hby rfl d_B13_69 rfl rfl (xiconst X11 hx hby rfl d_B13_70 (xaloadN X11 hx hby rfl d_B13_71 rfl rfl (xiconst X11 hx hby rfl d_B13_72 (X11.caload hx (j := (3 : Int32)) (v := (.int x3)) (own_in e11 Ar12.1) (State.isArrayOf_alike hZ.alike Ar12.2.1) Ar12.2.2 hin12 (Has.at Hs12 hin12 rfl) (g := (mkF m 73 #[rv b0, iv 8] [.int 3, .ref b0, .int 3, .ref b2, .ref b2, .ref b1, .ref b1])) rfl rfl (hb hby d_B13_73) _ (st14 _ (xdup X14 hx hby rfl d_B13_75 rfl rfl (xiconst X14 hx hby rfl d_B13_76 (xaloadN X14 hx hby rfl d_B13_77 rfl rfl (xiconst X14 hx hby rfl d_B13_78 (X14.caload hx (j := (4 : Int32)) (v := (.int x4)) (own_in e14 Ar15.1) (State.isArrayOf_alike hZ.alike Ar15.2.1) Ar15.2.2 hin15 (Has.at Hs15 hin15 rfl) (g := (mkF m 79 #[rv b0, iv 8] [.int 4, .ref b0, .int 4, .ref b2, .ref b2, .ref b1, .ref b1])) rfl rfl (hb hby d_B13_79) _ (st17 _ (xdup X17 hx hby rfl d_B13_81 rfl rfl (xiconst X17 hx hby rfl d_B13_82 (xaloadN X17 hx hby rfl d_B13_83 rfl rfl (xiconst X17 hx hby rfl d_B13_84 (X17.caload hx (j := (5 : Int32)) (v := (.int x5)) (own_in e17 Ar18.1) (State.isArrayOf_alike hZ.alike Ar18.2.1) Ar18.2.2 hin18 (Has.at Hs18 hin18 rfl) (g := (mkF m 85 #[rv b0, iv 8] [.int 5, .ref b0, .int 5, .ref b2, .ref b2, .ref b1, .ref b1])) rfl rfl (hb hby d_B13_85) _ (st20 _ (xdup X20 hx hby rfl d_B13_87 rfl rfl (xbipush X20 hx hby rfl d_B13_88 (xaloadN X20 hx hby rfl d_B13_90 rfl rfl (xbipush X20 hx hby rfl d_B13_91 (X20.caload hx (j := (6 : Int32)) (v := (.int x6)) (own_in e20 Ar21.1) (State.isArrayOf_alike hZ.alike Ar21.2.1) Ar21.2.2 hin21 (Has.at Hs21 hin21 rfl) (g := (mkF m 93 #[rv b0, iv 8] [.int 6, .ref b0, .int 6, .ref b2, .ref b2, .ref b1, .ref b1])) rfl rfl (hb hby d_B13_93) _ (st23 _ (xdup X23 hx hby rfl d_B13_95 rfl rfl (xbipush X23 hx hby rfl d_B13_96 (xaloadN X23 hx hby rfl d_B13_98 rfl rfl (xbipush X23 hx hby rfl d_B13_99 (X23.caload hx (j := (7 : Int32)) (v := (.int x7)) (own_in e23 Ar24.1) (State.isArrayOf_alike hZ.alike Ar24.2.1) Ar24.2.2 hin24 (Has.at Hs24 hin24 rfl) (g := (mkF m 101 #[rv b0, iv 8] [.int 7, .ref b0, .int 7, .ref b2, .ref b2, .ref b1, .ref b1])) rfl rfl (hb hby d_B13_101) _ (st26 _ k)))))))))))))))))))))))))))))))))))))))))))))))))))))))))))) ?_
  clear X1 e1 E1 D1 st1 K1 F_b1_value_1 F_b1_coder_1 X2 e2 E2 A2 st2 E_b1_2 F_b1_value_2 F_b1_coder_2 K2 V_b2 Ar3 Sz3 M3 Hs3 Gs3 hin3 Ar4 q4 Sz4 M4 Hs4 Gs4 hin4 X5 e5 W5 st5 E_b1_5 F_b1_value_5 F_b1_coder_5 K5 N5 V_b2_5 Ar6 Sz6 M6 Hs6 Gs6 hin6 Ar7 q7 Sz7 M7 Hs7 Gs7 hin7 X8 e8 W8 st8 E_b1_8 F_b1_value_8 F_b1_coder_8 K8 N8 V_b2_8 Ar9 Sz9 M9 Hs9 Gs9 hin9 Ar10 q10 Sz10 M10 Hs10 Gs10 hin10 X11 e11 W11 st11 E_b1_11 F_b1_value_11 F_b1_coder_11 K11 N11 V_b2_11 Ar12 Sz12 M12 Hs12 Gs12 hin12 Ar13 q13 Sz13 M13 Hs13 Gs13 hin13 X14 e14 W14 st14 E_b1_14 F_b1_value_14 F_b1_coder_14 K14 N14 V_b2_14 Ar15 Sz15 M15 Hs15 Gs15 hin15 Ar16 q16 Sz16 M16 Hs16 Gs16 hin16 X17 e17 W17 st17 E_b1_17 F_b1_value_17 F_b1_coder_17 K17 N17 V_b2_17 Ar18 Sz18 M18 Hs18 Gs18 hin18 Ar19 q19 Sz19 M19 Hs19 Gs19 hin19 X20 e20 W20 st20 E_b1_20 F_b1_value_20 F_b1_coder_20 K20 N20 V_b2_20 Ar21 Sz21 M21 Hs21 Gs21 hin21 Ar22 q22 Sz22 M22 Hs22 Gs22 hin22 X23 e23 W23 st23 E_b1_23 F_b1_value_23 F_b1_coder_23 K23 N23 V_b2_23 Ar24 Sz24 M24 Hs24 Gs24 hin24 q25 Sz25 M25 Hs25 Gs25 hin25 W26 st26
  refine own_ci X26 hx hZ hown hml e26 (wd hw 53 rfl) (wd hw 54 rfl) (wd hw 1 rfl) (wd hw 55 rfl) (own_rmI1 l Z a0 hw [] b1 b2 k2 (8 : Int32) cs x0 x1 x2 x3 x4 x5 x6 x7 (0 : Int32) (0 : Int32) (0 : Int32) h26 n0 (Nat.le_trans Z0 K26.1) E_b1_26 F_b1_value_26 F_b1_coder_26 new_b1 (own_cut (j := (8 : Int32)) V_b2_26 8 rfl (by decide) rfl) (own_staKeep0 S_cs K26) hcs (by decide) (by decide) l_x0 u_x0 l_x1 u_x1 l_x2 u_x2 l_x3 u_x3 l_x4 u_x4 l_x5 u_x5 l_x6 u_x6 l_x7 u_x7 (by decide) (by decide) (by decide) (by decide) (by decide) (by decide) (Ne.symm (nl A1.lt (Nat.le_of_eq g2.symm))) (by decide)) own_pd11 (hb hby d_B13_103) 1 [.ref b1] rfl rfl ⟨rfl, rfl, rfl, rfl, rfl⟩ (by decide) rfl ?_
  rintro T27 L27 v27 X27 hQ27
  obtain ⟨bq27, kq27, rfl, N27q, K27q, B27_0, B27_1, B27_2⟩ := hQ27
  have E_b1_27 := E_b1_26.keep K27q
  have V_b2_27 := V_b2_26.keep K27q (fun q => (Ne.symm (nl A1.lt (Nat.le_of_eq g2.symm))) (List.mem_singleton.mp q))
  have N27 := Fr.app N26 N27q
  have K27 := K26.trans K27q (fun x hx => by cases List.mem_singleton.mp hx; exact Or.inr sz_b1)
  exact own_ret (v := some (.ref b1)) X27 rfl Bd.notSynchronized (nv Bd.returns) (fun fs hr => (retA X27 hx Bd.returns (hb hby d_B13_106) hr)) ⟨b1, bq27, _, rfl, N27, K27, E_b1_27, B27_1, B27_0, own_cut (j := (8 : Int32)) B27_2 8 rfl (by decide) rfl, sz_b1⟩ (by decide)
theorem d_B13_107 : decode method_4_code 107 = .ok (.iload_n 1, 1) := by decide +kernel
theorem d_B13_108 : decode method_4_code 108 = .ok (.bipush 9, 2) := by decide +kernel
theorem d_B13_110 : decode method_4_code 110 = .ok (.if_icmp .ne 75, 3) := by decide +kernel
theorem d_B13_113 : decode method_4_code 113 = .ok (.new 12, 3) := by decide +kernel
theorem d_B13_116 : decode method_4_code 116 = .ok (.dup, 1) := by decide +kernel
theorem d_B13_117 : decode method_4_code 117 = .ok (.bipush 9, 2) := by decide +kernel
theorem d_B13_119 : decode method_4_code 119 = .ok (.newarray .char, 2) := by decide +kernel
theorem d_B13_121 : decode method_4_code 121 = .ok (.dup, 1) := by decide +kernel
theorem d_B13_122 : decode method_4_code 122 = .ok (.iconst 0, 1) := by decide +kernel
theorem d_B13_123 : decode method_4_code 123 = .ok (.aload_n 0, 1) := by decide +kernel
theorem d_B13_124 : decode method_4_code 124 = .ok (.iconst 0, 1) := by decide +kernel
theorem d_B13_125 : decode method_4_code 125 = .ok (.caload, 1) := by decide +kernel
theorem d_B13_126 : decode method_4_code 126 = .ok (.castore, 1) := by decide +kernel
theorem d_B13_127 : decode method_4_code 127 = .ok (.dup, 1) := by decide +kernel
theorem d_B13_128 : decode method_4_code 128 = .ok (.iconst 1, 1) := by decide +kernel
theorem d_B13_129 : decode method_4_code 129 = .ok (.aload_n 0, 1) := by decide +kernel
theorem d_B13_130 : decode method_4_code 130 = .ok (.iconst 1, 1) := by decide +kernel
theorem d_B13_131 : decode method_4_code 131 = .ok (.caload, 1) := by decide +kernel
theorem d_B13_132 : decode method_4_code 132 = .ok (.castore, 1) := by decide +kernel
theorem d_B13_133 : decode method_4_code 133 = .ok (.dup, 1) := by decide +kernel
theorem d_B13_134 : decode method_4_code 134 = .ok (.iconst 2, 1) := by decide +kernel
theorem d_B13_135 : decode method_4_code 135 = .ok (.aload_n 0, 1) := by decide +kernel
theorem d_B13_136 : decode method_4_code 136 = .ok (.iconst 2, 1) := by decide +kernel
theorem d_B13_137 : decode method_4_code 137 = .ok (.caload, 1) := by decide +kernel
theorem d_B13_138 : decode method_4_code 138 = .ok (.castore, 1) := by decide +kernel
theorem d_B13_139 : decode method_4_code 139 = .ok (.dup, 1) := by decide +kernel
theorem d_B13_140 : decode method_4_code 140 = .ok (.iconst 3, 1) := by decide +kernel
theorem d_B13_141 : decode method_4_code 141 = .ok (.aload_n 0, 1) := by decide +kernel
theorem d_B13_142 : decode method_4_code 142 = .ok (.iconst 3, 1) := by decide +kernel
theorem d_B13_143 : decode method_4_code 143 = .ok (.caload, 1) := by decide +kernel
theorem d_B13_144 : decode method_4_code 144 = .ok (.castore, 1) := by decide +kernel
theorem d_B13_145 : decode method_4_code 145 = .ok (.dup, 1) := by decide +kernel
theorem d_B13_146 : decode method_4_code 146 = .ok (.iconst 4, 1) := by decide +kernel
theorem d_B13_147 : decode method_4_code 147 = .ok (.aload_n 0, 1) := by decide +kernel
theorem d_B13_148 : decode method_4_code 148 = .ok (.iconst 4, 1) := by decide +kernel
theorem d_B13_149 : decode method_4_code 149 = .ok (.caload, 1) := by decide +kernel
theorem d_B13_150 : decode method_4_code 150 = .ok (.castore, 1) := by decide +kernel
theorem d_B13_151 : decode method_4_code 151 = .ok (.dup, 1) := by decide +kernel
theorem d_B13_152 : decode method_4_code 152 = .ok (.iconst 5, 1) := by decide +kernel
theorem d_B13_153 : decode method_4_code 153 = .ok (.aload_n 0, 1) := by decide +kernel
theorem d_B13_154 : decode method_4_code 154 = .ok (.iconst 5, 1) := by decide +kernel
theorem d_B13_155 : decode method_4_code 155 = .ok (.caload, 1) := by decide +kernel
theorem d_B13_156 : decode method_4_code 156 = .ok (.castore, 1) := by decide +kernel
theorem d_B13_157 : decode method_4_code 157 = .ok (.dup, 1) := by decide +kernel
theorem d_B13_158 : decode method_4_code 158 = .ok (.bipush 6, 2) := by decide +kernel
theorem d_B13_160 : decode method_4_code 160 = .ok (.aload_n 0, 1) := by decide +kernel
theorem d_B13_161 : decode method_4_code 161 = .ok (.bipush 6, 2) := by decide +kernel
theorem d_B13_163 : decode method_4_code 163 = .ok (.caload, 1) := by decide +kernel
theorem d_B13_164 : decode method_4_code 164 = .ok (.castore, 1) := by decide +kernel
theorem d_B13_165 : decode method_4_code 165 = .ok (.dup, 1) := by decide +kernel
theorem d_B13_166 : decode method_4_code 166 = .ok (.bipush 7, 2) := by decide +kernel
theorem d_B13_168 : decode method_4_code 168 = .ok (.aload_n 0, 1) := by decide +kernel
theorem d_B13_169 : decode method_4_code 169 = .ok (.bipush 7, 2) := by decide +kernel
theorem d_B13_171 : decode method_4_code 171 = .ok (.caload, 1) := by decide +kernel
theorem d_B13_172 : decode method_4_code 172 = .ok (.castore, 1) := by decide +kernel
theorem d_B13_173 : decode method_4_code 173 = .ok (.dup, 1) := by decide +kernel
theorem d_B13_174 : decode method_4_code 174 = .ok (.bipush 8, 2) := by decide +kernel
theorem d_B13_176 : decode method_4_code 176 = .ok (.aload_n 0, 1) := by decide +kernel
theorem d_B13_177 : decode method_4_code 177 = .ok (.bipush 8, 2) := by decide +kernel
theorem d_B13_179 : decode method_4_code 179 = .ok (.caload, 1) := by decide +kernel
theorem d_B13_180 : decode method_4_code 180 = .ok (.castore, 1) := by decide +kernel
theorem d_B13_181 : decode method_4_code 181 = .ok (.invokespecial 49, 3) := by decide +kernel
theorem d_B13_184 : decode method_4_code 184 = .ok (.areturn, 1) := by decide +kernel
set_option maxRecDepth 65536 in
set_option maxHeartbeats 40000000 in
theorem own_rmTk_9 (l : Launch) (Z : State) (a0 : Array Value) (hw : ∀ d ∈ tables_1, d.before a0 Z = true) (ws : List Jvm.Cond) (b0 : Addr) (kc : ClassId) (cs : Int32) (x0 x1 x2 x3 x4 x5 x6 x7 x8 x9 x10 x11 : Int32) (h0 : Heap) (n0 : Nat) (Z0 : n0 ≤ h0.size) (V_b0 : Arv Z h0 b0 kc .char (12 : Int32) [.int x0, .int x1, .int x2, .int x3, .int x4, .int x5, .int x6, .int x7, .int x8, .int x9, .int x10, .int x11] (.int 0)) (S_cs : Sta Z h0 "java/lang/String" "COMPACT_STRINGS" "Z" (.int cs)) (hcs : ¬ cs = (0 : Int32)) (l_x0 : ¬ x0 < (0 : Int32)) (u_x0 : ¬ (255 : Int32) < x0) (l_x1 : ¬ x1 < (0 : Int32)) (u_x1 : ¬ (255 : Int32) < x1) (l_x2 : ¬ x2 < (0 : Int32)) (u_x2 : ¬ (255 : Int32) < x2) (l_x3 : ¬ x3 < (0 : Int32)) (u_x3 : ¬ (255 : Int32) < x3) (l_x4 : ¬ x4 < (0 : Int32)) (u_x4 : ¬ (255 : Int32) < x4) (l_x5 : ¬ x5 < (0 : Int32)) (u_x5 : ¬ (255 : Int32) < x5) (l_x6 : ¬ x6 < (0 : Int32)) (u_x6 : ¬ (255 : Int32) < x6) (l_x7 : ¬ x7 < (0 : Int32)) (u_x7 : ¬ (255 : Int32) < x7) (l_x8 : ¬ x8 < (0 : Int32)) (u_x8 : ¬ (255 : Int32) < x8) (l_x9 : ¬ x9 < (0 : Int32)) (u_x9 : ¬ (255 : Int32) < x9) (l_x10 : ¬ x10 < (0 : Int32)) (u_x10 : ¬ (255 : Int32) < x10) (l_x11 : ¬ x11 < (0 : Int32)) (u_x11 : ¬ (255 : Int32) < x11) : own_M l Z y3N method_4_code 2 (some (.object "java/lang/String")) ws ({ frames := 4, cells := 3, slots := 24, locals := 66 } : Room) #[.ref b0, .int 9] h0 (own_QT Z (9 : Int32) [(.int (own_b x0)), (.int (own_b x1)), (.int (own_b x2)), (.int (own_b x3)), (.int (own_b x4)), (.int (own_b x5)), (.int (own_b x6)), (.int (own_b x7)), (.int (own_b x8))] h0 n0) := by
  refine own_begin (n0 := n0) (f0 := mkF ⟨0, 0⟩ 0 #[rv b0, iv 9] []) (plainFor_of_name own_pn4) (fun m => ef_2_2 m _ _ rfl rfl) ?_
  intro p e s m below meth c s₁ Bd hZ hx hby hml hown hnm X0 e0 N0
  obtain ⟨T1, h1, X1, e1, E1, A1, D1, -, st1⟩ := newO X0 hx hZ hown (wd hw 52 rfl) (wd hw 2 rfl) (wd hw 1 rfl) e0 (g := (mkF m 113 #[rv b0, iv 9] [])) rfl (hb hby d_B13_113) (by decide) (by decide)
  obtain ⟨b1, g1⟩ : ∃ z, z = h0.size := ⟨_, rfl⟩
  rw [← g1] at A1 D1 st1
  have new_b1 : n0 ≤ b1 := Nat.le_trans Z0 (Nat.le_of_eq g1.symm)
  have sz_b1 : h0.size ≤ b1 := Nat.le_trans (Keep.refl h0 []).1 (Nat.le_of_eq g1.symm)
  have K1 := (Keep.refl h0 []).ext E1
  have F_b1_value_1 : Fld Z h1 b1 "java/lang/String" "value" "[B" .null := D1 (Or.inr (wd hw 4 rfl)) (ty := (.array .byte)) (by decide)
  have F_b1_coder_1 : Fld Z h1 b1 "java/lang/String" "coder" "B" (.int 0) := D1 (Or.inr (wd hw 5 rfl)) (ty := .byte) (by decide)
  obtain ⟨T2, h2, k2, X2, e2, E2, A2, st2⟩ := newP X1 hx hZ (wd hw 21 rfl) e1 (g := (mkF m 119 #[rv b0, iv 9] [.int 9, .ref b1, .ref b1])) rfl (hb hby d_B13_119) rfl (by decide) (cap := 9) (by decide) (by decide) (by decide) (by decide)
  obtain ⟨b2, g2⟩ : ∃ z, z = h1.size := ⟨_, rfl⟩
  rw [← g2] at A2 st2
  have new_b2 : n0 ≤ b2 := Nat.le_trans (Nat.le_trans Z0 K1.1) (Nat.le_of_eq g2.symm)
  have sz_b2 : h0.size ≤ b2 := Nat.le_trans K1.1 (Nat.le_of_eq g2.symm)
  have E_b1_2 := A1.ext E2
  have F_b1_value_2 := F_b1_value_1.ext E2
  have F_b1_coder_2 := F_b1_coder_1.ext E2
  have K2 := K1.ext E2
  have V_b2 : Arv Z h2 b2 k2 .char (9 : Int32) [.int 0, .int 0, .int 0, .int 0, .int 0, .int 0, .int 0, .int 0, .int 0] (.int 0) := (Arv.new A2 (by decide)).pad (pad_rep [] (.int 0) 9)
  obtain ⟨cl3, Ar3, -, Sz3, M3, Hs3, Gs3⟩ := id (V_b0.keep K2 nNl)
  have hin3 := inb_of (j := (0 : Int32)) Sz3 ⟨by decide, by decide⟩
  obtain ⟨cl4, Ar4, q4, Sz4, M4, Hs4, Gs4⟩ := id V_b2
  have hin4 := inb_of (j := (0 : Int32)) Sz4 ⟨by decide, by decide⟩
  obtain ⟨T5, h5, X5, e5, W5, st5⟩ := stC X2 hx hZ e2 Ar4 (j := (0 : Int32)) hin4 (g := (mkF m 126 #[rv b0, iv 9] [.int x0, .int 0, .ref b2, .ref b2, .ref b1, .ref b1])) rfl rfl (hb hby d_B13_126)
  have E_b1_5 := E_b1_2.wr W5
  have F_b1_value_5 := F_b1_value_2.other W5 (Or.inl (nl A1.lt (Nat.le_of_eq g2.symm)))
  have F_b1_coder_5 := F_b1_coder_2.other W5 (Or.inl (nl A1.lt (Nat.le_of_eq g2.symm)))
  have K5 := K2.wr W5 (Or.inr sz_b2)
  have N5 := Fr.snoc X5 N0 new_b2
  have V_b2_5 := Arv.set Ar4 q4 Sz4 M4 Hs4 Gs4 (fits_nar_char _) W5 0 rfl (Nat.le_of_ble_eq_true rfl)
  rw [own_narc l_x0 u_x0] at V_b2_5
  obtain ⟨cl6, Ar6, -, Sz6, M6, Hs6, Gs6⟩ := id (V_b0.keep K5 nNl)
  have hin6 := inb_of (j := (1 : Int32)) Sz6 ⟨by decide, by decide⟩
  obtain ⟨cl7, Ar7, q7, Sz7, M7, Hs7, Gs7⟩ := id V_b2_5
  have hin7 := inb_of (j := (1 : Int32)) Sz7 ⟨by decide, by decide⟩
  obtain ⟨T8, h8, X8, e8, W8, st8⟩ := stC X5 hx hZ e5 Ar7 (j := (1 : Int32)) hin7 (g := (mkF m 132 #[rv b0, iv 9] [.int x1, .int 1, .ref b2, .ref b2, .ref b1, .ref b1])) rfl rfl (hb hby d_B13_132)
  have E_b1_8 := E_b1_5.wr W8
  have F_b1_value_8 := F_b1_value_5.other W8 (Or.inl (nl A1.lt (Nat.le_of_eq g2.symm)))
  have F_b1_coder_8 := F_b1_coder_5.other W8 (Or.inl (nl A1.lt (Nat.le_of_eq g2.symm)))
  have K8 := K5.wr W8 (Or.inr sz_b2)
  have N8 := Fr.snoc X8 N5 new_b2
  have V_b2_8 := Arv.set Ar7 q7 Sz7 M7 Hs7 Gs7 (fits_nar_char _) W8 1 rfl (Nat.le_of_ble_eq_true rfl)
  rw [own_narc l_x1 u_x1] at V_b2_8
  obtain ⟨cl9, Ar9, -, Sz9, M9, Hs9, Gs9⟩ := id (V_b0.keep K8 nNl)
  have hin9 := inb_of (j := (2 : Int32)) Sz9 ⟨by decide, by decide⟩
  obtain ⟨cl10, Ar10, q10, Sz10, M10, Hs10, Gs10⟩ := id V_b2_8
  have hin10 := inb_of (j := (2 : Int32)) Sz10 ⟨by decide, by decide⟩
  obtain ⟨T11, h11, X11, e11, W11, st11⟩ := stC X8 hx hZ e8 Ar10 (j := (2 : Int32)) hin10 (g := (mkF m 138 #[rv b0, iv 9] [.int x2, .int 2, .ref b2, .ref b2, .ref b1, .ref b1])) rfl rfl (hb hby d_B13_138)
  have E_b1_11 := E_b1_8.wr W11
  have F_b1_value_11 := F_b1_value_8.other W11 (Or.inl (nl A1.lt (Nat.le_of_eq g2.symm)))
  have F_b1_coder_11 := F_b1_coder_8.other W11 (Or.inl (nl A1.lt (Nat.le_of_eq g2.symm)))
  have K11 := K8.wr W11 (Or.inr sz_b2)
  have N11 := Fr.snoc X11 N8 new_b2
  have V_b2_11 := Arv.set Ar10 q10 Sz10 M10 Hs10 Gs10 (fits_nar_char _) W11 2 rfl (Nat.le_of_ble_eq_true rfl)
  rw [own_narc l_x2 u_x2] at V_b2_11
  obtain ⟨cl12, Ar12, -, Sz12, M12, Hs12, Gs12⟩ := id (V_b0.keep K11 nNl)
  have hin12 := inb_of (j := (3 : Int32)) Sz12 ⟨by decide, by decide⟩
  obtain ⟨cl13, Ar13, q13, Sz13, M13, Hs13, Gs13⟩ := id V_b2_11
  have hin13 := inb_of (j := (3 : Int32)) Sz13 ⟨by decide, by decide⟩
  obtain ⟨T14, h14, X14, e14, W14, st14⟩ := stC X11 hx hZ e11 Ar13 (j := (3 : Int32)) hin13 (g := (mkF m 144 #[rv b0, iv 9] [.int x3, .int 3, .ref b2, .ref b2, .ref b1, .ref b1])) rfl rfl (hb hby d_B13_144)
  have E_b1_14 := E_b1_11.wr W14
  have F_b1_value_14 := F_b1_value_11.other W14 (Or.inl (nl A1.lt (Nat.le_of_eq g2.symm)))
  have F_b1_coder_14 := F_b1_coder_11.other W14 (Or.inl (nl A1.lt (Nat.le_of_eq g2.symm)))
  have K14 := K11.wr W14 (Or.inr sz_b2)
  have N14 := Fr.snoc X14 N11 new_b2
  have V_b2_14 := Arv.set Ar13 q13 Sz13 M13 Hs13 Gs13 (fits_nar_char _) W14 3 rfl (Nat.le_of_ble_eq_true rfl)
  rw [own_narc l_x3 u_x3] at V_b2_14
  obtain ⟨cl15, Ar15, -, Sz15, M15, Hs15, Gs15⟩ := id (V_b0.keep K14 nNl)
  have hin15 := inb_of (j := (4 : Int32)) Sz15 ⟨by decide, by decide⟩
  obtain ⟨cl16, Ar16, q16, Sz16, M16, Hs16, Gs16⟩ := id V_b2_14
  have hin16 := inb_of (j := (4 : Int32)) Sz16 ⟨by decide, by decide⟩
  obtain ⟨T17, h17, X17, e17, W17, st17⟩ := stC X14 hx hZ e14 Ar16 (j := (4 : Int32)) hin16 (g := (mkF m 150 #[rv b0, iv 9] [.int x4, .int 4, .ref b2, .ref b2, .ref b1, .ref b1])) rfl rfl (hb hby d_B13_150)
  have E_b1_17 := E_b1_14.wr W17
  have F_b1_value_17 := F_b1_value_14.other W17 (Or.inl (nl A1.lt (Nat.le_of_eq g2.symm)))
  have F_b1_coder_17 := F_b1_coder_14.other W17 (Or.inl (nl A1.lt (Nat.le_of_eq g2.symm)))
  have K17 := K14.wr W17 (Or.inr sz_b2)
  have N17 := Fr.snoc X17 N14 new_b2
  have V_b2_17 := Arv.set Ar16 q16 Sz16 M16 Hs16 Gs16 (fits_nar_char _) W17 4 rfl (Nat.le_of_ble_eq_true rfl)
  rw [own_narc l_x4 u_x4] at V_b2_17
  obtain ⟨cl18, Ar18, -, Sz18, M18, Hs18, Gs18⟩ := id (V_b0.keep K17 nNl)
  have hin18 := inb_of (j := (5 : Int32)) Sz18 ⟨by decide, by decide⟩
  obtain ⟨cl19, Ar19, q19, Sz19, M19, Hs19, Gs19⟩ := id V_b2_17
  have hin19 := inb_of (j := (5 : Int32)) Sz19 ⟨by decide, by decide⟩
  obtain ⟨T20, h20, X20, e20, W20, st20⟩ := stC X17 hx hZ e17 Ar19 (j := (5 : Int32)) hin19 (g := (mkF m 156 #[rv b0, iv 9] [.int x5, .int 5, .ref b2, .ref b2, .ref b1, .ref b1])) rfl rfl (hb hby d_B13_156)
  have E_b1_20 := E_b1_17.wr W20
  have F_b1_value_20 := F_b1_value_17.other W20 (Or.inl (nl A1.lt (Nat.le_of_eq g2.symm)))
  have F_b1_coder_20 := F_b1_coder_17.other W20 (Or.inl (nl A1.lt (Nat.le_of_eq g2.symm)))
  have K20 := K17.wr W20 (Or.inr sz_b2)
  have N20 := Fr.snoc X20 N17 new_b2
  have V_b2_20 := Arv.set Ar19 q19 Sz19 M19 Hs19 Gs19 (fits_nar_char _) W20 5 rfl (Nat.le_of_ble_eq_true rfl)
  rw [own_narc l_x5 u_x5] at V_b2_20
  obtain ⟨cl21, Ar21, -, Sz21, M21, Hs21, Gs21⟩ := id (V_b0.keep K20 nNl)
  have hin21 := inb_of (j := (6 : Int32)) Sz21 ⟨by decide, by decide⟩
  obtain ⟨cl22, Ar22, q22, Sz22, M22, Hs22, Gs22⟩ := id V_b2_20
  have hin22 := inb_of (j := (6 : Int32)) Sz22 ⟨by decide, by decide⟩
  obtain ⟨T23, h23, X23, e23, W23, st23⟩ := stC X20 hx hZ e20 Ar22 (j := (6 : Int32)) hin22 (g := (mkF m 164 #[rv b0, iv 9] [.int x6, .int 6, .ref b2, .ref b2, .ref b1, .ref b1])) rfl rfl (hb hby d_B13_164)
  have E_b1_23 := E_b1_20.wr W23
  have F_b1_value_23 := F_b1_value_20.other W23 (Or.inl (nl A1.lt (Nat.le_of_eq g2.symm)))
  have F_b1_coder_23 := F_b1_coder_20.other W23 (Or.inl (nl A1.lt (Nat.le_of_eq g2.symm)))
  have K23 := K20.wr W23 (Or.inr sz_b2)
  have N23 := Fr.snoc X23 N20 new_b2
  have V_b2_23 := Arv.set Ar22 q22 Sz22 M22 Hs22 Gs22 (fits_nar_char _) W23 6 rfl (Nat.le_of_ble_eq_true rfl)
  rw [own_narc l_x6 u_x6] at V_b2_23
  obtain ⟨cl24, Ar24, -, Sz24, M24, Hs24, Gs24⟩ := id (V_b0.keep K23 nNl)
  have hin24 := inb_of (j := (7 : Int32)) Sz24 ⟨by decide, by decide⟩
  obtain ⟨cl25, Ar25, q25, Sz25, M25, Hs25, Gs25⟩ := id V_b2_23
  have hin25 := inb_of (j := (7 : Int32)) Sz25 ⟨by decide, by decide⟩
  obtain ⟨T26, h26, X26, e26, W26, st26⟩ := stC X23 hx hZ e23 Ar25 (j := (7 : Int32)) hin25 (g := (mkF m 172 #[rv b0, iv 9] [.int x7, .int 7, .ref b2, .ref b2, .ref b1, .ref b1])) rfl rfl (hb hby d_B13_172)
  have E_b1_26 := E_b1_23.wr W26
  have F_b1_value_26 := F_b1_value_23.other W26 (Or.inl (nl A1.lt (Nat.le_of_eq g2.symm)))
  have F_b1_coder_26 := F_b1_coder_23.other W26 (Or.inl (nl A1.lt (Nat.le_of_eq g2.symm)))
  have K26 := K23.wr W26 (Or.inr sz_b2)
  have N26 := Fr.snoc X26 N23 new_b2
  have V_b2_26 := Arv.set Ar25 q25 Sz25 M25 Hs25 Gs25 (fits_nar_char _) W26 7 rfl (Nat.le_of_ble_eq_true rfl)
  rw [own_narc l_x7 u_x7] at V_b2_26
  obtain ⟨cl27, Ar27, -, Sz27, M27, Hs27, Gs27⟩ := id (V_b0.keep K26 nNl)
  have hin27 := inb_of (j := (8 : Int32)) Sz27 ⟨by decide, by decide⟩
  obtain ⟨cl28, Ar28, q28, Sz28, M28, Hs28, Gs28⟩ := id V_b2_26
  have hin28 := inb_of (j := (8 : Int32)) Sz28 ⟨by decide, by decide⟩
  obtain ⟨T29, h29, X29, e29, W29, st29⟩ := stC X26 hx hZ e26 Ar28 (j := (8 : Int32)) hin28 (g := (mkF m 180 #[rv b0, iv 9] [.int x8, .int 8, .ref b2, .ref b2, .ref b1, .ref b1])) rfl rfl (hb hby d_B13_180)
  have E_b1_29 := E_b1_26.wr W29
  have F_b1_value_29 := F_b1_value_26.other W29 (Or.inl (nl A1.lt (Nat.le_of_eq g2.symm)))
  have F_b1_coder_29 := F_b1_coder_26.other W29 (Or.inl (nl A1.lt (Nat.le_of_eq g2.symm)))
  have K29 := K26.wr W29 (Or.inr sz_b2)
  have N29 := Fr.snoc X29 N26 new_b2
  have V_b2_29 := Arv.set Ar28 q28 Sz28 M28 Hs28 Gs28 (fits_nar_char _) W29 8 rfl (Nat.le_of_ble_eq_true rfl)
  rw [own_narc l_x8 u_x8] at V_b2_29
  refine own_go (b := T29.setTop (mkF m 181 #[rv b0, iv 9] [.ref b2, .ref b1, .ref b1])) (fun t k => xiloadN X0 hx hby rfl d_B13_0 rfl (xifYes X0 hx hby rfl 1 15 rfl d_B13_1 rfl ((if0 _ _).trans (feq ((by decide) : ¬ ((9 : Int32) = (0 : Int32)))).2) (by decide) (by decide) (xiloadN X0 hx hby rfl d_B13_15 rfl (xiconst X0 hx hby rfl d_B13_16 (xicmpYes X0 hx hby rfl 17 37 rfl d_B13_17 rfl (feq ((by decide) : ¬ ((9 : Int32) = (1 : Int32)))).2 (by decide) (by decide) (xiloadN X0 hx hby rfl d_B13_37 rfl (xbipush X0 hx hby rfl d_B13_38 (xicmpYes X0 hx hby rfl 40 107 rfl d_B13_40 rfl (feq ((by decide) : ¬ ((9 : Int32) = (8 : Int32)))).2 (by decide) (by decide) (xiloadN X0 hx hby rfl d_B13_107 rfl (xbipush X0 hx hby rfl d_B13_108 (xicmpNo X0 hx hby rfl d_B13_110 rfl (teq ((by decide) : (9 : Int32) = (9 : Int32))).2 (st1 _ (xdup X1 hx hby rfl d_B13_116 rfl rfl (xbipush X1 hx hby rfl d_B13_117 (st2 _ (xdup X2 hx hby rfl d_B13_121 rfl rfl (xiconst X2 hx hby rfl d_B13_122 (xaloadN X2 hx hby rfl d_B13_123 rfl rfl (xiconst X2 hx hby rfl d_B13_124 (X2.caload hx (j := (0 : Int32)) (v := (.int x0)) (own_in e2 Ar3.1) (State.isArrayOf_alike hZ.alike Ar3.2.1) Ar3.2.2 hin3 (Has.at Hs3 hin3 rfl) (g := (mkF m 125 #[rv b0, iv 9] [.int 0, .ref b0, .int 0, .ref b2, .ref b2, .ref b1, .ref b1])) rfl rfl (hb hby d_B13_125) _ (st5 _ (xdup X5 hx hby rfl d_B13_127 rfl rfl (xiconst X5 hx hby rfl d_B13_128 (xaloadN X5 hx hby rfl d_B13_129 rfl rfl (xiconst X5 hx hby rfl d_B13_130 (X5.caload hx (j := (1 : Int32)) (v := (.int x1)) (own_in e5 Ar6.1) (State.isArrayOf_alike hZ.alike Ar6.2.1) Ar6.2.2 hin6 (Has.at Hs6 hin6 rfl) (g := (mkF m 131 #[rv b0, iv 9] [.int 1, .ref b0, .int 1, .ref b2, .ref b2, .ref b1, .ref b1])) rfl rfl (hb hby d_B13_131) _ (st8 _ (xdup X8 hx hby rfl d_B13_133 rfl rfl (xiconst X8 hx hby rfl d_B13_134 (xaloadN X8 hx hby rfl d_B13_135 rfl rfl (xiconst X8 hx hby rfl d_B13_136 (X8.caload hx (j := (2 : Int32)) (v := (.int x2)) (own_in e8 Ar9.1) (State.isArrayOf_alike hZ.alike Ar9.2.1) Ar9.2.2 hin9 (Has.at Hs9 hin9 rfl) (g := (mkF m 137 #[rv b0, iv 9] [.int 2, .ref b0, .int 2, .ref b2, .ref b2, .ref b1, .ref b1])) rfl rfl (hb hby d_B13_137) _ (st11 _ (xdup X11 hx hby rfl d_B13_139 rfl rfl (xiconst X11 hx hby rfl d_B13_140 (xaloadN X11 hx hby rfl d_B13_141 rfl rfl (xiconst X11 hx hby rfl d_B13_142 (X11.caload hx (j := (3 : Int32)) (v := (.int x3)) (own_in e11 Ar12.1) (State.isArrayOf_alike hZ.alike Ar12.2.1) Ar12.2.2 hin12 (Has.at Hs12 hin12 rfl) (g := (mkF m 143 #[rv b0, iv 9] [.int 3, .ref b0, .int 3, .ref b2, .ref b2, .ref b1, .ref b1])) rfl rfl (hb hby d_B13_143) _ (st14 _ (xdup X14 hx hby rfl d_B13_145 rfl rfl (xiconst X14 hx hby rfl d_B13_146 (xaloadN X14 hx hby rfl d_B13_147 rfl rfl (xiconst X14 hx hby rfl d_B13_148 (X14.caload hx (j := (4 : Int32)) (v := (.int x4)) (own_in e14 Ar15.1) (State.isArrayOf_alike hZ.alike Ar15.2.1) Ar15.2.2 hin15 (Has.at Hs15 hin15 rfl) (g := (mkF m 149 #[rv b0, iv 9] [.int 4, .ref b0, .int 4, .ref b2, .ref b2, .ref b1, .ref b1])) rfl rfl (hb hby d_B13_149) _ (st17 _ (xdup X17 hx hby rfl d_B13_151 rfl rfl (xiconst X17 hx hby rfl d_B13_152 (xaloadN X17 hx hby rfl d_B13_153 rfl rfl (xiconst X17 hx hby rfl d_B13_154 (X17.caload hx (j := (5 : Int32)) (v := (.int x5)) (own_in e17 Ar18.1) (State.isArrayOf_alike hZ.alike Ar18.2.1) Ar18.2.2 hin18 (Has.at Hs18 hin18 rfl) (g := (mkF m 155 #[rv b0, iv 9] [.int 5, .ref b0, .int 5, .ref b2, .ref b2, .ref b1, .ref b1])) rfl rfl (hb hby d_B13_155) _ (st20 _ (xdup X20 hx hby rfl d_B13_157 rfl rfl (xbipush X20 hx hby rfl d_B13_158 (xaloadN X20 hx hby rfl d_B13_160 rfl rfl (xbipush X20 hx hby rfl d_B13_161 (X20.caload hx (j := (6 : Int32)) (v := (.int x6)) (own_in e20 Ar21.1) (State.isArrayOf_alike hZ.alike Ar21.2.1) Ar21.2.2 hin21 (Has.at Hs21 hin21 rfl) (g := (mkF m 163 #[rv b0, iv 9] [.int 6, .ref b0, .int 6, .ref b2, .ref b2, .ref b1, .ref b1])) rfl rfl (hb hby d_B13_163) _ (st23 _ (xdup X23 hx hby rfl d_B13_165 rfl rfl (xbipush X23 hx hby rfl d_B13_166 (xaloadN X23 hx hby rfl d_B13_168 rfl rfl (xbipush X23 hx hby rfl d_B13_169 (X23.caload hx (j := (7 : Int32)) (v := (.int x7)) (own_in e23 Ar24.1) (State.isArrayOf_alike hZ.alike Ar24.2.1) Ar24.2.2 hin24 (Has.at Hs24 hin24 rfl) (g := (mkF m 171 #[rv b0, iv 9] [.int 7, .ref b0, .int 7, .ref b2, .ref b2, .ref b1, .ref b1])) rfl rfl (hb hby d_B13_171) _ (st26 _ (xdup X26 hx hby rfl d_B13_173 rfl rfl (xbipush X26 hx hby rfl d_B13_174 (xaloadN X26 hx hby rfl d_B13_176 rfl rfl (xbipush X26 hx hby rfl d_B13_177 (X26.caload hx (j := (8 : Int32)) (v := (.int x8)) (own_in e26 Ar27.1) (State.isArrayOf_alike hZ.alike Ar27.2.1) Ar27.2.2 hin27 (Has.at Hs27 hin27 rfl) (g := (mkF m 179 #[rv b0, iv 9] [.int 8, .ref b0, .int 8, .ref b2, .ref b2, .ref b1, .ref b1])) rfl rfl (hb hby d_B13_179) _ (st29 _ k))))))))))))))))))))))))))))))))))))))))))))))))))))))))))))))))))))) ?_
  clear X1 e1 E1 D1 st1 K1 F_b1_value_1 F_b1_coder_1 X2 e2 E2 A2 st2 E_b1_2 F_b1_value_2 F_b1_coder_2 K2 V_b2 Ar3 Sz3 M3 Hs3 Gs3 hin3 Ar4 q4 Sz4 M4 Hs4 Gs4 hin4 X5 e5 W5 st5 E_b1_5 F_b1_value_5 F_b1_coder_5 K5 N5 V_b2_5 Ar6 Sz6 M6 Hs6 Gs6 hin6 Ar7 q7 Sz7 M7 Hs7 Gs7 hin7 X8 e8 W8 st8 E_b1_8 F_b1_value_8 F_b1_coder_8 K8 N8 V_b2_8 Ar9 Sz9 M9 Hs9 Gs9 hin9 Ar10 q10 Sz10 M10 Hs10 Gs10 hin10 X11 e11 W11 st11 E_b1_11 F_b1_value_11 F_b1_coder_11 K11 N11 V_b2_11 Ar12 Sz12 M12 Hs12 Gs12 hin12 Ar13 q13 Sz13 M13 Hs13 Gs13 hin13 X14 e14 W14 st14 E_b1_14 F_b1_value_14 F_b1_coder_14 K14 N14 V_b2_14 Ar15 Sz15 M15 Hs15 Gs15 hin15 Ar16 q16 Sz16 M16 Hs16 Gs16 hin16 X17 e17 W17 st17 E_b1_17 F_b1_value_17 F_b1_coder_17 K17 N17 V_b2_17 Ar18 Sz18 M18 Hs18 Gs18 hin18 Ar19 q19 Sz19 M19 Hs19 Gs19 hin19 X20 e20 W20 st20 E_b1_20 F_b1_value_20 F_b1_coder_20 K20 N20 V_b2_20 Ar21 Sz21 M21 Hs21 Gs21 hin21 Ar22 q22 Sz22 M22 Hs22 Gs22 hin22 X23 e23 W23 st23 E_b1_23 F_b1_value_23 F_b1_coder_23 K23 N23 V_b2_23 Ar24 Sz24 M24 Hs24 Gs24 hin24 Ar25 q25 Sz25 M25 Hs25 Gs25 hin25 X26 e26 W26 st26 E_b1_26 F_b1_value_26 F_b1_coder_26 K26 N26 V_b2_26 Ar27 Sz27 M27 Hs27 Gs27 hin27 q28 Sz28 M28 Hs28 Gs28 hin28 W29 st29
  refine own_ci X29 hx hZ hown hml e29 (wd hw 53 rfl) (wd hw 54 rfl) (wd hw 1 rfl) (wd hw 55 rfl) (own_rmI1 l Z a0 hw [] b1 b2 k2 (9 : Int32) cs x0 x1 x2 x3 x4 x5 x6 x7 x8 (0 : Int32) (0 : Int32) h29 n0 (Nat.le_trans Z0 K29.1) E_b1_29 F_b1_value_29 F_b1_coder_29 new_b1 (own_cut (j := (9 : Int32)) V_b2_29 9 rfl (by decide) rfl) (own_staKeep0 S_cs K29) hcs (by decide) (by decide) l_x0 u_x0 l_x1 u_x1 l_x2 u_x2 l_x3 u_x3 l_x4 u_x4 l_x5 u_x5 l_x6 u_x6 l_x7 u_x7 l_x8 u_x8 (by decide) (by decide) (by decide) (by decide) (Ne.symm (nl A1.lt (Nat.le_of_eq g2.symm))) (by decide)) own_pd11 (hb hby d_B13_181) 1 [.ref b1] rfl rfl ⟨rfl, rfl, rfl, rfl, rfl⟩ (by decide) rfl ?_
  rintro T30 L30 v30 X30 hQ30
  obtain ⟨bq30, kq30, rfl, N30q, K30q, B30_0, B30_1, B30_2⟩ := hQ30
  have E_b1_30 := E_b1_29.keep K30q
  have V_b2_30 := V_b2_29.keep K30q (fun q => (Ne.symm (nl A1.lt (Nat.le_of_eq g2.symm))) (List.mem_singleton.mp q))
  have N30 := Fr.app N29 N30q
  have K30 := K29.trans K30q (fun x hx => by cases List.mem_singleton.mp hx; exact Or.inr sz_b1)
  exact own_ret (v := some (.ref b1)) X30 rfl Bd.notSynchronized (nv Bd.returns) (fun fs hr => (retA X30 hx Bd.returns (hb hby d_B13_184) hr)) ⟨b1, bq30, _, rfl, N30, K30, E_b1_30, B30_1, B30_0, own_cut (j := (9 : Int32)) B30_2 9 rfl (by decide) rfl, sz_b1⟩ (by decide)
theorem d_B13_185 : decode method_4_code 185 = .ok (.iload_n 1, 1) := by decide +kernel
theorem d_B13_186 : decode method_4_code 186 = .ok (.bipush 10, 2) := by decide +kernel
theorem d_B13_188 : decode method_4_code 188 = .ok (.if_icmp .ne 83, 3) := by decide +kernel
theorem d_B13_191 : decode method_4_code 191 = .ok (.new 12, 3) := by decide +kernel
theorem d_B13_194 : decode method_4_code 194 = .ok (.dup, 1) := by decide +kernel
theorem d_B13_195 : decode method_4_code 195 = .ok (.bipush 10, 2) := by decide +kernel
theorem d_B13_197 : decode method_4_code 197 = .ok (.newarray .char, 2) := by decide +kernel
theorem d_B13_199 : decode method_4_code 199 = .ok (.dup, 1) := by decide +kernel
theorem d_B13_200 : decode method_4_code 200 = .ok (.iconst 0, 1) := by decide +kernel
theorem d_B13_201 : decode method_4_code 201 = .ok (.aload_n 0, 1) := by decide +kernel
theorem d_B13_202 : decode method_4_code 202 = .ok (.iconst 0, 1) := by decide +kernel
theorem d_B13_203 : decode method_4_code 203 = .ok (.caload, 1) := by decide +kernel
theorem d_B13_204 : decode method_4_code 204 = .ok (.castore, 1) := by decide +kernel
theorem d_B13_205 : decode method_4_code 205 = .ok (.dup, 1) := by decide +kernel
theorem d_B13_206 : decode method_4_code 206 = .ok (.iconst 1, 1) := by decide +kernel
theorem d_B13_207 : decode method_4_code 207 = .ok (.aload_n 0, 1) := by decide +kernel
theorem d_B13_208 : decode method_4_code 208 = .ok (.iconst 1, 1) := by decide +kernel
theorem d_B13_209 : decode method_4_code 209 = .ok (.caload, 1) := by decide +kernel
theorem d_B13_210 : decode method_4_code 210 = .ok (.castore, 1) := by decide +kernel
theorem d_B13_211 : decode method_4_code 211 = .ok (.dup, 1) := by decide +kernel
theorem d_B13_212 : decode method_4_code 212 = .ok (.iconst 2, 1) := by decide +kernel
theorem d_B13_213 : decode method_4_code 213 = .ok (.aload_n 0, 1) := by decide +kernel
theorem d_B13_214 : decode method_4_code 214 = .ok (.iconst 2, 1) := by decide +kernel
theorem d_B13_215 : decode method_4_code 215 = .ok (.caload, 1) := by decide +kernel
theorem d_B13_216 : decode method_4_code 216 = .ok (.castore, 1) := by decide +kernel
theorem d_B13_217 : decode method_4_code 217 = .ok (.dup, 1) := by decide +kernel
theorem d_B13_218 : decode method_4_code 218 = .ok (.iconst 3, 1) := by decide +kernel
theorem d_B13_219 : decode method_4_code 219 = .ok (.aload_n 0, 1) := by decide +kernel
theorem d_B13_220 : decode method_4_code 220 = .ok (.iconst 3, 1) := by decide +kernel
theorem d_B13_221 : decode method_4_code 221 = .ok (.caload, 1) := by decide +kernel
theorem d_B13_222 : decode method_4_code 222 = .ok (.castore, 1) := by decide +kernel
theorem d_B13_223 : decode method_4_code 223 = .ok (.dup, 1) := by decide +kernel
theorem d_B13_224 : decode method_4_code 224 = .ok (.iconst 4, 1) := by decide +kernel
theorem d_B13_225 : decode method_4_code 225 = .ok (.aload_n 0, 1) := by decide +kernel
theorem d_B13_226 : decode method_4_code 226 = .ok (.iconst 4, 1) := by decide +kernel
theorem d_B13_227 : decode method_4_code 227 = .ok (.caload, 1) := by decide +kernel
theorem d_B13_228 : decode method_4_code 228 = .ok (.castore, 1) := by decide +kernel
theorem d_B13_229 : decode method_4_code 229 = .ok (.dup, 1) := by decide +kernel
theorem d_B13_230 : decode method_4_code 230 = .ok (.iconst 5, 1) := by decide +kernel
theorem d_B13_231 : decode method_4_code 231 = .ok (.aload_n 0, 1) := by decide +kernel
theorem d_B13_232 : decode method_4_code 232 = .ok (.iconst 5, 1) := by decide +kernel
theorem d_B13_233 : decode method_4_code 233 = .ok (.caload, 1) := by decide +kernel
theorem d_B13_234 : decode method_4_code 234 = .ok (.castore, 1) := by decide +kernel
theorem d_B13_235 : decode method_4_code 235 = .ok (.dup, 1) := by decide +kernel
theorem d_B13_236 : decode method_4_code 236 = .ok (.bipush 6, 2) := by decide +kernel
theorem d_B13_238 : decode method_4_code 238 = .ok (.aload_n 0, 1) := by decide +kernel
theorem d_B13_239 : decode method_4_code 239 = .ok (.bipush 6, 2) := by decide +kernel
theorem d_B13_241 : decode method_4_code 241 = .ok (.caload, 1) := by decide +kernel
theorem d_B13_242 : decode method_4_code 242 = .ok (.castore, 1) := by decide +kernel
theorem d_B13_243 : decode method_4_code 243 = .ok (.dup, 1) := by decide +kernel
theorem d_B13_244 : decode method_4_code 244 = .ok (.bipush 7, 2) := by decide +kernel
theorem d_B13_246 : decode method_4_code 246 = .ok (.aload_n 0, 1) := by decide +kernel
theorem d_B13_247 : decode method_4_code 247 = .ok (.bipush 7, 2) := by decide +kernel
theorem d_B13_249 : decode method_4_code 249 = .ok (.caload, 1) := by decide +kernel
theorem d_B13_250 : decode method_4_code 250 = .ok (.castore, 1) := by decide +kernel
theorem d_B13_251 : decode method_4_code 251 = .ok (.dup, 1) := by decide +kernel
theorem d_B13_252 : decode method_4_code 252 = .ok (.bipush 8, 2) := by decide +kernel
theorem d_B13_254 : decode method_4_code 254 = .ok (.aload_n 0, 1) := by decide +kernel
theorem d_B13_255 : decode method_4_code 255 = .ok (.bipush 8, 2) := by decide +kernel
theorem d_B13_257 : decode method_4_code 257 = .ok (.caload, 1) := by decide +kernel
theorem d_B13_258 : decode method_4_code 258 = .ok (.castore, 1) := by decide +kernel
theorem d_B13_259 : decode method_4_code 259 = .ok (.dup, 1) := by decide +kernel
theorem d_B13_260 : decode method_4_code 260 = .ok (.bipush 9, 2) := by decide +kernel
theorem d_B13_262 : decode method_4_code 262 = .ok (.aload_n 0, 1) := by decide +kernel
theorem d_B13_263 : decode method_4_code 263 = .ok (.bipush 9, 2) := by decide +kernel
theorem d_B13_265 : decode method_4_code 265 = .ok (.caload, 1) := by decide +kernel
theorem d_B13_266 : decode method_4_code 266 = .ok (.castore, 1) := by decide +kernel
theorem d_B13_267 : decode method_4_code 267 = .ok (.invokespecial 49, 3) := by decide +kernel
theorem d_B13_270 : decode method_4_code 270 = .ok (.areturn, 1) := by decide +kernel
set_option maxRecDepth 65536 in
set_option maxHeartbeats 40000000 in
theorem own_rmTk_10 (l : Launch) (Z : State) (a0 : Array Value) (hw : ∀ d ∈ tables_1, d.before a0 Z = true) (ws : List Jvm.Cond) (b0 : Addr) (kc : ClassId) (cs : Int32) (x0 x1 x2 x3 x4 x5 x6 x7 x8 x9 x10 x11 : Int32) (h0 : Heap) (n0 : Nat) (Z0 : n0 ≤ h0.size) (V_b0 : Arv Z h0 b0 kc .char (12 : Int32) [.int x0, .int x1, .int x2, .int x3, .int x4, .int x5, .int x6, .int x7, .int x8, .int x9, .int x10, .int x11] (.int 0)) (S_cs : Sta Z h0 "java/lang/String" "COMPACT_STRINGS" "Z" (.int cs)) (hcs : ¬ cs = (0 : Int32)) (l_x0 : ¬ x0 < (0 : Int32)) (u_x0 : ¬ (255 : Int32) < x0) (l_x1 : ¬ x1 < (0 : Int32)) (u_x1 : ¬ (255 : Int32) < x1) (l_x2 : ¬ x2 < (0 : Int32)) (u_x2 : ¬ (255 : Int32) < x2) (l_x3 : ¬ x3 < (0 : Int32)) (u_x3 : ¬ (255 : Int32) < x3) (l_x4 : ¬ x4 < (0 : Int32)) (u_x4 : ¬ (255 : Int32) < x4) (l_x5 : ¬ x5 < (0 : Int32)) (u_x5 : ¬ (255 : Int32) < x5) (l_x6 : ¬ x6 < (0 : Int32)) (u_x6 : ¬ (255 : Int32) < x6) (l_x7 : ¬ x7 < (0 : Int32)) (u_x7 : ¬ (255 : Int32) < x7) (l_x8 : ¬ x8 < (0 : Int32)) (u_x8 : ¬ (255 : Int32) < x8) (l_x9 : ¬ x9 < (0 : Int32)) (u_x9 : ¬ (255 : Int32) < x9) (l_x10 : ¬ x10 < (0 : Int32)) (u_x10 : ¬ (255 : Int32) < x10) (l_x11 : ¬ x11 < (0 : Int32)) (u_x11 : ¬ (255 : Int32) < x11) : own_M l Z y3N method_4_code 2 (some (.object "java/lang/String")) ws ({ frames := 4, cells := 3, slots := 25, locals := 66 } : Room) #[.ref b0, .int 10] h0 (own_QT Z (10 : Int32) [(.int (own_b x0)), (.int (own_b x1)), (.int (own_b x2)), (.int (own_b x3)), (.int (own_b x4)), (.int (own_b x5)), (.int (own_b x6)), (.int (own_b x7)), (.int (own_b x8)), (.int (own_b x9))] h0 n0) := by
  refine own_begin (n0 := n0) (f0 := mkF ⟨0, 0⟩ 0 #[rv b0, iv 10] []) (plainFor_of_name own_pn4) (fun m => ef_2_2 m _ _ rfl rfl) ?_
  intro p e s m below meth c s₁ Bd hZ hx hby hml hown hnm X0 e0 N0
  obtain ⟨T1, h1, X1, e1, E1, A1, D1, -, st1⟩ := newO X0 hx hZ hown (wd hw 52 rfl) (wd hw 2 rfl) (wd hw 1 rfl) e0 (g := (mkF m 191 #[rv b0, iv 10] [])) rfl (hb hby d_B13_191) (by decide) (by decide)
  obtain ⟨b1, g1⟩ : ∃ z, z = h0.size := ⟨_, rfl⟩
  rw [← g1] at A1 D1 st1
  have new_b1 : n0 ≤ b1 := Nat.le_trans Z0 (Nat.le_of_eq g1.symm)
  have sz_b1 : h0.size ≤ b1 := Nat.le_trans (Keep.refl h0 []).1 (Nat.le_of_eq g1.symm)
  have K1 := (Keep.refl h0 []).ext E1
  have F_b1_value_1 : Fld Z h1 b1 "java/lang/String" "value" "[B" .null := D1 (Or.inr (wd hw 4 rfl)) (ty := (.array .byte)) (by decide)
  have F_b1_coder_1 : Fld Z h1 b1 "java/lang/String" "coder" "B" (.int 0) := D1 (Or.inr (wd hw 5 rfl)) (ty := .byte) (by decide)
  obtain ⟨T2, h2, k2, X2, e2, E2, A2, st2⟩ := newP X1 hx hZ (wd hw 21 rfl) e1 (g := (mkF m 197 #[rv b0, iv 10] [.int 10, .ref b1, .ref b1])) rfl (hb hby d_B13_197) rfl (by decide) (cap := 10) (by decide) (by decide) (by decide) (by decide)
  obtain ⟨b2, g2⟩ : ∃ z, z = h1.size := ⟨_, rfl⟩
  rw [← g2] at A2 st2
  have new_b2 : n0 ≤ b2 := Nat.le_trans (Nat.le_trans Z0 K1.1) (Nat.le_of_eq g2.symm)
  have sz_b2 : h0.size ≤ b2 := Nat.le_trans K1.1 (Nat.le_of_eq g2.symm)
  have E_b1_2 := A1.ext E2
  have F_b1_value_2 := F_b1_value_1.ext E2
  have F_b1_coder_2 := F_b1_coder_1.ext E2
  have K2 := K1.ext E2
  have V_b2 : Arv Z h2 b2 k2 .char (10 : Int32) [.int 0, .int 0, .int 0, .int 0, .int 0, .int 0, .int 0, .int 0, .int 0, .int 0] (.int 0) := (Arv.new A2 (by decide)).pad (pad_rep [] (.int 0) 10)
  obtain ⟨cl3, Ar3, -, Sz3, M3, Hs3, Gs3⟩ := id (V_b0.keep K2 nNl)
  have hin3 := inb_of (j := (0 : Int32)) Sz3 ⟨by decide, by decide⟩
  obtain ⟨cl4, Ar4, q4, Sz4, M4, Hs4, Gs4⟩ := id V_b2
  have hin4 := inb_of (j := (0 : Int32)) Sz4 ⟨by decide, by decide⟩
  obtain ⟨T5, h5, X5, e5, W5, st5⟩ := stC X2 hx hZ e2 Ar4 (j := (0 : Int32)) hin4 (g := (mkF m 204 #[rv b0, iv 10] [.int x0, .int 0, .ref b2, .ref b2, .ref b1, .ref b1])) rfl rfl (hb hby d_B13_204)
  have E_b1_5 := E_b1_2.wr W5
  have F_b1_value_5 := F_b1_value_2.other W5 (Or.inl (nl A1.lt (Nat.le_of_eq g2.symm)))
  have F_b1_coder_5 := F_b1_coder_2.other W5 (Or.inl (nl A1.lt (Nat.le_of_eq g2.symm)))
  have K5 := K2.wr W5 (Or.inr sz_b2)
  have N5 := Fr.snoc X5 N0 new_b2
  have V_b2_5 := Arv.set Ar4 q4 Sz4 M4 Hs4 Gs4 (fits_nar_char _) W5 0 rfl (Nat.le_of_ble_eq_true rfl)
  rw [own_narc l_x0 u_x0] at V_b2_5
  obtain ⟨cl6, Ar6, -, Sz6, M6, Hs6, Gs6⟩ := id (V_b0.keep K5 nNl)
  have hin6 := inb_of (j := (1 : Int32)) Sz6 ⟨by decide, by decide⟩
  obtain ⟨cl7, Ar7, q7, Sz7, M7, Hs7, Gs7⟩ := id V_b2_5
  have hin7 := inb_of (j := (1 : Int32)) Sz7 ⟨by decide, by decide⟩
  obtain ⟨T8, h8, X8, e8, W8, st8⟩ := stC X5 hx hZ e5 Ar7 (j := (1 : Int32)) hin7 (g := (mkF m 210 #[rv b0, iv 10] [.int x1, .int 1, .ref b2, .ref b2, .ref b1, .ref b1])) rfl rfl (hb hby d_B13_210)
  have E_b1_8 := E_b1_5.wr W8
  have F_b1_value_8 := F_b1_value_5.other W8 (Or.inl (nl A1.lt (Nat.le_of_eq g2.symm)))
  have F_b1_coder_8 := F_b1_coder_5.other W8 (Or.inl (nl A1.lt (Nat.le_of_eq g2.symm)))
  have K8 := K5.wr W8 (Or.inr sz_b2)
  have N8 := Fr.snoc X8 N5 new_b2
  have V_b2_8 := Arv.set Ar7 q7 Sz7 M7 Hs7 Gs7 (fits_nar_char _) W8 1 rfl (Nat.le_of_ble_eq_true rfl)
  rw [own_narc l_x1 u_x1] at V_b2_8
  obtain ⟨cl9, Ar9, -, Sz9, M9, Hs9, Gs9⟩ := id (V_b0.keep K8 nNl)
  have hin9 := inb_of (j := (2 : Int32)) Sz9 ⟨by decide, by decide⟩
  obtain ⟨cl10, Ar10, q10, Sz10, M10, Hs10, Gs10⟩ := id V_b2_8
  have hin10 := inb_of (j := (2 : Int32)) Sz10 ⟨by decide, by decide⟩
  obtain ⟨T11, h11, X11, e11, W11, st11⟩ := stC X8 hx hZ e8 Ar10 (j := (2 : Int32)) hin10 (g := (mkF m 216 #[rv b0, iv 10] [.int x2, .int 2, .ref b2, .ref b2, .ref b1, .ref b1])) rfl rfl (hb hby d_B13_216)
  have E_b1_11 := E_b1_8.wr W11
  have F_b1_value_11 := F_b1_value_8.other W11 (Or.inl (nl A1.lt (Nat.le_of_eq g2.symm)))
  have F_b1_coder_11 := F_b1_coder_8.other W11 (Or.inl (nl A1.lt (Nat.le_of_eq g2.symm)))
  have K11 := K8.wr W11 (Or.inr sz_b2)
  have N11 := Fr.snoc X11 N8 new_b2
  have V_b2_11 := Arv.set Ar10 q10 Sz10 M10 Hs10 Gs10 (fits_nar_char _) W11 2 rfl (Nat.le_of_ble_eq_true rfl)
  rw [own_narc l_x2 u_x2] at V_b2_11
  obtain ⟨cl12, Ar12, -, Sz12, M12, Hs12, Gs12⟩ := id (V_b0.keep K11 nNl)
  have hin12 := inb_of (j := (3 : Int32)) Sz12 ⟨by decide, by decide⟩
  obtain ⟨cl13, Ar13, q13, Sz13, M13, Hs13, Gs13⟩ := id V_b2_11
  have hin13 := inb_of (j := (3 : Int32)) Sz13 ⟨by decide, by decide⟩
  obtain ⟨T14, h14, X14, e14, W14, st14⟩ := stC X11 hx hZ e11 Ar13 (j := (3 : Int32)) hin13 (g := (mkF m 222 #[rv b0, iv 10] [.int x3, .int 3, .ref b2, .ref b2, .ref b1, .ref b1])) rfl rfl (hb hby d_B13_222)
  have E_b1_14 := E_b1_11.wr W14
  have F_b1_value_14 := F_b1_value_11.other W14 (Or.inl (nl A1.lt (Nat.le_of_eq g2.symm)))
  have F_b1_coder_14 := F_b1_coder_11.other W14 (Or.inl (nl A1.lt (Nat.le_of_eq g2.symm)))
  have K14 := K11.wr W14 (Or.inr sz_b2)
  have N14 := Fr.snoc X14 N11 new_b2
  have V_b2_14 := Arv.set Ar13 q13 Sz13 M13 Hs13 Gs13 (fits_nar_char _) W14 3 rfl (Nat.le_of_ble_eq_true rfl)
  rw [own_narc l_x3 u_x3] at V_b2_14
  obtain ⟨cl15, Ar15, -, Sz15, M15, Hs15, Gs15⟩ := id (V_b0.keep K14 nNl)
  have hin15 := inb_of (j := (4 : Int32)) Sz15 ⟨by decide, by decide⟩
  obtain ⟨cl16, Ar16, q16, Sz16, M16, Hs16, Gs16⟩ := id V_b2_14
  have hin16 := inb_of (j := (4 : Int32)) Sz16 ⟨by decide, by decide⟩
  obtain ⟨T17, h17, X17, e17, W17, st17⟩ := stC X14 hx hZ e14 Ar16 (j := (4 : Int32)) hin16 (g := (mkF m 228 #[rv b0, iv 10] [.int x4, .int 4, .ref b2, .ref b2, .ref b1, .ref b1])) rfl rfl (hb hby d_B13_228)
  have E_b1_17 := E_b1_14.wr W17
  have F_b1_value_17 := F_b1_value_14.other W17 (Or.inl (nl A1.lt (Nat.le_of_eq g2.symm)))
  have F_b1_coder_17 := F_b1_coder_14.other W17 (Or.inl (nl A1.lt (Nat.le_of_eq g2.symm)))
  have K17 := K14.wr W17 (Or.inr sz_b2)
  have N17 := Fr.snoc X17 N14 new_b2
  have V_b2_17 := Arv.set Ar16 q16 Sz16 M16 Hs16 Gs16 (fits_nar_char _) W17 4 rfl (Nat.le_of_ble_eq_true rfl)
  rw [own_narc l_x4 u_x4] at V_b2_17
  obtain ⟨cl18, Ar18, -, Sz18, M18, Hs18, Gs18⟩ := id (V_b0.keep K17 nNl)
  have hin18 := inb_of (j := (5 : Int32)) Sz18 ⟨by decide, by decide⟩
  obtain ⟨cl19, Ar19, q19, Sz19, M19, Hs19, Gs19⟩ := id V_b2_17
  have hin19 := inb_of (j := (5 : Int32)) Sz19 ⟨by decide, by decide⟩
  obtain ⟨T20, h20, X20, e20, W20, st20⟩ := stC X17 hx hZ e17 Ar19 (j := (5 : Int32)) hin19 (g := (mkF m 234 #[rv b0, iv 10] [.int x5, .int 5, .ref b2, .ref b2, .ref b1, .ref b1])) rfl rfl (hb hby d_B13_234)
  have E_b1_20 := E_b1_17.wr W20
  have F_b1_value_20 := F_b1_value_17.other W20 (Or.inl (nl A1.lt (Nat.le_of_eq g2.symm)))
  have F_b1_coder_20 := F_b1_coder_17.other W20 (Or.inl (nl A1.lt (Nat.le_of_eq g2.symm)))
  have K20 := K17.wr W20 (Or.inr sz_b2)
  have N20 := Fr.snoc X20 N17 new_b2
  have V_b2_20 := Arv.set Ar19 q19 Sz19 M19 Hs19 Gs19 (fits_nar_char _) W20 5 rfl (Nat.le_of_ble_eq_true rfl)
  rw [own_narc l_x5 u_x5] at V_b2_20
  obtain ⟨cl21, Ar21, -, Sz21, M21, Hs21, Gs21⟩ := id (V_b0.keep K20 nNl)
  have hin21 := inb_of (j := (6 : Int32)) Sz21 ⟨by decide, by decide⟩
  obtain ⟨cl22, Ar22, q22, Sz22, M22, Hs22, Gs22⟩ := id V_b2_20
  have hin22 := inb_of (j := (6 : Int32)) Sz22 ⟨by decide, by decide⟩
  obtain ⟨T23, h23, X23, e23, W23, st23⟩ := stC X20 hx hZ e20 Ar22 (j := (6 : Int32)) hin22 (g := (mkF m 242 #[rv b0, iv 10] [.int x6, .int 6, .ref b2, .ref b2, .ref b1, .ref b1])) rfl rfl (hb hby d_B13_242)
  have E_b1_23 := E_b1_20.wr W23
  have F_b1_value_23 := F_b1_value_20.other W23 (Or.inl (nl A1.lt (Nat.le_of_eq g2.symm)))
  have F_b1_coder_23 := F_b1_coder_20.other W23 (Or.inl (nl A1.lt (Nat.le_of_eq g2.symm)))
  have K23 := K20.wr W23 (Or.inr sz_b2)
  have N23 := Fr.snoc X23 N20 new_b2
  have V_b2_23 := Arv.set Ar22 q22 Sz22 M22 Hs22 Gs22 (fits_nar_char _) W23 6 rfl (Nat.le_of_ble_eq_true rfl)
  rw [own_narc l_x6 u_x6] at V_b2_23
  obtain ⟨cl24, Ar24, -, Sz24, M24, Hs24, Gs24⟩ := id (V_b0.keep K23 nNl)
  have hin24 := inb_of (j := (7 : Int32)) Sz24 ⟨by decide, by decide⟩
  obtain ⟨cl25, Ar25, q25, Sz25, M25, Hs25, Gs25⟩ := id V_b2_23
  have hin25 := inb_of (j := (7 : Int32)) Sz25 ⟨by decide, by decide⟩
  obtain ⟨T26, h26, X26, e26, W26, st26⟩ := stC X23 hx hZ e23 Ar25 (j := (7 : Int32)) hin25 (g := (mkF m 250 #[rv b0, iv 10] [.int x7, .int 7, .ref b2, .ref b2, .ref b1, .ref b1])) rfl rfl (hb hby d_B13_250)
  have E_b1_26 := E_b1_23.wr W26
  have F_b1_value_26 := F_b1_value_23.other W26 (Or.inl (nl A1.lt (Nat.le_of_eq g2.symm)))
  have F_b1_coder_26 := F_b1_coder_23.other W26 (Or.inl (nl A1.lt (Nat.le_of_eq g2.symm)))
  have K26 := K23.wr W26 (Or.inr sz_b2)
  have N26 := Fr.snoc X26 N23 new_b2
  have V_b2_26 := Arv.set Ar25 q25 Sz25 M25 Hs25 Gs25 (fits_nar_char _) W26 7 rfl (Nat.le_of_ble_eq_true rfl)
  rw [own_narc l_x7 u_x7] at V_b2_26
  obtain ⟨cl27, Ar27, -, Sz27, M27, Hs27, Gs27⟩ := id (V_b0.keep K26 nNl)
  have hin27 := inb_of (j := (8 : Int32)) Sz27 ⟨by decide, by decide⟩
  obtain ⟨cl28, Ar28, q28, Sz28, M28, Hs28, Gs28⟩ := id V_b2_26
  have hin28 := inb_of (j := (8 : Int32)) Sz28 ⟨by decide, by decide⟩
  obtain ⟨T29, h29, X29, e29, W29, st29⟩ := stC X26 hx hZ e26 Ar28 (j := (8 : Int32)) hin28 (g := (mkF m 258 #[rv b0, iv 10] [.int x8, .int 8, .ref b2, .ref b2, .ref b1, .ref b1])) rfl rfl (hb hby d_B13_258)
  have E_b1_29 := E_b1_26.wr W29
  have F_b1_value_29 := F_b1_value_26.other W29 (Or.inl (nl A1.lt (Nat.le_of_eq g2.symm)))
  have F_b1_coder_29 := F_b1_coder_26.other W29 (Or.inl (nl A1.lt (Nat.le_of_eq g2.symm)))
  have K29 := K26.wr W29 (Or.inr sz_b2)
  have N29 := Fr.snoc X29 N26 new_b2
  have V_b2_29 := Arv.set Ar28 q28 Sz28 M28 Hs28 Gs28 (fits_nar_char _) W29 8 rfl (Nat.le_of_ble_eq_true rfl)
  rw [own_narc l_x8 u_x8] at V_b2_29
  obtain ⟨cl30, Ar30, -, Sz30, M30, Hs30, Gs30⟩ := id (V_b0.keep K29 nNl)
  have hin30 := inb_of (j := (9 : Int32)) Sz30 ⟨by decide, by decide⟩
  obtain ⟨cl31, Ar31, q31, Sz31, M31, Hs31, Gs31⟩ := id V_b2_29
  have hin31 := inb_of (j := (9 : Int32)) Sz31 ⟨by decide, by decide⟩
  obtain ⟨T32, h32, X32, e32, W32, st32⟩ := stC X29 hx hZ e29 Ar31 (j := (9 : Int32)) hin31 (g := (mkF m 266 #[rv b0, iv 10] [.int x9, .int 9, .ref b2, .ref b2, .ref b1, .ref b1])) rfl rfl (hb hby d_B13_266)
  have E_b1_32 := E_b1_29.wr W32
  have F_b1_value_32 := F_b1_value_29.other W32 (Or.inl (nl A1.lt (Nat.le_of_eq g2.symm)))
  have F_b1_coder_32 := F_b1_coder_29.other W32 (Or.inl (nl A1.lt (Nat.le_of_eq g2.symm)))
  have K32 := K29.wr W32 (Or.inr sz_b2)
  have N32 := Fr.snoc X32 N29 new_b2
  have V_b2_32 := Arv.set Ar31 q31 Sz31 M31 Hs31 Gs31 (fits_nar_char _) W32 9 rfl (Nat.le_of_ble_eq_true rfl)
  rw [own_narc l_x9 u_x9] at V_b2_32
  refine own_go (b := T32.setTop (mkF m 267 #[rv b0, iv 10] [.ref b2, .ref b1, .ref b1])) (fun t k => xiloadN X0 hx hby rfl d_B13_0 rfl (xifYes X0 hx hby rfl 1 15 rfl d_B13_1 rfl ((if0 _ _).trans (feq ((by decide) : ¬ ((10 : Int32) = (0 : Int32)))).2) (by decide) (by decide) (xiloadN X0 hx hby rfl d_B13_15 rfl (xiconst X0 hx hby rfl d_B13_16 (xicmpYes X0 hx hby rfl 17 37 rfl d_B13_17 rfl (feq ((by decide) : ¬ ((10 : Int32) = (1 : Int32)))).2 (by decide) (by decide) (xiloadN X0 hx hby rfl d_B13_37 rfl (xbipush X0 hx hby rfl d_B13_38 (xicmpYes X0 hx hby rfl 40 107 rfl d_B13_40 rfl (feq ((by decide) : ¬ ((10 : Int32) = (8 : Int32)))).2 (by decide) (by decide) (xiloadN X0 hx hby rfl d_B13_107 rfl (xbipush X0 hx hby rfl d_B13_108 (xicmpYes X0 hx hby rfl 110 185 rfl d_B13_110 rfl (feq ((by decide) : ¬ ((10 : Int32) = (9 : Int32)))).2 (by decide) (by decide) (xiloadN X0 hx hby rfl d_B13_185 rfl (xbipush X0 hx hby rfl d_B13_186 (xicmpNo X0 hx hby rfl d_B13_188 rfl (teq ((by decide) : (10 : Int32) = (10 : Int32))).2 (st1 _ (xdup X1 hx hby rfl d_B13_194 rfl rfl (xbipush X1 hx hby rfl d_B13_195 (st2 _ (xdup X2 hx hby rfl d_B13_199 rfl rfl (xiconst X2 hx hby rfl d_B13_200 (xaloadN X2 hx hby rfl d_B13_201 rfl rfl (xiconst X2 hx hby rfl d_B13_202 (X2.caload hx (j := (0 : Int32)) (v := (.int x0)) (own_in e2 Ar3.1) (State.isArrayOf_alike hZ.alike Ar3.2.1) Ar3.2.2 hin3 (Has.at Hs3 hin3 rfl) (g := (mkF m 203 #[rv b0, iv 10] [.int 0, .ref b0, .int 0, .ref b2, .ref b2, .ref b1, .ref b1])) rfl rfl (hb hby d_B13_203) _ (st5 _ (xdup X5 hx hby rfl d_B13_205 rfl rfl (xiconst X5 hx hby rfl d_B13_206 (xaloadN X5 hx hby rfl d_B13_207 rfl rfl (xiconst X5 hx hby rfl d_B13_208 (X5.caload hx (j := (1 : Int32)) (v := (.int x1)) (own_in e5 Ar6.1) (State.isArrayOf_alike hZ.alike Ar6.2.1) Ar6.2.2 hin6 (Has.at Hs6 hin6 rfl) (g := (mkF m 209 #[rv b0, iv 10] [.int 1, .ref b0, .int 1, .ref b2, .ref b2, .ref b1, .ref b1])) rfl rfl (hb hby d_B13_209) _ (st8 _ (xdup X8 hx hby rfl d_B13_211 rfl rfl (xiconst X8 hx hby rfl d_B13_212 (xaloadN X8 hx hby rfl d_B13_213 rfl rfl (xiconst X8 hx hby rfl d_B13_214 (X8.caload hx (j := (2 : Int32)) (v := (.int x2)) (own_in e8 Ar9.1) (State.isArrayOf_alike hZ.alike Ar9.2.1) Ar9.2.2 hin9 (Has.at Hs9 hin9 rfl) (g := (mkF m 215 #[rv b0, iv 10] [.int 2, .ref b0, .int 2, .ref b2, .ref b2, .ref b1, .ref b1])) rfl rfl (hb hby d_B13_215) _ (st11 _ (xdup X11 hx hby rfl d_B13_217 rfl rfl (xiconst X11 hx hby rfl d_B13_218 (xaloadN X11 hx hby rfl d_B13_219 rfl rfl (xiconst X11 hx hby rfl d_B13_220 (X11.caload hx (j := (3 : Int32)) (v := (.int x3)) (own_in e11 Ar12.1) (State.isArrayOf_alike hZ.alike Ar12.2.1) Ar12.2.2 hin12 (Has.at Hs12 hin12 rfl) (g := (mkF m 221 #[rv b0, iv 10] [.int 3, .ref b0, .int 3, .ref b2, .ref b2, .ref b1, .ref b1])) rfl rfl (hb hby d_B13_221) _ (st14 _ (xdup X14 hx hby rfl d_B13_223 rfl rfl (xiconst X14 hx hby rfl d_B13_224 (xaloadN X14 hx hby rfl d_B13_225 rfl rfl (xiconst X14 hx hby rfl d_B13_226 (X14.caload hx (j := (4 : Int32)) (v := (.int x4)) (own_in e14 Ar15.1) (State.isArrayOf_alike hZ.alike Ar15.2.1) Ar15.2.2 hin15 (Has.at Hs15 hin15 rfl) (g := (mkF m 227 #[rv b0, iv 10] [.int 4, .ref b0, .int 4, .ref b2, .ref b2, .ref b1, .ref b1])) rfl rfl (hb hby d_B13_227) _ (st17 _ (xdup X17 hx hby rfl d_B13_229 rfl rfl (xiconst X17 hx hby rfl d_B13_230 (xaloadN X17 hx hby rfl d_B13_231 rfl rfl (xiconst X17 hx hby rfl d_B13_232 (X17.caload hx (j := (5 : Int32)) (v := (.int x5)) (own_in e17 Ar18.1) (State.isArrayOf_alike hZ.alike Ar18.2.1) Ar18.2.2 hin18 (Has.at Hs18 hin18 rfl) (g := (mkF m 233 #[rv b0, iv 10] [.int 5, .ref b0, .int 5, .ref b2, .ref b2, .ref b1, .ref b1])) rfl rfl (hb hby d_B13_233) _ (st20 _ (xdup X20 hx hby rfl d_B13_235 rfl rfl (xbipush X20 hx hby rfl d_B13_236 (xaloadN X20 hx hby rfl d_B13_238 rfl rfl (xbipush X20 hx hby rfl d_B13_239 (X20.caload hx (j := (6 : Int32)) (v := (.int x6)) (own_in e20 Ar21.1) (State.isArrayOf_alike hZ.alike Ar21.2.1) Ar21.2.2 hin21 (Has.at Hs21 hin21 rfl) (g := (mkF m 241 #[rv b0, iv 10] [.int 6, .ref b0, .int 6, .ref b2, .ref b2, .ref b1, .ref b1])) rfl rfl (hb hby d_B13_241) _ (st23 _ (xdup X23 hx hby rfl d_B13_243 rfl rfl (xbipush X23 hx hby rfl d_B13_244 (xaloadN X23 hx hby rfl d_B13_246 rfl rfl (xbipush X23 hx hby rfl d_B13_247 (X23.caload hx (j := (7 : Int32)) (v := (.int x7)) (own_in e23 Ar24.1) (State.isArrayOf_alike hZ.alike Ar24.2.1) Ar24.2.2 hin24 (Has.at Hs24 hin24 rfl) (g := (mkF m 249 #[rv b0, iv 10] [.int 7, .ref b0, .int 7, .ref b2, .ref b2, .ref b1, .ref b1])) rfl rfl (hb hby d_B13_249) _ (st26 _ (xdup X26 hx hby rfl d_B13_251 rfl rfl (xbipush X26 hx hby rfl d_B13_252 (xaloadN X26 hx hby rfl d_B13_254 rfl rfl (xbipush X26 hx hby rfl d_B13_255 (X26.caload hx (j := (8 : Int32)) (v := (.int x8)) (own_in e26 Ar27.1) (State.isArrayOf_alike hZ.alike Ar27.2.1) Ar27.2.2 hin27 (Has.at Hs27 hin27 rfl) (g := (mkF m 257 #[rv b0, iv 10] [.int 8, .ref b0, .int 8, .ref b2, .ref b2, .ref b1, .ref b1])) rfl rfl (hb hby d_B13_257) _ (st29 _ (xdup X29 hx hby rfl d_B13_259 rfl rfl (xbipush X29 hx hby rfl d_B13_260 (xaloadN X29 hx hby rfl d_B13_262 rfl rfl (xbipush X29 hx hby rfl d_B13_263 (X29.caload hx (j := (9 : Int32)) (v := (.int x9)) (own_in e29 Ar30.1) (State.isArrayOf_alike hZ.alike Ar30.2.1) Ar30.2.2 hin30 (Has.at Hs30 hin30 rfl) (g := (mkF m 265 #[rv b0, iv 10] [.int 9, .ref b0, .int 9, .ref b2, .ref b2, .ref b1, .ref b1])) rfl rfl (hb hby d_B13_265) _ (st32 _ k)))))))))))))))))))))))))))))))))))))))))))))))))))))))))))))))))))))))))))))) ?_
  clear X1 e1 E1 D1 st1 K1 F_b1_value_1 F_b1_coder_1 X2 e2 E2 A2 st2 E_b1_2 F_b1_value_2 F_b1_coder_2 K2 V_b2 Ar3 Sz3 M3 Hs3 Gs3 hin3 Ar4 q4 Sz4 M4 Hs4 Gs4 hin4 X5 e5 W5 st5 E_b1_5 F_b1_value_5 F_b1_coder_5 K5 N5 V_b2_5 Ar6 Sz6 M6 Hs6 Gs6 hin6 Ar7 q7 Sz7 M7 Hs7 Gs7 hin7 X8 e8 W8 st8 E_b1_8 F_b1_value_8 F_b1_coder_8 K8 N8 V_b2_8 Ar9 Sz9 M9 Hs9 Gs9 hin9 Ar10 q10 Sz10 M10 Hs10 Gs10 hin10 X11 e11 W11 st11 E_b1_11 F_b1_value_11 F_b1_coder_11 K11 N11 V_b2_11 Ar12 Sz12 M12 Hs12 Gs12 hin12 Ar13 q13 Sz13 M13 Hs13 Gs13 hin13 X14 e14 W14 st14 E_b1_14 F_b1_value_14 F_b1_coder_14 K14 N14 V_b2_14 Ar15 Sz15 M15 Hs15 Gs15 hin15 Ar16 q16 Sz16 M16 Hs16 Gs16 hin16 X17 e17 W17 st17 E_b1_17 F_b1_value_17 F_b1_coder_17 K17 N17 V_b2_17 Ar18 Sz18 M18 Hs18 Gs18 hin18 Ar19 q19 Sz19 M19 Hs19 Gs19 hin19 X20 e20 W20 st20 E_b1_20 F_b1_value_20 F_b1_coder_20 K20 N20 V_b2_20 Ar21 Sz21 M21 Hs21 Gs21 hin21 Ar22 q22 Sz22 M22 Hs22 Gs22 hin22 X23 e23 W23 st23 E_b1_23 F_b1_value_23 F_b1_coder_23 K23 N23 V_b2_23 Ar24 Sz24 M24 Hs24 Gs24 hin24 Ar25 q25 Sz25 M25 Hs25 Gs25 hin25 X26 e26 W26 st26 E_b1_26 F_b1_value_26 F_b1_coder_26 K26 N26 V_b2_26 Ar27 Sz27 M27 Hs27 Gs27 hin27 Ar28 q28 Sz28 M28 Hs28 Gs28 hin28 X29 e29 W29 st29 E_b1_29 F_b1_value_29 F_b1_coder_29 K29 N29 V_b2_29 Ar30 Sz30 M30 Hs30 Gs30 hin30 q31 Sz31 M31 Hs31 Gs31 hin31 W32 st32
  refine own_ci X32 hx hZ hown hml e32 (wd hw 53 rfl) (wd hw 54 rfl) (wd hw 1 rfl) (wd hw 55 rfl) (own_rmI1 l Z a0 hw [] b1 b2 k2 (10 : Int32) cs x0 x1 x2 x3 x4 x5 x6 x7 x8 x9 (0 : Int32) h32 n0 (Nat.le_trans Z0 K32.1) E_b1_32 F_b1_value_32 F_b1_coder_32 new_b1 (own_cut (j := (10 : Int32)) V_b2_32 10 rfl (by decide) rfl) (own_staKeep0 S_cs K32) hcs (by decide) (by decide) l_x0 u_x0 l_x1 u_x1 l_x2 u_x2 l_x3 u_x3 l_x4 u_x4 l_x5 u_x5 l_x6 u_x6 l_x7 u_x7 l_x8 u_x8 l_x9 u_x9 (by decide) (by decide) (Ne.symm (nl A1.lt (Nat.le_of_eq g2.symm))) (by decide)) own_pd11 (hb hby d_B13_267) 1 [.ref b1] rfl rfl ⟨rfl, rfl, rfl, rfl, rfl⟩ (by decide) rfl ?_
  rintro T33 L33 v33 X33 hQ33
  obtain ⟨bq33, kq33, rfl, N33q, K33q, B33_0, B33_1, B33_2⟩ := hQ33
  have E_b1_33 := E_b1_32.keep K33q
  have V_b2_33 := V_b2_32.keep K33q (fun q => (Ne.symm (nl A1.lt (Nat.le_of_eq g2.symm))) (List.mem_singleton.mp q))
  have N33 := Fr.app N32 N33q
  have K33 := K32.trans K33q (fun x hx => by cases List.mem_singleton.mp hx; exact Or.inr sz_b1)
  exact own_ret (v := some (.ref b1)) X33 rfl Bd.notSynchronized (nv Bd.returns) (fun fs hr => (retA X33 hx Bd.returns (hb hby d_B13_270) hr)) ⟨b1, bq33, _, rfl, N33, K33, E_b1_33, B33_1, B33_0, own_cut (j := (10 : Int32)) B33_2 10 rfl (by decide) rfl, sz_b1⟩ (by decide)
theorem d_B13_271 : decode method_4_code 271 = .ok (.new 12, 3) := by decide +kernel
theorem d_B13_274 : decode method_4_code 274 = .ok (.dup, 1) := by decide +kernel
theorem d_B13_275 : decode method_4_code 275 = .ok (.bipush 11, 2) := by decide +kernel
theorem d_B13_277 : decode method_4_code 277 = .ok (.newarray .char, 2) := by decide +kernel
theorem d_B13_279 : decode method_4_code 279 = .ok (.dup, 1) := by decide +kernel
theorem d_B13_280 : decode method_4_code 280 = .ok (.iconst 0, 1) := by decide +kernel
theorem d_B13_281 : decode method_4_code 281 = .ok (.aload_n 0, 1) := by decide +kernel
theorem d_B13_282 : decode method_4_code 282 = .ok (.iconst 0, 1) := by decide +kernel
theorem d_B13_283 : decode method_4_code 283 = .ok (.caload, 1) := by decide +kernel
theorem d_B13_284 : decode method_4_code 284 = .ok (.castore, 1) := by decide +kernel
theorem d_B13_285 : decode method_4_code 285 = .ok (.dup, 1) := by decide +kernel
theorem d_B13_286 : decode method_4_code 286 = .ok (.iconst 1, 1) := by decide +kernel
theorem d_B13_287 : decode method_4_code 287 = .ok (.aload_n 0, 1) := by decide +kernel
theorem d_B13_288 : decode method_4_code 288 = .ok (.iconst 1, 1) := by decide +kernel
theorem d_B13_289 : decode method_4_code 289 = .ok (.caload, 1) := by decide +kernel
theorem d_B13_290 : decode method_4_code 290 = .ok (.castore, 1) := by decide +kernel
theorem d_B13_291 : decode method_4_code 291 = .ok (.dup, 1) := by decide +kernel
theorem d_B13_292 : decode method_4_code 292 = .ok (.iconst 2, 1) := by decide +kernel
theorem d_B13_293 : decode method_4_code 293 = .ok (.aload_n 0, 1) := by decide +kernel
theorem d_B13_294 : decode method_4_code 294 = .ok (.iconst 2, 1) := by decide +kernel
theorem d_B13_295 : decode method_4_code 295 = .ok (.caload, 1) := by decide +kernel
theorem d_B13_296 : decode method_4_code 296 = .ok (.castore, 1) := by decide +kernel
theorem d_B13_297 : decode method_4_code 297 = .ok (.dup, 1) := by decide +kernel
theorem d_B13_298 : decode method_4_code 298 = .ok (.iconst 3, 1) := by decide +kernel
theorem d_B13_299 : decode method_4_code 299 = .ok (.aload_n 0, 1) := by decide +kernel
theorem d_B13_300 : decode method_4_code 300 = .ok (.iconst 3, 1) := by decide +kernel
theorem d_B13_301 : decode method_4_code 301 = .ok (.caload, 1) := by decide +kernel
theorem d_B13_302 : decode method_4_code 302 = .ok (.castore, 1) := by decide +kernel
theorem d_B13_303 : decode method_4_code 303 = .ok (.dup, 1) := by decide +kernel
theorem d_B13_304 : decode method_4_code 304 = .ok (.iconst 4, 1) := by decide +kernel
theorem d_B13_305 : decode method_4_code 305 = .ok (.aload_n 0, 1) := by decide +kernel
theorem d_B13_306 : decode method_4_code 306 = .ok (.iconst 4, 1) := by decide +kernel
theorem d_B13_307 : decode method_4_code 307 = .ok (.caload, 1) := by decide +kernel
theorem d_B13_308 : decode method_4_code 308 = .ok (.castore, 1) := by decide +kernel
theorem d_B13_309 : decode method_4_code 309 = .ok (.dup, 1) := by decide +kernel
theorem d_B13_310 : decode method_4_code 310 = .ok (.iconst 5, 1) := by decide +kernel
theorem d_B13_311 : decode method_4_code 311 = .ok (.aload_n 0, 1) := by decide +kernel
theorem d_B13_312 : decode method_4_code 312 = .ok (.iconst 5, 1) := by decide +kernel
theorem d_B13_313 : decode method_4_code 313 = .ok (.caload, 1) := by decide +kernel
theorem d_B13_314 : decode method_4_code 314 = .ok (.castore, 1) := by decide +kernel
theorem d_B13_315 : decode method_4_code 315 = .ok (.dup, 1) := by decide +kernel
theorem d_B13_316 : decode method_4_code 316 = .ok (.bipush 6, 2) := by decide +kernel
theorem d_B13_318 : decode method_4_code 318 = .ok (.aload_n 0, 1) := by decide +kernel
theorem d_B13_319 : decode method_4_code 319 = .ok (.bipush 6, 2) := by decide +kernel
theorem d_B13_321 : decode method_4_code 321 = .ok (.caload, 1) := by decide +kernel
theorem d_B13_322 : decode method_4_code 322 = .ok (.castore, 1) := by decide +kernel
theorem d_B13_323 : decode method_4_code 323 = .ok (.dup, 1) := by decide +kernel
theorem d_B13_324 : decode method_4_code 324 = .ok (.bipush 7, 2) := by decide +kernel
theorem d_B13_326 : decode method_4_code 326 = .ok (.aload_n 0, 1) := by decide +kernel
theorem d_B13_327 : decode method_4_code 327 = .ok (.bipush 7, 2) := by decide +kernel
theorem d_B13_329 : decode method_4_code 329 = .ok (.caload, 1) := by decide +kernel
theorem d_B13_330 : decode method_4_code 330 = .ok (.castore, 1) := by decide +kernel
theorem d_B13_331 : decode method_4_code 331 = .ok (.dup, 1) := by decide +kernel
theorem d_B13_332 : decode method_4_code 332 = .ok (.bipush 8, 2) := by decide +kernel
theorem d_B13_334 : decode method_4_code 334 = .ok (.aload_n 0, 1) := by decide +kernel
theorem d_B13_335 : decode method_4_code 335 = .ok (.bipush 8, 2) := by decide +kernel
theorem d_B13_337 : decode method_4_code 337 = .ok (.caload, 1) := by decide +kernel
theorem d_B13_338 : decode method_4_code 338 = .ok (.castore, 1) := by decide +kernel
theorem d_B13_339 : decode method_4_code 339 = .ok (.dup, 1) := by decide +kernel
theorem d_B13_340 : decode method_4_code 340 = .ok (.bipush 9, 2) := by decide +kernel
theorem d_B13_342 : decode method_4_code 342 = .ok (.aload_n 0, 1) := by decide +kernel
theorem d_B13_343 : decode method_4_code 343 = .ok (.bipush 9, 2) := by decide +kernel
theorem d_B13_345 : decode method_4_code 345 = .ok (.caload, 1) := by decide +kernel
theorem d_B13_346 : decode method_4_code 346 = .ok (.castore, 1) := by decide +kernel
theorem d_B13_347 : decode method_4_code 347 = .ok (.dup, 1) := by decide +kernel
theorem d_B13_348 : decode method_4_code 348 = .ok (.bipush 10, 2) := by decide +kernel
theorem d_B13_350 : decode method_4_code 350 = .ok (.aload_n 0, 1) := by decide +kernel
theorem d_B13_351 : decode method_4_code 351 = .ok (.bipush 10, 2) := by decide +kernel
theorem d_B13_353 : decode method_4_code 353 = .ok (.caload, 1) := by decide +kernel
theorem d_B13_354 : decode method_4_code 354 = .ok (.castore, 1) := by decide +kernel
theorem d_B13_355 : decode method_4_code 355 = .ok (.invokespecial 49, 3) := by decide +kernel
theorem d_B13_358 : decode method_4_code 358 = .ok (.areturn, 1) := by decide +kernel
set_option maxRecDepth 65536 in
set_option maxHeartbeats 40000000 in
theorem own_rmTk_11 (l : Launch) (Z : State) (a0 : Array Value) (hw : ∀ d ∈ tables_1, d.before a0 Z = true) (ws : List Jvm.Cond) (b0 : Addr) (kc : ClassId) (cs : Int32) (x0 x1 x2 x3 x4 x5 x6 x7 x8 x9 x10 x11 : Int32) (h0 : Heap) (n0 : Nat) (Z0 : n0 ≤ h0.size) (V_b0 : Arv Z h0 b0 kc .char (12 : Int32) [.int x0, .int x1, .int x2, .int x3, .int x4, .int x5, .int x6, .int x7, .int x8, .int x9, .int x10, .int x11] (.int 0)) (S_cs : Sta Z h0 "java/lang/String" "COMPACT_STRINGS" "Z" (.int cs)) (hcs : ¬ cs = (0 : Int32)) (l_x0 : ¬ x0 < (0 : Int32)) (u_x0 : ¬ (255 : Int32) < x0) (l_x1 : ¬ x1 < (0 : Int32)) (u_x1 : ¬ (255 : Int32) < x1) (l_x2 : ¬ x2 < (0 : Int32)) (u_x2 : ¬ (255 : Int32) < x2) (l_x3 : ¬ x3 < (0 : Int32)) (u_x3 : ¬ (255 : Int32) < x3) (l_x4 : ¬ x4 < (0 : Int32)) (u_x4 : ¬ (255 : Int32) < x4) (l_x5 : ¬ x5 < (0 : Int32)) (u_x5 : ¬ (255 : Int32) < x5) (l_x6 : ¬ x6 < (0 : Int32)) (u_x6 : ¬ (255 : Int32) < x6) (l_x7 : ¬ x7 < (0 : Int32)) (u_x7 : ¬ (255 : Int32) < x7) (l_x8 : ¬ x8 < (0 : Int32)) (u_x8 : ¬ (255 : Int32) < x8) (l_x9 : ¬ x9 < (0 : Int32)) (u_x9 : ¬ (255 : Int32) < x9) (l_x10 : ¬ x10 < (0 : Int32)) (u_x10 : ¬ (255 : Int32) < x10) (l_x11 : ¬ x11 < (0 : Int32)) (u_x11 : ¬ (255 : Int32) < x11) : own_M l Z y3N method_4_code 2 (some (.object "java/lang/String")) ws ({ frames := 4, cells := 3, slots := 26, locals := 66 } : Room) #[.ref b0, .int 11] h0 (own_QT Z (11 : Int32) [(.int (own_b x0)), (.int (own_b x1)), (.int (own_b x2)), (.int (own_b x3)), (.int (own_b x4)), (.int (own_b x5)), (.int (own_b x6)), (.int (own_b x7)), (.int (own_b x8)), (.int (own_b x9)), (.int (own_b x10))] h0 n0) := by
  refine own_begin (n0 := n0) (f0 := mkF ⟨0, 0⟩ 0 #[rv b0, iv 11] []) (plainFor_of_name own_pn4) (fun m => ef_2_2 m _ _ rfl rfl) ?_
  intro p e s m below meth c s₁ Bd hZ hx hby hml hown hnm X0 e0 N0
  obtain ⟨T1, h1, X1, e1, E1, A1, D1, -, st1⟩ := newO X0 hx hZ hown (wd hw 52 rfl) (wd hw 2 rfl) (wd hw 1 rfl) e0 (g := (mkF m 271 #[rv b0, iv 11] [])) rfl (hb hby d_B13_271) (by decide) (by decide)
  obtain ⟨b1, g1⟩ : ∃ z, z = h0.size := ⟨_, rfl⟩
  rw [← g1] at A1 D1 st1
  have new_b1 : n0 ≤ b1 := Nat.le_trans Z0 (Nat.le_of_eq g1.symm)
  have sz_b1 : h0.size ≤ b1 := Nat.le_trans (Keep.refl h0 []).1 (Nat.le_of_eq g1.symm)
  have K1 := (Keep.refl h0 []).ext E1
  have F_b1_value_1 : Fld Z h1 b1 "java/lang/String" "value" "[B" .null := D1 (Or.inr (wd hw 4 rfl)) (ty := (.array .byte)) (by decide)
  have F_b1_coder_1 : Fld Z h1 b1 "java/lang/String" "coder" "B" (.int 0) := D1 (Or.inr (wd hw 5 rfl)) (ty := .byte) (by decide)
  obtain ⟨T2, h2, k2, X2, e2, E2, A2, st2⟩ := newP X1 hx hZ (wd hw 21 rfl) e1 (g := (mkF m 277 #[rv b0, iv 11] [.int 11, .ref b1, .ref b1])) rfl (hb hby d_B13_277) rfl (by decide) (cap := 11) (by decide) (by decide) (by decide) (by decide)
  obtain ⟨b2, g2⟩ : ∃ z, z = h1.size := ⟨_, rfl⟩
  rw [← g2] at A2 st2
  have new_b2 : n0 ≤ b2 := Nat.le_trans (Nat.le_trans Z0 K1.1) (Nat.le_of_eq g2.symm)
  have sz_b2 : h0.size ≤ b2 := Nat.le_trans K1.1 (Nat.le_of_eq g2.symm)
  have E_b1_2 := A1.ext E2
  have F_b1_value_2 := F_b1_value_1.ext E2
  have F_b1_coder_2 := F_b1_coder_1.ext E2
  have K2 := K1.ext E2
  have V_b2 : Arv Z h2 b2 k2 .char (11 : Int32) [.int 0, .int 0, .int 0, .int 0, .int 0, .int 0, .int 0, .int 0, .int 0, .int 0, .int 0] (.int 0) := (Arv.new A2 (by decide)).pad (pad_rep [] (.int 0) 11)
  obtain ⟨cl3, Ar3, -, Sz3, M3, Hs3, Gs3⟩ := id (V_b0.keep K2 nNl)
  have hin3 := inb_of (j := (0 : Int32)) Sz3 ⟨by decide, by decide⟩
  obtain ⟨cl4, Ar4, q4, Sz4, M4, Hs4, Gs4⟩ := id V_b2
  have hin4 := inb_of (j := (0 : Int32)) Sz4 ⟨by decide, by decide⟩
  obtain ⟨T5, h5, X5, e5, W5, st5⟩ := stC X2 hx hZ e2 Ar4 (j := (0 : Int32)) hin4 (g := (mkF m 284 #[rv b0, iv 11] [.int x0, .int 0, .ref b2, .ref b2, .ref b1, .ref b1])) rfl rfl (hb hby d_B13_284)
  have E_b1_5 := E_b1_2.wr W5
  have F_b1_value_5 := F_b1_value_2.other W5 (Or.inl (nl A1.lt (Nat.le_of_eq g2.symm)))
  have F_b1_coder_5 := F_b1_coder_2.other W5 (Or.inl (nl A1.lt (Nat.le_of_eq g2.symm)))
  have K5 := K2.wr W5 (Or.inr sz_b2)
  have N5 := Fr.snoc X5 N0 new_b2
  have V_b2_5 := Arv.set Ar4 q4 Sz4 M4 Hs4 Gs4 (fits_nar_char _) W5 0 rfl (Nat.le_of_ble_eq_true rfl)
  rw [own_narc l_x0 u_x0] at V_b2_5
  obtain ⟨cl6, Ar6, -, Sz6, M6, Hs6, Gs6⟩ := id (V_b0.keep K5 nNl)
  have hin6 := inb_of (j := (1 : Int32)) Sz6 ⟨by decide, by decide⟩
  obtain ⟨cl7, Ar7, q7, Sz7, M7, Hs7, Gs7⟩ := id V_b2_5
  have hin7 := inb_of (j := (1 : Int32)) Sz7 ⟨by decide, by decide⟩
  obtain ⟨T8, h8, X8, e8, W8, st8⟩ := stC X5 hx hZ e5 Ar7 (j := (1 : Int32)) hin7 (g := (mkF m 290 #[rv b0, iv 11] [.int x1, .int 1, .ref b2, .ref b2, .ref b1, .ref b1])) rfl rfl (hb hby d_B13_290)
  have E_b1_8 := E_b1_5.wr W8
  have F_b1_value_8 := F_b1_value_5.other W8 (Or.inl (nl A1.lt (Nat.le_of_eq g2.symm)))
  have F_b1_coder_8 := F_b1_coder_5.other W8 (Or.inl (nl A1.lt (Nat.le_of_eq g2.symm)))
  have K8 := K5.wr W8 (Or.inr sz_b2)
  have N8 := Fr.snoc X8 N5 new_b2
  have V_b2_8 := Arv.set Ar7 q7 Sz7 M7 Hs7 Gs7 (fits_nar_char _) W8 1 rfl (Nat.le_of_ble_eq_true rfl)
  rw [own_narc l_x1 u_x1] at V_b2_8
  obtain ⟨cl9, Ar9, -, Sz9, M9, Hs9, Gs9⟩ := id (V_b0.keep K8 nNl)
  have hin9 := inb_of (j := (2 : Int32)) Sz9 ⟨by decide, by decide⟩
  obtain ⟨cl10, Ar10, q10, Sz10, M10, Hs10, Gs10⟩ := id V_b2_8
  have hin10 := inb_of (j := (2 : Int32)) Sz10 ⟨by decide, by decide⟩
  obtain ⟨T11, h11, X11, e11, W11, st11⟩ := stC X8 hx hZ e8 Ar10 (j := (2 : Int32)) hin10 (g := (mkF m 296 #[rv b0, iv 11] [.int x2, .int 2, .ref b2, .ref b2, .ref b1, .ref b1])) rfl rfl (hb hby d_B13_296)
  have E_b1_11 := E_b1_8.wr W11
  have F_b1_value_11 := F_b1_value_8.other W11 (Or.inl (nl A1.lt (Nat.le_of_eq g2.symm)))
  have F_b1_coder_11 := F_b1_coder_8.other W11 (Or.inl (nl A1.lt (Nat.le_of_eq g2.symm)))
  have K11 := K8.wr W11 (Or.inr sz_b2)
  have N11 := Fr.snoc X11 N8 new_b2
  have V_b2_11 := Arv.set Ar10 q10 Sz10 M10 Hs10 Gs10 (fits_nar_char _) W11 2 rfl (Nat.le_of_ble_eq_true rfl)
  rw [own_narc l_x2 u_x2] at V_b2_11
  obtain ⟨cl12, Ar12, -, Sz12, M12, Hs12, Gs12⟩ := id (V_b0.keep K11 nNl)
  have hin12 := inb_of (j := (3 : Int32)) Sz12 ⟨by decide, by decide⟩
  obtain ⟨cl13, Ar13, q13, Sz13, M13, Hs13, Gs13⟩ := id V_b2_11
  have hin13 := inb_of (j := (3 : Int32)) Sz13 ⟨by decide, by decide⟩
  obtain ⟨T14, h14, X14, e14, W14, st14⟩ := stC X11 hx hZ e11 Ar13 (j := (3 : Int32)) hin13 (g := (mkF m 302 #[rv b0, iv 11] [.int x3, .int 3, .ref b2, .ref b2, .ref b1, .ref b1])) rfl rfl (hb hby d_B13_302)
  have E_b1_14 := E_b1_11.wr W14
  have F_b1_value_14 := F_b1_value_11.other W14 (Or.inl (nl A1.lt (Nat.le_of_eq g2.symm)))
  have F_b1_coder_14 := F_b1_coder_11.other W14 (Or.inl (nl A1.lt (Nat.le_of_eq g2.symm)))
  have K14 := K11.wr W14 (Or.inr sz_b2)
  have N14 := Fr.snoc X14 N11 new_b2
  have V_b2_14 := Arv.set Ar13 q13 Sz13 M13 Hs13 Gs13 (fits_nar_char _) W14 3 rfl (Nat.le_of_ble_eq_true rfl)
  rw [own_narc l_x3 u_x3] at V_b2_14
  obtain ⟨cl15, Ar15, -, Sz15, M15, Hs15, Gs15⟩ := id (V_b0.keep K14 nNl)
  have hin15 := inb_of (j := (4 : Int32)) Sz15 ⟨by decide, by decide⟩
  obtain ⟨cl16, Ar16, q16, Sz16, M16, Hs16, Gs16⟩ := id V_b2_14
  have hin16 := inb_of (j := (4 : Int32)) Sz16 ⟨by decide, by decide⟩
  obtain ⟨T17, h17, X17, e17, W17, st17⟩ := stC X14 hx hZ e14 Ar16 (j := (4 : Int32)) hin16 (g := (mkF m 308 #[rv b0, iv 11] [.int x4, .int 4, .ref b2, .ref b2, .ref b1, .ref b1])) rfl rfl (hb hby d_B13_308)
  have E_b1_17 := E_b1_14.wr W17
  have F_b1_value_17 := F_b1_value_14.other W17 (Or.inl (nl A1.lt (Nat.le_of_eq g2.symm)))
  have F_b1_coder_17 := F_b1_coder_14.other W17 (Or.inl (nl A1.lt (Nat.le_of_eq g2.symm)))
  have K17 := K14.wr W17 (Or.inr sz_b2)
  have N17 := Fr.snoc X17 N14 new_b2
  have V_b2_17 := Arv.set Ar16 q16 Sz16 M16 Hs16 Gs16 (fits_nar_char _) W17 4 rfl (Nat.le_of_ble_eq_true rfl)
  rw [own_narc l_x4 u_x4] at V_b2_17
  obtain ⟨cl18, Ar18, -, Sz18, M18, Hs18, Gs18⟩ := id (V_b0.keep K17 nNl)
  have hin18 := inb_of (j := (5 : Int32)) Sz18 ⟨by decide, by decide⟩
  obtain ⟨cl19, Ar19, q19, Sz19, M19, Hs19, Gs19⟩ := id V_b2_17
  have hin19 := inb_of (j := (5 : Int32)) Sz19 ⟨by decide, by decide⟩
  obtain ⟨T20, h20, X20, e20, W20, st20⟩ := stC X17 hx hZ e17 Ar19 (j := (5 : Int32)) hin19 (g := (mkF m 314 #[rv b0, iv 11] [.int x5, .int 5, .ref b2, .ref b2, .ref b1, .ref b1])) rfl rfl (hb hby d_B13_314)
  have E_b1_20 := E_b1_17.wr W20
  have F_b1_value_20 := F_b1_value_17.other W20 (Or.inl (nl A1.lt (Nat.le_of_eq g2.symm)))
  have F_b1_coder_20 := F_b1_coder_17.other W20 (Or.inl (nl A1.lt (Nat.le_of_eq g2.symm)))
  have K20 := K17.wr W20 (Or.inr sz_b2)
  have N20 := Fr.snoc X20 N17 new_b2
  have V_b2_20 := Arv.set Ar19 q19 Sz19 M19 Hs19 Gs19 (fits_nar_char _) W20 5 rfl (Nat.le_of_ble_eq_true rfl)
  rw [own_narc l_x5 u_x5] at V_b2_20
  obtain ⟨cl21, Ar21, -, Sz21, M21, Hs21, Gs21⟩ := id (V_b0.keep K20 nNl)
  have hin21 := inb_of (j := (6 : Int32)) Sz21 ⟨by decide, by decide⟩
  obtain ⟨cl22, Ar22, q22, Sz22, M22, Hs22, Gs22⟩ := id V_b2_20
  have hin22 := inb_of (j := (6 : Int32)) Sz22 ⟨by decide, by decide⟩
  obtain ⟨T23, h23, X23, e23, W23, st23⟩ := stC X20 hx hZ e20 Ar22 (j := (6 : Int32)) hin22 (g := (mkF m 322 #[rv b0, iv 11] [.int x6, .int 6, .ref b2, .ref b2, .ref b1, .ref b1])) rfl rfl (hb hby d_B13_322)
  have E_b1_23 := E_b1_20.wr W23
  have F_b1_value_23 := F_b1_value_20.other W23 (Or.inl (nl A1.lt (Nat.le_of_eq g2.symm)))
  have F_b1_coder_23 := F_b1_coder_20.other W23 (Or.inl (nl A1.lt (Nat.le_of_eq g2.symm)))
  have K23 := K20.wr W23 (Or.inr sz_b2)
  have N23 := Fr.snoc X23 N20 new_b2
  have V_b2_23 := Arv.set Ar22 q22 Sz22 M22 Hs22 Gs22 (fits_nar_char _) W23 6 rfl (Nat.le_of_ble_eq_true rfl)
  rw [own_narc l_x6 u_x6] at V_b2_23
  obtain ⟨cl24, Ar24, -, Sz24, M24, Hs24, Gs24⟩ := id (V_b0.keep K23 nNl)
  have hin24 := inb_of (j := (7 : Int32)) Sz24 ⟨by decide, by decide⟩
  obtain ⟨cl25, Ar25, q25, Sz25, M25, Hs25, Gs25⟩ := id V_b2_23
  have hin25 := inb_of (j := (7 : Int32)) Sz25 ⟨by decide, by decide⟩
  obtain ⟨T26, h26, X26, e26, W26, st26⟩ := stC X23 hx hZ e23 Ar25 (j := (7 : Int32)) hin25 (g := (mkF m 330 #[rv b0, iv 11] [.int x7, .int 7, .ref b2, .ref b2, .ref b1, .ref b1])) rfl rfl (hb hby d_B13_330)
  have E_b1_26 := E_b1_23.wr W26
  have F_b1_value_26 := F_b1_value_23.other W26 (Or.inl (nl A1.lt (Nat.le_of_eq g2.symm)))
  have F_b1_coder_26 := F_b1_coder_23.other W26 (Or.inl (nl A1.lt (Nat.le_of_eq g2.symm)))
  have K26 := K23.wr W26 (Or.inr sz_b2)
  have N26 := Fr.snoc X26 N23 new_b2
  have V_b2_26 := Arv.set Ar25 q25 Sz25 M25 Hs25 Gs25 (fits_nar_char _) W26 7 rfl (Nat.le_of_ble_eq_true rfl)
  rw [own_narc l_x7 u_x7] at V_b2_26
  obtain ⟨cl27, Ar27, -, Sz27, M27, Hs27, Gs27⟩ := id (V_b0.keep K26 nNl)
  have hin27 := inb_of (j := (8 : Int32)) Sz27 ⟨by decide, by decide⟩
  obtain ⟨cl28, Ar28, q28, Sz28, M28, Hs28, Gs28⟩ := id V_b2_26
  have hin28 := inb_of (j := (8 : Int32)) Sz28 ⟨by decide, by decide⟩
  obtain ⟨T29, h29, X29, e29, W29, st29⟩ := stC X26 hx hZ e26 Ar28 (j := (8 : Int32)) hin28 (g := (mkF m 338 #[rv b0, iv 11] [.int x8, .int 8, .ref b2, .ref b2, .ref b1, .ref b1])) rfl rfl (hb hby d_B13_338)
  have E_b1_29 := E_b1_26.wr W29
  have F_b1_value_29 := F_b1_value_26.other W29 (Or.inl (nl A1.lt (Nat.le_of_eq g2.symm)))
  have F_b1_coder_29 := F_b1_coder_26.other W29 (Or.inl (nl A1.lt (Nat.le_of_eq g2.symm)))
  have K29 := K26.wr W29 (Or.inr sz_b2)
  have N29 := Fr.snoc X29 N26 new_b2
  have V_b2_29 := Arv.set Ar28 q28 Sz28 M28 Hs28 Gs28 (fits_nar_char _) W29 8 rfl (Nat.le_of_ble_eq_true rfl)
  rw [own_narc l_x8 u_x8] at V_b2_29
  obtain ⟨cl30, Ar30, -, Sz30, M30, Hs30, Gs30⟩ := id (V_b0.keep K29 nNl)
  have hin30 := inb_of (j := (9 : Int32)) Sz30 ⟨by decide, by decide⟩
  obtain ⟨cl31, Ar31, q31, Sz31, M31, Hs31, Gs31⟩ := id V_b2_29
  have hin31 := inb_of (j := (9 : Int32)) Sz31 ⟨by decide, by decide⟩
  obtain ⟨T32, h32, X32, e32, W32, st32⟩ := stC X29 hx hZ e29 Ar31 (j := (9 : Int32)) hin31 (g := (mkF m 346 #[rv b0, iv 11] [.int x9, .int 9, .ref b2, .ref b2, .ref b1, .ref b1])) rfl rfl (hb hby d_B13_346)
  have E_b1_32 := E_b1_29.wr W32
  have F_b1_value_32 := F_b1_value_29.other W32 (Or.inl (nl A1.lt (Nat.le_of_eq g2.symm)))
  have F_b1_coder_32 := F_b1_coder_29.other W32 (Or.inl (nl A1.lt (Nat.le_of_eq g2.symm)))
  have K32 := K29.wr W32 (Or.inr sz_b2)
  have N32 := Fr.snoc X32 N29 new_b2
  have V_b2_32 := Arv.set Ar31 q31 Sz31 M31 Hs31 Gs31 (fits_nar_char _) W32 9 rfl (Nat.le_of_ble_eq_true rfl)
  rw [own_narc l_x9 u_x9] at V_b2_32
  obtain ⟨cl33, Ar33, -, Sz33, M33, Hs33, Gs33⟩ := id (V_b0.keep K32 nNl)
  have hin33 := inb_of (j := (10 : Int32)) Sz33 ⟨by decide, by decide⟩
  obtain ⟨cl34, Ar34, q34, Sz34, M34, Hs34, Gs34⟩ := id V_b2_32
  have hin34 := inb_of (j := (10 : Int32)) Sz34 ⟨by decide, by decide⟩
  obtain ⟨T35, h35, X35, e35, W35, st35⟩ := stC X32 hx hZ e32 Ar34 (j := (10 : Int32)) hin34 (g := (mkF m 354 #[rv b0, iv 11] [.int x10, .int 10, .ref b2, .ref b2, .ref b1, .ref b1])) rfl rfl (hb hby d_B13_354)
  have E_b1_35 := E_b1_32.wr W35
  have F_b1_value_35 := F_b1_value_32.other W35 (Or.inl (nl A1.lt (Nat.le_of_eq g2.symm)))
  have F_b1_coder_35 := F_b1_coder_32.other W35 (Or.inl (nl A1.lt (Nat.le_of_eq g2.symm)))
  have K35 := K32.wr W35 (Or.inr sz_b2)
  have N35 := Fr.snoc X35 N32 new_b2
  have V_b2_35 := Arv.set Ar34 q34 Sz34 M34 Hs34 Gs34 (fits_nar_char _) W35 10 rfl (Nat.le_of_ble_eq_true rfl)
  rw [own_narc l_x10 u_x10] at V_b2_35
  refine own_go (b := T35.setTop (mkF m 355 #[rv b0, iv 11] [.ref b2, .ref b1, .ref b1])) (fun t k => xiloadN X0 hx hby rfl d_B13_0 rfl (xifYes X0 hx hby rfl 1 15 rfl d_B13_1 rfl ((if0 _ _).trans (feq ((by decide) : ¬ ((11 : Int32) = (0 : Int32)))).2) (by decide) (by decide) (xiloadN X0 hx hby rfl d_B13_15 rfl (xiconst X0 hx hby rfl d_B13_16 (xicmpYes X0 hx hby rfl 17 37 rfl d_B13_17 rfl (feq ((by decide) : ¬ ((11 : Int32) = (1 : Int32)))).2 (by decide) (by decide) (xiloadN X0 hx hby rfl d_B13_37 rfl (xbipush X0 hx hby rfl d_B13_38 (xicmpYes X0 hx hby rfl 40 107 rfl d_B13_40 rfl (feq ((by decide) : ¬ ((11 : Int32) = (8 : Int32)))).2 (by decide) (by decide) (xiloadN X0 hx hby rfl d_B13_107 rfl (xbipush X0 hx hby rfl d_B13_108 (xicmpYes X0 hx hby rfl 110 185 rfl d_B13_110 rfl (feq ((by decide) : ¬ ((11 : Int32) = (9 : Int32)))).2 (by decide) (by decide) (xiloadN X0 hx hby rfl d_B13_185 rfl (xbipush X0 hx hby rfl d_B13_186 (xicmpYes X0 hx hby rfl 188 271 rfl d_B13_188 rfl (feq ((by decide) : ¬ ((11 : Int32) = (10 : Int32)))).2 (by decide) (by decide) (st1 _ (xdup X1 hx hby rfl d_B13_274 rfl rfl (xbipush X1 hx hby rfl d_B13_275 (st2 _ (xdup X2 hx hby rfl d_B13_279 rfl rfl (xiconst X2 hx hby rfl d_B13_280 (xaloadN X2 hx hby rfl d_B13_281 rfl rfl (xiconst X2 hx hby rfl d_B13_282 (X2.caload hx (j := (0 : Int32)) (v := (.int x0)) (own_in e2 Ar3.1) (State.isArrayOf_alike hZ.alike Ar3.2.1) Ar3.2.2 hin3 (Has.at Hs3 hin3 rfl) (g := (mkF m 283 #[rv b0, iv 11] [.int 0, .ref b0, .int 0, .ref b2, .ref b2, .ref b1, .ref b1])) rfl rfl (hb hby d_B13_283) _ (st5 _ (xdup X5 hx hby rfl d_B13_285 rfl rfl (xiconst X5 hx hby rfl d_B13_286 (xaloadN X5 hx hby rfl d_B13_287 rfl rfl (xiconst X5 hx hby rfl d_B13_288 (X5.caload hx (j := (1 : Int32)) (v := (.int x1)) (own_in e5 Ar6.1) (State.isArrayOf_alike hZ.alike Ar6.2.1) Ar6.2.2 hin6 (Has.at Hs6 hin6 rfl) (g := (mkF m 289 #[rv b0, iv 11] [.int 1, .ref b0, .int 1, .ref b2, .ref b2, .ref b1, .ref b1])) rfl rfl (hb hby d_B13_289) _ (st8 _ (xdup X8 hx hby rfl d_B13_291 rfl rfl (xiconst X8 hx hby rfl d_B13_292 (xaloadN X8 hx hby rfl d_B13_293 rfl rfl (xiconst X8 hx hby rfl d_B13_294 (X8.caload hx (j := (2 : Int32)) (v := (.int x2)) (own_in e8 Ar9.1) (State.isArrayOf_alike hZ.alike Ar9.2.1) Ar9.2.2 hin9 (Has.at Hs9 hin9 rfl) (g := (mkF m 295 #[rv b0, iv 11] [.int 2, .ref b0, .int 2, .ref b2, .ref b2, .ref b1, .ref b1])) rfl rfl (hb hby d_B13_295) _ (st11 _ (xdup X11 hx hby rfl d_B13_297 rfl rfl (xiconst X11 hx hby rfl d_B13_298 (xaloadN X11 hx hby rfl d_B13_299 rfl rfl (xiconst X11 hx hby rfl d_B13_300 (X11.caload hx (j := (3 : Int32)) (v := (.int x3)) (own_in e11 Ar12.1) (State.isArrayOf_alike hZ.alike Ar12.2.1) Ar12.2.2 hin12 (Has.at Hs12 hin12 rfl) (g := (mkF m 301 #[rv b0, iv 11] [.int 3, .ref b0, .int 3, .ref b2, .ref b2, .ref b1, .ref b1])) rfl rfl (hb hby d_B13_301) _ (st14 _ (xdup X14 hx hby rfl d_B13_303 rfl rfl (xiconst X14 hx hby rfl d_B13_304 (xaloadN X14 hx hby rfl d_B13_305 rfl rfl (xiconst X14 hx hby rfl d_B13_306 (X14.caload hx (j := (4 : Int32)) (v := (.int x4)) (own_in e14 Ar15.1) (State.isArrayOf_alike hZ.alike Ar15.2.1) Ar15.2.2 hin15 (Has.at Hs15 hin15 rfl) (g := (mkF m 307 #[rv b0, iv 11] [.int 4, .ref b0, .int 4, .ref b2, .ref b2, .ref b1, .ref b1])) rfl rfl (hb hby d_B13_307) _ (st17 _ (xdup X17 hx hby rfl d_B13_309 rfl rfl (xiconst X17 hx hby rfl d_B13_310 (xaloadN X17 hx hby rfl d_B13_311 rfl rfl (xiconst X17 hx hby rfl d_B13_312 (X17.caload hx (j := (5 : Int32)) (v := (.int x5)) (own_in e17 Ar18.1) (State.isArrayOf_alike hZ.alike Ar18.2.1) Ar18.2.2 hin18 (Has.at Hs18 hin18 rfl) (g := (mkF m 313 #[rv b0, iv 11] [.int 5, .ref b0, .int 5, .ref b2, .ref b2, .ref b1, .ref b1])) rfl rfl (hb hby d_B13_313) _ (st20 _ (xdup X20 hx hby rfl d_B13_315 rfl rfl (xbipush X20 hx hby rfl d_B13_316 (xaloadN X20 hx hby rfl d_B13_318 rfl rfl (xbipush X20 hx hby rfl d_B13_319 (X20.caload hx (j := (6 : Int32)) (v := (.int x6)) (own_in e20 Ar21.1) (State.isArrayOf_alike hZ.alike Ar21.2.1) Ar21.2.2 hin21 (Has.at Hs21 hin21 rfl) (g := (mkF m 321 #[rv b0, iv 11] [.int 6, .ref b0, .int 6, .ref b2, .ref b2, .ref b1, .ref b1])) rfl rfl (hb hby d_B13_321) _ (st23 _ (xdup X23 hx hby rfl d_B13_323 rfl rfl (xbipush X23 hx hby rfl d_B13_324 (xaloadN X23 hx hby rfl d_B13_326 rfl rfl (xbipush X23 hx hby rfl d_B13_327 (X23.caload hx (j := (7 : Int32)) (v := (.int x7)) (own_in e23 Ar24.1) (State.isArrayOf_alike hZ.alike Ar24.2.1) Ar24.2.2 hin24 (Has.at Hs24 hin24 rfl) (g := (mkF m 329 #[rv b0, iv 11] [.int 7, .ref b0, .int 7, .ref b2, .ref b2, .ref b1, .ref b1])) rfl rfl (hb hby d_B13_329) _ (st26 _ (xdup X26 hx hby rfl d_B13_331 rfl rfl (xbipush X26 hx hby rfl d_B13_332 (xaloadN X26 hx hby rfl d_B13_334 rfl rfl (xbipush X26 hx hby rfl d_B13_335 (X26.caload hx (j := (8 : Int32)) (v := (.int x8)) (own_in e26 Ar27.1) (State.isArrayOf_alike hZ.alike Ar27.2.1) Ar27.2.2 hin27 (Has.at Hs27 hin27 rfl) (g := (mkF m 337 #[rv b0, iv 11] [.int 8, .ref b0, .int 8, .ref b2, .ref b2, .ref b1, .ref b1])) rfl rfl (hb hby d_B13_337) _ (st29 _ (xdup X29 hx hby rfl d_B13_339 rfl rfl (xbipush X29 hx hby rfl d_B13_340 (xaloadN X29 hx hby rfl d_B13_342 rfl rfl (xbipush X29 hx hby rfl d_B13_343 (X29.caload hx (j := (9 : Int32)) (v := (.int x9)) (own_in e29 Ar30.1) (State.isArrayOf_alike hZ.alike Ar30.2.1) Ar30.2.2 hin30 (Has.at Hs30 hin30 rfl) (g := (mkF m 345 #[rv b0, iv 11] [.int 9, .ref b0, .int 9, .ref b2, .ref b2, .ref b1, .ref b1])) rfl rfl (hb hby d_B13_345) _ (st32 _ (xdup X32 hx hby rfl d_B13_347 rfl rfl (xbipush X32 hx hby rfl d_B13_348 (xaloadN X32 hx hby rfl d_B13_350 rfl rfl (xbipush X32 hx hby rfl d_B13_351 (X32.caload hx (j := (10 : Int32)) (v := (.int x10)) (own_in e32 Ar33.1) (State.isArrayOf_alike hZ.alike Ar33.2.1) Ar33.2.2 hin33 (Has.at Hs33 hin33 rfl) (g := (mkF m 353 #[rv b0, iv 11] [.int 10, .ref b0, .int 10, .ref b2, .ref b2, .ref b1, .ref b1])) rfl rfl (hb hby d_B13_353) _ (st35 _ k)))))))))))))))))))))))))))))))))))))))))))))))))))))))))))))))))))))))))))))))))))) ?_
  clear X1 e1 E1 D1 st1 K1 F_b1_value_1 F_b1_coder_1 X2 e2 E2 A2 st2 E_b1_2 F_b1_value_2 F_b1_coder_2 K2 V_b2 Ar3 Sz3 M3 Hs3 Gs3 hin3 Ar4 q4 Sz4 M4 Hs4 Gs4 hin4 X5 e5 W5 st5 E_b1_5 F_b1_value_5 F_b1_coder_5 K5 N5 V_b2_5 Ar6 Sz6 M6 Hs6 Gs6 hin6 Ar7 q7 Sz7 M7 Hs7 Gs7 hin7 X8 e8 W8 st8 E_b1_8 F_b1_value_8 F_b1_coder_8 K8 N8 V_b2_8 Ar9 Sz9 M9 Hs9 Gs9 hin9 Ar10 q10 Sz10 M10 Hs10 Gs10 hin10 X11 e11 W11 st11 E_b1_11 F_b1_value_11 F_b1_coder_11 K11 N11 V_b2_11 Ar12 Sz12 M12 Hs12 Gs12 hin12 Ar13 q13 Sz13 M13 Hs13 Gs13 hin13 X14 e14 W14 st14 E_b1_14 F_b1_value_14 F_b1_coder_14 K14 N14 V_b2_14 Ar15 Sz15 M15 Hs15 Gs15 hin15 Ar16 q16 Sz16 M16 Hs16 Gs16 hin16 X17 e17 W17 st17 E_b1_17 F_b1_value_17 F_b1_coder_17 K17 N17 V_b2_17 Ar18 Sz18 M18 Hs18 Gs18 hin18 Ar19 q19 Sz19 M19 Hs19 Gs19 hin19 X20 e20 W20 st20 E_b1_20 F_b1_value_20 F_b1_coder_20 K20 N20 V_b2_20 Ar21 Sz21 M21 Hs21 Gs21 hin21 Ar22 q22 Sz22 M22 Hs22 Gs22 hin22 X23 e23 W23 st23 E_b1_23 F_b1_value_23 F_b1_coder_23 K23 N23 V_b2_23 Ar24 Sz24 M24 Hs24 Gs24 hin24 Ar25 q25 Sz25 M25 Hs25 Gs25 hin25 X26 e26 W26 st26 E_b1_26 F_b1_value_26 F_b1_coder_26 K26 N26 V_b2_26 Ar27 Sz27 M27 Hs27 Gs27 hin27 Ar28 q28 Sz28 M28 Hs28 Gs28 hin28 X29 e29 W29 st29 E_b1_29 F_b1_value_29 F_b1_coder_29 K29 N29 V_b2_29 Ar30 Sz30 M30 Hs30 Gs30 hin30 Ar31 q31 Sz31 M31 Hs31 Gs31 hin31 X32 e32 W32 st32 E_b1_32 F_b1_value_32 F_b1_coder_32 K32 N32 V_b2_32 Ar33 Sz33 M33 Hs33 Gs33 hin33 q34 Sz34 M34 Hs34 Gs34 hin34 W35 st35
  refine own_ci X35 hx hZ hown hml e35 (wd hw 53 rfl) (wd hw 54 rfl) (wd hw 1 rfl) (wd hw 55 rfl) (own_rmI1 l Z a0 hw [] b1 b2 k2 (11 : Int32) cs x0 x1 x2 x3 x4 x5 x6 x7 x8 x9 x10 h35 n0 (Nat.le_trans Z0 K35.1) E_b1_35 F_b1_value_35 F_b1_coder_35 new_b1 (own_cut (j := (11 : Int32)) V_b2_35 11 rfl (by decide) rfl) (own_staKeep0 S_cs K35) hcs (by decide) (by decide) l_x0 u_x0 l_x1 u_x1 l_x2 u_x2 l_x3 u_x3 l_x4 u_x4 l_x5 u_x5 l_x6 u_x6 l_x7 u_x7 l_x8 u_x8 l_x9 u_x9 l_x10 u_x10 (Ne.symm (nl A1.lt (Nat.le_of_eq g2.symm))) (by decide)) own_pd11 (hb hby d_B13_355) 1 [.ref b1] rfl rfl ⟨rfl, rfl, rfl, rfl, rfl⟩ (by decide) rfl ?_
  rintro T36 L36 v36 X36 hQ36
  obtain ⟨bq36, kq36, rfl, N36q, K36q, B36_0, B36_1, B36_2⟩ := hQ36
  have E_b1_36 := E_b1_35.keep K36q
  have V_b2_36 := V_b2_35.keep K36q (fun q => (Ne.symm (nl A1.lt (Nat.le_of_eq g2.symm))) (List.mem_singleton.mp q))
  have N36 := Fr.app N35 N36q
  have K36 := K35.trans K36q (fun x hx => by cases List.mem_singleton.mp hx; exact Or.inr sz_b1)
  exact own_ret (v := some (.ref b1)) X36 rfl Bd.notSynchronized (nv Bd.returns) (fun fs hr => (retA X36 hx Bd.returns (hb hby d_B13_358) hr)) ⟨b1, bq36, _, rfl, N36, K36, E_b1_36, B36_1, B36_0, own_cut (j := (11 : Int32)) B36_2 11 rfl (by decide) rfl, sz_b1⟩ (by decide)
theorem d_B13_4 : decode method_4_code 4 = .ok (.new 12, 3) := by decide +kernel
theorem d_B13_7 : decode method_4_code 7 = .ok (.dup, 1) := by decide +kernel
theorem d_B13_8 : decode method_4_code 8 = .ok (.iconst 0, 1) := by decide +kernel
theorem d_B13_9 : decode method_4_code 9 = .ok (.newarray .char, 2) := by decide +kernel
theorem d_B13_11 : decode method_4_code 11 = .ok (.invokespecial 49, 3) := by decide +kernel
theorem d_B13_14 : decode method_4_code 14 = .ok (.areturn, 1) := by decide +kernel
theorem ef_own_rmTk_0 (m : MethodId) (x0 : Addr) : entryFrame m #[.ref x0, .int 0] 2 = mkF m 0 #[rv x0, iv 0] [] := by first | (simp [entryFrame, mkF, argsToLocals, Value.category]; done) | rfl
set_option maxRecDepth 65536 in
set_option maxHeartbeats 40000000 in
theorem own_rmTk_0 (l : Launch) (Z : State) (a0 : Array Value) (hw : ∀ d ∈ tables_1, d.before a0 Z = true) (ws : List Jvm.Cond) (b0 : Addr) (h0 : Heap) (n0 : Nat) (Z0 : n0 ≤ h0.size) :
    MetFree l y3N (head1 (Jvm.Cond.code y3N method_4_code 2 (some (.object "java/lang/String")) :: ws) ({ frames := 3, cells := 4, slots := 8, locals := 43 } : Room)) (fun a U => a = #[.ref b0, .int 0] ∧ Z.Warmed39 U.vm ∧ U.heap = h0 ∧ CHv Z own_EL U.vm h0) (fun _ _ _ _ _ => True) (fun _ U o U' => ∃ v L, o = .returned v ∧ own_QT Z (0 : Int32) [] h0 n0 v U'.heap L ∧ CHr Z own_EL U.vm U.heap U'.vm U'.heap ∧ ReturnedEndW U o U' L ({ frames := 3, cells := 4, slots := 8, locals := 43 } : Room).cells ({ frames := 3, cells := 4, slots := 8, locals := 43 } : Room).slots) := by
  refine MetFree.of_bodySF (plainFor_of_name own_pn4) hisR ?_
  intro p e s m args below meth c s₁ Bd hml0 hP hK
  obtain ⟨rfl, hZ, hh, hCH0⟩ := hP
  have hx := Bd.exec
  have hby := Bd.bytes
  have hml : c.maxLocals = 2 := hml0
  have hown : s.vm.findClass "com/example/corollary/corollary/EstimateMethodNamedPinLaw" = some m.cls := findClass_of_methodNamed Bd.named
  have hnm := (name_of_methodNamed Bd.named Bd.method).1
  have X0 : Stand p l e ({ frames := 3, cells := 4, slots := 8, locals := 43 } : Room) s m #[.ref b0, .int 0] below meth c s₁ [] 0 0 := Stand.of_body Bd
  have e0 : s₁.heap = h0 := by rw [← hh, Bd.state]; rfl
  have N0 := Fr.nil n0
  refine own_go (b := s₁.setTop (mkF m 0 #[rv b0, iv 0] [])) (fun t k => castTop (ef_own_rmTk_0 m b0) k) ?_
  obtain ⟨T1, h1, X1, e1, E1, A1, D1, -, st1⟩ := newO X0 hx hZ hown (wd hw 52 rfl) (wd hw 2 rfl) (wd hw 1 rfl) e0 (g := (mkF m 4 #[rv b0, iv 0] [])) rfl (hb hby d_B13_4) (by decide) (by decide)
  obtain ⟨b1, g1⟩ : ∃ z, z = h0.size := ⟨_, rfl⟩
  rw [← g1] at A1 D1 st1
  have new_b1 : n0 ≤ b1 := Nat.le_trans Z0 (Nat.le_of_eq g1.symm)
  have sz_b1 : h0.size ≤ b1 := Nat.le_trans (Keep.refl h0 []).1 (Nat.le_of_eq g1.symm)
  have CR1 := (CHr.refl hCH0).trans (CHr.ext E1 (CHr.refl hCH0).1)
  have K1 := (Keep.refl h0 []).ext E1
  have F_b1_value_1 : Fld Z h1 b1 "java/lang/String" "value" "[B" .null := D1 (Or.inr (wd hw 4 rfl)) (ty := (.array .byte)) (by decide)
  have F_b1_coder_1 : Fld Z h1 b1 "java/lang/String" "coder" "B" (.int 0) := D1 (Or.inr (wd hw 5 rfl)) (ty := .byte) (by decide)
  obtain ⟨T2, h2, k2, X2, e2, E2, A2, st2⟩ := newP X1 hx hZ (wd hw 21 rfl) e1 (g := (mkF m 9 #[rv b0, iv 0] [.int 0, .ref b1, .ref b1])) rfl (hb hby d_B13_9) rfl (by decide) (cap := 0) (by decide) (by decide) (by decide) (by decide)
  obtain ⟨b2, g2⟩ : ∃ z, z = h1.size := ⟨_, rfl⟩
  rw [← g2] at A2 st2
  have new_b2 : n0 ≤ b2 := Nat.le_trans (Nat.le_trans Z0 K1.1) (Nat.le_of_eq g2.symm)
  have sz_b2 : h0.size ≤ b2 := Nat.le_trans K1.1 (Nat.le_of_eq g2.symm)
  have E_b1_2 := A1.ext E2
  have F_b1_value_2 := F_b1_value_1.ext E2
  have F_b1_coder_2 := F_b1_coder_1.ext E2
  have CR2 := CR1.trans (CHr.ext E2 CR1.1)
  have K2 := K1.ext E2
  have V_b2 : Arv Z h2 b2 k2 .char (0 : Int32) [] (.int 0) := (Arv.new A2 (by decide)).pad (pad_rep [] (.int 0) 0)
  refine own_go (b := T2.setTop (mkF m 11 #[rv b0, iv 0] [.ref b2, .ref b1, .ref b1])) (fun t k => xiloadN X0 hx hby rfl d_B13_0 rfl (xifNo X0 hx hby rfl d_B13_1 rfl ((if0 _ _).trans (teq ((by decide) : (0 : Int32) = (0 : Int32))).2) (st1 _ (xdup X1 hx hby rfl d_B13_7 rfl rfl (xiconst X1 hx hby rfl d_B13_8 (st2 _ k)))))) ?_
  obtain ⟨_, _, ⟨T3, L3, k3, n3⟩, -, X3, hS3x, hk3x, ⟨Lc3, hQ3, l3, y3, z3, CRq3⟩, st3⟩ := Jvm.Stand.specialBackS (show Stand p l e _ (s.setVm s.vm) m _ below meth c _ _ _ _ from X2) hx (y := y4N) rfl hown (mvT hZ (wd hw 53 rfl)) (mvT hZ (wd hw 54 rfl)) (mvT hZ (wd hw 55 rfl)) (by decide) (backOfSH (W := 1) (own_rmI1_0 l Z a0 hw [] b1 b2 k2 [] h2 n0 (Nat.le_trans Z0 K2.1) E_b1_2 F_b1_value_2 F_b1_coder_2 new_b1 V_b2) hZ (wd hw 55 rfl) (wd hw 1 rfl) (by decide) (by decide) (own_EW hw) CR2.1) (g := (mkF m 11 #[rv b0, iv 0] [.ref b2, .ref b1, .ref b1])) rfl (by rw [hml]; rfl) (Steps.refl _) (a := b1) (argsL := [.ref b2]) (rest := [.ref b1]) (lenOf own_pd11 rfl) rfl (by show 2 * 0 + _ ≤ _; exact Nat.le_of_eq rfl) (hb hby d_B13_11) (fun _ _ => ⟨rfl, e2, (by decide : 2 + 2 ≤ _), (by decide : 4 + 4 ≤ _)⟩)
  dsimp only [Pt.U, Pt.locs, Pt.cells, Pt.slots] at X3 l3 y3 z3 st3 hQ3 hS3x hk3x CRq3
  subst l3 y3 z3
  have hS3 : s.Since T3.vm T3.heap.size := ((State.WarmedH.refl s).since 0).trans hS3x (Nat.le_trans (Nat.zero_le _) hk3x)
  have X3 : Stand p l e _ (s.setVm T3.vm) m _ below meth c T3 _ _ _ := X3
  have hZ : Z.Warmed39 (s.setVm T3.vm).vm := State.Warmed39.trans (t := s.setVm s.vm) hZ hS3x.1
  have hown : (s.setVm T3.vm).vm.findClass "com/example/corollary/corollary/EstimateMethodNamedPinLaw" = some m.cls := by show T3.vm.findClass _ = _; rw [hS3x.1.alike.findClass]; exact hown
  have CR3 := CR2.trans CRq3
  obtain ⟨bq3, kq3, rfl, N3q, K3q, B3_0, B3_1, B3_2⟩ := hQ3
  have E_b1_3 := E_b1_2.keep K3q
  have V_b2_3 := V_b2.keep K3q (fun q => (Ne.symm (nl A1.lt (Nat.le_of_eq g2.symm))) (List.mem_singleton.mp q))
  have N3 := Fr.app N0 N3q
  have K3 := K2.trans K3q (fun x hx => by cases List.mem_singleton.mp hx; exact Or.inr sz_b1)
  have hk3w : T3.heap.size ≤ T3.heap.size := Nat.le_refl _
  obtain ⟨fs, hr, hrun, hended, hRE⟩ := Jvm.Stand.leaveW (s := s) X3 hS3 (by show _ ≤ T3.heap.size; exact hk3w) (v := some (.ref b1)) (fun h => by rw [Bd.returns] at h; cases h)
  refine ⟨_, _, ?_, hrun, hended, _, _, rfl, ?_, ?_, hRE.1, hRE.2.1, hRE.2.2.1, hRE.2.2.2.mono (by decide) (by decide)⟩
  · refine st3.trans ?_
    show Steps p.tables e below (T3.setTop (mkF m 14 #[rv b0, iv 0] [.ref b1])) _
    jvm_step X3.here [X3.here.top, hx, (hb hby d_B13_14), X3.method', Bd.returns, Value.isRef, FieldType.isReference]
    first | (intro acts; rw [hr _ acts rfl rfl rfl]) | rw [hr _ _ rfl rfl rfl]
    exact Steps.refl _
  · show own_QT Z (0 : Int32) [] h0 n0 _ T3.heap _
    exact ⟨b1, bq3, _, rfl, N3, K3, E_b1_3, B3_1, B3_0, B3_2, sz_b1⟩
  · show CHr Z own_EL s.vm s.heap T3.vm T3.heap
    rw [hh]
    exact CR3.trans (CHv.at (s := s) X3 hZ (own_EW hw) CR3.1)
theorem d_B14_0 : decode jdk_43_method_13_code 0 = .ok (.aload_n 0, 1) := by decide +kernel
theorem d_B14_1 : decode jdk_43_method_13_code 1 = .ok (.arraylength, 1) := by decide +kernel
theorem d_B14_2 : decode jdk_43_method_13_code 2 = .ok (.aload_n 1, 1) := by decide +kernel
theorem d_B14_3 : decode jdk_43_method_13_code 3 = .ok (.arraylength, 1) := by decide +kernel
theorem d_B14_4 : decode jdk_43_method_13_code 4 = .ok (.if_icmp .ne 30, 3) := by decide +kernel
theorem d_B14_34 : decode jdk_43_method_13_code 34 = .ok (.iconst 0, 1) := by decide +kernel
theorem d_B14_35 : decode jdk_43_method_13_code 35 = .ok (.ireturn, 1) := by decide +kernel
set_option maxRecDepth 65536 in
set_option maxHeartbeats 40000000 in
theorem own_rmLeD (l : Launch) (Z : State) (a0 : Array Value) (hw : ∀ d ∈ tables_1, d.before a0 Z = true) (ws : List Jvm.Cond) (b0 : Addr) (b1 : Addr) (k0 k1 : ClassId) (z0 z1 : Int32) (vs0 vs1 : List Value) (h0 : Heap) (n0 : Nat) (Z0 : n0 ≤ h0.size) (V_b0 : Arv Z h0 b0 k0 .byte z0 vs0 (.int 0)) (V_b1 : Arv Z h0 b1 k1 .byte z1 vs1 (.int 0)) (hz : ¬ z0 = z1) : own_M l Z y13N jdk_43_method_13_code 3 (some .boolean) ws ({ frames := 0, cells := 0, slots := 0, locals := 0 } : Room) #[.ref b0, .ref b1] h0 (own_QI (0 : Int32) h0 n0) := by
  refine own_begin (n0 := n0) (f0 := mkF ⟨0, 0⟩ 0 #[rv b0, rv b1, .unset] []) (plainFor_of_name own_pn3) (fun m => ef_2_3 m _ _ rfl rfl) ?_
  intro p e s m below meth c s₁ Bd hZ hx hby hml hown hnm X0 e0 N0
  obtain ⟨cl1, Ar1, -, Sz1, M1, -, -⟩ := id V_b0
  obtain ⟨cl2, Ar2, -, Sz2, M2, -, -⟩ := id V_b1
  refine own_ret (v := some (.int 0)) X0 e0 Bd.notSynchronized (nv Bd.returns) (fun fs hr => ?_) ⟨rfl, N0, rfl⟩ (by decide)
  refine xaloadN X0 hx hby rfl d_B14_0 rfl rfl (X0.arraylength hx (own_in e0 Ar1.1) (State.isArrayOf_alike hZ.alike Ar1.2.1) (g := (mkF m 1 #[rv b0, rv b1, .unset] [.ref b0])) rfl rfl (hb hby d_B14_1) _ ?_)
  rw [len_of Sz1 M1]
  refine xaloadN X0 hx hby rfl d_B14_2 rfl rfl (X0.arraylength hx (own_in e0 Ar2.1) (State.isArrayOf_alike hZ.alike Ar2.2.1) (g := (mkF m 3 #[rv b0, rv b1, .unset] [.ref b1, .int z0])) rfl rfl (hb hby d_B14_3) _ ?_)
  rw [len_of Sz2 M2]
  refine xicmpYes X0 hx hby rfl 4 34 rfl d_B14_4 rfl (feq (hz : ¬ (z0 = z1))).2 (by decide) (by decide) (xiconst X0 hx hby rfl d_B14_34 (retN X0 hx (t := .boolean) Bd.returns (by simp) (hb hby d_B14_35) hr))
theorem d_B15_0 : decode jdk_42_method_66_code 0 = .ok (.aload_n 0, 1) := by decide +kernel
theorem d_B15_1 : decode jdk_42_method_66_code 1 = .ok (.aload_n 1, 1) := by decide +kernel
theorem d_B15_2 : decode jdk_42_method_66_code 2 = .ok (.if_acmp .ne 5, 3) := by decide +kernel
theorem d_B15_7 : decode jdk_42_method_66_code 7 = .ok (.aload_n 1, 1) := by decide +kernel
theorem d_B15_8 : decode jdk_42_method_66_code 8 = .ok (.instanceof 10, 3) := by decide +kernel
theorem d_B15_11 : decode jdk_42_method_66_code 11 = .ok (.ifCond .eq 43, 3) := by decide +kernel
theorem d_B15_14 : decode jdk_42_method_66_code 14 = .ok (.aload_n 1, 1) := by decide +kernel
theorem d_B15_15 : decode jdk_42_method_66_code 15 = .ok (.checkcast 10, 3) := by decide +kernel
theorem d_B15_18 : decode jdk_42_method_66_code 18 = .ok (.astore_n 2, 1) := by decide +kernel
theorem d_B15_19 : decode jdk_42_method_66_code 19 = .ok (.getstatic 38, 3) := by decide +kernel
theorem d_B15_22 : decode jdk_42_method_66_code 22 = .ok (.ifCond .eq 14, 3) := by decide +kernel
theorem d_B15_25 : decode jdk_42_method_66_code 25 = .ok (.aload_n 0, 1) := by decide +kernel
theorem d_B15_26 : decode jdk_42_method_66_code 26 = .ok (.getfield 15, 3) := by decide +kernel
theorem d_B15_29 : decode jdk_42_method_66_code 29 = .ok (.aload_n 2, 1) := by decide +kernel
theorem d_B15_30 : decode jdk_42_method_66_code 30 = .ok (.getfield 15, 3) := by decide +kernel
theorem d_B15_33 : decode jdk_42_method_66_code 33 = .ok (.if_icmp .ne 21, 3) := by decide +kernel
theorem d_B15_36 : decode jdk_42_method_66_code 36 = .ok (.aload_n 0, 1) := by decide +kernel
theorem d_B15_37 : decode jdk_42_method_66_code 37 = .ok (.getfield 9, 3) := by decide +kernel
theorem d_B15_40 : decode jdk_42_method_66_code 40 = .ok (.aload_n 2, 1) := by decide +kernel
theorem d_B15_41 : decode jdk_42_method_66_code 41 = .ok (.getfield 9, 3) := by decide +kernel
theorem d_B15_44 : decode jdk_42_method_66_code 44 = .ok (.invokestatic 541, 3) := by decide +kernel
theorem d_B15_47 : decode jdk_42_method_66_code 47 = .ok (.ifCond .eq 7, 3) := by decide +kernel
theorem d_B15_54 : decode jdk_42_method_66_code 54 = .ok (.iconst 0, 1) := by decide +kernel
theorem d_B15_55 : decode jdk_42_method_66_code 55 = .ok (.ireturn, 1) := by decide +kernel
set_option maxRecDepth 65536 in
set_option maxHeartbeats 40000000 in
theorem own_rmEqD (l : Launch) (Z : State) (a0 : Array Value) (hw : ∀ d ∈ tables_1, d.before a0 Z = true) (ws : List Jvm.Cond) (b0 : Addr) (b1 : Addr) (v0 v1 : Addr) (k0 k1 : ClassId) (z0 z1 : Int32) (vs0 vs1 : List Value) (cs : Int32) (h0 : Heap) (n0 : Nat) (Z0 : n0 ≤ h0.size) (E_b0 : Exa Z h0 b0 "java/lang/String") (F_cb0 : Fld Z h0 b0 "java/lang/String" "coder" "B" (.int 0)) (F_vb0 : Fld Z h0 b0 "java/lang/String" "value" "[B" (.ref v0)) (V_v0 : Arv Z h0 v0 k0 .byte z0 vs0 (.int 0)) (E_b1 : Exa Z h0 b1 "java/lang/String") (F_cb1 : Fld Z h0 b1 "java/lang/String" "coder" "B" (.int 0)) (F_vb1 : Fld Z h0 b1 "java/lang/String" "value" "[B" (.ref v1)) (V_v1 : Arv Z h0 v1 k1 .byte z1 vs1 (.int 0)) (hz : ¬ z0 = z1) (S_cs : Sta Z h0 "java/lang/String" "COMPACT_STRINGS" "Z" (.int cs)) (hcs : ¬ cs = (0 : Int32)) (h01 : ¬ b0 = b1) : own_M l Z y9N jdk_42_method_66_code 3 (some .boolean) ws ({ frames := 1, cells := 0, slots := 0, locals := 14 } : Room) #[.ref b0, .ref b1] h0 (own_QI (0 : Int32) h0 n0) := by
  refine own_begin (n0 := n0) (f0 := mkF ⟨0, 0⟩ 0 #[rv b0, rv b1, .unset] []) (plainFor_of_name own_pn0) (fun m => ef_2_3 m _ _ rfl rfl) ?_
  intro p e s m below meth c s₁ Bd hZ hx hby hml hown hnm X0 e0 N0
  obtain ⟨T1, X1, e1, st1⟩ := instY X0 hx hZ hown (wd hw 78 rfl) e0 (Ins.self E_b1) (g := (mkF m 8 #[rv b0, rv b1, .unset] [.ref b1])) rfl rfl (hb hby d_B15_8)
  obtain ⟨T2, X2, e2, st2⟩ := castY X1 hx hZ hown (wd hw 78 rfl) e1 (Ins.self E_b1) (g := (mkF m 15 #[rv b0, rv b1, .unset] [.ref b1])) rfl rfl (hb hby d_B15_15)
  obtain ⟨T3, X3, e3, st3⟩ := getS2 X2 hx hZ hown (host := "") (Or.inl (wd hw 19 rfl)) Via.refl e2 S_cs (g := (mkF m 19 #[rv b0, rv b1, rv b1] [])) rfl (hb hby d_B15_19)
  obtain ⟨T4, X4, e4, st4⟩ := getF X3 hx hZ hown (host := "") (Or.inl (wd hw 20 rfl)) Via.refl e3 F_cb0 (g := (mkF m 26 #[rv b0, rv b1, rv b1] [.ref b0])) rfl rfl (hb hby d_B15_26)
  obtain ⟨T5, X5, e5, st5⟩ := getF X4 hx hZ hown (host := "") (Or.inl (wd hw 20 rfl)) Via.refl e4 F_cb1 (g := (mkF m 30 #[rv b0, rv b1, rv b1] [.ref b1, .int 0])) rfl rfl (hb hby d_B15_30)
  obtain ⟨T6, X6, e6, st6⟩ := getF X5 hx hZ hown (host := "") (Or.inl (wd hw 13 rfl)) Via.refl e5 F_vb0 (g := (mkF m 37 #[rv b0, rv b1, rv b1] [.ref b0])) rfl rfl (hb hby d_B15_37)
  obtain ⟨T7, X7, e7, st7⟩ := getF X6 hx hZ hown (host := "") (Or.inl (wd hw 13 rfl)) Via.refl e6 F_vb1 (g := (mkF m 41 #[rv b0, rv b1, rv b1] [.ref b1, .ref v0])) rfl rfl (hb hby d_B15_41)
  refine own_go (b := T7.setTop (mkF m 44 #[rv b0, rv b1, rv b1] [.ref v1, .ref v0])) (fun t k => xaloadN X0 hx hby rfl d_B15_0 rfl rfl (xaloadN X0 hx hby rfl d_B15_1 rfl rfl (Jvm.RoadKit.acmp (g := (mkF m 2 #[rv b0, rv b1, .unset] [.ref b1, .ref b0])) X0 hx rfl rfl rfl (pc0 := 2) (pc' := 7) (same := false) rfl (hb hby d_B15_2) rfl (decide_eq_false fun q => (h01 : ¬ (b0 = b1)) (Value.ref.inj q)) (by decide) (by decide) (xaloadN X0 hx hby rfl d_B15_7 rfl rfl (st1 _ (xifNo X1 hx hby rfl d_B15_11 rfl ((if0 _ _).trans (feq ((by decide) : ¬ ((1 : Int32) = (0 : Int32)))).1) (xaloadN X1 hx hby rfl d_B15_14 rfl rfl (st2 _ (xastoreN X2 hx hby rfl d_B15_18 rfl rfl (l' := #[rv b0, rv b1, rv b1]) rfl (st3 _ (xifNo X3 hx hby rfl d_B15_22 rfl ((if0 _ _).trans (feq (hcs : ¬ (cs = (0 : Int32)))).1) (xaloadN X3 hx hby rfl d_B15_25 rfl rfl (st4 _ (xaloadN X4 hx hby rfl d_B15_29 rfl rfl (st5 _ (xicmpNo X5 hx hby rfl d_B15_33 rfl (teq ((by decide) : (0 : Int32) = (0 : Int32))).2 (xaloadN X5 hx hby rfl d_B15_36 rfl rfl (st6 _ (xaloadN X6 hx hby rfl d_B15_40 rfl rfl (st7 _ k)))))))))))))))))))) ?_
  refine own_cs X7 hx hZ hown hml e7 (wd hw 79 rfl) (wd hw 80 rfl) (wd hw 38 rfl) (wd hw 81 rfl) (own_rmLeD l Z a0 hw [] v0 v1 k0 k1 z0 z1 vs0 vs1 h0 n0 Z0 V_v0 V_v1 hz) own_pd12 (hb hby d_B15_44) 0 [] rfl ⟨rfl, rfl, rfl, rfl, rfl⟩ (by decide) ?_
  rintro T8 L8 v8 X8 hQ8
  obtain ⟨rfl, N8q, e8⟩ := hQ8
  have N8 := Fr.app N0 N8q
  exact own_ret (v := some (.int 0)) X8 e8 Bd.notSynchronized (nv Bd.returns) (fun fs hr => xifYes X8 hx hby rfl 47 54 rfl d_B15_47 rfl ((if0 _ _).trans (teq ((by decide) : (0 : Int32) = (0 : Int32))).1) (by decide) (by decide) (xiconst X8 hx hby rfl d_B15_54 (retN X8 hx (t := .boolean) Bd.returns (by simp) (hb hby d_B15_55) hr))) ⟨rfl, N8, rfl⟩ (by decide)
set_option maxRecDepth 65536 in
set_option maxHeartbeats 40000000 in
theorem own_rmEqN (l : Launch) (Z : State) (a0 : Array Value) (hw : ∀ d ∈ tables_1, d.before a0 Z = true) (ws : List Jvm.Cond) (b0 : Addr) (h0 : Heap) (n0 : Nat) (Z0 : n0 ≤ h0.size) : own_M l Z y9N jdk_42_method_66_code 3 (some .boolean) ws ({ frames := 0, cells := 0, slots := 0, locals := 0 } : Room) #[.ref b0, .null] h0 (own_QI (0 : Int32) h0 n0) := by
  refine own_begin (n0 := n0) (f0 := mkF ⟨0, 0⟩ 0 #[rv b0, .val .null, .unset] []) (plainFor_of_name own_pn0) (fun m => ef_2_3 m _ _ rfl rfl) ?_
  intro p e s m below meth c s₁ Bd hZ hx hby hml hown hnm X0 e0 N0
  exact own_ret (v := some (.int 0)) X0 e0 Bd.notSynchronized (nv Bd.returns) (fun fs hr => xaloadN X0 hx hby rfl d_B15_0 rfl rfl (xaloadN X0 hx hby rfl d_B15_1 rfl rfl (Jvm.RoadKit.acmp (g := (mkF m 2 #[rv b0, .val .null, .unset] [.null, .ref b0])) X0 hx rfl rfl rfl (pc0 := 2) (pc' := 7) (same := false) rfl (hb hby d_B15_2) rfl (decide_eq_false nofun) (by decide) (by decide) (xaloadN X0 hx hby rfl d_B15_7 rfl rfl (X0.instanceofNull hx (g := (mkF m 8 #[rv b0, .val .null, .unset] [.null])) rfl rfl (hb hby d_B15_8) _ (xifYes X0 hx hby rfl 11 54 rfl d_B15_11 rfl ((if0 _ _).trans (teq ((by decide) : (0 : Int32) = (0 : Int32))).1) (by decide) (by decide) (xiconst X0 hx hby rfl d_B15_54 (retN X0 hx (t := .boolean) Bd.returns (by simp) (hb hby d_B15_55) hr)))))))) ⟨rfl, N0, rfl⟩ (by decide)
def own_E10 (y0 y1 y2 y3 y4 y5 y6 y7 y8 y9 : Int32) : Int32 := if y0 = (115 : Int32) then if y1 = (101 : Int32) then if y2 = (113 : Int32) then if y3 = (117 : Int32) then if y4 = (101 : Int32) then if y5 = (110 : Int32) then if y6 = (116 : Int32) then if y7 = (105 : Int32) then if y8 = (97 : Int32) then if y9 = (108 : Int32) then (1 : Int32) else (0 : Int32) else (0 : Int32) else (0 : Int32) else (0 : Int32) else (0 : Int32) else (0 : Int32) else (0 : Int32) else (0 : Int32) else (0 : Int32) else (0 : Int32)
theorem d_B14_7 : decode jdk_43_method_13_code 7 = .ok (.iconst 0, 1) := by decide +kernel
theorem d_B14_8 : decode jdk_43_method_13_code 8 = .ok (.istore_n 2, 1) := by decide +kernel
theorem d_B14_9 : decode jdk_43_method_13_code 9 = .ok (.iload_n 2, 1) := by decide +kernel
theorem d_B14_10 : decode jdk_43_method_13_code 10 = .ok (.aload_n 0, 1) := by decide +kernel
theorem d_B14_11 : decode jdk_43_method_13_code 11 = .ok (.arraylength, 1) := by decide +kernel
theorem d_B14_12 : decode jdk_43_method_13_code 12 = .ok (.if_icmp .ge 20, 3) := by decide +kernel
theorem d_B14_15 : decode jdk_43_method_13_code 15 = .ok (.aload_n 0, 1) := by decide +kernel
theorem d_B14_16 : decode jdk_43_method_13_code 16 = .ok (.iload_n 2, 1) := by decide +kernel
theorem d_B14_17 : decode jdk_43_method_13_code 17 = .ok (.baload, 1) := by decide +kernel
theorem d_B14_18 : decode jdk_43_method_13_code 18 = .ok (.aload_n 1, 1) := by decide +kernel
theorem d_B14_19 : decode jdk_43_method_13_code 19 = .ok (.iload_n 2, 1) := by decide +kernel
theorem d_B14_20 : decode jdk_43_method_13_code 20 = .ok (.baload, 1) := by decide +kernel
theorem d_B14_21 : decode jdk_43_method_13_code 21 = .ok (.if_icmp .eq 5, 3) := by decide +kernel
theorem d_B14_24 : decode jdk_43_method_13_code 24 = .ok (.iconst 0, 1) := by decide +kernel
theorem d_B14_25 : decode jdk_43_method_13_code 25 = .ok (.ireturn, 1) := by decide +kernel
theorem d_B14_26 : decode jdk_43_method_13_code 26 = .ok (.iinc 2 1, 3) := by decide +kernel
theorem d_B14_29 : decode jdk_43_method_13_code 29 = .ok (.goto (-20), 3) := by decide +kernel
theorem d_B14_32 : decode jdk_43_method_13_code 32 = .ok (.iconst 1, 1) := by decide +kernel
theorem d_B14_33 : decode jdk_43_method_13_code 33 = .ok (.ireturn, 1) := by decide +kernel
set_option maxRecDepth 65536 in
set_option maxHeartbeats 40000000 in
theorem own_rmLeA10 (l : Launch) (Z : State) (a0 : Array Value) (hw : ∀ d ∈ tables_1, d.before a0 Z = true) (ws : List Jvm.Cond) (b0 : Addr) (b1 : Addr) (k0 k1 : ClassId) (y0 y1 y2 y3 y4 y5 y6 y7 y8 y9 : Int32) (h0 : Heap) (n0 : Nat) (Z0 : n0 ≤ h0.size) (V_b0 : Arv Z h0 b0 k0 .byte (10 : Int32) [.int y0, .int y1, .int y2, .int y3, .int y4, .int y5, .int y6, .int y7, .int y8, .int y9] (.int 0)) (V_b1 : Arv Z h0 b1 k1 .byte (10 : Int32) [.int 115, .int 101, .int 113, .int 117, .int 101, .int 110, .int 116, .int 105, .int 97, .int 108] (.int 0)) : own_M l Z y13N jdk_43_method_13_code 3 (some .boolean) ws ({ frames := 0, cells := 0, slots := 0, locals := 0 } : Room) #[.ref b0, .ref b1] h0 (own_QI (own_E10 y0 y1 y2 y3 y4 y5 y6 y7 y8 y9) h0 n0) := by
  refine own_begin (n0 := n0) (f0 := mkF ⟨0, 0⟩ 0 #[rv b0, rv b1, .unset] []) (plainFor_of_name own_pn3) (fun m => ef_2_3 m _ _ rfl rfl) ?_
  intro p e s m below meth c s₁ Bd hZ hx hby hml hown hnm X0 e0 N0
  obtain ⟨cl1, Ar1, -, Sz1, M1, -, -⟩ := id V_b0
  obtain ⟨cl2, Ar2, -, Sz2, M2, -, -⟩ := id V_b1
  obtain ⟨cl3, Ar3, -, Sz3, M3, -, -⟩ := id V_b0
  obtain ⟨cl4, Ar4, -, Sz4, M4, Hs4, Gs4⟩ := id V_b0
  have hin4 := inb_of (j := (0 : Int32)) Sz4 ⟨by decide, by decide⟩
  obtain ⟨cl5, Ar5, -, Sz5, M5, Hs5, Gs5⟩ := id V_b1
  have hin5 := inb_of (j := (0 : Int32)) Sz5 ⟨by decide, by decide⟩
  refine own_go (b := s₁.setTop (mkF m 21 #[rv b0, rv b1, iv 0] [.int 115, .int y0])) (fun t k => ?_) ?_
  · refine xaloadN X0 hx hby rfl d_B14_0 rfl rfl (X0.arraylength hx (own_in e0 Ar1.1) (State.isArrayOf_alike hZ.alike Ar1.2.1) (g := (mkF m 1 #[rv b0, rv b1, .unset] [.ref b0])) rfl rfl (hb hby d_B14_1) _ ?_)
    rw [len_of Sz1 M1]
    refine xaloadN X0 hx hby rfl d_B14_2 rfl rfl (X0.arraylength hx (own_in e0 Ar2.1) (State.isArrayOf_alike hZ.alike Ar2.2.1) (g := (mkF m 3 #[rv b0, rv b1, .unset] [.ref b1, .int 10])) rfl rfl (hb hby d_B14_3) _ ?_)
    rw [len_of Sz2 M2]
    refine xicmpNo X0 hx hby rfl d_B14_4 rfl (teq ((by decide) : (10 : Int32) = (10 : Int32))).2 (xiconst X0 hx hby rfl d_B14_7 (xistoreN X0 hx hby rfl d_B14_8 rfl (l' := #[rv b0, rv b1, iv 0]) rfl (xiloadN X0 hx hby rfl d_B14_9 rfl (xaloadN X0 hx hby rfl d_B14_10 rfl rfl (X0.arraylength hx (own_in e0 Ar3.1) (State.isArrayOf_alike hZ.alike Ar3.2.1) (g := (mkF m 11 #[rv b0, rv b1, iv 0] [.ref b0, .int 0])) rfl rfl (hb hby d_B14_11) _ ?_)))))
    rw [len_of Sz3 M3]
    refine xicmpNo X0 hx hby rfl d_B14_12 rfl (tlt ((by decide) : (0 : Int32) < (10 : Int32))).2.1 (xaloadN X0 hx hby rfl d_B14_15 rfl rfl (xiloadN X0 hx hby rfl d_B14_16 rfl (X0.baloadBytes hx (j := (0 : Int32)) (v := (.int y0)) (own_in e0 Ar4.1) (State.isArrayOf_alike hZ.alike Ar4.2.1) Ar4.2.2 hin4 (Has.at Hs4 hin4 rfl) (g := (mkF m 17 #[rv b0, rv b1, iv 0] [.int 0, .ref b0])) rfl rfl (hb hby d_B14_17) _ (xaloadN X0 hx hby rfl d_B14_18 rfl rfl (xiloadN X0 hx hby rfl d_B14_19 rfl (X0.baloadBytes hx (j := (0 : Int32)) (v := (.int 115)) (own_in e0 Ar5.1) (State.isArrayOf_alike hZ.alike Ar5.2.1) Ar5.2.2 hin5 (Has.at Hs5 hin5 rfl) (g := (mkF m 20 #[rv b0, rv b1, iv 0] [.int 0, .ref b1, .int y0])) rfl rfl (hb hby d_B14_20) _ k))))))
  by_cases hc21_6 : y0 = (115 : Int32)
  · obtain ⟨cl7, Ar7, -, Sz7, M7, -, -⟩ := id V_b0
    obtain ⟨cl8, Ar8, -, Sz8, M8, Hs8, Gs8⟩ := id V_b0
    have hin8 := inb_of (j := (1 : Int32)) Sz8 ⟨by decide, by decide⟩
    obtain ⟨cl9, Ar9, -, Sz9, M9, Hs9, Gs9⟩ := id V_b1
    have hin9 := inb_of (j := (1 : Int32)) Sz9 ⟨by decide, by decide⟩
    refine own_go (b := s₁.setTop (mkF m 21 #[rv b0, rv b1, iv 1] [.int 101, .int y1])) (fun t k => ?_) ?_
    · refine xicmpYes X0 hx hby rfl 21 26 rfl d_B14_21 rfl (teq hc21_6).1 (by decide) (by decide) (xiinc X0 hx hby rfl d_B14_26 rfl (l' := #[rv b0, rv b1, iv 1]) rfl (xgoto X0 hx hby rfl 29 9 rfl d_B14_29 (by decide) (by decide) (xiloadN X0 hx hby rfl d_B14_9 rfl (xaloadN X0 hx hby rfl d_B14_10 rfl rfl (X0.arraylength hx (own_in e0 Ar7.1) (State.isArrayOf_alike hZ.alike Ar7.2.1) (g := (mkF m 11 #[rv b0, rv b1, iv 1] [.ref b0, .int 1])) rfl rfl (hb hby d_B14_11) _ ?_)))))
      rw [len_of Sz7 M7]
      refine xicmpNo X0 hx hby rfl d_B14_12 rfl (tlt ((by decide) : (1 : Int32) < (10 : Int32))).2.1 (xaloadN X0 hx hby rfl d_B14_15 rfl rfl (xiloadN X0 hx hby rfl d_B14_16 rfl (X0.baloadBytes hx (j := (1 : Int32)) (v := (.int y1)) (own_in e0 Ar8.1) (State.isArrayOf_alike hZ.alike Ar8.2.1) Ar8.2.2 hin8 (Has.at Hs8 hin8 rfl) (g := (mkF m 17 #[rv b0, rv b1, iv 1] [.int 1, .ref b0])) rfl rfl (hb hby d_B14_17) _ (xaloadN X0 hx hby rfl d_B14_18 rfl rfl (xiloadN X0 hx hby rfl d_B14_19 rfl (X0.baloadBytes hx (j := (1 : Int32)) (v := (.int 101)) (own_in e0 Ar9.1) (State.isArrayOf_alike hZ.alike Ar9.2.1) Ar9.2.2 hin9 (Has.at Hs9 hin9 rfl) (g := (mkF m 20 #[rv b0, rv b1, iv 1] [.int 1, .ref b1, .int y1])) rfl rfl (hb hby d_B14_20) _ k))))))
    by_cases hc21_10 : y1 = (101 : Int32)
    · obtain ⟨cl11, Ar11, -, Sz11, M11, -, -⟩ := id V_b0
      obtain ⟨cl12, Ar12, -, Sz12, M12, Hs12, Gs12⟩ := id V_b0
      have hin12 := inb_of (j := (2 : Int32)) Sz12 ⟨by decide, by decide⟩
      obtain ⟨cl13, Ar13, -, Sz13, M13, Hs13, Gs13⟩ := id V_b1
      have hin13 := inb_of (j := (2 : Int32)) Sz13 ⟨by decide, by decide⟩
      refine own_go (b := s₁.setTop (mkF m 21 #[rv b0, rv b1, iv 2] [.int 113, .int y2])) (fun t k => ?_) ?_
      · refine xicmpYes X0 hx hby rfl 21 26 rfl d_B14_21 rfl (teq hc21_10).1 (by decide) (by decide) (xiinc X0 hx hby rfl d_B14_26 rfl (l' := #[rv b0, rv b1, iv 2]) rfl (xgoto X0 hx hby rfl 29 9 rfl d_B14_29 (by decide) (by decide) (xiloadN X0 hx hby rfl d_B14_9 rfl (xaloadN X0 hx hby rfl d_B14_10 rfl rfl (X0.arraylength hx (own_in e0 Ar11.1) (State.isArrayOf_alike hZ.alike Ar11.2.1) (g := (mkF m 11 #[rv b0, rv b1, iv 2] [.ref b0, .int 2])) rfl rfl (hb hby d_B14_11) _ ?_)))))
        rw [len_of Sz11 M11]
        refine xicmpNo X0 hx hby rfl d_B14_12 rfl (tlt ((by decide) : (2 : Int32) < (10 : Int32))).2.1 (xaloadN X0 hx hby rfl d_B14_15 rfl rfl (xiloadN X0 hx hby rfl d_B14_16 rfl (X0.baloadBytes hx (j := (2 : Int32)) (v := (.int y2)) (own_in e0 Ar12.1) (State.isArrayOf_alike hZ.alike Ar12.2.1) Ar12.2.2 hin12 (Has.at Hs12 hin12 rfl) (g := (mkF m 17 #[rv b0, rv b1, iv 2] [.int 2, .ref b0])) rfl rfl (hb hby d_B14_17) _ (xaloadN X0 hx hby rfl d_B14_18 rfl rfl (xiloadN X0 hx hby rfl d_B14_19 rfl (X0.baloadBytes hx (j := (2 : Int32)) (v := (.int 113)) (own_in e0 Ar13.1) (State.isArrayOf_alike hZ.alike Ar13.2.1) Ar13.2.2 hin13 (Has.at Hs13 hin13 rfl) (g := (mkF m 20 #[rv b0, rv b1, iv 2] [.int 2, .ref b1, .int y2])) rfl rfl (hb hby d_B14_20) _ k))))))
      by_cases hc21_14 : y2 = (113 : Int32)
      · obtain ⟨cl15, Ar15, -, Sz15, M15, -, -⟩ := id V_b0
        obtain ⟨cl16, Ar16, -, Sz16, M16, Hs16, Gs16⟩ := id V_b0
        have hin16 := inb_of (j := (3 : Int32)) Sz16 ⟨by decide, by decide⟩
        obtain ⟨cl17, Ar17, -, Sz17, M17, Hs17, Gs17⟩ := id V_b1
        have hin17 := inb_of (j := (3 : Int32)) Sz17 ⟨by decide, by decide⟩
        refine own_go (b := s₁.setTop (mkF m 21 #[rv b0, rv b1, iv 3] [.int 117, .int y3])) (fun t k => ?_) ?_
        · refine xicmpYes X0 hx hby rfl 21 26 rfl d_B14_21 rfl (teq hc21_14).1 (by decide) (by decide) (xiinc X0 hx hby rfl d_B14_26 rfl (l' := #[rv b0, rv b1, iv 3]) rfl (xgoto X0 hx hby rfl 29 9 rfl d_B14_29 (by decide) (by decide) (xiloadN X0 hx hby rfl d_B14_9 rfl (xaloadN X0 hx hby rfl d_B14_10 rfl rfl (X0.arraylength hx (own_in e0 Ar15.1) (State.isArrayOf_alike hZ.alike Ar15.2.1) (g := (mkF m 11 #[rv b0, rv b1, iv 3] [.ref b0, .int 3])) rfl rfl (hb hby d_B14_11) _ ?_)))))
          rw [len_of Sz15 M15]
          refine xicmpNo X0 hx hby rfl d_B14_12 rfl (tlt ((by decide) : (3 : Int32) < (10 : Int32))).2.1 (xaloadN X0 hx hby rfl d_B14_15 rfl rfl (xiloadN X0 hx hby rfl d_B14_16 rfl (X0.baloadBytes hx (j := (3 : Int32)) (v := (.int y3)) (own_in e0 Ar16.1) (State.isArrayOf_alike hZ.alike Ar16.2.1) Ar16.2.2 hin16 (Has.at Hs16 hin16 rfl) (g := (mkF m 17 #[rv b0, rv b1, iv 3] [.int 3, .ref b0])) rfl rfl (hb hby d_B14_17) _ (xaloadN X0 hx hby rfl d_B14_18 rfl rfl (xiloadN X0 hx hby rfl d_B14_19 rfl (X0.baloadBytes hx (j := (3 : Int32)) (v := (.int 117)) (own_in e0 Ar17.1) (State.isArrayOf_alike hZ.alike Ar17.2.1) Ar17.2.2 hin17 (Has.at Hs17 hin17 rfl) (g := (mkF m 20 #[rv b0, rv b1, iv 3] [.int 3, .ref b1, .int y3])) rfl rfl (hb hby d_B14_20) _ k))))))
        by_cases hc21_18 : y3 = (117 : Int32)
        · obtain ⟨cl19, Ar19, -, Sz19, M19, -, -⟩ := id V_b0
          obtain ⟨cl20, Ar20, -, Sz20, M20, Hs20, Gs20⟩ := id V_b0
          have hin20 := inb_of (j := (4 : Int32)) Sz20 ⟨by decide, by decide⟩
          obtain ⟨cl21, Ar21, -, Sz21, M21, Hs21, Gs21⟩ := id V_b1
          have hin21 := inb_of (j := (4 : Int32)) Sz21 ⟨by decide, by decide⟩
          refine own_go (b := s₁.setTop (mkF m 21 #[rv b0, rv b1, iv 4] [.int 101, .int y4])) (fun t k => ?_) ?_
          · refine xicmpYes X0 hx hby rfl 21 26 rfl d_B14_21 rfl (teq hc21_18).1 (by decide) (by decide) (xiinc X0 hx hby rfl d_B14_26 rfl (l' := #[rv b0, rv b1, iv 4]) rfl (xgoto X0 hx hby rfl 29 9 rfl d_B14_29 (by decide) (by decide) (xiloadN X0 hx hby rfl d_B14_9 rfl (xaloadN X0 hx hby rfl d_B14_10 rfl rfl (X0.arraylength hx (own_in e0 Ar19.1) (State.isArrayOf_alike hZ.alike Ar19.2.1) (g := (mkF m 11 #[rv b0, rv b1, iv 4] [.ref b0, .int 4])) rfl rfl (hb hby d_B14_11) _ ?_)))))
            rw [len_of Sz19 M19]
            refine xicmpNo X0 hx hby rfl d_B14_12 rfl (tlt ((by decide) : (4 : Int32) < (10 : Int32))).2.1 (xaloadN X0 hx hby rfl d_B14_15 rfl rfl (xiloadN X0 hx hby rfl d_B14_16 rfl (X0.baloadBytes hx (j := (4 : Int32)) (v := (.int y4)) (own_in e0 Ar20.1) (State.isArrayOf_alike hZ.alike Ar20.2.1) Ar20.2.2 hin20 (Has.at Hs20 hin20 rfl) (g := (mkF m 17 #[rv b0, rv b1, iv 4] [.int 4, .ref b0])) rfl rfl (hb hby d_B14_17) _ (xaloadN X0 hx hby rfl d_B14_18 rfl rfl (xiloadN X0 hx hby rfl d_B14_19 rfl (X0.baloadBytes hx (j := (4 : Int32)) (v := (.int 101)) (own_in e0 Ar21.1) (State.isArrayOf_alike hZ.alike Ar21.2.1) Ar21.2.2 hin21 (Has.at Hs21 hin21 rfl) (g := (mkF m 20 #[rv b0, rv b1, iv 4] [.int 4, .ref b1, .int y4])) rfl rfl (hb hby d_B14_20) _ k))))))
          by_cases hc21_22 : y4 = (101 : Int32)
          · obtain ⟨cl23, Ar23, -, Sz23, M23, -, -⟩ := id V_b0
            obtain ⟨cl24, Ar24, -, Sz24, M24, Hs24, Gs24⟩ := id V_b0
            have hin24 := inb_of (j := (5 : Int32)) Sz24 ⟨by decide, by decide⟩
            obtain ⟨cl25, Ar25, -, Sz25, M25, Hs25, Gs25⟩ := id V_b1
            have hin25 := inb_of (j := (5 : Int32)) Sz25 ⟨by decide, by decide⟩
            refine own_go (b := s₁.setTop (mkF m 21 #[rv b0, rv b1, iv 5] [.int 110, .int y5])) (fun t k => ?_) ?_
            · refine xicmpYes X0 hx hby rfl 21 26 rfl d_B14_21 rfl (teq hc21_22).1 (by decide) (by decide) (xiinc X0 hx hby rfl d_B14_26 rfl (l' := #[rv b0, rv b1, iv 5]) rfl (xgoto X0 hx hby rfl 29 9 rfl d_B14_29 (by decide) (by decide) (xiloadN X0 hx hby rfl d_B14_9 rfl (xaloadN X0 hx hby rfl d_B14_10 rfl rfl (X0.arraylength hx (own_in e0 Ar23.1) (State.isArrayOf_alike hZ.alike Ar23.2.1) (g := (mkF m 11 #[rv b0, rv b1, iv 5] [.ref b0, .int 5])) rfl rfl (hb hby d_B14_11) _ ?_)))))
              rw [len_of Sz23 M23]
              refine xicmpNo X0 hx hby rfl d_B14_12 rfl (tlt ((by decide) : (5 : Int32) < (10 : Int32))).2.1 (xaloadN X0 hx hby rfl d_B14_15 rfl rfl (xiloadN X0 hx hby rfl d_B14_16 rfl (X0.baloadBytes hx (j := (5 : Int32)) (v := (.int y5)) (own_in e0 Ar24.1) (State.isArrayOf_alike hZ.alike Ar24.2.1) Ar24.2.2 hin24 (Has.at Hs24 hin24 rfl) (g := (mkF m 17 #[rv b0, rv b1, iv 5] [.int 5, .ref b0])) rfl rfl (hb hby d_B14_17) _ (xaloadN X0 hx hby rfl d_B14_18 rfl rfl (xiloadN X0 hx hby rfl d_B14_19 rfl (X0.baloadBytes hx (j := (5 : Int32)) (v := (.int 110)) (own_in e0 Ar25.1) (State.isArrayOf_alike hZ.alike Ar25.2.1) Ar25.2.2 hin25 (Has.at Hs25 hin25 rfl) (g := (mkF m 20 #[rv b0, rv b1, iv 5] [.int 5, .ref b1, .int y5])) rfl rfl (hb hby d_B14_20) _ k))))))
            by_cases hc21_26 : y5 = (110 : Int32)
            · obtain ⟨cl27, Ar27, -, Sz27, M27, -, -⟩ := id V_b0
              obtain ⟨cl28, Ar28, -, Sz28, M28, Hs28, Gs28⟩ := id V_b0
              have hin28 := inb_of (j := (6 : Int32)) Sz28 ⟨by decide, by decide⟩
              obtain ⟨cl29, Ar29, -, Sz29, M29, Hs29, Gs29⟩ := id V_b1
              have hin29 := inb_of (j := (6 : Int32)) Sz29 ⟨by decide, by decide⟩
              refine own_go (b := s₁.setTop (mkF m 21 #[rv b0, rv b1, iv 6] [.int 116, .int y6])) (fun t k => ?_) ?_
              · refine xicmpYes X0 hx hby rfl 21 26 rfl d_B14_21 rfl (teq hc21_26).1 (by decide) (by decide) (xiinc X0 hx hby rfl d_B14_26 rfl (l' := #[rv b0, rv b1, iv 6]) rfl (xgoto X0 hx hby rfl 29 9 rfl d_B14_29 (by decide) (by decide) (xiloadN X0 hx hby rfl d_B14_9 rfl (xaloadN X0 hx hby rfl d_B14_10 rfl rfl (X0.arraylength hx (own_in e0 Ar27.1) (State.isArrayOf_alike hZ.alike Ar27.2.1) (g := (mkF m 11 #[rv b0, rv b1, iv 6] [.ref b0, .int 6])) rfl rfl (hb hby d_B14_11) _ ?_)))))
                rw [len_of Sz27 M27]
                refine xicmpNo X0 hx hby rfl d_B14_12 rfl (tlt ((by decide) : (6 : Int32) < (10 : Int32))).2.1 (xaloadN X0 hx hby rfl d_B14_15 rfl rfl (xiloadN X0 hx hby rfl d_B14_16 rfl (X0.baloadBytes hx (j := (6 : Int32)) (v := (.int y6)) (own_in e0 Ar28.1) (State.isArrayOf_alike hZ.alike Ar28.2.1) Ar28.2.2 hin28 (Has.at Hs28 hin28 rfl) (g := (mkF m 17 #[rv b0, rv b1, iv 6] [.int 6, .ref b0])) rfl rfl (hb hby d_B14_17) _ (xaloadN X0 hx hby rfl d_B14_18 rfl rfl (xiloadN X0 hx hby rfl d_B14_19 rfl (X0.baloadBytes hx (j := (6 : Int32)) (v := (.int 116)) (own_in e0 Ar29.1) (State.isArrayOf_alike hZ.alike Ar29.2.1) Ar29.2.2 hin29 (Has.at Hs29 hin29 rfl) (g := (mkF m 20 #[rv b0, rv b1, iv 6] [.int 6, .ref b1, .int y6])) rfl rfl (hb hby d_B14_20) _ k))))))
              by_cases hc21_30 : y6 = (116 : Int32)
              · obtain ⟨cl31, Ar31, -, Sz31, M31, -, -⟩ := id V_b0
                obtain ⟨cl32, Ar32, -, Sz32, M32, Hs32, Gs32⟩ := id V_b0
                have hin32 := inb_of (j := (7 : Int32)) Sz32 ⟨by decide, by decide⟩
                obtain ⟨cl33, Ar33, -, Sz33, M33, Hs33, Gs33⟩ := id V_b1
                have hin33 := inb_of (j := (7 : Int32)) Sz33 ⟨by decide, by decide⟩
                refine own_go (b := s₁.setTop (mkF m 21 #[rv b0, rv b1, iv 7] [.int 105, .int y7])) (fun t k => ?_) ?_
                · refine xicmpYes X0 hx hby rfl 21 26 rfl d_B14_21 rfl (teq hc21_30).1 (by decide) (by decide) (xiinc X0 hx hby rfl d_B14_26 rfl (l' := #[rv b0, rv b1, iv 7]) rfl (xgoto X0 hx hby rfl 29 9 rfl d_B14_29 (by decide) (by decide) (xiloadN X0 hx hby rfl d_B14_9 rfl (xaloadN X0 hx hby rfl d_B14_10 rfl rfl (X0.arraylength hx (own_in e0 Ar31.1) (State.isArrayOf_alike hZ.alike Ar31.2.1) (g := (mkF m 11 #[rv b0, rv b1, iv 7] [.ref b0, .int 7])) rfl rfl (hb hby d_B14_11) _ ?_)))))
                  rw [len_of Sz31 M31]
                  refine xicmpNo X0 hx hby rfl d_B14_12 rfl (tlt ((by decide) : (7 : Int32) < (10 : Int32))).2.1 (xaloadN X0 hx hby rfl d_B14_15 rfl rfl (xiloadN X0 hx hby rfl d_B14_16 rfl (X0.baloadBytes hx (j := (7 : Int32)) (v := (.int y7)) (own_in e0 Ar32.1) (State.isArrayOf_alike hZ.alike Ar32.2.1) Ar32.2.2 hin32 (Has.at Hs32 hin32 rfl) (g := (mkF m 17 #[rv b0, rv b1, iv 7] [.int 7, .ref b0])) rfl rfl (hb hby d_B14_17) _ (xaloadN X0 hx hby rfl d_B14_18 rfl rfl (xiloadN X0 hx hby rfl d_B14_19 rfl (X0.baloadBytes hx (j := (7 : Int32)) (v := (.int 105)) (own_in e0 Ar33.1) (State.isArrayOf_alike hZ.alike Ar33.2.1) Ar33.2.2 hin33 (Has.at Hs33 hin33 rfl) (g := (mkF m 20 #[rv b0, rv b1, iv 7] [.int 7, .ref b1, .int y7])) rfl rfl (hb hby d_B14_20) _ k))))))
                by_cases hc21_34 : y7 = (105 : Int32)
                · obtain ⟨cl35, Ar35, -, Sz35, M35, -, -⟩ := id V_b0
                  obtain ⟨cl36, Ar36, -, Sz36, M36, Hs36, Gs36⟩ := id V_b0
                  have hin36 := inb_of (j := (8 : Int32)) Sz36 ⟨by decide, by decide⟩
                  obtain ⟨cl37, Ar37, -, Sz37, M37, Hs37, Gs37⟩ := id V_b1
                  have hin37 := inb_of (j := (8 : Int32)) Sz37 ⟨by decide, by decide⟩
                  refine own_go (b := s₁.setTop (mkF m 21 #[rv b0, rv b1, iv 8] [.int 97, .int y8])) (fun t k => ?_) ?_
                  · refine xicmpYes X0 hx hby rfl 21 26 rfl d_B14_21 rfl (teq hc21_34).1 (by decide) (by decide) (xiinc X0 hx hby rfl d_B14_26 rfl (l' := #[rv b0, rv b1, iv 8]) rfl (xgoto X0 hx hby rfl 29 9 rfl d_B14_29 (by decide) (by decide) (xiloadN X0 hx hby rfl d_B14_9 rfl (xaloadN X0 hx hby rfl d_B14_10 rfl rfl (X0.arraylength hx (own_in e0 Ar35.1) (State.isArrayOf_alike hZ.alike Ar35.2.1) (g := (mkF m 11 #[rv b0, rv b1, iv 8] [.ref b0, .int 8])) rfl rfl (hb hby d_B14_11) _ ?_)))))
                    rw [len_of Sz35 M35]
                    refine xicmpNo X0 hx hby rfl d_B14_12 rfl (tlt ((by decide) : (8 : Int32) < (10 : Int32))).2.1 (xaloadN X0 hx hby rfl d_B14_15 rfl rfl (xiloadN X0 hx hby rfl d_B14_16 rfl (X0.baloadBytes hx (j := (8 : Int32)) (v := (.int y8)) (own_in e0 Ar36.1) (State.isArrayOf_alike hZ.alike Ar36.2.1) Ar36.2.2 hin36 (Has.at Hs36 hin36 rfl) (g := (mkF m 17 #[rv b0, rv b1, iv 8] [.int 8, .ref b0])) rfl rfl (hb hby d_B14_17) _ (xaloadN X0 hx hby rfl d_B14_18 rfl rfl (xiloadN X0 hx hby rfl d_B14_19 rfl (X0.baloadBytes hx (j := (8 : Int32)) (v := (.int 97)) (own_in e0 Ar37.1) (State.isArrayOf_alike hZ.alike Ar37.2.1) Ar37.2.2 hin37 (Has.at Hs37 hin37 rfl) (g := (mkF m 20 #[rv b0, rv b1, iv 8] [.int 8, .ref b1, .int y8])) rfl rfl (hb hby d_B14_20) _ k))))))
                  by_cases hc21_38 : y8 = (97 : Int32)
                  · obtain ⟨cl39, Ar39, -, Sz39, M39, -, -⟩ := id V_b0
                    obtain ⟨cl40, Ar40, -, Sz40, M40, Hs40, Gs40⟩ := id V_b0
                    have hin40 := inb_of (j := (9 : Int32)) Sz40 ⟨by decide, by decide⟩
                    obtain ⟨cl41, Ar41, -, Sz41, M41, Hs41, Gs41⟩ := id V_b1
                    have hin41 := inb_of (j := (9 : Int32)) Sz41 ⟨by decide, by decide⟩
                    refine own_go (b := s₁.setTop (mkF m 21 #[rv b0, rv b1, iv 9] [.int 108, .int y9])) (fun t k => ?_) ?_
                    · refine xicmpYes X0 hx hby rfl 21 26 rfl d_B14_21 rfl (teq hc21_38).1 (by decide) (by decide) (xiinc X0 hx hby rfl d_B14_26 rfl (l' := #[rv b0, rv b1, iv 9]) rfl (xgoto X0 hx hby rfl 29 9 rfl d_B14_29 (by decide) (by decide) (xiloadN X0 hx hby rfl d_B14_9 rfl (xaloadN X0 hx hby rfl d_B14_10 rfl rfl (X0.arraylength hx (own_in e0 Ar39.1) (State.isArrayOf_alike hZ.alike Ar39.2.1) (g := (mkF m 11 #[rv b0, rv b1, iv 9] [.ref b0, .int 9])) rfl rfl (hb hby d_B14_11) _ ?_)))))
                      rw [len_of Sz39 M39]
                      refine xicmpNo X0 hx hby rfl d_B14_12 rfl (tlt ((by decide) : (9 : Int32) < (10 : Int32))).2.1 (xaloadN X0 hx hby rfl d_B14_15 rfl rfl (xiloadN X0 hx hby rfl d_B14_16 rfl (X0.baloadBytes hx (j := (9 : Int32)) (v := (.int y9)) (own_in e0 Ar40.1) (State.isArrayOf_alike hZ.alike Ar40.2.1) Ar40.2.2 hin40 (Has.at Hs40 hin40 rfl) (g := (mkF m 17 #[rv b0, rv b1, iv 9] [.int 9, .ref b0])) rfl rfl (hb hby d_B14_17) _ (xaloadN X0 hx hby rfl d_B14_18 rfl rfl (xiloadN X0 hx hby rfl d_B14_19 rfl (X0.baloadBytes hx (j := (9 : Int32)) (v := (.int 108)) (own_in e0 Ar41.1) (State.isArrayOf_alike hZ.alike Ar41.2.1) Ar41.2.2 hin41 (Has.at Hs41 hin41 rfl) (g := (mkF m 20 #[rv b0, rv b1, iv 9] [.int 9, .ref b1, .int y9])) rfl rfl (hb hby d_B14_20) _ k))))))
                    by_cases hc21_42 : y9 = (108 : Int32)
                    · obtain ⟨cl43, Ar43, -, Sz43, M43, -, -⟩ := id V_b0
                      refine own_ret (v := some (.int 1)) X0 e0 Bd.notSynchronized (nv Bd.returns) (fun fs hr => ?_) ⟨by simp only [own_E10, if_pos hc21_6, if_pos hc21_10, if_pos hc21_14, if_pos hc21_18, if_pos hc21_22, if_pos hc21_26, if_pos hc21_30, if_pos hc21_34, if_pos hc21_38, if_pos hc21_42], N0, rfl⟩ (by decide)
                      refine xicmpYes X0 hx hby rfl 21 26 rfl d_B14_21 rfl (teq hc21_42).1 (by decide) (by decide) (xiinc X0 hx hby rfl d_B14_26 rfl (l' := #[rv b0, rv b1, iv 10]) rfl (xgoto X0 hx hby rfl 29 9 rfl d_B14_29 (by decide) (by decide) (xiloadN X0 hx hby rfl d_B14_9 rfl (xaloadN X0 hx hby rfl d_B14_10 rfl rfl (X0.arraylength hx (own_in e0 Ar43.1) (State.isArrayOf_alike hZ.alike Ar43.2.1) (g := (mkF m 11 #[rv b0, rv b1, iv 10] [.ref b0, .int 10])) rfl rfl (hb hby d_B14_11) _ ?_)))))
                      rw [len_of Sz43 M43]
                      refine xicmpYes X0 hx hby rfl 12 32 rfl d_B14_12 rfl (flt ((by decide) : ¬ ((10 : Int32) < (10 : Int32)))).2.1 (by decide) (by decide) (xiconst X0 hx hby rfl d_B14_32 (retN X0 hx (t := .boolean) Bd.returns (by simp) (hb hby d_B14_33) hr))
                    · exact own_ret (v := some (.int 0)) X0 e0 Bd.notSynchronized (nv Bd.returns) (fun fs hr => xicmpNo X0 hx hby rfl d_B14_21 rfl (feq hc21_42).1 (xiconst X0 hx hby rfl d_B14_24 (retN X0 hx (t := .boolean) Bd.returns (by simp) (hb hby d_B14_25) hr))) ⟨by simp only [own_E10, if_pos hc21_6, if_pos hc21_10, if_pos hc21_14, if_pos hc21_18, if_pos hc21_22, if_pos hc21_26, if_pos hc21_30, if_pos hc21_34, if_pos hc21_38, if_neg hc21_42], N0, rfl⟩ (by decide)
                  · exact own_ret (v := some (.int 0)) X0 e0 Bd.notSynchronized (nv Bd.returns) (fun fs hr => xicmpNo X0 hx hby rfl d_B14_21 rfl (feq hc21_38).1 (xiconst X0 hx hby rfl d_B14_24 (retN X0 hx (t := .boolean) Bd.returns (by simp) (hb hby d_B14_25) hr))) ⟨by simp only [own_E10, if_pos hc21_6, if_pos hc21_10, if_pos hc21_14, if_pos hc21_18, if_pos hc21_22, if_pos hc21_26, if_pos hc21_30, if_pos hc21_34, if_neg hc21_38], N0, rfl⟩ (by decide)
                · exact own_ret (v := some (.int 0)) X0 e0 Bd.notSynchronized (nv Bd.returns) (fun fs hr => xicmpNo X0 hx hby rfl d_B14_21 rfl (feq hc21_34).1 (xiconst X0 hx hby rfl d_B14_24 (retN X0 hx (t := .boolean) Bd.returns (by simp) (hb hby d_B14_25) hr))) ⟨by simp only [own_E10, if_pos hc21_6, if_pos hc21_10, if_pos hc21_14, if_pos hc21_18, if_pos hc21_22, if_pos hc21_26, if_pos hc21_30, if_neg hc21_34], N0, rfl⟩ (by decide)
              · exact own_ret (v := some (.int 0)) X0 e0 Bd.notSynchronized (nv Bd.returns) (fun fs hr => xicmpNo X0 hx hby rfl d_B14_21 rfl (feq hc21_30).1 (xiconst X0 hx hby rfl d_B14_24 (retN X0 hx (t := .boolean) Bd.returns (by simp) (hb hby d_B14_25) hr))) ⟨by simp only [own_E10, if_pos hc21_6, if_pos hc21_10, if_pos hc21_14, if_pos hc21_18, if_pos hc21_22, if_pos hc21_26, if_neg hc21_30], N0, rfl⟩ (by decide)
            · exact own_ret (v := some (.int 0)) X0 e0 Bd.notSynchronized (nv Bd.returns) (fun fs hr => xicmpNo X0 hx hby rfl d_B14_21 rfl (feq hc21_26).1 (xiconst X0 hx hby rfl d_B14_24 (retN X0 hx (t := .boolean) Bd.returns (by simp) (hb hby d_B14_25) hr))) ⟨by simp only [own_E10, if_pos hc21_6, if_pos hc21_10, if_pos hc21_14, if_pos hc21_18, if_pos hc21_22, if_neg hc21_26], N0, rfl⟩ (by decide)
          · exact own_ret (v := some (.int 0)) X0 e0 Bd.notSynchronized (nv Bd.returns) (fun fs hr => xicmpNo X0 hx hby rfl d_B14_21 rfl (feq hc21_22).1 (xiconst X0 hx hby rfl d_B14_24 (retN X0 hx (t := .boolean) Bd.returns (by simp) (hb hby d_B14_25) hr))) ⟨by simp only [own_E10, if_pos hc21_6, if_pos hc21_10, if_pos hc21_14, if_pos hc21_18, if_neg hc21_22], N0, rfl⟩ (by decide)
        · exact own_ret (v := some (.int 0)) X0 e0 Bd.notSynchronized (nv Bd.returns) (fun fs hr => xicmpNo X0 hx hby rfl d_B14_21 rfl (feq hc21_18).1 (xiconst X0 hx hby rfl d_B14_24 (retN X0 hx (t := .boolean) Bd.returns (by simp) (hb hby d_B14_25) hr))) ⟨by simp only [own_E10, if_pos hc21_6, if_pos hc21_10, if_pos hc21_14, if_neg hc21_18], N0, rfl⟩ (by decide)
      · exact own_ret (v := some (.int 0)) X0 e0 Bd.notSynchronized (nv Bd.returns) (fun fs hr => xicmpNo X0 hx hby rfl d_B14_21 rfl (feq hc21_14).1 (xiconst X0 hx hby rfl d_B14_24 (retN X0 hx (t := .boolean) Bd.returns (by simp) (hb hby d_B14_25) hr))) ⟨by simp only [own_E10, if_pos hc21_6, if_pos hc21_10, if_neg hc21_14], N0, rfl⟩ (by decide)
    · exact own_ret (v := some (.int 0)) X0 e0 Bd.notSynchronized (nv Bd.returns) (fun fs hr => xicmpNo X0 hx hby rfl d_B14_21 rfl (feq hc21_10).1 (xiconst X0 hx hby rfl d_B14_24 (retN X0 hx (t := .boolean) Bd.returns (by simp) (hb hby d_B14_25) hr))) ⟨by simp only [own_E10, if_pos hc21_6, if_neg hc21_10], N0, rfl⟩ (by decide)
  · exact own_ret (v := some (.int 0)) X0 e0 Bd.notSynchronized (nv Bd.returns) (fun fs hr => xicmpNo X0 hx hby rfl d_B14_21 rfl (feq hc21_6).1 (xiconst X0 hx hby rfl d_B14_24 (retN X0 hx (t := .boolean) Bd.returns (by simp) (hb hby d_B14_25) hr))) ⟨by simp only [own_E10, if_neg hc21_6], N0, rfl⟩ (by decide)
theorem d_B15_50 : decode jdk_42_method_66_code 50 = .ok (.iconst 1, 1) := by decide +kernel
theorem d_B15_51 : decode jdk_42_method_66_code 51 = .ok (.goto 4, 3) := by decide +kernel
set_option maxRecDepth 65536 in
set_option maxHeartbeats 40000000 in
theorem own_rmEqA10 (l : Launch) (Z : State) (a0 : Array Value) (hw : ∀ d ∈ tables_1, d.before a0 Z = true) (ws : List Jvm.Cond) (b0 : Addr) (b1 : Addr) (v0 v1 : Addr) (k0 k1 : ClassId) (y0 y1 y2 y3 y4 y5 y6 y7 y8 y9 cs : Int32) (h0 : Heap) (n0 : Nat) (Z0 : n0 ≤ h0.size) (E_b0 : Exa Z h0 b0 "java/lang/String") (F_cb0 : Fld Z h0 b0 "java/lang/String" "coder" "B" (.int 0)) (F_vb0 : Fld Z h0 b0 "java/lang/String" "value" "[B" (.ref v0)) (V_v0 : Arv Z h0 v0 k0 .byte (10 : Int32) [.int y0, .int y1, .int y2, .int y3, .int y4, .int y5, .int y6, .int y7, .int y8, .int y9] (.int 0)) (E_b1 : Exa Z h0 b1 "java/lang/String") (F_cb1 : Fld Z h0 b1 "java/lang/String" "coder" "B" (.int 0)) (F_vb1 : Fld Z h0 b1 "java/lang/String" "value" "[B" (.ref v1)) (V_v1 : Arv Z h0 v1 k1 .byte (10 : Int32) [.int 115, .int 101, .int 113, .int 117, .int 101, .int 110, .int 116, .int 105, .int 97, .int 108] (.int 0)) (S_cs : Sta Z h0 "java/lang/String" "COMPACT_STRINGS" "Z" (.int cs)) (hcs : ¬ cs = (0 : Int32)) (h01 : ¬ b0 = b1) : own_M l Z y9N jdk_42_method_66_code 3 (some .boolean) ws ({ frames := 1, cells := 0, slots := 0, locals := 14 } : Room) #[.ref b0, .ref b1] h0 (own_QI (if (own_E10 y0 y1 y2 y3 y4 y5 y6 y7 y8 y9) = (0 : Int32) then (0 : Int32) else (1 : Int32)) h0 n0) := by
  refine own_begin (n0 := n0) (f0 := mkF ⟨0, 0⟩ 0 #[rv b0, rv b1, .unset] []) (plainFor_of_name own_pn0) (fun m => ef_2_3 m _ _ rfl rfl) ?_
  intro p e s m below meth c s₁ Bd hZ hx hby hml hown hnm X0 e0 N0
  obtain ⟨T1, X1, e1, st1⟩ := instY X0 hx hZ hown (wd hw 78 rfl) e0 (Ins.self E_b1) (g := (mkF m 8 #[rv b0, rv b1, .unset] [.ref b1])) rfl rfl (hb hby d_B15_8)
  obtain ⟨T2, X2, e2, st2⟩ := castY X1 hx hZ hown (wd hw 78 rfl) e1 (Ins.self E_b1) (g := (mkF m 15 #[rv b0, rv b1, .unset] [.ref b1])) rfl rfl (hb hby d_B15_15)
  obtain ⟨T3, X3, e3, st3⟩ := getS2 X2 hx hZ hown (host := "") (Or.inl (wd hw 19 rfl)) Via.refl e2 S_cs (g := (mkF m 19 #[rv b0, rv b1, rv b1] [])) rfl (hb hby d_B15_19)
  obtain ⟨T4, X4, e4, st4⟩ := getF X3 hx hZ hown (host := "") (Or.inl (wd hw 20 rfl)) Via.refl e3 F_cb0 (g := (mkF m 26 #[rv b0, rv b1, rv b1] [.ref b0])) rfl rfl (hb hby d_B15_26)
  obtain ⟨T5, X5, e5, st5⟩ := getF X4 hx hZ hown (host := "") (Or.inl (wd hw 20 rfl)) Via.refl e4 F_cb1 (g := (mkF m 30 #[rv b0, rv b1, rv b1] [.ref b1, .int 0])) rfl rfl (hb hby d_B15_30)
  obtain ⟨T6, X6, e6, st6⟩ := getF X5 hx hZ hown (host := "") (Or.inl (wd hw 13 rfl)) Via.refl e5 F_vb0 (g := (mkF m 37 #[rv b0, rv b1, rv b1] [.ref b0])) rfl rfl (hb hby d_B15_37)
  obtain ⟨T7, X7, e7, st7⟩ := getF X6 hx hZ hown (host := "") (Or.inl (wd hw 13 rfl)) Via.refl e6 F_vb1 (g := (mkF m 41 #[rv b0, rv b1, rv b1] [.ref b1, .ref v0])) rfl rfl (hb hby d_B15_41)
  refine own_go (b := T7.setTop (mkF m 44 #[rv b0, rv b1, rv b1] [.ref v1, .ref v0])) (fun t k => xaloadN X0 hx hby rfl d_B15_0 rfl rfl (xaloadN X0 hx hby rfl d_B15_1 rfl rfl (Jvm.RoadKit.acmp (g := (mkF m 2 #[rv b0, rv b1, .unset] [.ref b1, .ref b0])) X0 hx rfl rfl rfl (pc0 := 2) (pc' := 7) (same := false) rfl (hb hby d_B15_2) rfl (decide_eq_false fun q => (h01 : ¬ (b0 = b1)) (Value.ref.inj q)) (by decide) (by decide) (xaloadN X0 hx hby rfl d_B15_7 rfl rfl (st1 _ (xifNo X1 hx hby rfl d_B15_11 rfl ((if0 _ _).trans (feq ((by decide) : ¬ ((1 : Int32) = (0 : Int32)))).1) (xaloadN X1 hx hby rfl d_B15_14 rfl rfl (st2 _ (xastoreN X2 hx hby rfl d_B15_18 rfl rfl (l' := #[rv b0, rv b1, rv b1]) rfl (st3 _ (xifNo X3 hx hby rfl d_B15_22 rfl ((if0 _ _).trans (feq (hcs : ¬ (cs = (0 : Int32)))).1) (xaloadN X3 hx hby rfl d_B15_25 rfl rfl (st4 _ (xaloadN X4 hx hby rfl d_B15_29 rfl rfl (st5 _ (xicmpNo X5 hx hby rfl d_B15_33 rfl (teq ((by decide) : (0 : Int32) = (0 : Int32))).2 (xaloadN X5 hx hby rfl d_B15_36 rfl rfl (st6 _ (xaloadN X6 hx hby rfl d_B15_40 rfl rfl (st7 _ k)))))))))))))))))))) ?_
  refine own_cs X7 hx hZ hown hml e7 (wd hw 79 rfl) (wd hw 80 rfl) (wd hw 38 rfl) (wd hw 81 rfl) (own_rmLeA10 l Z a0 hw [] v0 v1 k0 k1 y0 y1 y2 y3 y4 y5 y6 y7 y8 y9 h0 n0 Z0 V_v0 V_v1) own_pd12 (hb hby d_B15_44) 0 [] rfl ⟨rfl, rfl, rfl, rfl, rfl⟩ (by decide) ?_
  rintro T8 L8 v8 X8 hQ8
  obtain ⟨rfl, N8q, e8⟩ := hQ8
  have N8 := Fr.app N0 N8q
  refine own_go (b := T8.setTop (mkF m 47 #[rv b0, rv b1, rv b1] [(.int (own_E10 y0 y1 y2 y3 y4 y5 y6 y7 y8 y9))])) (fun t k => ?_) ?_
  · exact k
  by_cases hc47_9 : (own_E10 y0 y1 y2 y3 y4 y5 y6 y7 y8 y9) = (0 : Int32)
  · exact own_ret (v := some (.int 0)) X8 e8 Bd.notSynchronized (nv Bd.returns) (fun fs hr => xifYes X8 hx hby rfl 47 54 rfl d_B15_47 rfl ((if0 _ _).trans (teq hc47_9).1) (by decide) (by decide) (xiconst X8 hx hby rfl d_B15_54 (retN X8 hx (t := .boolean) Bd.returns (by simp) (hb hby d_B15_55) hr))) ⟨by rw [if_pos hc47_9], N8, rfl⟩ (by decide)
  · exact own_ret (v := some (.int 1)) X8 e8 Bd.notSynchronized (nv Bd.returns) (fun fs hr => xifNo X8 hx hby rfl d_B15_47 rfl ((if0 _ _).trans (feq hc47_9).1) (xiconst X8 hx hby rfl d_B15_50 (xgoto X8 hx hby rfl 51 55 rfl d_B15_51 (by decide) (by decide) (retN X8 hx (t := .boolean) Bd.returns (by simp) (hb hby d_B15_55) hr)))) ⟨by rw [if_neg hc47_9], N8, rfl⟩ (by decide)
set_option maxRecDepth 65536 in
set_option maxHeartbeats 40000000 in
theorem own_rmLeB10 (l : Launch) (Z : State) (a0 : Array Value) (hw : ∀ d ∈ tables_1, d.before a0 Z = true) (ws : List Jvm.Cond) (b0 : Addr) (b1 : Addr) (k0 k1 : ClassId) (y0 y1 y2 y3 y4 y5 y6 y7 y8 y9 : Int32) (h0 : Heap) (n0 : Nat) (Z0 : n0 ≤ h0.size) (V_b0 : Arv Z h0 b0 k0 .byte (10 : Int32) [.int 115, .int 101, .int 113, .int 117, .int 101, .int 110, .int 116, .int 105, .int 97, .int 108] (.int 0)) (V_b1 : Arv Z h0 b1 k1 .byte (10 : Int32) [.int y0, .int y1, .int y2, .int y3, .int y4, .int y5, .int y6, .int y7, .int y8, .int y9] (.int 0)) : own_M l Z y13N jdk_43_method_13_code 3 (some .boolean) ws ({ frames := 0, cells := 0, slots := 0, locals := 0 } : Room) #[.ref b0, .ref b1] h0 (own_QI (own_E10 y0 y1 y2 y3 y4 y5 y6 y7 y8 y9) h0 n0) := by
  refine own_begin (n0 := n0) (f0 := mkF ⟨0, 0⟩ 0 #[rv b0, rv b1, .unset] []) (plainFor_of_name own_pn3) (fun m => ef_2_3 m _ _ rfl rfl) ?_
  intro p e s m below meth c s₁ Bd hZ hx hby hml hown hnm X0 e0 N0
  obtain ⟨cl1, Ar1, -, Sz1, M1, -, -⟩ := id V_b0
  obtain ⟨cl2, Ar2, -, Sz2, M2, -, -⟩ := id V_b1
  obtain ⟨cl3, Ar3, -, Sz3, M3, -, -⟩ := id V_b0
  obtain ⟨cl4, Ar4, -, Sz4, M4, Hs4, Gs4⟩ := id V_b0
  have hin4 := inb_of (j := (0 : Int32)) Sz4 ⟨by decide, by decide⟩
  obtain ⟨cl5, Ar5, -, Sz5, M5, Hs5, Gs5⟩ := id V_b1
  have hin5 := inb_of (j := (0 : Int32)) Sz5 ⟨by decide, by decide⟩
  refine own_go (b := s₁.setTop (mkF m 21 #[rv b0, rv b1, iv 0] [.int y0, .int 115])) (fun t k => ?_) ?_
  · refine xaloadN X0 hx hby rfl d_B14_0 rfl rfl (X0.arraylength hx (own_in e0 Ar1.1) (State.isArrayOf_alike hZ.alike Ar1.2.1) (g := (mkF m 1 #[rv b0, rv b1, .unset] [.ref b0])) rfl rfl (hb hby d_B14_1) _ ?_)
    rw [len_of Sz1 M1]
    refine xaloadN X0 hx hby rfl d_B14_2 rfl rfl (X0.arraylength hx (own_in e0 Ar2.1) (State.isArrayOf_alike hZ.alike Ar2.2.1) (g := (mkF m 3 #[rv b0, rv b1, .unset] [.ref b1, .int 10])) rfl rfl (hb hby d_B14_3) _ ?_)
    rw [len_of Sz2 M2]
    refine xicmpNo X0 hx hby rfl d_B14_4 rfl (teq ((by decide) : (10 : Int32) = (10 : Int32))).2 (xiconst X0 hx hby rfl d_B14_7 (xistoreN X0 hx hby rfl d_B14_8 rfl (l' := #[rv b0, rv b1, iv 0]) rfl (xiloadN X0 hx hby rfl d_B14_9 rfl (xaloadN X0 hx hby rfl d_B14_10 rfl rfl (X0.arraylength hx (own_in e0 Ar3.1) (State.isArrayOf_alike hZ.alike Ar3.2.1) (g := (mkF m 11 #[rv b0, rv b1, iv 0] [.ref b0, .int 0])) rfl rfl (hb hby d_B14_11) _ ?_)))))
    rw [len_of Sz3 M3]
    refine xicmpNo X0 hx hby rfl d_B14_12 rfl (tlt ((by decide) : (0 : Int32) < (10 : Int32))).2.1 (xaloadN X0 hx hby rfl d_B14_15 rfl rfl (xiloadN X0 hx hby rfl d_B14_16 rfl (X0.baloadBytes hx (j := (0 : Int32)) (v := (.int 115)) (own_in e0 Ar4.1) (State.isArrayOf_alike hZ.alike Ar4.2.1) Ar4.2.2 hin4 (Has.at Hs4 hin4 rfl) (g := (mkF m 17 #[rv b0, rv b1, iv 0] [.int 0, .ref b0])) rfl rfl (hb hby d_B14_17) _ (xaloadN X0 hx hby rfl d_B14_18 rfl rfl (xiloadN X0 hx hby rfl d_B14_19 rfl (X0.baloadBytes hx (j := (0 : Int32)) (v := (.int y0)) (own_in e0 Ar5.1) (State.isArrayOf_alike hZ.alike Ar5.2.1) Ar5.2.2 hin5 (Has.at Hs5 hin5 rfl) (g := (mkF m 20 #[rv b0, rv b1, iv 0] [.int 0, .ref b1, .int 115])) rfl rfl (hb hby d_B14_20) _ k))))))
  by_cases hc21_6 : (115 : Int32) = y0
  · obtain ⟨cl7, Ar7, -, Sz7, M7, -, -⟩ := id V_b0
    obtain ⟨cl8, Ar8, -, Sz8, M8, Hs8, Gs8⟩ := id V_b0
    have hin8 := inb_of (j := (1 : Int32)) Sz8 ⟨by decide, by decide⟩
    obtain ⟨cl9, Ar9, -, Sz9, M9, Hs9, Gs9⟩ := id V_b1
    have hin9 := inb_of (j := (1 : Int32)) Sz9 ⟨by decide, by decide⟩
    refine own_go (b := s₁.setTop (mkF m 21 #[rv b0, rv b1, iv 1] [.int y1, .int 101])) (fun t k => ?_) ?_
    · refine xicmpYes X0 hx hby rfl 21 26 rfl d_B14_21 rfl (teq hc21_6).1 (by decide) (by decide) (xiinc X0 hx hby rfl d_B14_26 rfl (l' := #[rv b0, rv b1, iv 1]) rfl (xgoto X0 hx hby rfl 29 9 rfl d_B14_29 (by decide) (by decide) (xiloadN X0 hx hby rfl d_B14_9 rfl (xaloadN X0 hx hby rfl d_B14_10 rfl rfl (X0.arraylength hx (own_in e0 Ar7.1) (State.isArrayOf_alike hZ.alike Ar7.2.1) (g := (mkF m 11 #[rv b0, rv b1, iv 1] [.ref b0, .int 1])) rfl rfl (hb hby d_B14_11) _ ?_)))))
      rw [len_of Sz7 M7]
      refine xicmpNo X0 hx hby rfl d_B14_12 rfl (tlt ((by decide) : (1 : Int32) < (10 : Int32))).2.1 (xaloadN X0 hx hby rfl d_B14_15 rfl rfl (xiloadN X0 hx hby rfl d_B14_16 rfl (X0.baloadBytes hx (j := (1 : Int32)) (v := (.int 101)) (own_in e0 Ar8.1) (State.isArrayOf_alike hZ.alike Ar8.2.1) Ar8.2.2 hin8 (Has.at Hs8 hin8 rfl) (g := (mkF m 17 #[rv b0, rv b1, iv 1] [.int 1, .ref b0])) rfl rfl (hb hby d_B14_17) _ (xaloadN X0 hx hby rfl d_B14_18 rfl rfl (xiloadN X0 hx hby rfl d_B14_19 rfl (X0.baloadBytes hx (j := (1 : Int32)) (v := (.int y1)) (own_in e0 Ar9.1) (State.isArrayOf_alike hZ.alike Ar9.2.1) Ar9.2.2 hin9 (Has.at Hs9 hin9 rfl) (g := (mkF m 20 #[rv b0, rv b1, iv 1] [.int 1, .ref b1, .int 101])) rfl rfl (hb hby d_B14_20) _ k))))))
    by_cases hc21_10 : (101 : Int32) = y1
    · obtain ⟨cl11, Ar11, -, Sz11, M11, -, -⟩ := id V_b0
      obtain ⟨cl12, Ar12, -, Sz12, M12, Hs12, Gs12⟩ := id V_b0
      have hin12 := inb_of (j := (2 : Int32)) Sz12 ⟨by decide, by decide⟩
      obtain ⟨cl13, Ar13, -, Sz13, M13, Hs13, Gs13⟩ := id V_b1
      have hin13 := inb_of (j := (2 : Int32)) Sz13 ⟨by decide, by decide⟩
      refine own_go (b := s₁.setTop (mkF m 21 #[rv b0, rv b1, iv 2] [.int y2, .int 113])) (fun t k => ?_) ?_
      · refine xicmpYes X0 hx hby rfl 21 26 rfl d_B14_21 rfl (teq hc21_10).1 (by decide) (by decide) (xiinc X0 hx hby rfl d_B14_26 rfl (l' := #[rv b0, rv b1, iv 2]) rfl (xgoto X0 hx hby rfl 29 9 rfl d_B14_29 (by decide) (by decide) (xiloadN X0 hx hby rfl d_B14_9 rfl (xaloadN X0 hx hby rfl d_B14_10 rfl rfl (X0.arraylength hx (own_in e0 Ar11.1) (State.isArrayOf_alike hZ.alike Ar11.2.1) (g := (mkF m 11 #[rv b0, rv b1, iv 2] [.ref b0, .int 2])) rfl rfl (hb hby d_B14_11) _ ?_)))))
        rw [len_of Sz11 M11]
        refine xicmpNo X0 hx hby rfl d_B14_12 rfl (tlt ((by decide) : (2 : Int32) < (10 : Int32))).2.1 (xaloadN X0 hx hby rfl d_B14_15 rfl rfl (xiloadN X0 hx hby rfl d_B14_16 rfl (X0.baloadBytes hx (j := (2 : Int32)) (v := (.int 113)) (own_in e0 Ar12.1) (State.isArrayOf_alike hZ.alike Ar12.2.1) Ar12.2.2 hin12 (Has.at Hs12 hin12 rfl) (g := (mkF m 17 #[rv b0, rv b1, iv 2] [.int 2, .ref b0])) rfl rfl (hb hby d_B14_17) _ (xaloadN X0 hx hby rfl d_B14_18 rfl rfl (xiloadN X0 hx hby rfl d_B14_19 rfl (X0.baloadBytes hx (j := (2 : Int32)) (v := (.int y2)) (own_in e0 Ar13.1) (State.isArrayOf_alike hZ.alike Ar13.2.1) Ar13.2.2 hin13 (Has.at Hs13 hin13 rfl) (g := (mkF m 20 #[rv b0, rv b1, iv 2] [.int 2, .ref b1, .int 113])) rfl rfl (hb hby d_B14_20) _ k))))))
      by_cases hc21_14 : (113 : Int32) = y2
      · obtain ⟨cl15, Ar15, -, Sz15, M15, -, -⟩ := id V_b0
        obtain ⟨cl16, Ar16, -, Sz16, M16, Hs16, Gs16⟩ := id V_b0
        have hin16 := inb_of (j := (3 : Int32)) Sz16 ⟨by decide, by decide⟩
        obtain ⟨cl17, Ar17, -, Sz17, M17, Hs17, Gs17⟩ := id V_b1
        have hin17 := inb_of (j := (3 : Int32)) Sz17 ⟨by decide, by decide⟩
        refine own_go (b := s₁.setTop (mkF m 21 #[rv b0, rv b1, iv 3] [.int y3, .int 117])) (fun t k => ?_) ?_
        · refine xicmpYes X0 hx hby rfl 21 26 rfl d_B14_21 rfl (teq hc21_14).1 (by decide) (by decide) (xiinc X0 hx hby rfl d_B14_26 rfl (l' := #[rv b0, rv b1, iv 3]) rfl (xgoto X0 hx hby rfl 29 9 rfl d_B14_29 (by decide) (by decide) (xiloadN X0 hx hby rfl d_B14_9 rfl (xaloadN X0 hx hby rfl d_B14_10 rfl rfl (X0.arraylength hx (own_in e0 Ar15.1) (State.isArrayOf_alike hZ.alike Ar15.2.1) (g := (mkF m 11 #[rv b0, rv b1, iv 3] [.ref b0, .int 3])) rfl rfl (hb hby d_B14_11) _ ?_)))))
          rw [len_of Sz15 M15]
          refine xicmpNo X0 hx hby rfl d_B14_12 rfl (tlt ((by decide) : (3 : Int32) < (10 : Int32))).2.1 (xaloadN X0 hx hby rfl d_B14_15 rfl rfl (xiloadN X0 hx hby rfl d_B14_16 rfl (X0.baloadBytes hx (j := (3 : Int32)) (v := (.int 117)) (own_in e0 Ar16.1) (State.isArrayOf_alike hZ.alike Ar16.2.1) Ar16.2.2 hin16 (Has.at Hs16 hin16 rfl) (g := (mkF m 17 #[rv b0, rv b1, iv 3] [.int 3, .ref b0])) rfl rfl (hb hby d_B14_17) _ (xaloadN X0 hx hby rfl d_B14_18 rfl rfl (xiloadN X0 hx hby rfl d_B14_19 rfl (X0.baloadBytes hx (j := (3 : Int32)) (v := (.int y3)) (own_in e0 Ar17.1) (State.isArrayOf_alike hZ.alike Ar17.2.1) Ar17.2.2 hin17 (Has.at Hs17 hin17 rfl) (g := (mkF m 20 #[rv b0, rv b1, iv 3] [.int 3, .ref b1, .int 117])) rfl rfl (hb hby d_B14_20) _ k))))))
        by_cases hc21_18 : (117 : Int32) = y3
        · obtain ⟨cl19, Ar19, -, Sz19, M19, -, -⟩ := id V_b0
          obtain ⟨cl20, Ar20, -, Sz20, M20, Hs20, Gs20⟩ := id V_b0
          have hin20 := inb_of (j := (4 : Int32)) Sz20 ⟨by decide, by decide⟩
          obtain ⟨cl21, Ar21, -, Sz21, M21, Hs21, Gs21⟩ := id V_b1
          have hin21 := inb_of (j := (4 : Int32)) Sz21 ⟨by decide, by decide⟩
          refine own_go (b := s₁.setTop (mkF m 21 #[rv b0, rv b1, iv 4] [.int y4, .int 101])) (fun t k => ?_) ?_
          · refine xicmpYes X0 hx hby rfl 21 26 rfl d_B14_21 rfl (teq hc21_18).1 (by decide) (by decide) (xiinc X0 hx hby rfl d_B14_26 rfl (l' := #[rv b0, rv b1, iv 4]) rfl (xgoto X0 hx hby rfl 29 9 rfl d_B14_29 (by decide) (by decide) (xiloadN X0 hx hby rfl d_B14_9 rfl (xaloadN X0 hx hby rfl d_B14_10 rfl rfl (X0.arraylength hx (own_in e0 Ar19.1) (State.isArrayOf_alike hZ.alike Ar19.2.1) (g := (mkF m 11 #[rv b0, rv b1, iv 4] [.ref b0, .int 4])) rfl rfl (hb hby d_B14_11) _ ?_)))))
            rw [len_of Sz19 M19]
            refine xicmpNo X0 hx hby rfl d_B14_12 rfl (tlt ((by decide) : (4 : Int32) < (10 : Int32))).2.1 (xaloadN X0 hx hby rfl d_B14_15 rfl rfl (xiloadN X0 hx hby rfl d_B14_16 rfl (X0.baloadBytes hx (j := (4 : Int32)) (v := (.int 101)) (own_in e0 Ar20.1) (State.isArrayOf_alike hZ.alike Ar20.2.1) Ar20.2.2 hin20 (Has.at Hs20 hin20 rfl) (g := (mkF m 17 #[rv b0, rv b1, iv 4] [.int 4, .ref b0])) rfl rfl (hb hby d_B14_17) _ (xaloadN X0 hx hby rfl d_B14_18 rfl rfl (xiloadN X0 hx hby rfl d_B14_19 rfl (X0.baloadBytes hx (j := (4 : Int32)) (v := (.int y4)) (own_in e0 Ar21.1) (State.isArrayOf_alike hZ.alike Ar21.2.1) Ar21.2.2 hin21 (Has.at Hs21 hin21 rfl) (g := (mkF m 20 #[rv b0, rv b1, iv 4] [.int 4, .ref b1, .int 101])) rfl rfl (hb hby d_B14_20) _ k))))))
          by_cases hc21_22 : (101 : Int32) = y4
          · obtain ⟨cl23, Ar23, -, Sz23, M23, -, -⟩ := id V_b0
            obtain ⟨cl24, Ar24, -, Sz24, M24, Hs24, Gs24⟩ := id V_b0
            have hin24 := inb_of (j := (5 : Int32)) Sz24 ⟨by decide, by decide⟩
            obtain ⟨cl25, Ar25, -, Sz25, M25, Hs25, Gs25⟩ := id V_b1
            have hin25 := inb_of (j := (5 : Int32)) Sz25 ⟨by decide, by decide⟩
            refine own_go (b := s₁.setTop (mkF m 21 #[rv b0, rv b1, iv 5] [.int y5, .int 110])) (fun t k => ?_) ?_
            · refine xicmpYes X0 hx hby rfl 21 26 rfl d_B14_21 rfl (teq hc21_22).1 (by decide) (by decide) (xiinc X0 hx hby rfl d_B14_26 rfl (l' := #[rv b0, rv b1, iv 5]) rfl (xgoto X0 hx hby rfl 29 9 rfl d_B14_29 (by decide) (by decide) (xiloadN X0 hx hby rfl d_B14_9 rfl (xaloadN X0 hx hby rfl d_B14_10 rfl rfl (X0.arraylength hx (own_in e0 Ar23.1) (State.isArrayOf_alike hZ.alike Ar23.2.1) (g := (mkF m 11 #[rv b0, rv b1, iv 5] [.ref b0, .int 5])) rfl rfl (hb hby d_B14_11) _ ?_)))))
              rw [len_of Sz23 M23]
              refine xicmpNo X0 hx hby rfl d_B14_12 rfl (tlt ((by decide) : (5 : Int32) < (10 : Int32))).2.1 (xaloadN X0 hx hby rfl d_B14_15 rfl rfl (xiloadN X0 hx hby rfl d_B14_16 rfl (X0.baloadBytes hx (j := (5 : Int32)) (v := (.int 110)) (own_in e0 Ar24.1) (State.isArrayOf_alike hZ.alike Ar24.2.1) Ar24.2.2 hin24 (Has.at Hs24 hin24 rfl) (g := (mkF m 17 #[rv b0, rv b1, iv 5] [.int 5, .ref b0])) rfl rfl (hb hby d_B14_17) _ (xaloadN X0 hx hby rfl d_B14_18 rfl rfl (xiloadN X0 hx hby rfl d_B14_19 rfl (X0.baloadBytes hx (j := (5 : Int32)) (v := (.int y5)) (own_in e0 Ar25.1) (State.isArrayOf_alike hZ.alike Ar25.2.1) Ar25.2.2 hin25 (Has.at Hs25 hin25 rfl) (g := (mkF m 20 #[rv b0, rv b1, iv 5] [.int 5, .ref b1, .int 110])) rfl rfl (hb hby d_B14_20) _ k))))))
            by_cases hc21_26 : (110 : Int32) = y5
            · obtain ⟨cl27, Ar27, -, Sz27, M27, -, -⟩ := id V_b0
              obtain ⟨cl28, Ar28, -, Sz28, M28, Hs28, Gs28⟩ := id V_b0
              have hin28 := inb_of (j := (6 : Int32)) Sz28 ⟨by decide, by decide⟩
              obtain ⟨cl29, Ar29, -, Sz29, M29, Hs29, Gs29⟩ := id V_b1
              have hin29 := inb_of (j := (6 : Int32)) Sz29 ⟨by decide, by decide⟩
              refine own_go (b := s₁.setTop (mkF m 21 #[rv b0, rv b1, iv 6] [.int y6, .int 116])) (fun t k => ?_) ?_
              · refine xicmpYes X0 hx hby rfl 21 26 rfl d_B14_21 rfl (teq hc21_26).1 (by decide) (by decide) (xiinc X0 hx hby rfl d_B14_26 rfl (l' := #[rv b0, rv b1, iv 6]) rfl (xgoto X0 hx hby rfl 29 9 rfl d_B14_29 (by decide) (by decide) (xiloadN X0 hx hby rfl d_B14_9 rfl (xaloadN X0 hx hby rfl d_B14_10 rfl rfl (X0.arraylength hx (own_in e0 Ar27.1) (State.isArrayOf_alike hZ.alike Ar27.2.1) (g := (mkF m 11 #[rv b0, rv b1, iv 6] [.ref b0, .int 6])) rfl rfl (hb hby d_B14_11) _ ?_)))))
                rw [len_of Sz27 M27]
                refine xicmpNo X0 hx hby rfl d_B14_12 rfl (tlt ((by decide) : (6 : Int32) < (10 : Int32))).2.1 (xaloadN X0 hx hby rfl d_B14_15 rfl rfl (xiloadN X0 hx hby rfl d_B14_16 rfl (X0.baloadBytes hx (j := (6 : Int32)) (v := (.int 116)) (own_in e0 Ar28.1) (State.isArrayOf_alike hZ.alike Ar28.2.1) Ar28.2.2 hin28 (Has.at Hs28 hin28 rfl) (g := (mkF m 17 #[rv b0, rv b1, iv 6] [.int 6, .ref b0])) rfl rfl (hb hby d_B14_17) _ (xaloadN X0 hx hby rfl d_B14_18 rfl rfl (xiloadN X0 hx hby rfl d_B14_19 rfl (X0.baloadBytes hx (j := (6 : Int32)) (v := (.int y6)) (own_in e0 Ar29.1) (State.isArrayOf_alike hZ.alike Ar29.2.1) Ar29.2.2 hin29 (Has.at Hs29 hin29 rfl) (g := (mkF m 20 #[rv b0, rv b1, iv 6] [.int 6, .ref b1, .int 116])) rfl rfl (hb hby d_B14_20) _ k))))))
              by_cases hc21_30 : (116 : Int32) = y6
              · obtain ⟨cl31, Ar31, -, Sz31, M31, -, -⟩ := id V_b0
                obtain ⟨cl32, Ar32, -, Sz32, M32, Hs32, Gs32⟩ := id V_b0
                have hin32 := inb_of (j := (7 : Int32)) Sz32 ⟨by decide, by decide⟩
                obtain ⟨cl33, Ar33, -, Sz33, M33, Hs33, Gs33⟩ := id V_b1
                have hin33 := inb_of (j := (7 : Int32)) Sz33 ⟨by decide, by decide⟩
                refine own_go (b := s₁.setTop (mkF m 21 #[rv b0, rv b1, iv 7] [.int y7, .int 105])) (fun t k => ?_) ?_
                · refine xicmpYes X0 hx hby rfl 21 26 rfl d_B14_21 rfl (teq hc21_30).1 (by decide) (by decide) (xiinc X0 hx hby rfl d_B14_26 rfl (l' := #[rv b0, rv b1, iv 7]) rfl (xgoto X0 hx hby rfl 29 9 rfl d_B14_29 (by decide) (by decide) (xiloadN X0 hx hby rfl d_B14_9 rfl (xaloadN X0 hx hby rfl d_B14_10 rfl rfl (X0.arraylength hx (own_in e0 Ar31.1) (State.isArrayOf_alike hZ.alike Ar31.2.1) (g := (mkF m 11 #[rv b0, rv b1, iv 7] [.ref b0, .int 7])) rfl rfl (hb hby d_B14_11) _ ?_)))))
                  rw [len_of Sz31 M31]
                  refine xicmpNo X0 hx hby rfl d_B14_12 rfl (tlt ((by decide) : (7 : Int32) < (10 : Int32))).2.1 (xaloadN X0 hx hby rfl d_B14_15 rfl rfl (xiloadN X0 hx hby rfl d_B14_16 rfl (X0.baloadBytes hx (j := (7 : Int32)) (v := (.int 105)) (own_in e0 Ar32.1) (State.isArrayOf_alike hZ.alike Ar32.2.1) Ar32.2.2 hin32 (Has.at Hs32 hin32 rfl) (g := (mkF m 17 #[rv b0, rv b1, iv 7] [.int 7, .ref b0])) rfl rfl (hb hby d_B14_17) _ (xaloadN X0 hx hby rfl d_B14_18 rfl rfl (xiloadN X0 hx hby rfl d_B14_19 rfl (X0.baloadBytes hx (j := (7 : Int32)) (v := (.int y7)) (own_in e0 Ar33.1) (State.isArrayOf_alike hZ.alike Ar33.2.1) Ar33.2.2 hin33 (Has.at Hs33 hin33 rfl) (g := (mkF m 20 #[rv b0, rv b1, iv 7] [.int 7, .ref b1, .int 105])) rfl rfl (hb hby d_B14_20) _ k))))))
                by_cases hc21_34 : (105 : Int32) = y7
                · obtain ⟨cl35, Ar35, -, Sz35, M35, -, -⟩ := id V_b0
                  obtain ⟨cl36, Ar36, -, Sz36, M36, Hs36, Gs36⟩ := id V_b0
                  have hin36 := inb_of (j := (8 : Int32)) Sz36 ⟨by decide, by decide⟩
                  obtain ⟨cl37, Ar37, -, Sz37, M37, Hs37, Gs37⟩ := id V_b1
                  have hin37 := inb_of (j := (8 : Int32)) Sz37 ⟨by decide, by decide⟩
                  refine own_go (b := s₁.setTop (mkF m 21 #[rv b0, rv b1, iv 8] [.int y8, .int 97])) (fun t k => ?_) ?_
                  · refine xicmpYes X0 hx hby rfl 21 26 rfl d_B14_21 rfl (teq hc21_34).1 (by decide) (by decide) (xiinc X0 hx hby rfl d_B14_26 rfl (l' := #[rv b0, rv b1, iv 8]) rfl (xgoto X0 hx hby rfl 29 9 rfl d_B14_29 (by decide) (by decide) (xiloadN X0 hx hby rfl d_B14_9 rfl (xaloadN X0 hx hby rfl d_B14_10 rfl rfl (X0.arraylength hx (own_in e0 Ar35.1) (State.isArrayOf_alike hZ.alike Ar35.2.1) (g := (mkF m 11 #[rv b0, rv b1, iv 8] [.ref b0, .int 8])) rfl rfl (hb hby d_B14_11) _ ?_)))))
                    rw [len_of Sz35 M35]
                    refine xicmpNo X0 hx hby rfl d_B14_12 rfl (tlt ((by decide) : (8 : Int32) < (10 : Int32))).2.1 (xaloadN X0 hx hby rfl d_B14_15 rfl rfl (xiloadN X0 hx hby rfl d_B14_16 rfl (X0.baloadBytes hx (j := (8 : Int32)) (v := (.int 97)) (own_in e0 Ar36.1) (State.isArrayOf_alike hZ.alike Ar36.2.1) Ar36.2.2 hin36 (Has.at Hs36 hin36 rfl) (g := (mkF m 17 #[rv b0, rv b1, iv 8] [.int 8, .ref b0])) rfl rfl (hb hby d_B14_17) _ (xaloadN X0 hx hby rfl d_B14_18 rfl rfl (xiloadN X0 hx hby rfl d_B14_19 rfl (X0.baloadBytes hx (j := (8 : Int32)) (v := (.int y8)) (own_in e0 Ar37.1) (State.isArrayOf_alike hZ.alike Ar37.2.1) Ar37.2.2 hin37 (Has.at Hs37 hin37 rfl) (g := (mkF m 20 #[rv b0, rv b1, iv 8] [.int 8, .ref b1, .int 97])) rfl rfl (hb hby d_B14_20) _ k))))))
                  by_cases hc21_38 : (97 : Int32) = y8
                  · obtain ⟨cl39, Ar39, -, Sz39, M39, -, -⟩ := id V_b0
                    obtain ⟨cl40, Ar40, -, Sz40, M40, Hs40, Gs40⟩ := id V_b0
                    have hin40 := inb_of (j := (9 : Int32)) Sz40 ⟨by decide, by decide⟩
                    obtain ⟨cl41, Ar41, -, Sz41, M41, Hs41, Gs41⟩ := id V_b1
                    have hin41 := inb_of (j := (9 : Int32)) Sz41 ⟨by decide, by decide⟩
                    refine own_go (b := s₁.setTop (mkF m 21 #[rv b0, rv b1, iv 9] [.int y9, .int 108])) (fun t k => ?_) ?_
                    · refine xicmpYes X0 hx hby rfl 21 26 rfl d_B14_21 rfl (teq hc21_38).1 (by decide) (by decide) (xiinc X0 hx hby rfl d_B14_26 rfl (l' := #[rv b0, rv b1, iv 9]) rfl (xgoto X0 hx hby rfl 29 9 rfl d_B14_29 (by decide) (by decide) (xiloadN X0 hx hby rfl d_B14_9 rfl (xaloadN X0 hx hby rfl d_B14_10 rfl rfl (X0.arraylength hx (own_in e0 Ar39.1) (State.isArrayOf_alike hZ.alike Ar39.2.1) (g := (mkF m 11 #[rv b0, rv b1, iv 9] [.ref b0, .int 9])) rfl rfl (hb hby d_B14_11) _ ?_)))))
                      rw [len_of Sz39 M39]
                      refine xicmpNo X0 hx hby rfl d_B14_12 rfl (tlt ((by decide) : (9 : Int32) < (10 : Int32))).2.1 (xaloadN X0 hx hby rfl d_B14_15 rfl rfl (xiloadN X0 hx hby rfl d_B14_16 rfl (X0.baloadBytes hx (j := (9 : Int32)) (v := (.int 108)) (own_in e0 Ar40.1) (State.isArrayOf_alike hZ.alike Ar40.2.1) Ar40.2.2 hin40 (Has.at Hs40 hin40 rfl) (g := (mkF m 17 #[rv b0, rv b1, iv 9] [.int 9, .ref b0])) rfl rfl (hb hby d_B14_17) _ (xaloadN X0 hx hby rfl d_B14_18 rfl rfl (xiloadN X0 hx hby rfl d_B14_19 rfl (X0.baloadBytes hx (j := (9 : Int32)) (v := (.int y9)) (own_in e0 Ar41.1) (State.isArrayOf_alike hZ.alike Ar41.2.1) Ar41.2.2 hin41 (Has.at Hs41 hin41 rfl) (g := (mkF m 20 #[rv b0, rv b1, iv 9] [.int 9, .ref b1, .int 108])) rfl rfl (hb hby d_B14_20) _ k))))))
                    by_cases hc21_42 : (108 : Int32) = y9
                    · obtain ⟨cl43, Ar43, -, Sz43, M43, -, -⟩ := id V_b0
                      refine own_ret (v := some (.int 1)) X0 e0 Bd.notSynchronized (nv Bd.returns) (fun fs hr => ?_) ⟨by simp only [own_E10, if_pos hc21_6.symm, if_pos hc21_10.symm, if_pos hc21_14.symm, if_pos hc21_18.symm, if_pos hc21_22.symm, if_pos hc21_26.symm, if_pos hc21_30.symm, if_pos hc21_34.symm, if_pos hc21_38.symm, if_pos hc21_42.symm], N0, rfl⟩ (by decide)
                      refine xicmpYes X0 hx hby rfl 21 26 rfl d_B14_21 rfl (teq hc21_42).1 (by decide) (by decide) (xiinc X0 hx hby rfl d_B14_26 rfl (l' := #[rv b0, rv b1, iv 10]) rfl (xgoto X0 hx hby rfl 29 9 rfl d_B14_29 (by decide) (by decide) (xiloadN X0 hx hby rfl d_B14_9 rfl (xaloadN X0 hx hby rfl d_B14_10 rfl rfl (X0.arraylength hx (own_in e0 Ar43.1) (State.isArrayOf_alike hZ.alike Ar43.2.1) (g := (mkF m 11 #[rv b0, rv b1, iv 10] [.ref b0, .int 10])) rfl rfl (hb hby d_B14_11) _ ?_)))))
                      rw [len_of Sz43 M43]
                      refine xicmpYes X0 hx hby rfl 12 32 rfl d_B14_12 rfl (flt ((by decide) : ¬ ((10 : Int32) < (10 : Int32)))).2.1 (by decide) (by decide) (xiconst X0 hx hby rfl d_B14_32 (retN X0 hx (t := .boolean) Bd.returns (by simp) (hb hby d_B14_33) hr))
                    · exact own_ret (v := some (.int 0)) X0 e0 Bd.notSynchronized (nv Bd.returns) (fun fs hr => xicmpNo X0 hx hby rfl d_B14_21 rfl (feq hc21_42).1 (xiconst X0 hx hby rfl d_B14_24 (retN X0 hx (t := .boolean) Bd.returns (by simp) (hb hby d_B14_25) hr))) ⟨by simp only [own_E10, if_pos hc21_6.symm, if_pos hc21_10.symm, if_pos hc21_14.symm, if_pos hc21_18.symm, if_pos hc21_22.symm, if_pos hc21_26.symm, if_pos hc21_30.symm, if_pos hc21_34.symm, if_pos hc21_38.symm, if_neg (Ne.symm hc21_42)], N0, rfl⟩ (by decide)
                  · exact own_ret (v := some (.int 0)) X0 e0 Bd.notSynchronized (nv Bd.returns) (fun fs hr => xicmpNo X0 hx hby rfl d_B14_21 rfl (feq hc21_38).1 (xiconst X0 hx hby rfl d_B14_24 (retN X0 hx (t := .boolean) Bd.returns (by simp) (hb hby d_B14_25) hr))) ⟨by simp only [own_E10, if_pos hc21_6.symm, if_pos hc21_10.symm, if_pos hc21_14.symm, if_pos hc21_18.symm, if_pos hc21_22.symm, if_pos hc21_26.symm, if_pos hc21_30.symm, if_pos hc21_34.symm, if_neg (Ne.symm hc21_38)], N0, rfl⟩ (by decide)
                · exact own_ret (v := some (.int 0)) X0 e0 Bd.notSynchronized (nv Bd.returns) (fun fs hr => xicmpNo X0 hx hby rfl d_B14_21 rfl (feq hc21_34).1 (xiconst X0 hx hby rfl d_B14_24 (retN X0 hx (t := .boolean) Bd.returns (by simp) (hb hby d_B14_25) hr))) ⟨by simp only [own_E10, if_pos hc21_6.symm, if_pos hc21_10.symm, if_pos hc21_14.symm, if_pos hc21_18.symm, if_pos hc21_22.symm, if_pos hc21_26.symm, if_pos hc21_30.symm, if_neg (Ne.symm hc21_34)], N0, rfl⟩ (by decide)
              · exact own_ret (v := some (.int 0)) X0 e0 Bd.notSynchronized (nv Bd.returns) (fun fs hr => xicmpNo X0 hx hby rfl d_B14_21 rfl (feq hc21_30).1 (xiconst X0 hx hby rfl d_B14_24 (retN X0 hx (t := .boolean) Bd.returns (by simp) (hb hby d_B14_25) hr))) ⟨by simp only [own_E10, if_pos hc21_6.symm, if_pos hc21_10.symm, if_pos hc21_14.symm, if_pos hc21_18.symm, if_pos hc21_22.symm, if_pos hc21_26.symm, if_neg (Ne.symm hc21_30)], N0, rfl⟩ (by decide)
            · exact own_ret (v := some (.int 0)) X0 e0 Bd.notSynchronized (nv Bd.returns) (fun fs hr => xicmpNo X0 hx hby rfl d_B14_21 rfl (feq hc21_26).1 (xiconst X0 hx hby rfl d_B14_24 (retN X0 hx (t := .boolean) Bd.returns (by simp) (hb hby d_B14_25) hr))) ⟨by simp only [own_E10, if_pos hc21_6.symm, if_pos hc21_10.symm, if_pos hc21_14.symm, if_pos hc21_18.symm, if_pos hc21_22.symm, if_neg (Ne.symm hc21_26)], N0, rfl⟩ (by decide)
          · exact own_ret (v := some (.int 0)) X0 e0 Bd.notSynchronized (nv Bd.returns) (fun fs hr => xicmpNo X0 hx hby rfl d_B14_21 rfl (feq hc21_22).1 (xiconst X0 hx hby rfl d_B14_24 (retN X0 hx (t := .boolean) Bd.returns (by simp) (hb hby d_B14_25) hr))) ⟨by simp only [own_E10, if_pos hc21_6.symm, if_pos hc21_10.symm, if_pos hc21_14.symm, if_pos hc21_18.symm, if_neg (Ne.symm hc21_22)], N0, rfl⟩ (by decide)
        · exact own_ret (v := some (.int 0)) X0 e0 Bd.notSynchronized (nv Bd.returns) (fun fs hr => xicmpNo X0 hx hby rfl d_B14_21 rfl (feq hc21_18).1 (xiconst X0 hx hby rfl d_B14_24 (retN X0 hx (t := .boolean) Bd.returns (by simp) (hb hby d_B14_25) hr))) ⟨by simp only [own_E10, if_pos hc21_6.symm, if_pos hc21_10.symm, if_pos hc21_14.symm, if_neg (Ne.symm hc21_18)], N0, rfl⟩ (by decide)
      · exact own_ret (v := some (.int 0)) X0 e0 Bd.notSynchronized (nv Bd.returns) (fun fs hr => xicmpNo X0 hx hby rfl d_B14_21 rfl (feq hc21_14).1 (xiconst X0 hx hby rfl d_B14_24 (retN X0 hx (t := .boolean) Bd.returns (by simp) (hb hby d_B14_25) hr))) ⟨by simp only [own_E10, if_pos hc21_6.symm, if_pos hc21_10.symm, if_neg (Ne.symm hc21_14)], N0, rfl⟩ (by decide)
    · exact own_ret (v := some (.int 0)) X0 e0 Bd.notSynchronized (nv Bd.returns) (fun fs hr => xicmpNo X0 hx hby rfl d_B14_21 rfl (feq hc21_10).1 (xiconst X0 hx hby rfl d_B14_24 (retN X0 hx (t := .boolean) Bd.returns (by simp) (hb hby d_B14_25) hr))) ⟨by simp only [own_E10, if_pos hc21_6.symm, if_neg (Ne.symm hc21_10)], N0, rfl⟩ (by decide)
  · exact own_ret (v := some (.int 0)) X0 e0 Bd.notSynchronized (nv Bd.returns) (fun fs hr => xicmpNo X0 hx hby rfl d_B14_21 rfl (feq hc21_6).1 (xiconst X0 hx hby rfl d_B14_24 (retN X0 hx (t := .boolean) Bd.returns (by simp) (hb hby d_B14_25) hr))) ⟨by simp only [own_E10, if_neg (Ne.symm hc21_6)], N0, rfl⟩ (by decide)
set_option maxRecDepth 65536 in
set_option maxHeartbeats 40000000 in
theorem own_rmEqB10 (l : Launch) (Z : State) (a0 : Array Value) (hw : ∀ d ∈ tables_1, d.before a0 Z = true) (ws : List Jvm.Cond) (b0 : Addr) (b1 : Addr) (v0 v1 : Addr) (k0 k1 : ClassId) (y0 y1 y2 y3 y4 y5 y6 y7 y8 y9 cs : Int32) (h0 : Heap) (n0 : Nat) (Z0 : n0 ≤ h0.size) (E_b0 : Exa Z h0 b0 "java/lang/String") (F_cb0 : Fld Z h0 b0 "java/lang/String" "coder" "B" (.int 0)) (F_vb0 : Fld Z h0 b0 "java/lang/String" "value" "[B" (.ref v0)) (V_v0 : Arv Z h0 v0 k0 .byte (10 : Int32) [.int 115, .int 101, .int 113, .int 117, .int 101, .int 110, .int 116, .int 105, .int 97, .int 108] (.int 0)) (E_b1 : Exa Z h0 b1 "java/lang/String") (F_cb1 : Fld Z h0 b1 "java/lang/String" "coder" "B" (.int 0)) (F_vb1 : Fld Z h0 b1 "java/lang/String" "value" "[B" (.ref v1)) (V_v1 : Arv Z h0 v1 k1 .byte (10 : Int32) [.int y0, .int y1, .int y2, .int y3, .int y4, .int y5, .int y6, .int y7, .int y8, .int y9] (.int 0)) (S_cs : Sta Z h0 "java/lang/String" "COMPACT_STRINGS" "Z" (.int cs)) (hcs : ¬ cs = (0 : Int32)) (h01 : ¬ b0 = b1) : own_M l Z y9N jdk_42_method_66_code 3 (some .boolean) ws ({ frames := 1, cells := 0, slots := 0, locals := 14 } : Room) #[.ref b0, .ref b1] h0 (own_QI (if (own_E10 y0 y1 y2 y3 y4 y5 y6 y7 y8 y9) = (0 : Int32) then (0 : Int32) else (1 : Int32)) h0 n0) := by
  refine own_begin (n0 := n0) (f0 := mkF ⟨0, 0⟩ 0 #[rv b0, rv b1, .unset] []) (plainFor_of_name own_pn0) (fun m => ef_2_3 m _ _ rfl rfl) ?_
  intro p e s m below meth c s₁ Bd hZ hx hby hml hown hnm X0 e0 N0
  obtain ⟨T1, X1, e1, st1⟩ := instY X0 hx hZ hown (wd hw 78 rfl) e0 (Ins.self E_b1) (g := (mkF m 8 #[rv b0, rv b1, .unset] [.ref b1])) rfl rfl (hb hby d_B15_8)
  obtain ⟨T2, X2, e2, st2⟩ := castY X1 hx hZ hown (wd hw 78 rfl) e1 (Ins.self E_b1) (g := (mkF m 15 #[rv b0, rv b1, .unset] [.ref b1])) rfl rfl (hb hby d_B15_15)
  obtain ⟨T3, X3, e3, st3⟩ := getS2 X2 hx hZ hown (host := "") (Or.inl (wd hw 19 rfl)) Via.refl e2 S_cs (g := (mkF m 19 #[rv b0, rv b1, rv b1] [])) rfl (hb hby d_B15_19)
  obtain ⟨T4, X4, e4, st4⟩ := getF X3 hx hZ hown (host := "") (Or.inl (wd hw 20 rfl)) Via.refl e3 F_cb0 (g := (mkF m 26 #[rv b0, rv b1, rv b1] [.ref b0])) rfl rfl (hb hby d_B15_26)
  obtain ⟨T5, X5, e5, st5⟩ := getF X4 hx hZ hown (host := "") (Or.inl (wd hw 20 rfl)) Via.refl e4 F_cb1 (g := (mkF m 30 #[rv b0, rv b1, rv b1] [.ref b1, .int 0])) rfl rfl (hb hby d_B15_30)
  obtain ⟨T6, X6, e6, st6⟩ := getF X5 hx hZ hown (host := "") (Or.inl (wd hw 13 rfl)) Via.refl e5 F_vb0 (g := (mkF m 37 #[rv b0, rv b1, rv b1] [.ref b0])) rfl rfl (hb hby d_B15_37)
  obtain ⟨T7, X7, e7, st7⟩ := getF X6 hx hZ hown (host := "") (Or.inl (wd hw 13 rfl)) Via.refl e6 F_vb1 (g := (mkF m 41 #[rv b0, rv b1, rv b1] [.ref b1, .ref v0])) rfl rfl (hb hby d_B15_41)
  refine own_go (b := T7.setTop (mkF m 44 #[rv b0, rv b1, rv b1] [.ref v1, .ref v0])) (fun t k => xaloadN X0 hx hby rfl d_B15_0 rfl rfl (xaloadN X0 hx hby rfl d_B15_1 rfl rfl (Jvm.RoadKit.acmp (g := (mkF m 2 #[rv b0, rv b1, .unset] [.ref b1, .ref b0])) X0 hx rfl rfl rfl (pc0 := 2) (pc' := 7) (same := false) rfl (hb hby d_B15_2) rfl (decide_eq_false fun q => (h01 : ¬ (b0 = b1)) (Value.ref.inj q)) (by decide) (by decide) (xaloadN X0 hx hby rfl d_B15_7 rfl rfl (st1 _ (xifNo X1 hx hby rfl d_B15_11 rfl ((if0 _ _).trans (feq ((by decide) : ¬ ((1 : Int32) = (0 : Int32)))).1) (xaloadN X1 hx hby rfl d_B15_14 rfl rfl (st2 _ (xastoreN X2 hx hby rfl d_B15_18 rfl rfl (l' := #[rv b0, rv b1, rv b1]) rfl (st3 _ (xifNo X3 hx hby rfl d_B15_22 rfl ((if0 _ _).trans (feq (hcs : ¬ (cs = (0 : Int32)))).1) (xaloadN X3 hx hby rfl d_B15_25 rfl rfl (st4 _ (xaloadN X4 hx hby rfl d_B15_29 rfl rfl (st5 _ (xicmpNo X5 hx hby rfl d_B15_33 rfl (teq ((by decide) : (0 : Int32) = (0 : Int32))).2 (xaloadN X5 hx hby rfl d_B15_36 rfl rfl (st6 _ (xaloadN X6 hx hby rfl d_B15_40 rfl rfl (st7 _ k)))))))))))))))))))) ?_
  refine own_cs X7 hx hZ hown hml e7 (wd hw 79 rfl) (wd hw 80 rfl) (wd hw 38 rfl) (wd hw 81 rfl) (own_rmLeB10 l Z a0 hw [] v0 v1 k0 k1 y0 y1 y2 y3 y4 y5 y6 y7 y8 y9 h0 n0 Z0 V_v0 V_v1) own_pd12 (hb hby d_B15_44) 0 [] rfl ⟨rfl, rfl, rfl, rfl, rfl⟩ (by decide) ?_
  rintro T8 L8 v8 X8 hQ8
  obtain ⟨rfl, N8q, e8⟩ := hQ8
  have N8 := Fr.app N0 N8q
  refine own_go (b := T8.setTop (mkF m 47 #[rv b0, rv b1, rv b1] [(.int (own_E10 y0 y1 y2 y3 y4 y5 y6 y7 y8 y9))])) (fun t k => ?_) ?_
  · exact k
  by_cases hc47_9 : (own_E10 y0 y1 y2 y3 y4 y5 y6 y7 y8 y9) = (0 : Int32)
  · exact own_ret (v := some (.int 0)) X8 e8 Bd.notSynchronized (nv Bd.returns) (fun fs hr => xifYes X8 hx hby rfl 47 54 rfl d_B15_47 rfl ((if0 _ _).trans (teq hc47_9).1) (by decide) (by decide) (xiconst X8 hx hby rfl d_B15_54 (retN X8 hx (t := .boolean) Bd.returns (by simp) (hb hby d_B15_55) hr))) ⟨by rw [if_pos hc47_9], N8, rfl⟩ (by decide)
  · exact own_ret (v := some (.int 1)) X8 e8 Bd.notSynchronized (nv Bd.returns) (fun fs hr => xifNo X8 hx hby rfl d_B15_47 rfl ((if0 _ _).trans (feq hc47_9).1) (xiconst X8 hx hby rfl d_B15_50 (xgoto X8 hx hby rfl 51 55 rfl d_B15_51 (by decide) (by decide) (retN X8 hx (t := .boolean) Bd.returns (by simp) (hb hby d_B15_55) hr)))) ⟨by rw [if_neg hc47_9], N8, rfl⟩ (by decide)
def own_E9 (y0 y1 y2 y3 y4 y5 y6 y7 y8 : Int32) : Int32 := if y0 = (114 : Int32) then if y1 = (101 : Int32) then if y2 = (102 : Int32) then if y3 = (101 : Int32) then if y4 = (114 : Int32) then if y5 = (101 : Int32) then if y6 = (110 : Int32) then if y7 = (99 : Int32) then if y8 = (101 : Int32) then (1 : Int32) else (0 : Int32) else (0 : Int32) else (0 : Int32) else (0 : Int32) else (0 : Int32) else (0 : Int32) else (0 : Int32) else (0 : Int32) else (0 : Int32)
set_option maxRecDepth 65536 in
set_option maxHeartbeats 40000000 in
theorem own_rmLeA9 (l : Launch) (Z : State) (a0 : Array Value) (hw : ∀ d ∈ tables_1, d.before a0 Z = true) (ws : List Jvm.Cond) (b0 : Addr) (b1 : Addr) (k0 k1 : ClassId) (y0 y1 y2 y3 y4 y5 y6 y7 y8 : Int32) (h0 : Heap) (n0 : Nat) (Z0 : n0 ≤ h0.size) (V_b0 : Arv Z h0 b0 k0 .byte (9 : Int32) [.int y0, .int y1, .int y2, .int y3, .int y4, .int y5, .int y6, .int y7, .int y8] (.int 0)) (V_b1 : Arv Z h0 b1 k1 .byte (9 : Int32) [.int 114, .int 101, .int 102, .int 101, .int 114, .int 101, .int 110, .int 99, .int 101] (.int 0)) : own_M l Z y13N jdk_43_method_13_code 3 (some .boolean) ws ({ frames := 0, cells := 0, slots := 0, locals := 0 } : Room) #[.ref b0, .ref b1] h0 (own_QI (own_E9 y0 y1 y2 y3 y4 y5 y6 y7 y8) h0 n0) := by
  refine own_begin (n0 := n0) (f0 := mkF ⟨0, 0⟩ 0 #[rv b0, rv b1, .unset] []) (plainFor_of_name own_pn3) (fun m => ef_2_3 m _ _ rfl rfl) ?_
  intro p e s m below meth c s₁ Bd hZ hx hby hml hown hnm X0 e0 N0
  obtain ⟨cl1, Ar1, -, Sz1, M1, -, -⟩ := id V_b0
  obtain ⟨cl2, Ar2, -, Sz2, M2, -, -⟩ := id V_b1
  obtain ⟨cl3, Ar3, -, Sz3, M3, -, -⟩ := id V_b0
  obtain ⟨cl4, Ar4, -, Sz4, M4, Hs4, Gs4⟩ := id V_b0
  have hin4 := inb_of (j := (0 : Int32)) Sz4 ⟨by decide, by decide⟩
  obtain ⟨cl5, Ar5, -, Sz5, M5, Hs5, Gs5⟩ := id V_b1
  have hin5 := inb_of (j := (0 : Int32)) Sz5 ⟨by decide, by decide⟩
  refine own_go (b := s₁.setTop (mkF m 21 #[rv b0, rv b1, iv 0] [.int 114, .int y0])) (fun t k => ?_) ?_
  · refine xaloadN X0 hx hby rfl d_B14_0 rfl rfl (X0.arraylength hx (own_in e0 Ar1.1) (State.isArrayOf_alike hZ.alike Ar1.2.1) (g := (mkF m 1 #[rv b0, rv b1, .unset] [.ref b0])) rfl rfl (hb hby d_B14_1) _ ?_)
    rw [len_of Sz1 M1]
    refine xaloadN X0 hx hby rfl d_B14_2 rfl rfl (X0.arraylength hx (own_in e0 Ar2.1) (State.isArrayOf_alike hZ.alike Ar2.2.1) (g := (mkF m 3 #[rv b0, rv b1, .unset] [.ref b1, .int 9])) rfl rfl (hb hby d_B14_3) _ ?_)
    rw [len_of Sz2 M2]
    refine xicmpNo X0 hx hby rfl d_B14_4 rfl (teq ((by decide) : (9 : Int32) = (9 : Int32))).2 (xiconst X0 hx hby rfl d_B14_7 (xistoreN X0 hx hby rfl d_B14_8 rfl (l' := #[rv b0, rv b1, iv 0]) rfl (xiloadN X0 hx hby rfl d_B14_9 rfl (xaloadN X0 hx hby rfl d_B14_10 rfl rfl (X0.arraylength hx (own_in e0 Ar3.1) (State.isArrayOf_alike hZ.alike Ar3.2.1) (g := (mkF m 11 #[rv b0, rv b1, iv 0] [.ref b0, .int 0])) rfl rfl (hb hby d_B14_11) _ ?_)))))
    rw [len_of Sz3 M3]
    refine xicmpNo X0 hx hby rfl d_B14_12 rfl (tlt ((by decide) : (0 : Int32) < (9 : Int32))).2.1 (xaloadN X0 hx hby rfl d_B14_15 rfl rfl (xiloadN X0 hx hby rfl d_B14_16 rfl (X0.baloadBytes hx (j := (0 : Int32)) (v := (.int y0)) (own_in e0 Ar4.1) (State.isArrayOf_alike hZ.alike Ar4.2.1) Ar4.2.2 hin4 (Has.at Hs4 hin4 rfl) (g := (mkF m 17 #[rv b0, rv b1, iv 0] [.int 0, .ref b0])) rfl rfl (hb hby d_B14_17) _ (xaloadN X0 hx hby rfl d_B14_18 rfl rfl (xiloadN X0 hx hby rfl d_B14_19 rfl (X0.baloadBytes hx (j := (0 : Int32)) (v := (.int 114)) (own_in e0 Ar5.1) (State.isArrayOf_alike hZ.alike Ar5.2.1) Ar5.2.2 hin5 (Has.at Hs5 hin5 rfl) (g := (mkF m 20 #[rv b0, rv b1, iv 0] [.int 0, .ref b1, .int y0])) rfl rfl (hb hby d_B14_20) _ k))))))
  by_cases hc21_6 : y0 = (114 : Int32)
  · obtain ⟨cl7, Ar7, -, Sz7, M7, -, -⟩ := id V_b0
    obtain ⟨cl8, Ar8, -, Sz8, M8, Hs8, Gs8⟩ := id V_b0
    have hin8 := inb_of (j := (1 : Int32)) Sz8 ⟨by decide, by decide⟩
    obtain ⟨cl9, Ar9, -, Sz9, M9, Hs9, Gs9⟩ := id V_b1
    have hin9 := inb_of (j := (1 : Int32)) Sz9 ⟨by decide, by decide⟩
    refine own_go (b := s₁.setTop (mkF m 21 #[rv b0, rv b1, iv 1] [.int 101, .int y1])) (fun t k => ?_) ?_
    · refine xicmpYes X0 hx hby rfl 21 26 rfl d_B14_21 rfl (teq hc21_6).1 (by decide) (by decide) (xiinc X0 hx hby rfl d_B14_26 rfl (l' := #[rv b0, rv b1, iv 1]) rfl (xgoto X0 hx hby rfl 29 9 rfl d_B14_29 (by decide) (by decide) (xiloadN X0 hx hby rfl d_B14_9 rfl (xaloadN X0 hx hby rfl d_B14_10 rfl rfl (X0.arraylength hx (own_in e0 Ar7.1) (State.isArrayOf_alike hZ.alike Ar7.2.1) (g := (mkF m 11 #[rv b0, rv b1, iv 1] [.ref b0, .int 1])) rfl rfl (hb hby d_B14_11) _ ?_)))))
      rw [len_of Sz7 M7]
      refine xicmpNo X0 hx hby rfl d_B14_12 rfl (tlt ((by decide) : (1 : Int32) < (9 : Int32))).2.1 (xaloadN X0 hx hby rfl d_B14_15 rfl rfl (xiloadN X0 hx hby rfl d_B14_16 rfl (X0.baloadBytes hx (j := (1 : Int32)) (v := (.int y1)) (own_in e0 Ar8.1) (State.isArrayOf_alike hZ.alike Ar8.2.1) Ar8.2.2 hin8 (Has.at Hs8 hin8 rfl) (g := (mkF m 17 #[rv b0, rv b1, iv 1] [.int 1, .ref b0])) rfl rfl (hb hby d_B14_17) _ (xaloadN X0 hx hby rfl d_B14_18 rfl rfl (xiloadN X0 hx hby rfl d_B14_19 rfl (X0.baloadBytes hx (j := (1 : Int32)) (v := (.int 101)) (own_in e0 Ar9.1) (State.isArrayOf_alike hZ.alike Ar9.2.1) Ar9.2.2 hin9 (Has.at Hs9 hin9 rfl) (g := (mkF m 20 #[rv b0, rv b1, iv 1] [.int 1, .ref b1, .int y1])) rfl rfl (hb hby d_B14_20) _ k))))))
    by_cases hc21_10 : y1 = (101 : Int32)
    · obtain ⟨cl11, Ar11, -, Sz11, M11, -, -⟩ := id V_b0
      obtain ⟨cl12, Ar12, -, Sz12, M12, Hs12, Gs12⟩ := id V_b0
      have hin12 := inb_of (j := (2 : Int32)) Sz12 ⟨by decide, by decide⟩
      obtain ⟨cl13, Ar13, -, Sz13, M13, Hs13, Gs13⟩ := id V_b1
      have hin13 := inb_of (j := (2 : Int32)) Sz13 ⟨by decide, by decide⟩
      refine own_go (b := s₁.setTop (mkF m 21 #[rv b0, rv b1, iv 2] [.int 102, .int y2])) (fun t k => ?_) ?_
      · refine xicmpYes X0 hx hby rfl 21 26 rfl d_B14_21 rfl (teq hc21_10).1 (by decide) (by decide) (xiinc X0 hx hby rfl d_B14_26 rfl (l' := #[rv b0, rv b1, iv 2]) rfl (xgoto X0 hx hby rfl 29 9 rfl d_B14_29 (by decide) (by decide) (xiloadN X0 hx hby rfl d_B14_9 rfl (xaloadN X0 hx hby rfl d_B14_10 rfl rfl (X0.arraylength hx (own_in e0 Ar11.1) (State.isArrayOf_alike hZ.alike Ar11.2.1) (g := (mkF m 11 #[rv b0, rv b1, iv 2] [.ref b0, .int 2])) rfl rfl (hb hby d_B14_11) _ ?_)))))
        rw [len_of Sz11 M11]
        refine xicmpNo X0 hx hby rfl d_B14_12 rfl (tlt ((by decide) : (2 : Int32) < (9 : Int32))).2.1 (xaloadN X0 hx hby rfl d_B14_15 rfl rfl (xiloadN X0 hx hby rfl d_B14_16 rfl (X0.baloadBytes hx (j := (2 : Int32)) (v := (.int y2)) (own_in e0 Ar12.1) (State.isArrayOf_alike hZ.alike Ar12.2.1) Ar12.2.2 hin12 (Has.at Hs12 hin12 rfl) (g := (mkF m 17 #[rv b0, rv b1, iv 2] [.int 2, .ref b0])) rfl rfl (hb hby d_B14_17) _ (xaloadN X0 hx hby rfl d_B14_18 rfl rfl (xiloadN X0 hx hby rfl d_B14_19 rfl (X0.baloadBytes hx (j := (2 : Int32)) (v := (.int 102)) (own_in e0 Ar13.1) (State.isArrayOf_alike hZ.alike Ar13.2.1) Ar13.2.2 hin13 (Has.at Hs13 hin13 rfl) (g := (mkF m 20 #[rv b0, rv b1, iv 2] [.int 2, .ref b1, .int y2])) rfl rfl (hb hby d_B14_20) _ k))))))
      by_cases hc21_14 : y2 = (102 : Int32)
      · obtain ⟨cl15, Ar15, -, Sz15, M15, -, -⟩ := id V_b0
        obtain ⟨cl16, Ar16, -, Sz16, M16, Hs16, Gs16⟩ := id V_b0
        have hin16 := inb_of (j := (3 : Int32)) Sz16 ⟨by decide, by decide⟩
        obtain ⟨cl17, Ar17, -, Sz17, M17, Hs17, Gs17⟩ := id V_b1
        have hin17 := inb_of (j := (3 : Int32)) Sz17 ⟨by decide, by decide⟩
        refine own_go (b := s₁.setTop (mkF m 21 #[rv b0, rv b1, iv 3] [.int 101, .int y3])) (fun t k => ?_) ?_
        · refine xicmpYes X0 hx hby rfl 21 26 rfl d_B14_21 rfl (teq hc21_14).1 (by decide) (by decide) (xiinc X0 hx hby rfl d_B14_26 rfl (l' := #[rv b0, rv b1, iv 3]) rfl (xgoto X0 hx hby rfl 29 9 rfl d_B14_29 (by decide) (by decide) (xiloadN X0 hx hby rfl d_B14_9 rfl (xaloadN X0 hx hby rfl d_B14_10 rfl rfl (X0.arraylength hx (own_in e0 Ar15.1) (State.isArrayOf_alike hZ.alike Ar15.2.1) (g := (mkF m 11 #[rv b0, rv b1, iv 3] [.ref b0, .int 3])) rfl rfl (hb hby d_B14_11) _ ?_)))))
          rw [len_of Sz15 M15]
          refine xicmpNo X0 hx hby rfl d_B14_12 rfl (tlt ((by decide) : (3 : Int32) < (9 : Int32))).2.1 (xaloadN X0 hx hby rfl d_B14_15 rfl rfl (xiloadN X0 hx hby rfl d_B14_16 rfl (X0.baloadBytes hx (j := (3 : Int32)) (v := (.int y3)) (own_in e0 Ar16.1) (State.isArrayOf_alike hZ.alike Ar16.2.1) Ar16.2.2 hin16 (Has.at Hs16 hin16 rfl) (g := (mkF m 17 #[rv b0, rv b1, iv 3] [.int 3, .ref b0])) rfl rfl (hb hby d_B14_17) _ (xaloadN X0 hx hby rfl d_B14_18 rfl rfl (xiloadN X0 hx hby rfl d_B14_19 rfl (X0.baloadBytes hx (j := (3 : Int32)) (v := (.int 101)) (own_in e0 Ar17.1) (State.isArrayOf_alike hZ.alike Ar17.2.1) Ar17.2.2 hin17 (Has.at Hs17 hin17 rfl) (g := (mkF m 20 #[rv b0, rv b1, iv 3] [.int 3, .ref b1, .int y3])) rfl rfl (hb hby d_B14_20) _ k))))))
        by_cases hc21_18 : y3 = (101 : Int32)
        · obtain ⟨cl19, Ar19, -, Sz19, M19, -, -⟩ := id V_b0
          obtain ⟨cl20, Ar20, -, Sz20, M20, Hs20, Gs20⟩ := id V_b0
          have hin20 := inb_of (j := (4 : Int32)) Sz20 ⟨by decide, by decide⟩
          obtain ⟨cl21, Ar21, -, Sz21, M21, Hs21, Gs21⟩ := id V_b1
          have hin21 := inb_of (j := (4 : Int32)) Sz21 ⟨by decide, by decide⟩
          refine own_go (b := s₁.setTop (mkF m 21 #[rv b0, rv b1, iv 4] [.int 114, .int y4])) (fun t k => ?_) ?_
          · refine xicmpYes X0 hx hby rfl 21 26 rfl d_B14_21 rfl (teq hc21_18).1 (by decide) (by decide) (xiinc X0 hx hby rfl d_B14_26 rfl (l' := #[rv b0, rv b1, iv 4]) rfl (xgoto X0 hx hby rfl 29 9 rfl d_B14_29 (by decide) (by decide) (xiloadN X0 hx hby rfl d_B14_9 rfl (xaloadN X0 hx hby rfl d_B14_10 rfl rfl (X0.arraylength hx (own_in e0 Ar19.1) (State.isArrayOf_alike hZ.alike Ar19.2.1) (g := (mkF m 11 #[rv b0, rv b1, iv 4] [.ref b0, .int 4])) rfl rfl (hb hby d_B14_11) _ ?_)))))
            rw [len_of Sz19 M19]
            refine xicmpNo X0 hx hby rfl d_B14_12 rfl (tlt ((by decide) : (4 : Int32) < (9 : Int32))).2.1 (xaloadN X0 hx hby rfl d_B14_15 rfl rfl (xiloadN X0 hx hby rfl d_B14_16 rfl (X0.baloadBytes hx (j := (4 : Int32)) (v := (.int y4)) (own_in e0 Ar20.1) (State.isArrayOf_alike hZ.alike Ar20.2.1) Ar20.2.2 hin20 (Has.at Hs20 hin20 rfl) (g := (mkF m 17 #[rv b0, rv b1, iv 4] [.int 4, .ref b0])) rfl rfl (hb hby d_B14_17) _ (xaloadN X0 hx hby rfl d_B14_18 rfl rfl (xiloadN X0 hx hby rfl d_B14_19 rfl (X0.baloadBytes hx (j := (4 : Int32)) (v := (.int 114)) (own_in e0 Ar21.1) (State.isArrayOf_alike hZ.alike Ar21.2.1) Ar21.2.2 hin21 (Has.at Hs21 hin21 rfl) (g := (mkF m 20 #[rv b0, rv b1, iv 4] [.int 4, .ref b1, .int y4])) rfl rfl (hb hby d_B14_20) _ k))))))
          by_cases hc21_22 : y4 = (114 : Int32)
          · obtain ⟨cl23, Ar23, -, Sz23, M23, -, -⟩ := id V_b0
            obtain ⟨cl24, Ar24, -, Sz24, M24, Hs24, Gs24⟩ := id V_b0
            have hin24 := inb_of (j := (5 : Int32)) Sz24 ⟨by decide, by decide⟩
            obtain ⟨cl25, Ar25, -, Sz25, M25, Hs25, Gs25⟩ := id V_b1
            have hin25 := inb_of (j := (5 : Int32)) Sz25 ⟨by decide, by decide⟩
            refine own_go (b := s₁.setTop (mkF m 21 #[rv b0, rv b1, iv 5] [.int 101, .int y5])) (fun t k => ?_) ?_
            · refine xicmpYes X0 hx hby rfl 21 26 rfl d_B14_21 rfl (teq hc21_22).1 (by decide) (by decide) (xiinc X0 hx hby rfl d_B14_26 rfl (l' := #[rv b0, rv b1, iv 5]) rfl (xgoto X0 hx hby rfl 29 9 rfl d_B14_29 (by decide) (by decide) (xiloadN X0 hx hby rfl d_B14_9 rfl (xaloadN X0 hx hby rfl d_B14_10 rfl rfl (X0.arraylength hx (own_in e0 Ar23.1) (State.isArrayOf_alike hZ.alike Ar23.2.1) (g := (mkF m 11 #[rv b0, rv b1, iv 5] [.ref b0, .int 5])) rfl rfl (hb hby d_B14_11) _ ?_)))))
              rw [len_of Sz23 M23]
              refine xicmpNo X0 hx hby rfl d_B14_12 rfl (tlt ((by decide) : (5 : Int32) < (9 : Int32))).2.1 (xaloadN X0 hx hby rfl d_B14_15 rfl rfl (xiloadN X0 hx hby rfl d_B14_16 rfl (X0.baloadBytes hx (j := (5 : Int32)) (v := (.int y5)) (own_in e0 Ar24.1) (State.isArrayOf_alike hZ.alike Ar24.2.1) Ar24.2.2 hin24 (Has.at Hs24 hin24 rfl) (g := (mkF m 17 #[rv b0, rv b1, iv 5] [.int 5, .ref b0])) rfl rfl (hb hby d_B14_17) _ (xaloadN X0 hx hby rfl d_B14_18 rfl rfl (xiloadN X0 hx hby rfl d_B14_19 rfl (X0.baloadBytes hx (j := (5 : Int32)) (v := (.int 101)) (own_in e0 Ar25.1) (State.isArrayOf_alike hZ.alike Ar25.2.1) Ar25.2.2 hin25 (Has.at Hs25 hin25 rfl) (g := (mkF m 20 #[rv b0, rv b1, iv 5] [.int 5, .ref b1, .int y5])) rfl rfl (hb hby d_B14_20) _ k))))))
            by_cases hc21_26 : y5 = (101 : Int32)
            · obtain ⟨cl27, Ar27, -, Sz27, M27, -, -⟩ := id V_b0
              obtain ⟨cl28, Ar28, -, Sz28, M28, Hs28, Gs28⟩ := id V_b0
              have hin28 := inb_of (j := (6 : Int32)) Sz28 ⟨by decide, by decide⟩
              obtain ⟨cl29, Ar29, -, Sz29, M29, Hs29, Gs29⟩ := id V_b1
              have hin29 := inb_of (j := (6 : Int32)) Sz29 ⟨by decide, by decide⟩
              refine own_go (b := s₁.setTop (mkF m 21 #[rv b0, rv b1, iv 6] [.int 110, .int y6])) (fun t k => ?_) ?_
              · refine xicmpYes X0 hx hby rfl 21 26 rfl d_B14_21 rfl (teq hc21_26).1 (by decide) (by decide) (xiinc X0 hx hby rfl d_B14_26 rfl (l' := #[rv b0, rv b1, iv 6]) rfl (xgoto X0 hx hby rfl 29 9 rfl d_B14_29 (by decide) (by decide) (xiloadN X0 hx hby rfl d_B14_9 rfl (xaloadN X0 hx hby rfl d_B14_10 rfl rfl (X0.arraylength hx (own_in e0 Ar27.1) (State.isArrayOf_alike hZ.alike Ar27.2.1) (g := (mkF m 11 #[rv b0, rv b1, iv 6] [.ref b0, .int 6])) rfl rfl (hb hby d_B14_11) _ ?_)))))
                rw [len_of Sz27 M27]
                refine xicmpNo X0 hx hby rfl d_B14_12 rfl (tlt ((by decide) : (6 : Int32) < (9 : Int32))).2.1 (xaloadN X0 hx hby rfl d_B14_15 rfl rfl (xiloadN X0 hx hby rfl d_B14_16 rfl (X0.baloadBytes hx (j := (6 : Int32)) (v := (.int y6)) (own_in e0 Ar28.1) (State.isArrayOf_alike hZ.alike Ar28.2.1) Ar28.2.2 hin28 (Has.at Hs28 hin28 rfl) (g := (mkF m 17 #[rv b0, rv b1, iv 6] [.int 6, .ref b0])) rfl rfl (hb hby d_B14_17) _ (xaloadN X0 hx hby rfl d_B14_18 rfl rfl (xiloadN X0 hx hby rfl d_B14_19 rfl (X0.baloadBytes hx (j := (6 : Int32)) (v := (.int 110)) (own_in e0 Ar29.1) (State.isArrayOf_alike hZ.alike Ar29.2.1) Ar29.2.2 hin29 (Has.at Hs29 hin29 rfl) (g := (mkF m 20 #[rv b0, rv b1, iv 6] [.int 6, .ref b1, .int y6])) rfl rfl (hb hby d_B14_20) _ k))))))
              by_cases hc21_30 : y6 = (110 : Int32)
              · obtain ⟨cl31, Ar31, -, Sz31, M31, -, -⟩ := id V_b0
                obtain ⟨cl32, Ar32, -, Sz32, M32, Hs32, Gs32⟩ := id V_b0
                have hin32 := inb_of (j := (7 : Int32)) Sz32 ⟨by decide, by decide⟩
                obtain ⟨cl33, Ar33, -, Sz33, M33, Hs33, Gs33⟩ := id V_b1
                have hin33 := inb_of (j := (7 : Int32)) Sz33 ⟨by decide, by decide⟩
                refine own_go (b := s₁.setTop (mkF m 21 #[rv b0, rv b1, iv 7] [.int 99, .int y7])) (fun t k => ?_) ?_
                · refine xicmpYes X0 hx hby rfl 21 26 rfl d_B14_21 rfl (teq hc21_30).1 (by decide) (by decide) (xiinc X0 hx hby rfl d_B14_26 rfl (l' := #[rv b0, rv b1, iv 7]) rfl (xgoto X0 hx hby rfl 29 9 rfl d_B14_29 (by decide) (by decide) (xiloadN X0 hx hby rfl d_B14_9 rfl (xaloadN X0 hx hby rfl d_B14_10 rfl rfl (X0.arraylength hx (own_in e0 Ar31.1) (State.isArrayOf_alike hZ.alike Ar31.2.1) (g := (mkF m 11 #[rv b0, rv b1, iv 7] [.ref b0, .int 7])) rfl rfl (hb hby d_B14_11) _ ?_)))))
                  rw [len_of Sz31 M31]
                  refine xicmpNo X0 hx hby rfl d_B14_12 rfl (tlt ((by decide) : (7 : Int32) < (9 : Int32))).2.1 (xaloadN X0 hx hby rfl d_B14_15 rfl rfl (xiloadN X0 hx hby rfl d_B14_16 rfl (X0.baloadBytes hx (j := (7 : Int32)) (v := (.int y7)) (own_in e0 Ar32.1) (State.isArrayOf_alike hZ.alike Ar32.2.1) Ar32.2.2 hin32 (Has.at Hs32 hin32 rfl) (g := (mkF m 17 #[rv b0, rv b1, iv 7] [.int 7, .ref b0])) rfl rfl (hb hby d_B14_17) _ (xaloadN X0 hx hby rfl d_B14_18 rfl rfl (xiloadN X0 hx hby rfl d_B14_19 rfl (X0.baloadBytes hx (j := (7 : Int32)) (v := (.int 99)) (own_in e0 Ar33.1) (State.isArrayOf_alike hZ.alike Ar33.2.1) Ar33.2.2 hin33 (Has.at Hs33 hin33 rfl) (g := (mkF m 20 #[rv b0, rv b1, iv 7] [.int 7, .ref b1, .int y7])) rfl rfl (hb hby d_B14_20) _ k))))))
                by_cases hc21_34 : y7 = (99 : Int32)
                · obtain ⟨cl35, Ar35, -, Sz35, M35, -, -⟩ := id V_b0
                  obtain ⟨cl36, Ar36, -, Sz36, M36, Hs36, Gs36⟩ := id V_b0
                  have hin36 := inb_of (j := (8 : Int32)) Sz36 ⟨by decide, by decide⟩
                  obtain ⟨cl37, Ar37, -, Sz37, M37, Hs37, Gs37⟩ := id V_b1
                  have hin37 := inb_of (j := (8 : Int32)) Sz37 ⟨by decide, by decide⟩
                  refine own_go (b := s₁.setTop (mkF m 21 #[rv b0, rv b1, iv 8] [.int 101, .int y8])) (fun t k => ?_) ?_
                  · refine xicmpYes X0 hx hby rfl 21 26 rfl d_B14_21 rfl (teq hc21_34).1 (by decide) (by decide) (xiinc X0 hx hby rfl d_B14_26 rfl (l' := #[rv b0, rv b1, iv 8]) rfl (xgoto X0 hx hby rfl 29 9 rfl d_B14_29 (by decide) (by decide) (xiloadN X0 hx hby rfl d_B14_9 rfl (xaloadN X0 hx hby rfl d_B14_10 rfl rfl (X0.arraylength hx (own_in e0 Ar35.1) (State.isArrayOf_alike hZ.alike Ar35.2.1) (g := (mkF m 11 #[rv b0, rv b1, iv 8] [.ref b0, .int 8])) rfl rfl (hb hby d_B14_11) _ ?_)))))
                    rw [len_of Sz35 M35]
                    refine xicmpNo X0 hx hby rfl d_B14_12 rfl (tlt ((by decide) : (8 : Int32) < (9 : Int32))).2.1 (xaloadN X0 hx hby rfl d_B14_15 rfl rfl (xiloadN X0 hx hby rfl d_B14_16 rfl (X0.baloadBytes hx (j := (8 : Int32)) (v := (.int y8)) (own_in e0 Ar36.1) (State.isArrayOf_alike hZ.alike Ar36.2.1) Ar36.2.2 hin36 (Has.at Hs36 hin36 rfl) (g := (mkF m 17 #[rv b0, rv b1, iv 8] [.int 8, .ref b0])) rfl rfl (hb hby d_B14_17) _ (xaloadN X0 hx hby rfl d_B14_18 rfl rfl (xiloadN X0 hx hby rfl d_B14_19 rfl (X0.baloadBytes hx (j := (8 : Int32)) (v := (.int 101)) (own_in e0 Ar37.1) (State.isArrayOf_alike hZ.alike Ar37.2.1) Ar37.2.2 hin37 (Has.at Hs37 hin37 rfl) (g := (mkF m 20 #[rv b0, rv b1, iv 8] [.int 8, .ref b1, .int y8])) rfl rfl (hb hby d_B14_20) _ k))))))
                  by_cases hc21_38 : y8 = (101 : Int32)
                  · obtain ⟨cl39, Ar39, -, Sz39, M39, -, -⟩ := id V_b0
                    refine own_ret (v := some (.int 1)) X0 e0 Bd.notSynchronized (nv Bd.returns) (fun fs hr => ?_) ⟨by simp only [own_E9, if_pos hc21_6, if_pos hc21_10, if_pos hc21_14, if_pos hc21_18, if_pos hc21_22, if_pos hc21_26, if_pos hc21_30, if_pos hc21_34, if_pos hc21_38], N0, rfl⟩ (by decide)
                    refine xicmpYes X0 hx hby rfl 21 26 rfl d_B14_21 rfl (teq hc21_38).1 (by decide) (by decide) (xiinc X0 hx hby rfl d_B14_26 rfl (l' := #[rv b0, rv b1, iv 9]) rfl (xgoto X0 hx hby rfl 29 9 rfl d_B14_29 (by decide) (by decide) (xiloadN X0 hx hby rfl d_B14_9 rfl (xaloadN X0 hx hby rfl d_B14_10 rfl rfl (X0.arraylength hx (own_in e0 Ar39.1) (State.isArrayOf_alike hZ.alike Ar39.2.1) (g := (mkF m 11 #[rv b0, rv b1, iv 9] [.ref b0, .int 9])) rfl rfl (hb hby d_B14_11) _ ?_)))))
                    rw [len_of Sz39 M39]
                    refine xicmpYes X0 hx hby rfl 12 32 rfl d_B14_12 rfl (flt ((by decide) : ¬ ((9 : Int32) < (9 : Int32)))).2.1 (by decide) (by decide) (xiconst X0 hx hby rfl d_B14_32 (retN X0 hx (t := .boolean) Bd.returns (by simp) (hb hby d_B14_33) hr))
                  · exact own_ret (v := some (.int 0)) X0 e0 Bd.notSynchronized (nv Bd.returns) (fun fs hr => xicmpNo X0 hx hby rfl d_B14_21 rfl (feq hc21_38).1 (xiconst X0 hx hby rfl d_B14_24 (retN X0 hx (t := .boolean) Bd.returns (by simp) (hb hby d_B14_25) hr))) ⟨by simp only [own_E9, if_pos hc21_6, if_pos hc21_10, if_pos hc21_14, if_pos hc21_18, if_pos hc21_22, if_pos hc21_26, if_pos hc21_30, if_pos hc21_34, if_neg hc21_38], N0, rfl⟩ (by decide)
                · exact own_ret (v := some (.int 0)) X0 e0 Bd.notSynchronized (nv Bd.returns) (fun fs hr => xicmpNo X0 hx hby rfl d_B14_21 rfl (feq hc21_34).1 (xiconst X0 hx hby rfl d_B14_24 (retN X0 hx (t := .boolean) Bd.returns (by simp) (hb hby d_B14_25) hr))) ⟨by simp only [own_E9, if_pos hc21_6, if_pos hc21_10, if_pos hc21_14, if_pos hc21_18, if_pos hc21_22, if_pos hc21_26, if_pos hc21_30, if_neg hc21_34], N0, rfl⟩ (by decide)
              · exact own_ret (v := some (.int 0)) X0 e0 Bd.notSynchronized (nv Bd.returns) (fun fs hr => xicmpNo X0 hx hby rfl d_B14_21 rfl (feq hc21_30).1 (xiconst X0 hx hby rfl d_B14_24 (retN X0 hx (t := .boolean) Bd.returns (by simp) (hb hby d_B14_25) hr))) ⟨by simp only [own_E9, if_pos hc21_6, if_pos hc21_10, if_pos hc21_14, if_pos hc21_18, if_pos hc21_22, if_pos hc21_26, if_neg hc21_30], N0, rfl⟩ (by decide)
            · exact own_ret (v := some (.int 0)) X0 e0 Bd.notSynchronized (nv Bd.returns) (fun fs hr => xicmpNo X0 hx hby rfl d_B14_21 rfl (feq hc21_26).1 (xiconst X0 hx hby rfl d_B14_24 (retN X0 hx (t := .boolean) Bd.returns (by simp) (hb hby d_B14_25) hr))) ⟨by simp only [own_E9, if_pos hc21_6, if_pos hc21_10, if_pos hc21_14, if_pos hc21_18, if_pos hc21_22, if_neg hc21_26], N0, rfl⟩ (by decide)
          · exact own_ret (v := some (.int 0)) X0 e0 Bd.notSynchronized (nv Bd.returns) (fun fs hr => xicmpNo X0 hx hby rfl d_B14_21 rfl (feq hc21_22).1 (xiconst X0 hx hby rfl d_B14_24 (retN X0 hx (t := .boolean) Bd.returns (by simp) (hb hby d_B14_25) hr))) ⟨by simp only [own_E9, if_pos hc21_6, if_pos hc21_10, if_pos hc21_14, if_pos hc21_18, if_neg hc21_22], N0, rfl⟩ (by decide)
        · exact own_ret (v := some (.int 0)) X0 e0 Bd.notSynchronized (nv Bd.returns) (fun fs hr => xicmpNo X0 hx hby rfl d_B14_21 rfl (feq hc21_18).1 (xiconst X0 hx hby rfl d_B14_24 (retN X0 hx (t := .boolean) Bd.returns (by simp) (hb hby d_B14_25) hr))) ⟨by simp only [own_E9, if_pos hc21_6, if_pos hc21_10, if_pos hc21_14, if_neg hc21_18], N0, rfl⟩ (by decide)
      · exact own_ret (v := some (.int 0)) X0 e0 Bd.notSynchronized (nv Bd.returns) (fun fs hr => xicmpNo X0 hx hby rfl d_B14_21 rfl (feq hc21_14).1 (xiconst X0 hx hby rfl d_B14_24 (retN X0 hx (t := .boolean) Bd.returns (by simp) (hb hby d_B14_25) hr))) ⟨by simp only [own_E9, if_pos hc21_6, if_pos hc21_10, if_neg hc21_14], N0, rfl⟩ (by decide)
    · exact own_ret (v := some (.int 0)) X0 e0 Bd.notSynchronized (nv Bd.returns) (fun fs hr => xicmpNo X0 hx hby rfl d_B14_21 rfl (feq hc21_10).1 (xiconst X0 hx hby rfl d_B14_24 (retN X0 hx (t := .boolean) Bd.returns (by simp) (hb hby d_B14_25) hr))) ⟨by simp only [own_E9, if_pos hc21_6, if_neg hc21_10], N0, rfl⟩ (by decide)
  · exact own_ret (v := some (.int 0)) X0 e0 Bd.notSynchronized (nv Bd.returns) (fun fs hr => xicmpNo X0 hx hby rfl d_B14_21 rfl (feq hc21_6).1 (xiconst X0 hx hby rfl d_B14_24 (retN X0 hx (t := .boolean) Bd.returns (by simp) (hb hby d_B14_25) hr))) ⟨by simp only [own_E9, if_neg hc21_6], N0, rfl⟩ (by decide)
set_option maxRecDepth 65536 in
set_option maxHeartbeats 40000000 in
theorem own_rmEqA9 (l : Launch) (Z : State) (a0 : Array Value) (hw : ∀ d ∈ tables_1, d.before a0 Z = true) (ws : List Jvm.Cond) (b0 : Addr) (b1 : Addr) (v0 v1 : Addr) (k0 k1 : ClassId) (y0 y1 y2 y3 y4 y5 y6 y7 y8 cs : Int32) (h0 : Heap) (n0 : Nat) (Z0 : n0 ≤ h0.size) (E_b0 : Exa Z h0 b0 "java/lang/String") (F_cb0 : Fld Z h0 b0 "java/lang/String" "coder" "B" (.int 0)) (F_vb0 : Fld Z h0 b0 "java/lang/String" "value" "[B" (.ref v0)) (V_v0 : Arv Z h0 v0 k0 .byte (9 : Int32) [.int y0, .int y1, .int y2, .int y3, .int y4, .int y5, .int y6, .int y7, .int y8] (.int 0)) (E_b1 : Exa Z h0 b1 "java/lang/String") (F_cb1 : Fld Z h0 b1 "java/lang/String" "coder" "B" (.int 0)) (F_vb1 : Fld Z h0 b1 "java/lang/String" "value" "[B" (.ref v1)) (V_v1 : Arv Z h0 v1 k1 .byte (9 : Int32) [.int 114, .int 101, .int 102, .int 101, .int 114, .int 101, .int 110, .int 99, .int 101] (.int 0)) (S_cs : Sta Z h0 "java/lang/String" "COMPACT_STRINGS" "Z" (.int cs)) (hcs : ¬ cs = (0 : Int32)) (h01 : ¬ b0 = b1) : own_M l Z y9N jdk_42_method_66_code 3 (some .boolean) ws ({ frames := 1, cells := 0, slots := 0, locals := 14 } : Room) #[.ref b0, .ref b1] h0 (own_QI (if (own_E9 y0 y1 y2 y3 y4 y5 y6 y7 y8) = (0 : Int32) then (0 : Int32) else (1 : Int32)) h0 n0) := by
  refine own_begin (n0 := n0) (f0 := mkF ⟨0, 0⟩ 0 #[rv b0, rv b1, .unset] []) (plainFor_of_name own_pn0) (fun m => ef_2_3 m _ _ rfl rfl) ?_
  intro p e s m below meth c s₁ Bd hZ hx hby hml hown hnm X0 e0 N0
  obtain ⟨T1, X1, e1, st1⟩ := instY X0 hx hZ hown (wd hw 78 rfl) e0 (Ins.self E_b1) (g := (mkF m 8 #[rv b0, rv b1, .unset] [.ref b1])) rfl rfl (hb hby d_B15_8)
  obtain ⟨T2, X2, e2, st2⟩ := castY X1 hx hZ hown (wd hw 78 rfl) e1 (Ins.self E_b1) (g := (mkF m 15 #[rv b0, rv b1, .unset] [.ref b1])) rfl rfl (hb hby d_B15_15)
  obtain ⟨T3, X3, e3, st3⟩ := getS2 X2 hx hZ hown (host := "") (Or.inl (wd hw 19 rfl)) Via.refl e2 S_cs (g := (mkF m 19 #[rv b0, rv b1, rv b1] [])) rfl (hb hby d_B15_19)
  obtain ⟨T4, X4, e4, st4⟩ := getF X3 hx hZ hown (host := "") (Or.inl (wd hw 20 rfl)) Via.refl e3 F_cb0 (g := (mkF m 26 #[rv b0, rv b1, rv b1] [.ref b0])) rfl rfl (hb hby d_B15_26)
  obtain ⟨T5, X5, e5, st5⟩ := getF X4 hx hZ hown (host := "") (Or.inl (wd hw 20 rfl)) Via.refl e4 F_cb1 (g := (mkF m 30 #[rv b0, rv b1, rv b1] [.ref b1, .int 0])) rfl rfl (hb hby d_B15_30)
  obtain ⟨T6, X6, e6, st6⟩ := getF X5 hx hZ hown (host := "") (Or.inl (wd hw 13 rfl)) Via.refl e5 F_vb0 (g := (mkF m 37 #[rv b0, rv b1, rv b1] [.ref b0])) rfl rfl (hb hby d_B15_37)
  obtain ⟨T7, X7, e7, st7⟩ := getF X6 hx hZ hown (host := "") (Or.inl (wd hw 13 rfl)) Via.refl e6 F_vb1 (g := (mkF m 41 #[rv b0, rv b1, rv b1] [.ref b1, .ref v0])) rfl rfl (hb hby d_B15_41)
  refine own_go (b := T7.setTop (mkF m 44 #[rv b0, rv b1, rv b1] [.ref v1, .ref v0])) (fun t k => xaloadN X0 hx hby rfl d_B15_0 rfl rfl (xaloadN X0 hx hby rfl d_B15_1 rfl rfl (Jvm.RoadKit.acmp (g := (mkF m 2 #[rv b0, rv b1, .unset] [.ref b1, .ref b0])) X0 hx rfl rfl rfl (pc0 := 2) (pc' := 7) (same := false) rfl (hb hby d_B15_2) rfl (decide_eq_false fun q => (h01 : ¬ (b0 = b1)) (Value.ref.inj q)) (by decide) (by decide) (xaloadN X0 hx hby rfl d_B15_7 rfl rfl (st1 _ (xifNo X1 hx hby rfl d_B15_11 rfl ((if0 _ _).trans (feq ((by decide) : ¬ ((1 : Int32) = (0 : Int32)))).1) (xaloadN X1 hx hby rfl d_B15_14 rfl rfl (st2 _ (xastoreN X2 hx hby rfl d_B15_18 rfl rfl (l' := #[rv b0, rv b1, rv b1]) rfl (st3 _ (xifNo X3 hx hby rfl d_B15_22 rfl ((if0 _ _).trans (feq (hcs : ¬ (cs = (0 : Int32)))).1) (xaloadN X3 hx hby rfl d_B15_25 rfl rfl (st4 _ (xaloadN X4 hx hby rfl d_B15_29 rfl rfl (st5 _ (xicmpNo X5 hx hby rfl d_B15_33 rfl (teq ((by decide) : (0 : Int32) = (0 : Int32))).2 (xaloadN X5 hx hby rfl d_B15_36 rfl rfl (st6 _ (xaloadN X6 hx hby rfl d_B15_40 rfl rfl (st7 _ k)))))))))))))))))))) ?_
  refine own_cs X7 hx hZ hown hml e7 (wd hw 79 rfl) (wd hw 80 rfl) (wd hw 38 rfl) (wd hw 81 rfl) (own_rmLeA9 l Z a0 hw [] v0 v1 k0 k1 y0 y1 y2 y3 y4 y5 y6 y7 y8 h0 n0 Z0 V_v0 V_v1) own_pd12 (hb hby d_B15_44) 0 [] rfl ⟨rfl, rfl, rfl, rfl, rfl⟩ (by decide) ?_
  rintro T8 L8 v8 X8 hQ8
  obtain ⟨rfl, N8q, e8⟩ := hQ8
  have N8 := Fr.app N0 N8q
  refine own_go (b := T8.setTop (mkF m 47 #[rv b0, rv b1, rv b1] [(.int (own_E9 y0 y1 y2 y3 y4 y5 y6 y7 y8))])) (fun t k => ?_) ?_
  · exact k
  by_cases hc47_9 : (own_E9 y0 y1 y2 y3 y4 y5 y6 y7 y8) = (0 : Int32)
  · exact own_ret (v := some (.int 0)) X8 e8 Bd.notSynchronized (nv Bd.returns) (fun fs hr => xifYes X8 hx hby rfl 47 54 rfl d_B15_47 rfl ((if0 _ _).trans (teq hc47_9).1) (by decide) (by decide) (xiconst X8 hx hby rfl d_B15_54 (retN X8 hx (t := .boolean) Bd.returns (by simp) (hb hby d_B15_55) hr))) ⟨by rw [if_pos hc47_9], N8, rfl⟩ (by decide)
  · exact own_ret (v := some (.int 1)) X8 e8 Bd.notSynchronized (nv Bd.returns) (fun fs hr => xifNo X8 hx hby rfl d_B15_47 rfl ((if0 _ _).trans (feq hc47_9).1) (xiconst X8 hx hby rfl d_B15_50 (xgoto X8 hx hby rfl 51 55 rfl d_B15_51 (by decide) (by decide) (retN X8 hx (t := .boolean) Bd.returns (by simp) (hb hby d_B15_55) hr)))) ⟨by rw [if_neg hc47_9], N8, rfl⟩ (by decide)
set_option maxRecDepth 65536 in
set_option maxHeartbeats 40000000 in
theorem own_rmLeB9 (l : Launch) (Z : State) (a0 : Array Value) (hw : ∀ d ∈ tables_1, d.before a0 Z = true) (ws : List Jvm.Cond) (b0 : Addr) (b1 : Addr) (k0 k1 : ClassId) (y0 y1 y2 y3 y4 y5 y6 y7 y8 : Int32) (h0 : Heap) (n0 : Nat) (Z0 : n0 ≤ h0.size) (V_b0 : Arv Z h0 b0 k0 .byte (9 : Int32) [.int 114, .int 101, .int 102, .int 101, .int 114, .int 101, .int 110, .int 99, .int 101] (.int 0)) (V_b1 : Arv Z h0 b1 k1 .byte (9 : Int32) [.int y0, .int y1, .int y2, .int y3, .int y4, .int y5, .int y6, .int y7, .int y8] (.int 0)) : own_M l Z y13N jdk_43_method_13_code 3 (some .boolean) ws ({ frames := 0, cells := 0, slots := 0, locals := 0 } : Room) #[.ref b0, .ref b1] h0 (own_QI (own_E9 y0 y1 y2 y3 y4 y5 y6 y7 y8) h0 n0) := by
  refine own_begin (n0 := n0) (f0 := mkF ⟨0, 0⟩ 0 #[rv b0, rv b1, .unset] []) (plainFor_of_name own_pn3) (fun m => ef_2_3 m _ _ rfl rfl) ?_
  intro p e s m below meth c s₁ Bd hZ hx hby hml hown hnm X0 e0 N0
  obtain ⟨cl1, Ar1, -, Sz1, M1, -, -⟩ := id V_b0
  obtain ⟨cl2, Ar2, -, Sz2, M2, -, -⟩ := id V_b1
  obtain ⟨cl3, Ar3, -, Sz3, M3, -, -⟩ := id V_b0
  obtain ⟨cl4, Ar4, -, Sz4, M4, Hs4, Gs4⟩ := id V_b0
  have hin4 := inb_of (j := (0 : Int32)) Sz4 ⟨by decide, by decide⟩
  obtain ⟨cl5, Ar5, -, Sz5, M5, Hs5, Gs5⟩ := id V_b1
  have hin5 := inb_of (j := (0 : Int32)) Sz5 ⟨by decide, by decide⟩
  refine own_go (b := s₁.setTop (mkF m 21 #[rv b0, rv b1, iv 0] [.int y0, .int 114])) (fun t k => ?_) ?_
  · refine xaloadN X0 hx hby rfl d_B14_0 rfl rfl (X0.arraylength hx (own_in e0 Ar1.1) (State.isArrayOf_alike hZ.alike Ar1.2.1) (g := (mkF m 1 #[rv b0, rv b1, .unset] [.ref b0])) rfl rfl (hb hby d_B14_1) _ ?_)
    rw [len_of Sz1 M1]
    refine xaloadN X0 hx hby rfl d_B14_2 rfl rfl (X0.arraylength hx (own_in e0 Ar2.1) (State.isArrayOf_alike hZ.alike Ar2.2.1) (g := (mkF m 3 #[rv b0, rv b1, .unset] [.ref b1, .int 9])) rfl rfl (hb hby d_B14_3) _ ?_)
    rw [len_of Sz2 M2]
    refine xicmpNo X0 hx hby rfl d_B14_4 rfl (teq ((by decide) : (9 : Int32) = (9 : Int32))).2 (xiconst X0 hx hby rfl d_B14_7 (xistoreN X0 hx hby rfl d_B14_8 rfl (l' := #[rv b0, rv b1, iv 0]) rfl (xiloadN X0 hx hby rfl d_B14_9 rfl (xaloadN X0 hx hby rfl d_B14_10 rfl rfl (X0.arraylength hx (own_in e0 Ar3.1) (State.isArrayOf_alike hZ.alike Ar3.2.1) (g := (mkF m 11 #[rv b0, rv b1, iv 0] [.ref b0, .int 0])) rfl rfl (hb hby d_B14_11) _ ?_)))))
    rw [len_of Sz3 M3]
    refine xicmpNo X0 hx hby rfl d_B14_12 rfl (tlt ((by decide) : (0 : Int32) < (9 : Int32))).2.1 (xaloadN X0 hx hby rfl d_B14_15 rfl rfl (xiloadN X0 hx hby rfl d_B14_16 rfl (X0.baloadBytes hx (j := (0 : Int32)) (v := (.int 114)) (own_in e0 Ar4.1) (State.isArrayOf_alike hZ.alike Ar4.2.1) Ar4.2.2 hin4 (Has.at Hs4 hin4 rfl) (g := (mkF m 17 #[rv b0, rv b1, iv 0] [.int 0, .ref b0])) rfl rfl (hb hby d_B14_17) _ (xaloadN X0 hx hby rfl d_B14_18 rfl rfl (xiloadN X0 hx hby rfl d_B14_19 rfl (X0.baloadBytes hx (j := (0 : Int32)) (v := (.int y0)) (own_in e0 Ar5.1) (State.isArrayOf_alike hZ.alike Ar5.2.1) Ar5.2.2 hin5 (Has.at Hs5 hin5 rfl) (g := (mkF m 20 #[rv b0, rv b1, iv 0] [.int 0, .ref b1, .int 114])) rfl rfl (hb hby d_B14_20) _ k))))))
  by_cases hc21_6 : (114 : Int32) = y0
  · obtain ⟨cl7, Ar7, -, Sz7, M7, -, -⟩ := id V_b0
    obtain ⟨cl8, Ar8, -, Sz8, M8, Hs8, Gs8⟩ := id V_b0
    have hin8 := inb_of (j := (1 : Int32)) Sz8 ⟨by decide, by decide⟩
    obtain ⟨cl9, Ar9, -, Sz9, M9, Hs9, Gs9⟩ := id V_b1
    have hin9 := inb_of (j := (1 : Int32)) Sz9 ⟨by decide, by decide⟩
    refine own_go (b := s₁.setTop (mkF m 21 #[rv b0, rv b1, iv 1] [.int y1, .int 101])) (fun t k => ?_) ?_
    · refine xicmpYes X0 hx hby rfl 21 26 rfl d_B14_21 rfl (teq hc21_6).1 (by decide) (by decide) (xiinc X0 hx hby rfl d_B14_26 rfl (l' := #[rv b0, rv b1, iv 1]) rfl (xgoto X0 hx hby rfl 29 9 rfl d_B14_29 (by decide) (by decide) (xiloadN X0 hx hby rfl d_B14_9 rfl (xaloadN X0 hx hby rfl d_B14_10 rfl rfl (X0.arraylength hx (own_in e0 Ar7.1) (State.isArrayOf_alike hZ.alike Ar7.2.1) (g := (mkF m 11 #[rv b0, rv b1, iv 1] [.ref b0, .int 1])) rfl rfl (hb hby d_B14_11) _ ?_)))))
      rw [len_of Sz7 M7]
      refine xicmpNo X0 hx hby rfl d_B14_12 rfl (tlt ((by decide) : (1 : Int32) < (9 : Int32))).2.1 (xaloadN X0 hx hby rfl d_B14_15 rfl rfl (xiloadN X0 hx hby rfl d_B14_16 rfl (X0.baloadBytes hx (j := (1 : Int32)) (v := (.int 101)) (own_in e0 Ar8.1) (State.isArrayOf_alike hZ.alike Ar8.2.1) Ar8.2.2 hin8 (Has.at Hs8 hin8 rfl) (g := (mkF m 17 #[rv b0, rv b1, iv 1] [.int 1, .ref b0])) rfl rfl (hb hby d_B14_17) _ (xaloadN X0 hx hby rfl d_B14_18 rfl rfl (xiloadN X0 hx hby rfl d_B14_19 rfl (X0.baloadBytes hx (j := (1 : Int32)) (v := (.int y1)) (own_in e0 Ar9.1) (State.isArrayOf_alike hZ.alike Ar9.2.1) Ar9.2.2 hin9 (Has.at Hs9 hin9 rfl) (g := (mkF m 20 #[rv b0, rv b1, iv 1] [.int 1, .ref b1, .int 101])) rfl rfl (hb hby d_B14_20) _ k))))))
    by_cases hc21_10 : (101 : Int32) = y1
    · obtain ⟨cl11, Ar11, -, Sz11, M11, -, -⟩ := id V_b0
      obtain ⟨cl12, Ar12, -, Sz12, M12, Hs12, Gs12⟩ := id V_b0
      have hin12 := inb_of (j := (2 : Int32)) Sz12 ⟨by decide, by decide⟩
      obtain ⟨cl13, Ar13, -, Sz13, M13, Hs13, Gs13⟩ := id V_b1
      have hin13 := inb_of (j := (2 : Int32)) Sz13 ⟨by decide, by decide⟩
      refine own_go (b := s₁.setTop (mkF m 21 #[rv b0, rv b1, iv 2] [.int y2, .int 102])) (fun t k => ?_) ?_
      · refine xicmpYes X0 hx hby rfl 21 26 rfl d_B14_21 rfl (teq hc21_10).1 (by decide) (by decide) (xiinc X0 hx hby rfl d_B14_26 rfl (l' := #[rv b0, rv b1, iv 2]) rfl (xgoto X0 hx hby rfl 29 9 rfl d_B14_29 (by decide) (by decide) (xiloadN X0 hx hby rfl d_B14_9 rfl (xaloadN X0 hx hby rfl d_B14_10 rfl rfl (X0.arraylength hx (own_in e0 Ar11.1) (State.isArrayOf_alike hZ.alike Ar11.2.1) (g := (mkF m 11 #[rv b0, rv b1, iv 2] [.ref b0, .int 2])) rfl rfl (hb hby d_B14_11) _ ?_)))))
        rw [len_of Sz11 M11]
        refine xicmpNo X0 hx hby rfl d_B14_12 rfl (tlt ((by decide) : (2 : Int32) < (9 : Int32))).2.1 (xaloadN X0 hx hby rfl d_B14_15 rfl rfl (xiloadN X0 hx hby rfl d_B14_16 rfl (X0.baloadBytes hx (j := (2 : Int32)) (v := (.int 102)) (own_in e0 Ar12.1) (State.isArrayOf_alike hZ.alike Ar12.2.1) Ar12.2.2 hin12 (Has.at Hs12 hin12 rfl) (g := (mkF m 17 #[rv b0, rv b1, iv 2] [.int 2, .ref b0])) rfl rfl (hb hby d_B14_17) _ (xaloadN X0 hx hby rfl d_B14_18 rfl rfl (xiloadN X0 hx hby rfl d_B14_19 rfl (X0.baloadBytes hx (j := (2 : Int32)) (v := (.int y2)) (own_in e0 Ar13.1) (State.isArrayOf_alike hZ.alike Ar13.2.1) Ar13.2.2 hin13 (Has.at Hs13 hin13 rfl) (g := (mkF m 20 #[rv b0, rv b1, iv 2] [.int 2, .ref b1, .int 102])) rfl rfl (hb hby d_B14_20) _ k))))))
      by_cases hc21_14 : (102 : Int32) = y2
      · obtain ⟨cl15, Ar15, -, Sz15, M15, -, -⟩ := id V_b0
        obtain ⟨cl16, Ar16, -, Sz16, M16, Hs16, Gs16⟩ := id V_b0
        have hin16 := inb_of (j := (3 : Int32)) Sz16 ⟨by decide, by decide⟩
        obtain ⟨cl17, Ar17, -, Sz17, M17, Hs17, Gs17⟩ := id V_b1
        have hin17 := inb_of (j := (3 : Int32)) Sz17 ⟨by decide, by decide⟩
        refine own_go (b := s₁.setTop (mkF m 21 #[rv b0, rv b1, iv 3] [.int y3, .int 101])) (fun t k => ?_) ?_
        · refine xicmpYes X0 hx hby rfl 21 26 rfl d_B14_21 rfl (teq hc21_14).1 (by decide) (by decide) (xiinc X0 hx hby rfl d_B14_26 rfl (l' := #[rv b0, rv b1, iv 3]) rfl (xgoto X0 hx hby rfl 29 9 rfl d_B14_29 (by decide) (by decide) (xiloadN X0 hx hby rfl d_B14_9 rfl (xaloadN X0 hx hby rfl d_B14_10 rfl rfl (X0.arraylength hx (own_in e0 Ar15.1) (State.isArrayOf_alike hZ.alike Ar15.2.1) (g := (mkF m 11 #[rv b0, rv b1, iv 3] [.ref b0, .int 3])) rfl rfl (hb hby d_B14_11) _ ?_)))))
          rw [len_of Sz15 M15]
          refine xicmpNo X0 hx hby rfl d_B14_12 rfl (tlt ((by decide) : (3 : Int32) < (9 : Int32))).2.1 (xaloadN X0 hx hby rfl d_B14_15 rfl rfl (xiloadN X0 hx hby rfl d_B14_16 rfl (X0.baloadBytes hx (j := (3 : Int32)) (v := (.int 101)) (own_in e0 Ar16.1) (State.isArrayOf_alike hZ.alike Ar16.2.1) Ar16.2.2 hin16 (Has.at Hs16 hin16 rfl) (g := (mkF m 17 #[rv b0, rv b1, iv 3] [.int 3, .ref b0])) rfl rfl (hb hby d_B14_17) _ (xaloadN X0 hx hby rfl d_B14_18 rfl rfl (xiloadN X0 hx hby rfl d_B14_19 rfl (X0.baloadBytes hx (j := (3 : Int32)) (v := (.int y3)) (own_in e0 Ar17.1) (State.isArrayOf_alike hZ.alike Ar17.2.1) Ar17.2.2 hin17 (Has.at Hs17 hin17 rfl) (g := (mkF m 20 #[rv b0, rv b1, iv 3] [.int 3, .ref b1, .int 101])) rfl rfl (hb hby d_B14_20) _ k))))))
        by_cases hc21_18 : (101 : Int32) = y3
        · obtain ⟨cl19, Ar19, -, Sz19, M19, -, -⟩ := id V_b0
          obtain ⟨cl20, Ar20, -, Sz20, M20, Hs20, Gs20⟩ := id V_b0
          have hin20 := inb_of (j := (4 : Int32)) Sz20 ⟨by decide, by decide⟩
          obtain ⟨cl21, Ar21, -, Sz21, M21, Hs21, Gs21⟩ := id V_b1
          have hin21 := inb_of (j := (4 : Int32)) Sz21 ⟨by decide, by decide⟩
          refine own_go (b := s₁.setTop (mkF m 21 #[rv b0, rv b1, iv 4] [.int y4, .int 114])) (fun t k => ?_) ?_
          · refine xicmpYes X0 hx hby rfl 21 26 rfl d_B14_21 rfl (teq hc21_18).1 (by decide) (by decide) (xiinc X0 hx hby rfl d_B14_26 rfl (l' := #[rv b0, rv b1, iv 4]) rfl (xgoto X0 hx hby rfl 29 9 rfl d_B14_29 (by decide) (by decide) (xiloadN X0 hx hby rfl d_B14_9 rfl (xaloadN X0 hx hby rfl d_B14_10 rfl rfl (X0.arraylength hx (own_in e0 Ar19.1) (State.isArrayOf_alike hZ.alike Ar19.2.1) (g := (mkF m 11 #[rv b0, rv b1, iv 4] [.ref b0, .int 4])) rfl rfl (hb hby d_B14_11) _ ?_)))))
            rw [len_of Sz19 M19]
            refine xicmpNo X0 hx hby rfl d_B14_12 rfl (tlt ((by decide) : (4 : Int32) < (9 : Int32))).2.1 (xaloadN X0 hx hby rfl d_B14_15 rfl rfl (xiloadN X0 hx hby rfl d_B14_16 rfl (X0.baloadBytes hx (j := (4 : Int32)) (v := (.int 114)) (own_in e0 Ar20.1) (State.isArrayOf_alike hZ.alike Ar20.2.1) Ar20.2.2 hin20 (Has.at Hs20 hin20 rfl) (g := (mkF m 17 #[rv b0, rv b1, iv 4] [.int 4, .ref b0])) rfl rfl (hb hby d_B14_17) _ (xaloadN X0 hx hby rfl d_B14_18 rfl rfl (xiloadN X0 hx hby rfl d_B14_19 rfl (X0.baloadBytes hx (j := (4 : Int32)) (v := (.int y4)) (own_in e0 Ar21.1) (State.isArrayOf_alike hZ.alike Ar21.2.1) Ar21.2.2 hin21 (Has.at Hs21 hin21 rfl) (g := (mkF m 20 #[rv b0, rv b1, iv 4] [.int 4, .ref b1, .int 114])) rfl rfl (hb hby d_B14_20) _ k))))))
          by_cases hc21_22 : (114 : Int32) = y4
          · obtain ⟨cl23, Ar23, -, Sz23, M23, -, -⟩ := id V_b0
            obtain ⟨cl24, Ar24, -, Sz24, M24, Hs24, Gs24⟩ := id V_b0
            have hin24 := inb_of (j := (5 : Int32)) Sz24 ⟨by decide, by decide⟩
            obtain ⟨cl25, Ar25, -, Sz25, M25, Hs25, Gs25⟩ := id V_b1
            have hin25 := inb_of (j := (5 : Int32)) Sz25 ⟨by decide, by decide⟩
            refine own_go (b := s₁.setTop (mkF m 21 #[rv b0, rv b1, iv 5] [.int y5, .int 101])) (fun t k => ?_) ?_
            · refine xicmpYes X0 hx hby rfl 21 26 rfl d_B14_21 rfl (teq hc21_22).1 (by decide) (by decide) (xiinc X0 hx hby rfl d_B14_26 rfl (l' := #[rv b0, rv b1, iv 5]) rfl (xgoto X0 hx hby rfl 29 9 rfl d_B14_29 (by decide) (by decide) (xiloadN X0 hx hby rfl d_B14_9 rfl (xaloadN X0 hx hby rfl d_B14_10 rfl rfl (X0.arraylength hx (own_in e0 Ar23.1) (State.isArrayOf_alike hZ.alike Ar23.2.1) (g := (mkF m 11 #[rv b0, rv b1, iv 5] [.ref b0, .int 5])) rfl rfl (hb hby d_B14_11) _ ?_)))))
              rw [len_of Sz23 M23]
              refine xicmpNo X0 hx hby rfl d_B14_12 rfl (tlt ((by decide) : (5 : Int32) < (9 : Int32))).2.1 (xaloadN X0 hx hby rfl d_B14_15 rfl rfl (xiloadN X0 hx hby rfl d_B14_16 rfl (X0.baloadBytes hx (j := (5 : Int32)) (v := (.int 101)) (own_in e0 Ar24.1) (State.isArrayOf_alike hZ.alike Ar24.2.1) Ar24.2.2 hin24 (Has.at Hs24 hin24 rfl) (g := (mkF m 17 #[rv b0, rv b1, iv 5] [.int 5, .ref b0])) rfl rfl (hb hby d_B14_17) _ (xaloadN X0 hx hby rfl d_B14_18 rfl rfl (xiloadN X0 hx hby rfl d_B14_19 rfl (X0.baloadBytes hx (j := (5 : Int32)) (v := (.int y5)) (own_in e0 Ar25.1) (State.isArrayOf_alike hZ.alike Ar25.2.1) Ar25.2.2 hin25 (Has.at Hs25 hin25 rfl) (g := (mkF m 20 #[rv b0, rv b1, iv 5] [.int 5, .ref b1, .int 101])) rfl rfl (hb hby d_B14_20) _ k))))))
            by_cases hc21_26 : (101 : Int32) = y5
            · obtain ⟨cl27, Ar27, -, Sz27, M27, -, -⟩ := id V_b0
              obtain ⟨cl28, Ar28, -, Sz28, M28, Hs28, Gs28⟩ := id V_b0
              have hin28 := inb_of (j := (6 : Int32)) Sz28 ⟨by decide, by decide⟩
              obtain ⟨cl29, Ar29, -, Sz29, M29, Hs29, Gs29⟩ := id V_b1
              have hin29 := inb_of (j := (6 : Int32)) Sz29 ⟨by decide, by decide⟩
              refine own_go (b := s₁.setTop (mkF m 21 #[rv b0, rv b1, iv 6] [.int y6, .int 110])) (fun t k => ?_) ?_
              · refine xicmpYes X0 hx hby rfl 21 26 rfl d_B14_21 rfl (teq hc21_26).1 (by decide) (by decide) (xiinc X0 hx hby rfl d_B14_26 rfl (l' := #[rv b0, rv b1, iv 6]) rfl (xgoto X0 hx hby rfl 29 9 rfl d_B14_29 (by decide) (by decide) (xiloadN X0 hx hby rfl d_B14_9 rfl (xaloadN X0 hx hby rfl d_B14_10 rfl rfl (X0.arraylength hx (own_in e0 Ar27.1) (State.isArrayOf_alike hZ.alike Ar27.2.1) (g := (mkF m 11 #[rv b0, rv b1, iv 6] [.ref b0, .int 6])) rfl rfl (hb hby d_B14_11) _ ?_)))))
                rw [len_of Sz27 M27]
                refine xicmpNo X0 hx hby rfl d_B14_12 rfl (tlt ((by decide) : (6 : Int32) < (9 : Int32))).2.1 (xaloadN X0 hx hby rfl d_B14_15 rfl rfl (xiloadN X0 hx hby rfl d_B14_16 rfl (X0.baloadBytes hx (j := (6 : Int32)) (v := (.int 110)) (own_in e0 Ar28.1) (State.isArrayOf_alike hZ.alike Ar28.2.1) Ar28.2.2 hin28 (Has.at Hs28 hin28 rfl) (g := (mkF m 17 #[rv b0, rv b1, iv 6] [.int 6, .ref b0])) rfl rfl (hb hby d_B14_17) _ (xaloadN X0 hx hby rfl d_B14_18 rfl rfl (xiloadN X0 hx hby rfl d_B14_19 rfl (X0.baloadBytes hx (j := (6 : Int32)) (v := (.int y6)) (own_in e0 Ar29.1) (State.isArrayOf_alike hZ.alike Ar29.2.1) Ar29.2.2 hin29 (Has.at Hs29 hin29 rfl) (g := (mkF m 20 #[rv b0, rv b1, iv 6] [.int 6, .ref b1, .int 110])) rfl rfl (hb hby d_B14_20) _ k))))))
              by_cases hc21_30 : (110 : Int32) = y6
              · obtain ⟨cl31, Ar31, -, Sz31, M31, -, -⟩ := id V_b0
                obtain ⟨cl32, Ar32, -, Sz32, M32, Hs32, Gs32⟩ := id V_b0
                have hin32 := inb_of (j := (7 : Int32)) Sz32 ⟨by decide, by decide⟩
                obtain ⟨cl33, Ar33, -, Sz33, M33, Hs33, Gs33⟩ := id V_b1
                have hin33 := inb_of (j := (7 : Int32)) Sz33 ⟨by decide, by decide⟩
                refine own_go (b := s₁.setTop (mkF m 21 #[rv b0, rv b1, iv 7] [.int y7, .int 99])) (fun t k => ?_) ?_
                · refine xicmpYes X0 hx hby rfl 21 26 rfl d_B14_21 rfl (teq hc21_30).1 (by decide) (by decide) (xiinc X0 hx hby rfl d_B14_26 rfl (l' := #[rv b0, rv b1, iv 7]) rfl (xgoto X0 hx hby rfl 29 9 rfl d_B14_29 (by decide) (by decide) (xiloadN X0 hx hby rfl d_B14_9 rfl (xaloadN X0 hx hby rfl d_B14_10 rfl rfl (X0.arraylength hx (own_in e0 Ar31.1) (State.isArrayOf_alike hZ.alike Ar31.2.1) (g := (mkF m 11 #[rv b0, rv b1, iv 7] [.ref b0, .int 7])) rfl rfl (hb hby d_B14_11) _ ?_)))))
                  rw [len_of Sz31 M31]
                  refine xicmpNo X0 hx hby rfl d_B14_12 rfl (tlt ((by decide) : (7 : Int32) < (9 : Int32))).2.1 (xaloadN X0 hx hby rfl d_B14_15 rfl rfl (xiloadN X0 hx hby rfl d_B14_16 rfl (X0.baloadBytes hx (j := (7 : Int32)) (v := (.int 99)) (own_in e0 Ar32.1) (State.isArrayOf_alike hZ.alike Ar32.2.1) Ar32.2.2 hin32 (Has.at Hs32 hin32 rfl) (g := (mkF m 17 #[rv b0, rv b1, iv 7] [.int 7, .ref b0])) rfl rfl (hb hby d_B14_17) _ (xaloadN X0 hx hby rfl d_B14_18 rfl rfl (xiloadN X0 hx hby rfl d_B14_19 rfl (X0.baloadBytes hx (j := (7 : Int32)) (v := (.int y7)) (own_in e0 Ar33.1) (State.isArrayOf_alike hZ.alike Ar33.2.1) Ar33.2.2 hin33 (Has.at Hs33 hin33 rfl) (g := (mkF m 20 #[rv b0, rv b1, iv 7] [.int 7, .ref b1, .int 99])) rfl rfl (hb hby d_B14_20) _ k))))))
                by_cases hc21_34 : (99 : Int32) = y7
                · obtain ⟨cl35, Ar35, -, Sz35, M35, -, -⟩ := id V_b0
                  obtain ⟨cl36, Ar36, -, Sz36, M36, Hs36, Gs36⟩ := id V_b0
                  have hin36 := inb_of (j := (8 : Int32)) Sz36 ⟨by decide, by decide⟩
                  obtain ⟨cl37, Ar37, -, Sz37, M37, Hs37, Gs37⟩ := id V_b1
                  have hin37 := inb_of (j := (8 : Int32)) Sz37 ⟨by decide, by decide⟩
                  refine own_go (b := s₁.setTop (mkF m 21 #[rv b0, rv b1, iv 8] [.int y8, .int 101])) (fun t k => ?_) ?_
                  · refine xicmpYes X0 hx hby rfl 21 26 rfl d_B14_21 rfl (teq hc21_34).1 (by decide) (by decide) (xiinc X0 hx hby rfl d_B14_26 rfl (l' := #[rv b0, rv b1, iv 8]) rfl (xgoto X0 hx hby rfl 29 9 rfl d_B14_29 (by decide) (by decide) (xiloadN X0 hx hby rfl d_B14_9 rfl (xaloadN X0 hx hby rfl d_B14_10 rfl rfl (X0.arraylength hx (own_in e0 Ar35.1) (State.isArrayOf_alike hZ.alike Ar35.2.1) (g := (mkF m 11 #[rv b0, rv b1, iv 8] [.ref b0, .int 8])) rfl rfl (hb hby d_B14_11) _ ?_)))))
                    rw [len_of Sz35 M35]
                    refine xicmpNo X0 hx hby rfl d_B14_12 rfl (tlt ((by decide) : (8 : Int32) < (9 : Int32))).2.1 (xaloadN X0 hx hby rfl d_B14_15 rfl rfl (xiloadN X0 hx hby rfl d_B14_16 rfl (X0.baloadBytes hx (j := (8 : Int32)) (v := (.int 101)) (own_in e0 Ar36.1) (State.isArrayOf_alike hZ.alike Ar36.2.1) Ar36.2.2 hin36 (Has.at Hs36 hin36 rfl) (g := (mkF m 17 #[rv b0, rv b1, iv 8] [.int 8, .ref b0])) rfl rfl (hb hby d_B14_17) _ (xaloadN X0 hx hby rfl d_B14_18 rfl rfl (xiloadN X0 hx hby rfl d_B14_19 rfl (X0.baloadBytes hx (j := (8 : Int32)) (v := (.int y8)) (own_in e0 Ar37.1) (State.isArrayOf_alike hZ.alike Ar37.2.1) Ar37.2.2 hin37 (Has.at Hs37 hin37 rfl) (g := (mkF m 20 #[rv b0, rv b1, iv 8] [.int 8, .ref b1, .int 101])) rfl rfl (hb hby d_B14_20) _ k))))))
                  by_cases hc21_38 : (101 : Int32) = y8
                  · obtain ⟨cl39, Ar39, -, Sz39, M39, -, -⟩ := id V_b0
                    refine own_ret (v := some (.int 1)) X0 e0 Bd.notSynchronized (nv Bd.returns) (fun fs hr => ?_) ⟨by simp only [own_E9, if_pos hc21_6.symm, if_pos hc21_10.symm, if_pos hc21_14.symm, if_pos hc21_18.symm, if_pos hc21_22.symm, if_pos hc21_26.symm, if_pos hc21_30.symm, if_pos hc21_34.symm, if_pos hc21_38.symm], N0, rfl⟩ (by decide)
                    refine xicmpYes X0 hx hby rfl 21 26 rfl d_B14_21 rfl (teq hc21_38).1 (by decide) (by decide) (xiinc X0 hx hby rfl d_B14_26 rfl (l' := #[rv b0, rv b1, iv 9]) rfl (xgoto X0 hx hby rfl 29 9 rfl d_B14_29 (by decide) (by decide) (xiloadN X0 hx hby rfl d_B14_9 rfl (xaloadN X0 hx hby rfl d_B14_10 rfl rfl (X0.arraylength hx (own_in e0 Ar39.1) (State.isArrayOf_alike hZ.alike Ar39.2.1) (g := (mkF m 11 #[rv b0, rv b1, iv 9] [.ref b0, .int 9])) rfl rfl (hb hby d_B14_11) _ ?_)))))
                    rw [len_of Sz39 M39]
                    refine xicmpYes X0 hx hby rfl 12 32 rfl d_B14_12 rfl (flt ((by decide) : ¬ ((9 : Int32) < (9 : Int32)))).2.1 (by decide) (by decide) (xiconst X0 hx hby rfl d_B14_32 (retN X0 hx (t := .boolean) Bd.returns (by simp) (hb hby d_B14_33) hr))
                  · exact own_ret (v := some (.int 0)) X0 e0 Bd.notSynchronized (nv Bd.returns) (fun fs hr => xicmpNo X0 hx hby rfl d_B14_21 rfl (feq hc21_38).1 (xiconst X0 hx hby rfl d_B14_24 (retN X0 hx (t := .boolean) Bd.returns (by simp) (hb hby d_B14_25) hr))) ⟨by simp only [own_E9, if_pos hc21_6.symm, if_pos hc21_10.symm, if_pos hc21_14.symm, if_pos hc21_18.symm, if_pos hc21_22.symm, if_pos hc21_26.symm, if_pos hc21_30.symm, if_pos hc21_34.symm, if_neg (Ne.symm hc21_38)], N0, rfl⟩ (by decide)
                · exact own_ret (v := some (.int 0)) X0 e0 Bd.notSynchronized (nv Bd.returns) (fun fs hr => xicmpNo X0 hx hby rfl d_B14_21 rfl (feq hc21_34).1 (xiconst X0 hx hby rfl d_B14_24 (retN X0 hx (t := .boolean) Bd.returns (by simp) (hb hby d_B14_25) hr))) ⟨by simp only [own_E9, if_pos hc21_6.symm, if_pos hc21_10.symm, if_pos hc21_14.symm, if_pos hc21_18.symm, if_pos hc21_22.symm, if_pos hc21_26.symm, if_pos hc21_30.symm, if_neg (Ne.symm hc21_34)], N0, rfl⟩ (by decide)
              · exact own_ret (v := some (.int 0)) X0 e0 Bd.notSynchronized (nv Bd.returns) (fun fs hr => xicmpNo X0 hx hby rfl d_B14_21 rfl (feq hc21_30).1 (xiconst X0 hx hby rfl d_B14_24 (retN X0 hx (t := .boolean) Bd.returns (by simp) (hb hby d_B14_25) hr))) ⟨by simp only [own_E9, if_pos hc21_6.symm, if_pos hc21_10.symm, if_pos hc21_14.symm, if_pos hc21_18.symm, if_pos hc21_22.symm, if_pos hc21_26.symm, if_neg (Ne.symm hc21_30)], N0, rfl⟩ (by decide)
            · exact own_ret (v := some (.int 0)) X0 e0 Bd.notSynchronized (nv Bd.returns) (fun fs hr => xicmpNo X0 hx hby rfl d_B14_21 rfl (feq hc21_26).1 (xiconst X0 hx hby rfl d_B14_24 (retN X0 hx (t := .boolean) Bd.returns (by simp) (hb hby d_B14_25) hr))) ⟨by simp only [own_E9, if_pos hc21_6.symm, if_pos hc21_10.symm, if_pos hc21_14.symm, if_pos hc21_18.symm, if_pos hc21_22.symm, if_neg (Ne.symm hc21_26)], N0, rfl⟩ (by decide)
          · exact own_ret (v := some (.int 0)) X0 e0 Bd.notSynchronized (nv Bd.returns) (fun fs hr => xicmpNo X0 hx hby rfl d_B14_21 rfl (feq hc21_22).1 (xiconst X0 hx hby rfl d_B14_24 (retN X0 hx (t := .boolean) Bd.returns (by simp) (hb hby d_B14_25) hr))) ⟨by simp only [own_E9, if_pos hc21_6.symm, if_pos hc21_10.symm, if_pos hc21_14.symm, if_pos hc21_18.symm, if_neg (Ne.symm hc21_22)], N0, rfl⟩ (by decide)
        · exact own_ret (v := some (.int 0)) X0 e0 Bd.notSynchronized (nv Bd.returns) (fun fs hr => xicmpNo X0 hx hby rfl d_B14_21 rfl (feq hc21_18).1 (xiconst X0 hx hby rfl d_B14_24 (retN X0 hx (t := .boolean) Bd.returns (by simp) (hb hby d_B14_25) hr))) ⟨by simp only [own_E9, if_pos hc21_6.symm, if_pos hc21_10.symm, if_pos hc21_14.symm, if_neg (Ne.symm hc21_18)], N0, rfl⟩ (by decide)
      · exact own_ret (v := some (.int 0)) X0 e0 Bd.notSynchronized (nv Bd.returns) (fun fs hr => xicmpNo X0 hx hby rfl d_B14_21 rfl (feq hc21_14).1 (xiconst X0 hx hby rfl d_B14_24 (retN X0 hx (t := .boolean) Bd.returns (by simp) (hb hby d_B14_25) hr))) ⟨by simp only [own_E9, if_pos hc21_6.symm, if_pos hc21_10.symm, if_neg (Ne.symm hc21_14)], N0, rfl⟩ (by decide)
    · exact own_ret (v := some (.int 0)) X0 e0 Bd.notSynchronized (nv Bd.returns) (fun fs hr => xicmpNo X0 hx hby rfl d_B14_21 rfl (feq hc21_10).1 (xiconst X0 hx hby rfl d_B14_24 (retN X0 hx (t := .boolean) Bd.returns (by simp) (hb hby d_B14_25) hr))) ⟨by simp only [own_E9, if_pos hc21_6.symm, if_neg (Ne.symm hc21_10)], N0, rfl⟩ (by decide)
  · exact own_ret (v := some (.int 0)) X0 e0 Bd.notSynchronized (nv Bd.returns) (fun fs hr => xicmpNo X0 hx hby rfl d_B14_21 rfl (feq hc21_6).1 (xiconst X0 hx hby rfl d_B14_24 (retN X0 hx (t := .boolean) Bd.returns (by simp) (hb hby d_B14_25) hr))) ⟨by simp only [own_E9, if_neg (Ne.symm hc21_6)], N0, rfl⟩ (by decide)
set_option maxRecDepth 65536 in
set_option maxHeartbeats 40000000 in
theorem own_rmEqB9 (l : Launch) (Z : State) (a0 : Array Value) (hw : ∀ d ∈ tables_1, d.before a0 Z = true) (ws : List Jvm.Cond) (b0 : Addr) (b1 : Addr) (v0 v1 : Addr) (k0 k1 : ClassId) (y0 y1 y2 y3 y4 y5 y6 y7 y8 cs : Int32) (h0 : Heap) (n0 : Nat) (Z0 : n0 ≤ h0.size) (E_b0 : Exa Z h0 b0 "java/lang/String") (F_cb0 : Fld Z h0 b0 "java/lang/String" "coder" "B" (.int 0)) (F_vb0 : Fld Z h0 b0 "java/lang/String" "value" "[B" (.ref v0)) (V_v0 : Arv Z h0 v0 k0 .byte (9 : Int32) [.int 114, .int 101, .int 102, .int 101, .int 114, .int 101, .int 110, .int 99, .int 101] (.int 0)) (E_b1 : Exa Z h0 b1 "java/lang/String") (F_cb1 : Fld Z h0 b1 "java/lang/String" "coder" "B" (.int 0)) (F_vb1 : Fld Z h0 b1 "java/lang/String" "value" "[B" (.ref v1)) (V_v1 : Arv Z h0 v1 k1 .byte (9 : Int32) [.int y0, .int y1, .int y2, .int y3, .int y4, .int y5, .int y6, .int y7, .int y8] (.int 0)) (S_cs : Sta Z h0 "java/lang/String" "COMPACT_STRINGS" "Z" (.int cs)) (hcs : ¬ cs = (0 : Int32)) (h01 : ¬ b0 = b1) : own_M l Z y9N jdk_42_method_66_code 3 (some .boolean) ws ({ frames := 1, cells := 0, slots := 0, locals := 14 } : Room) #[.ref b0, .ref b1] h0 (own_QI (if (own_E9 y0 y1 y2 y3 y4 y5 y6 y7 y8) = (0 : Int32) then (0 : Int32) else (1 : Int32)) h0 n0) := by
  refine own_begin (n0 := n0) (f0 := mkF ⟨0, 0⟩ 0 #[rv b0, rv b1, .unset] []) (plainFor_of_name own_pn0) (fun m => ef_2_3 m _ _ rfl rfl) ?_
  intro p e s m below meth c s₁ Bd hZ hx hby hml hown hnm X0 e0 N0
  obtain ⟨T1, X1, e1, st1⟩ := instY X0 hx hZ hown (wd hw 78 rfl) e0 (Ins.self E_b1) (g := (mkF m 8 #[rv b0, rv b1, .unset] [.ref b1])) rfl rfl (hb hby d_B15_8)
  obtain ⟨T2, X2, e2, st2⟩ := castY X1 hx hZ hown (wd hw 78 rfl) e1 (Ins.self E_b1) (g := (mkF m 15 #[rv b0, rv b1, .unset] [.ref b1])) rfl rfl (hb hby d_B15_15)
  obtain ⟨T3, X3, e3, st3⟩ := getS2 X2 hx hZ hown (host := "") (Or.inl (wd hw 19 rfl)) Via.refl e2 S_cs (g := (mkF m 19 #[rv b0, rv b1, rv b1] [])) rfl (hb hby d_B15_19)
  obtain ⟨T4, X4, e4, st4⟩ := getF X3 hx hZ hown (host := "") (Or.inl (wd hw 20 rfl)) Via.refl e3 F_cb0 (g := (mkF m 26 #[rv b0, rv b1, rv b1] [.ref b0])) rfl rfl (hb hby d_B15_26)
  obtain ⟨T5, X5, e5, st5⟩ := getF X4 hx hZ hown (host := "") (Or.inl (wd hw 20 rfl)) Via.refl e4 F_cb1 (g := (mkF m 30 #[rv b0, rv b1, rv b1] [.ref b1, .int 0])) rfl rfl (hb hby d_B15_30)
  obtain ⟨T6, X6, e6, st6⟩ := getF X5 hx hZ hown (host := "") (Or.inl (wd hw 13 rfl)) Via.refl e5 F_vb0 (g := (mkF m 37 #[rv b0, rv b1, rv b1] [.ref b0])) rfl rfl (hb hby d_B15_37)
  obtain ⟨T7, X7, e7, st7⟩ := getF X6 hx hZ hown (host := "") (Or.inl (wd hw 13 rfl)) Via.refl e6 F_vb1 (g := (mkF m 41 #[rv b0, rv b1, rv b1] [.ref b1, .ref v0])) rfl rfl (hb hby d_B15_41)
  refine own_go (b := T7.setTop (mkF m 44 #[rv b0, rv b1, rv b1] [.ref v1, .ref v0])) (fun t k => xaloadN X0 hx hby rfl d_B15_0 rfl rfl (xaloadN X0 hx hby rfl d_B15_1 rfl rfl (Jvm.RoadKit.acmp (g := (mkF m 2 #[rv b0, rv b1, .unset] [.ref b1, .ref b0])) X0 hx rfl rfl rfl (pc0 := 2) (pc' := 7) (same := false) rfl (hb hby d_B15_2) rfl (decide_eq_false fun q => (h01 : ¬ (b0 = b1)) (Value.ref.inj q)) (by decide) (by decide) (xaloadN X0 hx hby rfl d_B15_7 rfl rfl (st1 _ (xifNo X1 hx hby rfl d_B15_11 rfl ((if0 _ _).trans (feq ((by decide) : ¬ ((1 : Int32) = (0 : Int32)))).1) (xaloadN X1 hx hby rfl d_B15_14 rfl rfl (st2 _ (xastoreN X2 hx hby rfl d_B15_18 rfl rfl (l' := #[rv b0, rv b1, rv b1]) rfl (st3 _ (xifNo X3 hx hby rfl d_B15_22 rfl ((if0 _ _).trans (feq (hcs : ¬ (cs = (0 : Int32)))).1) (xaloadN X3 hx hby rfl d_B15_25 rfl rfl (st4 _ (xaloadN X4 hx hby rfl d_B15_29 rfl rfl (st5 _ (xicmpNo X5 hx hby rfl d_B15_33 rfl (teq ((by decide) : (0 : Int32) = (0 : Int32))).2 (xaloadN X5 hx hby rfl d_B15_36 rfl rfl (st6 _ (xaloadN X6 hx hby rfl d_B15_40 rfl rfl (st7 _ k)))))))))))))))))))) ?_
  refine own_cs X7 hx hZ hown hml e7 (wd hw 79 rfl) (wd hw 80 rfl) (wd hw 38 rfl) (wd hw 81 rfl) (own_rmLeB9 l Z a0 hw [] v0 v1 k0 k1 y0 y1 y2 y3 y4 y5 y6 y7 y8 h0 n0 Z0 V_v0 V_v1) own_pd12 (hb hby d_B15_44) 0 [] rfl ⟨rfl, rfl, rfl, rfl, rfl⟩ (by decide) ?_
  rintro T8 L8 v8 X8 hQ8
  obtain ⟨rfl, N8q, e8⟩ := hQ8
  have N8 := Fr.app N0 N8q
  refine own_go (b := T8.setTop (mkF m 47 #[rv b0, rv b1, rv b1] [(.int (own_E9 y0 y1 y2 y3 y4 y5 y6 y7 y8))])) (fun t k => ?_) ?_
  · exact k
  by_cases hc47_9 : (own_E9 y0 y1 y2 y3 y4 y5 y6 y7 y8) = (0 : Int32)
  · exact own_ret (v := some (.int 0)) X8 e8 Bd.notSynchronized (nv Bd.returns) (fun fs hr => xifYes X8 hx hby rfl 47 54 rfl d_B15_47 rfl ((if0 _ _).trans (teq hc47_9).1) (by decide) (by decide) (xiconst X8 hx hby rfl d_B15_54 (retN X8 hx (t := .boolean) Bd.returns (by simp) (hb hby d_B15_55) hr))) ⟨by rw [if_pos hc47_9], N8, rfl⟩ (by decide)
  · exact own_ret (v := some (.int 1)) X8 e8 Bd.notSynchronized (nv Bd.returns) (fun fs hr => xifNo X8 hx hby rfl d_B15_47 rfl ((if0 _ _).trans (feq hc47_9).1) (xiconst X8 hx hby rfl d_B15_50 (xgoto X8 hx hby rfl 51 55 rfl d_B15_51 (by decide) (by decide) (retN X8 hx (t := .boolean) Bd.returns (by simp) (hb hby d_B15_55) hr)))) ⟨by rw [if_neg hc47_9], N8, rfl⟩ (by decide)
def own_QA (Z : State) (kA : ClassId) (m0 m1 : Addr) (h0 : Heap) (n0 : Nat) (v : Option Value) (h : Heap) (L : List Loc) : Prop := ∃ r : Addr, v = some (.ref r) ∧ Fr n0 L ∧ Keep h0 h [] ∧ Arv Z h r kA (.object "com/example/corollary/corollary/EstimateMethod") (2 : Int32) [.ref m0, .ref m1] .null ∧ h0.size ≤ r
theorem d_B16_0 : decode prog_11_method_1_code 0 = .ok (.getstatic 10, 3) := by decide +kernel
theorem d_B16_3 : decode prog_11_method_1_code 3 = .ok (.invokevirtual 14, 3) := by decide +kernel
theorem d_B16_6 : decode prog_11_method_1_code 6 = .ok (.checkcast 15, 3) := by decide +kernel
theorem d_B16_9 : decode prog_11_method_1_code 9 = .ok (.areturn, 1) := by decide +kernel
set_option maxRecDepth 65536 in
set_option maxHeartbeats 40000000 in
theorem own_rmA (l : Launch) (Z : State) (a0 : Array Value) (hw : ∀ d ∈ tables_1, d.before a0 Z = true) (ws : List Jvm.Cond) (bA m0 m1 : Addr) (kA : ClassId) (h0 : Heap) (n0 : Nat) (Z0 : n0 ≤ h0.size) (S_A : Sta Z h0 "com/example/corollary/corollary/EstimateMethod" "$VALUES" "[Lcom/example/corollary/corollary/EstimateMethod;" (.ref bA)) (V_A : Arv Z h0 bA kA (.object "com/example/corollary/corollary/EstimateMethod") (2 : Int32) [.ref m0, .ref m1] .null) (E_A : Exa Z h0 bA "[Lcom/example/corollary/corollary/EstimateMethod;") : own_M l Z (⟨"com/example/corollary/corollary/EstimateMethod", "values", "()[Lcom/example/corollary/corollary/EstimateMethod;"⟩ : MethodName) prog_11_method_1_code 0 (some (.array (.object "com/example/corollary/corollary/EstimateMethod"))) ws ({ frames := 1, cells := 1, slots := 2, locals := 14 } : Room) #[] h0 (own_QA Z kA m0 m1 h0 n0) := by
  refine own_begin (n0 := n0) (f0 := mkF ⟨0, 0⟩ 0 #[] []) (plainFor_of_name own_pn5) (fun m => ef_0_0 m ) ?_
  intro p e s m below meth c s₁ Bd hZ hx hby hml hown hnm X0 e0 N0
  obtain ⟨T1, X1, e1, st1⟩ := getS2 X0 hx hZ hown (host := "") (Or.inl (wd hw 90 rfl)) Via.refl e0 S_A (g := (mkF m 0 #[] [])) rfl (hb hby d_B16_0)
  obtain ⟨T2, h2, X2, e2, E2, Vc2, Ec2, st2⟩ := cloneH X1 hx hZ hown (wd hw 92 rfl) (wd hw 93 rfl) (wd hw 97 rfl) (wd hw 95 rfl) (wd hw 96 rfl) (wd hw 98 rfl) e1 V_A.arh E_A (g := (mkF m 3 #[] [.ref bA])) rfl (by rw [hml]; rfl) rfl (hb hby d_B16_3) (by decide) (W := 0) (by show 2 * 0 + _ ≤ _; exact Nat.le_of_eq rfl) (by decide) (cap := 2) (by decide) (by decide) (by decide)
  obtain ⟨b2, g2⟩ : ∃ z, z = h0.size := ⟨_, rfl⟩
  rw [← g2] at Vc2 Ec2 st2
  have new_b2 : n0 ≤ b2 := Nat.le_trans Z0 (Nat.le_of_eq g2.symm)
  have sz_b2 : h0.size ≤ b2 := Nat.le_trans (Keep.refl h0 []).1 (Nat.le_of_eq g2.symm)
  have K2 := (Keep.refl h0 []).ext E2
  have V_b2 : Arv Z h2 b2 kA (.object "com/example/corollary/corollary/EstimateMethod") (2 : Int32) [.ref m0, .ref m1] .null := Vc2
  obtain ⟨T3, X3, e3, st3⟩ := castY X2 hx hZ hown (wd hw 100 rfl) e2 (Ins.self Ec2) (g := (mkF m 6 #[] [.ref b2])) rfl rfl (hb hby d_B16_6)
  exact own_ret (v := some (.ref b2)) X3 e3 Bd.notSynchronized (nv Bd.returns) (fun fs hr => st1 _ (st2 _ (st3 _ (retA X3 hx Bd.returns (hb hby d_B16_9) hr)))) ⟨_, rfl, N0, K2, V_b2, sz_b2⟩ (by decide)
def own_QX (r : Value) (h0 : Heap) (n0 : Nat) (v : Option Value) (h : Heap) (L : List Loc) : Prop := v = some r ∧ Fr n0 L ∧ Keep h0 h []
theorem d_B17_0 : decode prog_11_method_6_code 0 = .ok (.invokestatic 33, 3) := by decide +kernel
theorem d_B17_3 : decode prog_11_method_6_code 3 = .ok (.astore_n 1, 1) := by decide +kernel
theorem d_B17_4 : decode prog_11_method_6_code 4 = .ok (.aload_n 1, 1) := by decide +kernel
theorem d_B17_5 : decode prog_11_method_6_code 5 = .ok (.arraylength, 1) := by decide +kernel
theorem d_B17_6 : decode prog_11_method_6_code 6 = .ok (.istore_n 2, 1) := by decide +kernel
theorem d_B17_7 : decode prog_11_method_6_code 7 = .ok (.iconst 0, 1) := by decide +kernel
theorem d_B17_8 : decode prog_11_method_6_code 8 = .ok (.istore_n 3, 1) := by decide +kernel
theorem d_B17_9 : decode prog_11_method_6_code 9 = .ok (.iload_n 3, 1) := by decide +kernel
theorem d_B17_10 : decode prog_11_method_6_code 10 = .ok (.iload_n 2, 1) := by decide +kernel
theorem d_B17_11 : decode prog_11_method_6_code 11 = .ok (.if_icmp .ge 29, 3) := by decide +kernel
theorem d_B17_14 : decode prog_11_method_6_code 14 = .ok (.aload_n 1, 1) := by decide +kernel
theorem d_B17_15 : decode prog_11_method_6_code 15 = .ok (.iload_n 3, 1) := by decide +kernel
theorem d_B17_16 : decode prog_11_method_6_code 16 = .ok (.aaload, 1) := by decide +kernel
theorem d_B17_17 : decode prog_11_method_6_code 17 = .ok (.astore 4, 2) := by decide +kernel
theorem d_B17_19 : decode prog_11_method_6_code 19 = .ok (.aload 4, 2) := by decide +kernel
theorem d_B17_21 : decode prog_11_method_6_code 21 = .ok (.getfield 29, 3) := by decide +kernel
theorem d_B17_24 : decode prog_11_method_6_code 24 = .ok (.aload_n 0, 1) := by decide +kernel
theorem d_B17_25 : decode prog_11_method_6_code 25 = .ok (.invokevirtual 37, 3) := by decide +kernel
theorem d_B17_28 : decode prog_11_method_6_code 28 = .ok (.ifCond .eq 6, 3) := by decide +kernel
theorem d_B17_34 : decode prog_11_method_6_code 34 = .ok (.iinc 3 1, 3) := by decide +kernel
theorem d_B17_37 : decode prog_11_method_6_code 37 = .ok (.goto (-28), 3) := by decide +kernel
theorem d_B17_40 : decode prog_11_method_6_code 40 = .ok (.aconst_null, 1) := by decide +kernel
theorem d_B17_41 : decode prog_11_method_6_code 41 = .ok (.areturn, 1) := by decide +kernel
set_option maxRecDepth 65536 in
set_option maxHeartbeats 40000000 in
theorem own_rmNmN (l : Launch) (Z : State) (a0 : Array Value) (hw : ∀ d ∈ tables_1, d.before a0 Z = true) (ws : List Jvm.Cond) (bA m0 m1 s0 s1 v0 v1 : Addr) (kA kv0 kv1 : ClassId) (cs : Int32) (h0 : Heap) (n0 : Nat) (Z0 : n0 ≤ h0.size) (S_A : Sta Z h0 "com/example/corollary/corollary/EstimateMethod" "$VALUES" "[Lcom/example/corollary/corollary/EstimateMethod;" (.ref bA)) (V_A : Arv Z h0 bA kA (.object "com/example/corollary/corollary/EstimateMethod") (2 : Int32) [.ref m0, .ref m1] .null) (E_A : Exa Z h0 bA "[Lcom/example/corollary/corollary/EstimateMethod;") (E_m0 : Exa Z h0 m0 "com/example/corollary/corollary/EstimateMethod$1") (F_o0 : Fld Z h0 m0 "com/example/corollary/corollary/EstimateMethod" "optionName" "Ljava/lang/String;" (.ref s0)) (E_s0 : Exa Z h0 s0 "java/lang/String") (F_cs0 : Fld Z h0 s0 "java/lang/String" "coder" "B" (.int 0)) (F_vs0 : Fld Z h0 s0 "java/lang/String" "value" "[B" (.ref v0)) (V_v0 : Arv Z h0 v0 kv0 .byte (10 : Int32) [.int 115, .int 101, .int 113, .int 117, .int 101, .int 110, .int 116, .int 105, .int 97, .int 108] (.int 0)) (E_m1 : Exa Z h0 m1 "com/example/corollary/corollary/EstimateMethod$2") (F_o1 : Fld Z h0 m1 "com/example/corollary/corollary/EstimateMethod" "optionName" "Ljava/lang/String;" (.ref s1)) (E_s1 : Exa Z h0 s1 "java/lang/String") (F_cs1 : Fld Z h0 s1 "java/lang/String" "coder" "B" (.int 0)) (F_vs1 : Fld Z h0 s1 "java/lang/String" "value" "[B" (.ref v1)) (V_v1 : Arv Z h0 v1 kv1 .byte (9 : Int32) [.int 114, .int 101, .int 102, .int 101, .int 114, .int 101, .int 110, .int 99, .int 101] (.int 0)) (S_cs : Sta Z h0 "java/lang/String" "COMPACT_STRINGS" "Z" (.int cs)) (hcs : ¬ cs = (0 : Int32)) : own_M l Z y0N prog_11_method_6_code 5 (some (.object "com/example/corollary/corollary/EstimateMethod")) ws ({ frames := 2, cells := 1, slots := 2, locals := 28 } : Room) #[.null] h0 (own_QX .null h0 n0) := by
  refine own_begin (n0 := n0) (f0 := mkF ⟨0, 0⟩ 0 #[.val .null, .unset, .unset, .unset, .unset] []) (plainFor_of_name own_pn5) (fun m => ef_1_5 m _ rfl) ?_
  intro p e s m below meth c s₁ Bd hZ hx hby hml hown hnm X0 e0 N0
  refine own_go (b := s₁.setTop (mkF m 0 #[.val .null, .unset, .unset, .unset, .unset] [])) (fun t k => k) ?_
  refine own_cs X0 hx hZ hown hml e0 (wd hw 87 rfl) (wd hw 88 rfl) (wd hw 85 rfl) (wd hw 89 rfl) (own_rmA l Z a0 hw [] bA m0 m1 kA h0 n0 Z0 S_A V_A E_A) own_pd13 (hb hby d_B17_0) 0 [] rfl ⟨rfl, rfl, rfl, rfl, rfl⟩ (by decide) ?_
  rintro T1 L1 v1 X1 hQ1
  obtain ⟨bv1, rfl, N1q, K1q, B1_0, B1_1⟩ := hQ1
  have N1 := Fr.app N0 N1q
  have K1 := (Keep.refl h0 []).trans K1q (fun x hx => nomatch hx)
  have ne_bA_bv1 : bA ≠ bv1 := Nat.ne_of_lt (Nat.lt_of_lt_of_le V_A.lt B1_1)
  have ne_m0_bv1 : m0 ≠ bv1 := Nat.ne_of_lt (Nat.lt_of_lt_of_le E_m0.lt B1_1)
  have ne_m1_bv1 : m1 ≠ bv1 := Nat.ne_of_lt (Nat.lt_of_lt_of_le E_m1.lt B1_1)
  have ne_s0_bv1 : s0 ≠ bv1 := Nat.ne_of_lt (Nat.lt_of_lt_of_le E_s0.lt B1_1)
  have ne_s1_bv1 : s1 ≠ bv1 := Nat.ne_of_lt (Nat.lt_of_lt_of_le E_s1.lt B1_1)
  have ne_v0_bv1 : v0 ≠ bv1 := Nat.ne_of_lt (Nat.lt_of_lt_of_le V_v0.lt B1_1)
  have ne_v1_bv1 : v1 ≠ bv1 := Nat.ne_of_lt (Nat.lt_of_lt_of_le V_v1.lt B1_1)
  obtain ⟨cl2, Ar2, -, Sz2, M2, -, -⟩ := id B1_0
  obtain ⟨cl3, Ar3, -, Sz3, M3, Hs3, Gs3⟩ := id B1_0
  have hin3 := inb_of (j := (0 : Int32)) Sz3 ⟨by decide, by decide⟩
  obtain ⟨T4, X4, e4, st4⟩ := getF X1 hx hZ hown (host := "") (Or.inl (wd hw 102 rfl)) Via.refl rfl (F_o0.keep K1 nNl) (g := (mkF m 21 #[.val .null, rv bv1, iv 2, iv 0, rv m0] [.ref m0])) rfl rfl (hb hby d_B17_21)
  refine own_go (b := T4.setTop (mkF m 25 #[.val .null, rv bv1, iv 2, iv 0, rv m0] [.null, .ref s0])) (fun t k => ?_) ?_
  · refine xastoreN X1 hx hby rfl d_B17_3 rfl rfl (l' := #[.val .null, rv bv1, .unset, .unset, .unset]) rfl (xaloadN X1 hx hby rfl d_B17_4 rfl rfl (X1.arraylength hx Ar2.1 (State.isArrayOf_alike hZ.alike Ar2.2.1) (g := (mkF m 5 #[.val .null, rv bv1, .unset, .unset, .unset] [.ref bv1])) rfl rfl (hb hby d_B17_5) _ ?_))
    rw [len_of Sz2 M2]
    refine xistoreN X1 hx hby rfl d_B17_6 rfl (l' := #[.val .null, rv bv1, iv 2, .unset, .unset]) rfl (xiconst X1 hx hby rfl d_B17_7 (xistoreN X1 hx hby rfl d_B17_8 rfl (l' := #[.val .null, rv bv1, iv 2, iv 0, .unset]) rfl (xiloadN X1 hx hby rfl d_B17_9 rfl (xiloadN X1 hx hby rfl d_B17_10 rfl (xicmpNo X1 hx hby rfl d_B17_11 rfl (tlt ((by decide) : (0 : Int32) < (2 : Int32))).2.1 (xaloadN X1 hx hby rfl d_B17_14 rfl rfl (xiloadN X1 hx hby rfl d_B17_15 rfl (X1.aaload hx (j := (0 : Int32)) (v := (.ref m0)) Ar3.1 (State.isArrayOf_alike hZ.alike Ar3.2.1) rfl Ar3.2.2 hin3 (Has.at Hs3 hin3 rfl) (g := (mkF m 16 #[.val .null, rv bv1, iv 2, iv 0, .unset] [.int 0, .ref bv1])) rfl rfl (hb hby d_B17_16) _ (xastore X1 hx hby rfl d_B17_17 rfl rfl (l' := #[.val .null, rv bv1, iv 2, iv 0, rv m0]) rfl (xaload X1 hx hby rfl d_B17_19 rfl rfl (st4 _ (xaloadN X4 hx hby rfl d_B17_24 rfl rfl k))))))))))))
  refine own_cv X4 hx hZ hown hml e4 (wd hw 104 rfl) (wd hw 74 rfl) (wd hw 76 rfl) (wd hw 75 rfl) (wd hw 1 rfl) (wd hw 77 rfl) (E_s0.keep K1) (own_rmEqN l Z a0 hw [] s0 T1.heap n0 (Nat.le_trans Z0 K1.1) ) own_pd14 (hb hby d_B17_25) 0 [] rfl rfl ⟨rfl, rfl, rfl, rfl, rfl⟩ (by decide) ?_
  rintro T5 L5 v5 X5 hQ5
  obtain ⟨rfl, N5q, e5⟩ := hQ5
  have N5 := Fr.app N1 N5q
  obtain ⟨cl6, Ar6, -, Sz6, M6, Hs6, Gs6⟩ := id B1_0
  have hin6 := inb_of (j := (1 : Int32)) Sz6 ⟨by decide, by decide⟩
  obtain ⟨T7, X7, e7, st7⟩ := getF X5 hx hZ hown (host := "") (Or.inl (wd hw 102 rfl)) Via.refl e5 (F_o1.keep K1 nNl) (g := (mkF m 21 #[.val .null, rv bv1, iv 2, iv 1, rv m1] [.ref m1])) rfl rfl (hb hby d_B17_21)
  refine own_go (b := T7.setTop (mkF m 25 #[.val .null, rv bv1, iv 2, iv 1, rv m1] [.null, .ref s1])) (fun t k => xifYes X5 hx hby rfl 28 34 rfl d_B17_28 rfl ((if0 _ _).trans (teq ((by decide) : (0 : Int32) = (0 : Int32))).1) (by decide) (by decide) (xiinc X5 hx hby rfl d_B17_34 rfl (l' := #[.val .null, rv bv1, iv 2, iv 1, rv m0]) rfl (xgoto X5 hx hby rfl 37 9 rfl d_B17_37 (by decide) (by decide) (xiloadN X5 hx hby rfl d_B17_9 rfl (xiloadN X5 hx hby rfl d_B17_10 rfl (xicmpNo X5 hx hby rfl d_B17_11 rfl (tlt ((by decide) : (1 : Int32) < (2 : Int32))).2.1 (xaloadN X5 hx hby rfl d_B17_14 rfl rfl (xiloadN X5 hx hby rfl d_B17_15 rfl (X5.aaload hx (j := (1 : Int32)) (v := (.ref m1)) (own_in e5 Ar6.1) (State.isArrayOf_alike hZ.alike Ar6.2.1) rfl Ar6.2.2 hin6 (Has.at Hs6 hin6 rfl) (g := (mkF m 16 #[.val .null, rv bv1, iv 2, iv 1, rv m0] [.int 1, .ref bv1])) rfl rfl (hb hby d_B17_16) _ (xastore X5 hx hby rfl d_B17_17 rfl rfl (l' := #[.val .null, rv bv1, iv 2, iv 1, rv m1]) rfl (xaload X5 hx hby rfl d_B17_19 rfl rfl (st7 _ (xaloadN X7 hx hby rfl d_B17_24 rfl rfl k))))))))))))) ?_
  refine own_cv X7 hx hZ hown hml e7 (wd hw 104 rfl) (wd hw 74 rfl) (wd hw 76 rfl) (wd hw 75 rfl) (wd hw 1 rfl) (wd hw 77 rfl) (E_s1.keep K1) (own_rmEqN l Z a0 hw [] s1 T1.heap n0 (Nat.le_trans Z0 K1.1) ) own_pd14 (hb hby d_B17_25) 0 [] rfl rfl ⟨rfl, rfl, rfl, rfl, rfl⟩ (by decide) ?_
  rintro T8 L8 v8 X8 hQ8
  obtain ⟨rfl, N8q, e8⟩ := hQ8
  have N8 := Fr.app N5 N8q
  exact own_ret (v := some .null) X8 e8 Bd.notSynchronized (nv Bd.returns) (fun fs hr => xifYes X8 hx hby rfl 28 34 rfl d_B17_28 rfl ((if0 _ _).trans (teq ((by decide) : (0 : Int32) = (0 : Int32))).1) (by decide) (by decide) (xiinc X8 hx hby rfl d_B17_34 rfl (l' := #[.val .null, rv bv1, iv 2, iv 2, rv m1]) rfl (xgoto X8 hx hby rfl 37 9 rfl d_B17_37 (by decide) (by decide) (xiloadN X8 hx hby rfl d_B17_9 rfl (xiloadN X8 hx hby rfl d_B17_10 rfl (xicmpYes X8 hx hby rfl 11 40 rfl d_B17_11 rfl (flt ((by decide) : ¬ ((2 : Int32) < (2 : Int32)))).2.1 (by decide) (by decide) (xaconstNull X8 hx hby rfl d_B17_40 (retA X8 hx Bd.returns (hb hby d_B17_41) hr)))))))) ⟨rfl, N8, K1⟩ (by decide)
set_option maxRecDepth 65536 in
set_option maxHeartbeats 40000000 in
theorem own_rmNmD (l : Launch) (Z : State) (a0 : Array Value) (hw : ∀ d ∈ tables_1, d.before a0 Z = true) (ws : List Jvm.Cond) (b0 : Addr) (bA m0 m1 s0 s1 v0 v1 : Addr) (kA kv0 kv1 : ClassId) (cs : Int32) (vb : Addr) (kb : ClassId) (z : Int32) (vs : List Value) (h0 : Heap) (n0 : Nat) (Z0 : n0 ≤ h0.size) (S_A : Sta Z h0 "com/example/corollary/corollary/EstimateMethod" "$VALUES" "[Lcom/example/corollary/corollary/EstimateMethod;" (.ref bA)) (V_A : Arv Z h0 bA kA (.object "com/example/corollary/corollary/EstimateMethod") (2 : Int32) [.ref m0, .ref m1] .null) (E_A : Exa Z h0 bA "[Lcom/example/corollary/corollary/EstimateMethod;") (E_m0 : Exa Z h0 m0 "com/example/corollary/corollary/EstimateMethod$1") (F_o0 : Fld Z h0 m0 "com/example/corollary/corollary/EstimateMethod" "optionName" "Ljava/lang/String;" (.ref s0)) (E_s0 : Exa Z h0 s0 "java/lang/String") (F_cs0 : Fld Z h0 s0 "java/lang/String" "coder" "B" (.int 0)) (F_vs0 : Fld Z h0 s0 "java/lang/String" "value" "[B" (.ref v0)) (V_v0 : Arv Z h0 v0 kv0 .byte (10 : Int32) [.int 115, .int 101, .int 113, .int 117, .int 101, .int 110, .int 116, .int 105, .int 97, .int 108] (.int 0)) (E_m1 : Exa Z h0 m1 "com/example/corollary/corollary/EstimateMethod$2") (F_o1 : Fld Z h0 m1 "com/example/corollary/corollary/EstimateMethod" "optionName" "Ljava/lang/String;" (.ref s1)) (E_s1 : Exa Z h0 s1 "java/lang/String") (F_cs1 : Fld Z h0 s1 "java/lang/String" "coder" "B" (.int 0)) (F_vs1 : Fld Z h0 s1 "java/lang/String" "value" "[B" (.ref v1)) (V_v1 : Arv Z h0 v1 kv1 .byte (9 : Int32) [.int 114, .int 101, .int 102, .int 101, .int 114, .int 101, .int 110, .int 99, .int 101] (.int 0)) (S_cs : Sta Z h0 "java/lang/String" "COMPACT_STRINGS" "Z" (.int cs)) (hcs : ¬ cs = (0 : Int32)) (E_b0 : Exa Z h0 b0 "java/lang/String") (F_cb0 : Fld Z h0 b0 "java/lang/String" "coder" "B" (.int 0)) (F_vb0 : Fld Z h0 b0 "java/lang/String" "value" "[B" (.ref vb)) (V_vb : Arv Z h0 vb kb .byte z vs (.int 0)) (hb0 : ¬ s0 = b0) (hb1 : ¬ s1 = b0) (hz0 : ¬ (10 : Int32) = z) (hz1 : ¬ (9 : Int32) = z) : own_M l Z y0N prog_11_method_6_code 5 (some (.object "com/example/corollary/corollary/EstimateMethod")) ws ({ frames := 2, cells := 1, slots := 2, locals := 28 } : Room) #[.ref b0] h0 (own_QX .null h0 n0) := by
  refine own_begin (n0 := n0) (f0 := mkF ⟨0, 0⟩ 0 #[rv b0, .unset, .unset, .unset, .unset] []) (plainFor_of_name own_pn5) (fun m => ef_1_5 m _ rfl) ?_
  intro p e s m below meth c s₁ Bd hZ hx hby hml hown hnm X0 e0 N0
  refine own_go (b := s₁.setTop (mkF m 0 #[rv b0, .unset, .unset, .unset, .unset] [])) (fun t k => k) ?_
  refine own_cs X0 hx hZ hown hml e0 (wd hw 87 rfl) (wd hw 88 rfl) (wd hw 85 rfl) (wd hw 89 rfl) (own_rmA l Z a0 hw [] bA m0 m1 kA h0 n0 Z0 S_A V_A E_A) own_pd13 (hb hby d_B17_0) 0 [] rfl ⟨rfl, rfl, rfl, rfl, rfl⟩ (by decide) ?_
  rintro T1 L1 v1 X1 hQ1
  obtain ⟨bv1, rfl, N1q, K1q, B1_0, B1_1⟩ := hQ1
  have N1 := Fr.app N0 N1q
  have K1 := (Keep.refl h0 []).trans K1q (fun x hx => nomatch hx)
  have ne_b0_bv1 : b0 ≠ bv1 := Nat.ne_of_lt (Nat.lt_of_lt_of_le E_b0.lt B1_1)
  have ne_bA_bv1 : bA ≠ bv1 := Nat.ne_of_lt (Nat.lt_of_lt_of_le V_A.lt B1_1)
  have ne_m0_bv1 : m0 ≠ bv1 := Nat.ne_of_lt (Nat.lt_of_lt_of_le E_m0.lt B1_1)
  have ne_m1_bv1 : m1 ≠ bv1 := Nat.ne_of_lt (Nat.lt_of_lt_of_le E_m1.lt B1_1)
  have ne_s0_bv1 : s0 ≠ bv1 := Nat.ne_of_lt (Nat.lt_of_lt_of_le E_s0.lt B1_1)
  have ne_s1_bv1 : s1 ≠ bv1 := Nat.ne_of_lt (Nat.lt_of_lt_of_le E_s1.lt B1_1)
  have ne_v0_bv1 : v0 ≠ bv1 := Nat.ne_of_lt (Nat.lt_of_lt_of_le V_v0.lt B1_1)
  have ne_v1_bv1 : v1 ≠ bv1 := Nat.ne_of_lt (Nat.lt_of_lt_of_le V_v1.lt B1_1)
  have ne_vb_bv1 : vb ≠ bv1 := Nat.ne_of_lt (Nat.lt_of_lt_of_le V_vb.lt B1_1)
  obtain ⟨cl2, Ar2, -, Sz2, M2, -, -⟩ := id B1_0
  obtain ⟨cl3, Ar3, -, Sz3, M3, Hs3, Gs3⟩ := id B1_0
  have hin3 := inb_of (j := (0 : Int32)) Sz3 ⟨by decide, by decide⟩
  obtain ⟨T4, X4, e4, st4⟩ := getF X1 hx hZ hown (host := "") (Or.inl (wd hw 102 rfl)) Via.refl rfl (F_o0.keep K1 nNl) (g := (mkF m 21 #[rv b0, rv bv1, iv 2, iv 0, rv m0] [.ref m0])) rfl rfl (hb hby d_B17_21)
  refine own_go (b := T4.setTop (mkF m 25 #[rv b0, rv bv1, iv 2, iv 0, rv m0] [.ref b0, .ref s0])) (fun t k => ?_) ?_
  · refine xastoreN X1 hx hby rfl d_B17_3 rfl rfl (l' := #[rv b0, rv bv1, .unset, .unset, .unset]) rfl (xaloadN X1 hx hby rfl d_B17_4 rfl rfl (X1.arraylength hx Ar2.1 (State.isArrayOf_alike hZ.alike Ar2.2.1) (g := (mkF m 5 #[rv b0, rv bv1, .unset, .unset, .unset] [.ref bv1])) rfl rfl (hb hby d_B17_5) _ ?_))
    rw [len_of Sz2 M2]
    refine xistoreN X1 hx hby rfl d_B17_6 rfl (l' := #[rv b0, rv bv1, iv 2, .unset, .unset]) rfl (xiconst X1 hx hby rfl d_B17_7 (xistoreN X1 hx hby rfl d_B17_8 rfl (l' := #[rv b0, rv bv1, iv 2, iv 0, .unset]) rfl (xiloadN X1 hx hby rfl d_B17_9 rfl (xiloadN X1 hx hby rfl d_B17_10 rfl (xicmpNo X1 hx hby rfl d_B17_11 rfl (tlt ((by decide) : (0 : Int32) < (2 : Int32))).2.1 (xaloadN X1 hx hby rfl d_B17_14 rfl rfl (xiloadN X1 hx hby rfl d_B17_15 rfl (X1.aaload hx (j := (0 : Int32)) (v := (.ref m0)) Ar3.1 (State.isArrayOf_alike hZ.alike Ar3.2.1) rfl Ar3.2.2 hin3 (Has.at Hs3 hin3 rfl) (g := (mkF m 16 #[rv b0, rv bv1, iv 2, iv 0, .unset] [.int 0, .ref bv1])) rfl rfl (hb hby d_B17_16) _ (xastore X1 hx hby rfl d_B17_17 rfl rfl (l' := #[rv b0, rv bv1, iv 2, iv 0, rv m0]) rfl (xaload X1 hx hby rfl d_B17_19 rfl rfl (st4 _ (xaloadN X4 hx hby rfl d_B17_24 rfl rfl k))))))))))))
  refine own_cv X4 hx hZ hown hml e4 (wd hw 104 rfl) (wd hw 74 rfl) (wd hw 76 rfl) (wd hw 75 rfl) (wd hw 1 rfl) (wd hw 77 rfl) (E_s0.keep K1) (own_rmEqD l Z a0 hw [] s0 b0 v0 vb kv0 kb (10 : Int32) z [.int 115, .int 101, .int 113, .int 117, .int 101, .int 110, .int 116, .int 105, .int 97, .int 108] vs cs T1.heap n0 (Nat.le_trans Z0 K1.1) (E_s0.keep K1) (F_cs0.keep K1 nNl) (F_vs0.keep K1 nNl) (V_v0.keep K1 nNl) (E_b0.keep K1) (F_cb0.keep K1 nNl) (F_vb0.keep K1 nNl) (V_vb.keep K1 nNl) hz0 (own_staKeep0 S_cs K1) hcs hb0) own_pd14 (hb hby d_B17_25) 0 [] rfl rfl ⟨rfl, rfl, rfl, rfl, rfl⟩ (by decide) ?_
  rintro T5 L5 v5 X5 hQ5
  obtain ⟨rfl, N5q, e5⟩ := hQ5
  have N5 := Fr.app N1 N5q
  obtain ⟨cl6, Ar6, -, Sz6, M6, Hs6, Gs6⟩ := id B1_0
  have hin6 := inb_of (j := (1 : Int32)) Sz6 ⟨by decide, by decide⟩
  obtain ⟨T7, X7, e7, st7⟩ := getF X5 hx hZ hown (host := "") (Or.inl (wd hw 102 rfl)) Via.refl e5 (F_o1.keep K1 nNl) (g := (mkF m 21 #[rv b0, rv bv1, iv 2, iv 1, rv m1] [.ref m1])) rfl rfl (hb hby d_B17_21)
  refine own_go (b := T7.setTop (mkF m 25 #[rv b0, rv bv1, iv 2, iv 1, rv m1] [.ref b0, .ref s1])) (fun t k => xifYes X5 hx hby rfl 28 34 rfl d_B17_28 rfl ((if0 _ _).trans (teq ((by decide) : (0 : Int32) = (0 : Int32))).1) (by decide) (by decide) (xiinc X5 hx hby rfl d_B17_34 rfl (l' := #[rv b0, rv bv1, iv 2, iv 1, rv m0]) rfl (xgoto X5 hx hby rfl 37 9 rfl d_B17_37 (by decide) (by decide) (xiloadN X5 hx hby rfl d_B17_9 rfl (xiloadN X5 hx hby rfl d_B17_10 rfl (xicmpNo X5 hx hby rfl d_B17_11 rfl (tlt ((by decide) : (1 : Int32) < (2 : Int32))).2.1 (xaloadN X5 hx hby rfl d_B17_14 rfl rfl (xiloadN X5 hx hby rfl d_B17_15 rfl (X5.aaload hx (j := (1 : Int32)) (v := (.ref m1)) (own_in e5 Ar6.1) (State.isArrayOf_alike hZ.alike Ar6.2.1) rfl Ar6.2.2 hin6 (Has.at Hs6 hin6 rfl) (g := (mkF m 16 #[rv b0, rv bv1, iv 2, iv 1, rv m0] [.int 1, .ref bv1])) rfl rfl (hb hby d_B17_16) _ (xastore X5 hx hby rfl d_B17_17 rfl rfl (l' := #[rv b0, rv bv1, iv 2, iv 1, rv m1]) rfl (xaload X5 hx hby rfl d_B17_19 rfl rfl (st7 _ (xaloadN X7 hx hby rfl d_B17_24 rfl rfl k))))))))))))) ?_
  refine own_cv X7 hx hZ hown hml e7 (wd hw 104 rfl) (wd hw 74 rfl) (wd hw 76 rfl) (wd hw 75 rfl) (wd hw 1 rfl) (wd hw 77 rfl) (E_s1.keep K1) (own_rmEqD l Z a0 hw [] s1 b0 v1 vb kv1 kb (9 : Int32) z [.int 114, .int 101, .int 102, .int 101, .int 114, .int 101, .int 110, .int 99, .int 101] vs cs T1.heap n0 (Nat.le_trans Z0 K1.1) (E_s1.keep K1) (F_cs1.keep K1 nNl) (F_vs1.keep K1 nNl) (V_v1.keep K1 nNl) (E_b0.keep K1) (F_cb0.keep K1 nNl) (F_vb0.keep K1 nNl) (V_vb.keep K1 nNl) hz1 (own_staKeep0 S_cs K1) hcs hb1) own_pd14 (hb hby d_B17_25) 0 [] rfl rfl ⟨rfl, rfl, rfl, rfl, rfl⟩ (by decide) ?_
  rintro T8 L8 v8 X8 hQ8
  obtain ⟨rfl, N8q, e8⟩ := hQ8
  have N8 := Fr.app N5 N8q
  exact own_ret (v := some .null) X8 e8 Bd.notSynchronized (nv Bd.returns) (fun fs hr => xifYes X8 hx hby rfl 28 34 rfl d_B17_28 rfl ((if0 _ _).trans (teq ((by decide) : (0 : Int32) = (0 : Int32))).1) (by decide) (by decide) (xiinc X8 hx hby rfl d_B17_34 rfl (l' := #[rv b0, rv bv1, iv 2, iv 2, rv m1]) rfl (xgoto X8 hx hby rfl 37 9 rfl d_B17_37 (by decide) (by decide) (xiloadN X8 hx hby rfl d_B17_9 rfl (xiloadN X8 hx hby rfl d_B17_10 rfl (xicmpYes X8 hx hby rfl 11 40 rfl d_B17_11 rfl (flt ((by decide) : ¬ ((2 : Int32) < (2 : Int32)))).2.1 (by decide) (by decide) (xaconstNull X8 hx hby rfl d_B17_40 (retA X8 hx Bd.returns (hb hby d_B17_41) hr)))))))) ⟨rfl, N8, K1⟩ (by decide)
set_option maxRecDepth 65536 in
set_option maxHeartbeats 40000000 in
theorem own_rmNm10z (l : Launch) (Z : State) (a0 : Array Value) (hw : ∀ d ∈ tables_1, d.before a0 Z = true) (ws : List Jvm.Cond) (b0 : Addr) (bA m0 m1 s0 s1 v0 v1 : Addr) (kA kv0 kv1 : ClassId) (cs : Int32) (vb : Addr) (kb : ClassId) (y0 y1 y2 y3 y4 y5 y6 y7 y8 y9 : Int32) (h0 : Heap) (n0 : Nat) (Z0 : n0 ≤ h0.size) (S_A : Sta Z h0 "com/example/corollary/corollary/EstimateMethod" "$VALUES" "[Lcom/example/corollary/corollary/EstimateMethod;" (.ref bA)) (V_A : Arv Z h0 bA kA (.object "com/example/corollary/corollary/EstimateMethod") (2 : Int32) [.ref m0, .ref m1] .null) (E_A : Exa Z h0 bA "[Lcom/example/corollary/corollary/EstimateMethod;") (E_m0 : Exa Z h0 m0 "com/example/corollary/corollary/EstimateMethod$1") (F_o0 : Fld Z h0 m0 "com/example/corollary/corollary/EstimateMethod" "optionName" "Ljava/lang/String;" (.ref s0)) (E_s0 : Exa Z h0 s0 "java/lang/String") (F_cs0 : Fld Z h0 s0 "java/lang/String" "coder" "B" (.int 0)) (F_vs0 : Fld Z h0 s0 "java/lang/String" "value" "[B" (.ref v0)) (V_v0 : Arv Z h0 v0 kv0 .byte (10 : Int32) [.int 115, .int 101, .int 113, .int 117, .int 101, .int 110, .int 116, .int 105, .int 97, .int 108] (.int 0)) (E_m1 : Exa Z h0 m1 "com/example/corollary/corollary/EstimateMethod$2") (F_o1 : Fld Z h0 m1 "com/example/corollary/corollary/EstimateMethod" "optionName" "Ljava/lang/String;" (.ref s1)) (E_s1 : Exa Z h0 s1 "java/lang/String") (F_cs1 : Fld Z h0 s1 "java/lang/String" "coder" "B" (.int 0)) (F_vs1 : Fld Z h0 s1 "java/lang/String" "value" "[B" (.ref v1)) (V_v1 : Arv Z h0 v1 kv1 .byte (9 : Int32) [.int 114, .int 101, .int 102, .int 101, .int 114, .int 101, .int 110, .int 99, .int 101] (.int 0)) (S_cs : Sta Z h0 "java/lang/String" "COMPACT_STRINGS" "Z" (.int cs)) (hcs : ¬ cs = (0 : Int32)) (E_b0 : Exa Z h0 b0 "java/lang/String") (F_cb0 : Fld Z h0 b0 "java/lang/String" "coder" "B" (.int 0)) (F_vb0 : Fld Z h0 b0 "java/lang/String" "value" "[B" (.ref vb)) (V_vb : Arv Z h0 vb kb .byte (10 : Int32) [.int y0, .int y1, .int y2, .int y3, .int y4, .int y5, .int y6, .int y7, .int y8, .int y9] (.int 0)) (hb0 : ¬ s0 = b0) (hb1 : ¬ s1 = b0) (hE : own_E10 y0 y1 y2 y3 y4 y5 y6 y7 y8 y9 = (0 : Int32)) : own_M l Z y0N prog_11_method_6_code 5 (some (.object "com/example/corollary/corollary/EstimateMethod")) ws ({ frames := 2, cells := 1, slots := 2, locals := 28 } : Room) #[.ref b0] h0 (own_QX .null h0 n0) := by
  refine own_begin (n0 := n0) (f0 := mkF ⟨0, 0⟩ 0 #[rv b0, .unset, .unset, .unset, .unset] []) (plainFor_of_name own_pn5) (fun m => ef_1_5 m _ rfl) ?_
  intro p e s m below meth c s₁ Bd hZ hx hby hml hown hnm X0 e0 N0
  refine own_go (b := s₁.setTop (mkF m 0 #[rv b0, .unset, .unset, .unset, .unset] [])) (fun t k => k) ?_
  refine own_cs X0 hx hZ hown hml e0 (wd hw 87 rfl) (wd hw 88 rfl) (wd hw 85 rfl) (wd hw 89 rfl) (own_rmA l Z a0 hw [] bA m0 m1 kA h0 n0 Z0 S_A V_A E_A) own_pd13 (hb hby d_B17_0) 0 [] rfl ⟨rfl, rfl, rfl, rfl, rfl⟩ (by decide) ?_
  rintro T1 L1 v1 X1 hQ1
  obtain ⟨bv1, rfl, N1q, K1q, B1_0, B1_1⟩ := hQ1
  have N1 := Fr.app N0 N1q
  have K1 := (Keep.refl h0 []).trans K1q (fun x hx => nomatch hx)
  have ne_b0_bv1 : b0 ≠ bv1 := Nat.ne_of_lt (Nat.lt_of_lt_of_le E_b0.lt B1_1)
  have ne_bA_bv1 : bA ≠ bv1 := Nat.ne_of_lt (Nat.lt_of_lt_of_le V_A.lt B1_1)
  have ne_m0_bv1 : m0 ≠ bv1 := Nat.ne_of_lt (Nat.lt_of_lt_of_le E_m0.lt B1_1)
  have ne_m1_bv1 : m1 ≠ bv1 := Nat.ne_of_lt (Nat.lt_of_lt_of_le E_m1.lt B1_1)
  have ne_s0_bv1 : s0 ≠ bv1 := Nat.ne_of_lt (Nat.lt_of_lt_of_le E_s0.lt B1_1)
  have ne_s1_bv1 : s1 ≠ bv1 := Nat.ne_of_lt (Nat.lt_of_lt_of_le E_s1.lt B1_1)
  have ne_v0_bv1 : v0 ≠ bv1 := Nat.ne_of_lt (Nat.lt_of_lt_of_le V_v0.lt B1_1)
  have ne_v1_bv1 : v1 ≠ bv1 := Nat.ne_of_lt (Nat.lt_of_lt_of_le V_v1.lt B1_1)
  have ne_vb_bv1 : vb ≠ bv1 := Nat.ne_of_lt (Nat.lt_of_lt_of_le V_vb.lt B1_1)
  obtain ⟨cl2, Ar2, -, Sz2, M2, -, -⟩ := id B1_0
  obtain ⟨cl3, Ar3, -, Sz3, M3, Hs3, Gs3⟩ := id B1_0
  have hin3 := inb_of (j := (0 : Int32)) Sz3 ⟨by decide, by decide⟩
  obtain ⟨T4, X4, e4, st4⟩ := getF X1 hx hZ hown (host := "") (Or.inl (wd hw 102 rfl)) Via.refl rfl (F_o0.keep K1 nNl) (g := (mkF m 21 #[rv b0, rv bv1, iv 2, iv 0, rv m0] [.ref m0])) rfl rfl (hb hby d_B17_21)
  refine own_go (b := T4.setTop (mkF m 25 #[rv b0, rv bv1, iv 2, iv 0, rv m0] [.ref b0, .ref s0])) (fun t k => ?_) ?_
  · refine xastoreN X1 hx hby rfl d_B17_3 rfl rfl (l' := #[rv b0, rv bv1, .unset, .unset, .unset]) rfl (xaloadN X1 hx hby rfl d_B17_4 rfl rfl (X1.arraylength hx Ar2.1 (State.isArrayOf_alike hZ.alike Ar2.2.1) (g := (mkF m 5 #[rv b0, rv bv1, .unset, .unset, .unset] [.ref bv1])) rfl rfl (hb hby d_B17_5) _ ?_))
    rw [len_of Sz2 M2]
    refine xistoreN X1 hx hby rfl d_B17_6 rfl (l' := #[rv b0, rv bv1, iv 2, .unset, .unset]) rfl (xiconst X1 hx hby rfl d_B17_7 (xistoreN X1 hx hby rfl d_B17_8 rfl (l' := #[rv b0, rv bv1, iv 2, iv 0, .unset]) rfl (xiloadN X1 hx hby rfl d_B17_9 rfl (xiloadN X1 hx hby rfl d_B17_10 rfl (xicmpNo X1 hx hby rfl d_B17_11 rfl (tlt ((by decide) : (0 : Int32) < (2 : Int32))).2.1 (xaloadN X1 hx hby rfl d_B17_14 rfl rfl (xiloadN X1 hx hby rfl d_B17_15 rfl (X1.aaload hx (j := (0 : Int32)) (v := (.ref m0)) Ar3.1 (State.isArrayOf_alike hZ.alike Ar3.2.1) rfl Ar3.2.2 hin3 (Has.at Hs3 hin3 rfl) (g := (mkF m 16 #[rv b0, rv bv1, iv 2, iv 0, .unset] [.int 0, .ref bv1])) rfl rfl (hb hby d_B17_16) _ (xastore X1 hx hby rfl d_B17_17 rfl rfl (l' := #[rv b0, rv bv1, iv 2, iv 0, rv m0]) rfl (xaload X1 hx hby rfl d_B17_19 rfl rfl (st4 _ (xaloadN X4 hx hby rfl d_B17_24 rfl rfl k))))))))))))
  refine own_cv X4 hx hZ hown hml e4 (wd hw 104 rfl) (wd hw 74 rfl) (wd hw 76 rfl) (wd hw 75 rfl) (wd hw 1 rfl) (wd hw 77 rfl) (E_s0.keep K1) (own_rmEqB10 l Z a0 hw [] s0 b0 v0 vb kv0 kb y0 y1 y2 y3 y4 y5 y6 y7 y8 y9 cs T1.heap n0 (Nat.le_trans Z0 K1.1) (E_s0.keep K1) (F_cs0.keep K1 nNl) (F_vs0.keep K1 nNl) (V_v0.keep K1 nNl) (E_b0.keep K1) (F_cb0.keep K1 nNl) (F_vb0.keep K1 nNl) (V_vb.keep K1 nNl) (own_staKeep0 S_cs K1) hcs hb0) own_pd14 (hb hby d_B17_25) 0 [] rfl rfl ⟨rfl, rfl, rfl, rfl, rfl⟩ (by decide) ?_
  rintro T5 L5 v5 X5 hQ5
  obtain ⟨rfl, N5q, e5⟩ := hQ5
  have N5 := Fr.app N1 N5q
  obtain ⟨cl6, Ar6, -, Sz6, M6, Hs6, Gs6⟩ := id B1_0
  have hin6 := inb_of (j := (1 : Int32)) Sz6 ⟨by decide, by decide⟩
  obtain ⟨T7, X7, e7, st7⟩ := getF X5 hx hZ hown (host := "") (Or.inl (wd hw 102 rfl)) Via.refl e5 (F_o1.keep K1 nNl) (g := (mkF m 21 #[rv b0, rv bv1, iv 2, iv 1, rv m1] [.ref m1])) rfl rfl (hb hby d_B17_21)
  refine own_go (b := T7.setTop (mkF m 25 #[rv b0, rv bv1, iv 2, iv 1, rv m1] [.ref b0, .ref s1])) (fun t k => xifYes X5 hx hby rfl 28 34 rfl d_B17_28 rfl ((if0 _ _).trans (teq (if_pos hE : (if (own_E10 y0 y1 y2 y3 y4 y5 y6 y7 y8 y9) = (0 : Int32) then (0 : Int32) else (1 : Int32)) = (0 : Int32))).1) (by decide) (by decide) (xiinc X5 hx hby rfl d_B17_34 rfl (l' := #[rv b0, rv bv1, iv 2, iv 1, rv m0]) rfl (xgoto X5 hx hby rfl 37 9 rfl d_B17_37 (by decide) (by decide) (xiloadN X5 hx hby rfl d_B17_9 rfl (xiloadN X5 hx hby rfl d_B17_10 rfl (xicmpNo X5 hx hby rfl d_B17_11 rfl (tlt ((by decide) : (1 : Int32) < (2 : Int32))).2.1 (xaloadN X5 hx hby rfl d_B17_14 rfl rfl (xiloadN X5 hx hby rfl d_B17_15 rfl (X5.aaload hx (j := (1 : Int32)) (v := (.ref m1)) (own_in e5 Ar6.1) (State.isArrayOf_alike hZ.alike Ar6.2.1) rfl Ar6.2.2 hin6 (Has.at Hs6 hin6 rfl) (g := (mkF m 16 #[rv b0, rv bv1, iv 2, iv 1, rv m0] [.int 1, .ref bv1])) rfl rfl (hb hby d_B17_16) _ (xastore X5 hx hby rfl d_B17_17 rfl rfl (l' := #[rv b0, rv bv1, iv 2, iv 1, rv m1]) rfl (xaload X5 hx hby rfl d_B17_19 rfl rfl (st7 _ (xaloadN X7 hx hby rfl d_B17_24 rfl rfl k))))))))))))) ?_
  refine own_cv X7 hx hZ hown hml e7 (wd hw 104 rfl) (wd hw 74 rfl) (wd hw 76 rfl) (wd hw 75 rfl) (wd hw 1 rfl) (wd hw 77 rfl) (E_s1.keep K1) (own_rmEqD l Z a0 hw [] s1 b0 v1 vb kv1 kb (9 : Int32) (10 : Int32) [.int 114, .int 101, .int 102, .int 101, .int 114, .int 101, .int 110, .int 99, .int 101] [.int y0, .int y1, .int y2, .int y3, .int y4, .int y5, .int y6, .int y7, .int y8, .int y9] cs T1.heap n0 (Nat.le_trans Z0 K1.1) (E_s1.keep K1) (F_cs1.keep K1 nNl) (F_vs1.keep K1 nNl) (V_v1.keep K1 nNl) (E_b0.keep K1) (F_cb0.keep K1 nNl) (F_vb0.keep K1 nNl) (V_vb.keep K1 nNl) (by decide) (own_staKeep0 S_cs K1) hcs hb1) own_pd14 (hb hby d_B17_25) 0 [] rfl rfl ⟨rfl, rfl, rfl, rfl, rfl⟩ (by decide) ?_
  rintro T8 L8 v8 X8 hQ8
  obtain ⟨rfl, N8q, e8⟩ := hQ8
  have N8 := Fr.app N5 N8q
  exact own_ret (v := some .null) X8 e8 Bd.notSynchronized (nv Bd.returns) (fun fs hr => xifYes X8 hx hby rfl 28 34 rfl d_B17_28 rfl ((if0 _ _).trans (teq ((by decide) : (0 : Int32) = (0 : Int32))).1) (by decide) (by decide) (xiinc X8 hx hby rfl d_B17_34 rfl (l' := #[rv b0, rv bv1, iv 2, iv 2, rv m1]) rfl (xgoto X8 hx hby rfl 37 9 rfl d_B17_37 (by decide) (by decide) (xiloadN X8 hx hby rfl d_B17_9 rfl (xiloadN X8 hx hby rfl d_B17_10 rfl (xicmpYes X8 hx hby rfl 11 40 rfl d_B17_11 rfl (flt ((by decide) : ¬ ((2 : Int32) < (2 : Int32)))).2.1 (by decide) (by decide) (xaconstNull X8 hx hby rfl d_B17_40 (retA X8 hx Bd.returns (hb hby d_B17_41) hr)))))))) ⟨rfl, N8, K1⟩ (by decide)
theorem d_B17_31 : decode prog_11_method_6_code 31 = .ok (.aload 4, 2) := by decide +kernel
theorem d_B17_33 : decode prog_11_method_6_code 33 = .ok (.areturn, 1) := by decide +kernel
set_option maxRecDepth 65536 in
set_option maxHeartbeats 40000000 in
theorem own_rmNm10n (l : Launch) (Z : State) (a0 : Array Value) (hw : ∀ d ∈ tables_1, d.before a0 Z = true) (ws : List Jvm.Cond) (b0 : Addr) (bA m0 m1 s0 s1 v0 v1 : Addr) (kA kv0 kv1 : ClassId) (cs : Int32) (vb : Addr) (kb : ClassId) (y0 y1 y2 y3 y4 y5 y6 y7 y8 y9 : Int32) (h0 : Heap) (n0 : Nat) (Z0 : n0 ≤ h0.size) (S_A : Sta Z h0 "com/example/corollary/corollary/EstimateMethod" "$VALUES" "[Lcom/example/corollary/corollary/EstimateMethod;" (.ref bA)) (V_A : Arv Z h0 bA kA (.object "com/example/corollary/corollary/EstimateMethod") (2 : Int32) [.ref m0, .ref m1] .null) (E_A : Exa Z h0 bA "[Lcom/example/corollary/corollary/EstimateMethod;") (E_m0 : Exa Z h0 m0 "com/example/corollary/corollary/EstimateMethod$1") (F_o0 : Fld Z h0 m0 "com/example/corollary/corollary/EstimateMethod" "optionName" "Ljava/lang/String;" (.ref s0)) (E_s0 : Exa Z h0 s0 "java/lang/String") (F_cs0 : Fld Z h0 s0 "java/lang/String" "coder" "B" (.int 0)) (F_vs0 : Fld Z h0 s0 "java/lang/String" "value" "[B" (.ref v0)) (V_v0 : Arv Z h0 v0 kv0 .byte (10 : Int32) [.int 115, .int 101, .int 113, .int 117, .int 101, .int 110, .int 116, .int 105, .int 97, .int 108] (.int 0)) (E_m1 : Exa Z h0 m1 "com/example/corollary/corollary/EstimateMethod$2") (F_o1 : Fld Z h0 m1 "com/example/corollary/corollary/EstimateMethod" "optionName" "Ljava/lang/String;" (.ref s1)) (E_s1 : Exa Z h0 s1 "java/lang/String") (F_cs1 : Fld Z h0 s1 "java/lang/String" "coder" "B" (.int 0)) (F_vs1 : Fld Z h0 s1 "java/lang/String" "value" "[B" (.ref v1)) (V_v1 : Arv Z h0 v1 kv1 .byte (9 : Int32) [.int 114, .int 101, .int 102, .int 101, .int 114, .int 101, .int 110, .int 99, .int 101] (.int 0)) (S_cs : Sta Z h0 "java/lang/String" "COMPACT_STRINGS" "Z" (.int cs)) (hcs : ¬ cs = (0 : Int32)) (E_b0 : Exa Z h0 b0 "java/lang/String") (F_cb0 : Fld Z h0 b0 "java/lang/String" "coder" "B" (.int 0)) (F_vb0 : Fld Z h0 b0 "java/lang/String" "value" "[B" (.ref vb)) (V_vb : Arv Z h0 vb kb .byte (10 : Int32) [.int y0, .int y1, .int y2, .int y3, .int y4, .int y5, .int y6, .int y7, .int y8, .int y9] (.int 0)) (hb0 : ¬ s0 = b0) (hb1 : ¬ s1 = b0) (hE : ¬ own_E10 y0 y1 y2 y3 y4 y5 y6 y7 y8 y9 = (0 : Int32)) : own_M l Z y0N prog_11_method_6_code 5 (some (.object "com/example/corollary/corollary/EstimateMethod")) ws ({ frames := 2, cells := 1, slots := 2, locals := 28 } : Room) #[.ref b0] h0 (own_QX (.ref m0) h0 n0) := by
  refine own_begin (n0 := n0) (f0 := mkF ⟨0, 0⟩ 0 #[rv b0, .unset, .unset, .unset, .unset] []) (plainFor_of_name own_pn5) (fun m => ef_1_5 m _ rfl) ?_
  intro p e s m below meth c s₁ Bd hZ hx hby hml hown hnm X0 e0 N0
  refine own_go (b := s₁.setTop (mkF m 0 #[rv b0, .unset, .unset, .unset, .unset] [])) (fun t k => k) ?_
  refine own_cs X0 hx hZ hown hml e0 (wd hw 87 rfl) (wd hw 88 rfl) (wd hw 85 rfl) (wd hw 89 rfl) (own_rmA l Z a0 hw [] bA m0 m1 kA h0 n0 Z0 S_A V_A E_A) own_pd13 (hb hby d_B17_0) 0 [] rfl ⟨rfl, rfl, rfl, rfl, rfl⟩ (by decide) ?_
  rintro T1 L1 v1 X1 hQ1
  obtain ⟨bv1, rfl, N1q, K1q, B1_0, B1_1⟩ := hQ1
  have N1 := Fr.app N0 N1q
  have K1 := (Keep.refl h0 []).trans K1q (fun x hx => nomatch hx)
  have ne_b0_bv1 : b0 ≠ bv1 := Nat.ne_of_lt (Nat.lt_of_lt_of_le E_b0.lt B1_1)
  have ne_bA_bv1 : bA ≠ bv1 := Nat.ne_of_lt (Nat.lt_of_lt_of_le V_A.lt B1_1)
  have ne_m0_bv1 : m0 ≠ bv1 := Nat.ne_of_lt (Nat.lt_of_lt_of_le E_m0.lt B1_1)
  have ne_m1_bv1 : m1 ≠ bv1 := Nat.ne_of_lt (Nat.lt_of_lt_of_le E_m1.lt B1_1)
  have ne_s0_bv1 : s0 ≠ bv1 := Nat.ne_of_lt (Nat.lt_of_lt_of_le E_s0.lt B1_1)
  have ne_s1_bv1 : s1 ≠ bv1 := Nat.ne_of_lt (Nat.lt_of_lt_of_le E_s1.lt B1_1)
  have ne_v0_bv1 : v0 ≠ bv1 := Nat.ne_of_lt (Nat.lt_of_lt_of_le V_v0.lt B1_1)
  have ne_v1_bv1 : v1 ≠ bv1 := Nat.ne_of_lt (Nat.lt_of_lt_of_le V_v1.lt B1_1)
  have ne_vb_bv1 : vb ≠ bv1 := Nat.ne_of_lt (Nat.lt_of_lt_of_le V_vb.lt B1_1)
  obtain ⟨cl2, Ar2, -, Sz2, M2, -, -⟩ := id B1_0
  obtain ⟨cl3, Ar3, -, Sz3, M3, Hs3, Gs3⟩ := id B1_0
  have hin3 := inb_of (j := (0 : Int32)) Sz3 ⟨by decide, by decide⟩
  obtain ⟨T4, X4, e4, st4⟩ := getF X1 hx hZ hown (host := "") (Or.inl (wd hw 102 rfl)) Via.refl rfl (F_o0.keep K1 nNl) (g := (mkF m 21 #[rv b0, rv bv1, iv 2, iv 0, rv m0] [.ref m0])) rfl rfl (hb hby d_B17_21)
  refine own_go (b := T4.setTop (mkF m 25 #[rv b0, rv bv1, iv 2, iv 0, rv m0] [.ref b0, .ref s0])) (fun t k => ?_) ?_
  · refine xastoreN X1 hx hby rfl d_B17_3 rfl rfl (l' := #[rv b0, rv bv1, .unset, .unset, .unset]) rfl (xaloadN X1 hx hby rfl d_B17_4 rfl rfl (X1.arraylength hx Ar2.1 (State.isArrayOf_alike hZ.alike Ar2.2.1) (g := (mkF m 5 #[rv b0, rv bv1, .unset, .unset, .unset] [.ref bv1])) rfl rfl (hb hby d_B17_5) _ ?_))
    rw [len_of Sz2 M2]
    refine xistoreN X1 hx hby rfl d_B17_6 rfl (l' := #[rv b0, rv bv1, iv 2, .unset, .unset]) rfl (xiconst X1 hx hby rfl d_B17_7 (xistoreN X1 hx hby rfl d_B17_8 rfl (l' := #[rv b0, rv bv1, iv 2, iv 0, .unset]) rfl (xiloadN X1 hx hby rfl d_B17_9 rfl (xiloadN X1 hx hby rfl d_B17_10 rfl (xicmpNo X1 hx hby rfl d_B17_11 rfl (tlt ((by decide) : (0 : Int32) < (2 : Int32))).2.1 (xaloadN X1 hx hby rfl d_B17_14 rfl rfl (xiloadN X1 hx hby rfl d_B17_15 rfl (X1.aaload hx (j := (0 : Int32)) (v := (.ref m0)) Ar3.1 (State.isArrayOf_alike hZ.alike Ar3.2.1) rfl Ar3.2.2 hin3 (Has.at Hs3 hin3 rfl) (g := (mkF m 16 #[rv b0, rv bv1, iv 2, iv 0, .unset] [.int 0, .ref bv1])) rfl rfl (hb hby d_B17_16) _ (xastore X1 hx hby rfl d_B17_17 rfl rfl (l' := #[rv b0, rv bv1, iv 2, iv 0, rv m0]) rfl (xaload X1 hx hby rfl d_B17_19 rfl rfl (st4 _ (xaloadN X4 hx hby rfl d_B17_24 rfl rfl k))))))))))))
  refine own_cv X4 hx hZ hown hml e4 (wd hw 104 rfl) (wd hw 74 rfl) (wd hw 76 rfl) (wd hw 75 rfl) (wd hw 1 rfl) (wd hw 77 rfl) (E_s0.keep K1) (own_rmEqB10 l Z a0 hw [] s0 b0 v0 vb kv0 kb y0 y1 y2 y3 y4 y5 y6 y7 y8 y9 cs T1.heap n0 (Nat.le_trans Z0 K1.1) (E_s0.keep K1) (F_cs0.keep K1 nNl) (F_vs0.keep K1 nNl) (V_v0.keep K1 nNl) (E_b0.keep K1) (F_cb0.keep K1 nNl) (F_vb0.keep K1 nNl) (V_vb.keep K1 nNl) (own_staKeep0 S_cs K1) hcs hb0) own_pd14 (hb hby d_B17_25) 0 [] rfl rfl ⟨rfl, rfl, rfl, rfl, rfl⟩ (by decide) ?_
  rintro T5 L5 v5 X5 hQ5
  obtain ⟨rfl, N5q, e5⟩ := hQ5
  have N5 := Fr.app N1 N5q
  exact own_ret (v := some (.ref m0)) X5 e5 Bd.notSynchronized (nv Bd.returns) (fun fs hr => xifNo X5 hx hby rfl d_B17_28 rfl ((if0 _ _).trans (feq ((by rw [if_neg hE]; decide) : ¬ ((if (own_E10 y0 y1 y2 y3 y4 y5 y6 y7 y8 y9) = (0 : Int32) then (0 : Int32) else (1 : Int32)) = (0 : Int32)))).1) (xaload X5 hx hby rfl d_B17_31 rfl rfl (retA X5 hx Bd.returns (hb hby d_B17_33) hr))) ⟨rfl, N5, K1⟩ (by decide)
set_option maxRecDepth 65536 in
set_option maxHeartbeats 40000000 in
theorem own_rmNm9z (l : Launch) (Z : State) (a0 : Array Value) (hw : ∀ d ∈ tables_1, d.before a0 Z = true) (ws : List Jvm.Cond) (b0 : Addr) (bA m0 m1 s0 s1 v0 v1 : Addr) (kA kv0 kv1 : ClassId) (cs : Int32) (vb : Addr) (kb : ClassId) (y0 y1 y2 y3 y4 y5 y6 y7 y8 : Int32) (h0 : Heap) (n0 : Nat) (Z0 : n0 ≤ h0.size) (S_A : Sta Z h0 "com/example/corollary/corollary/EstimateMethod" "$VALUES" "[Lcom/example/corollary/corollary/EstimateMethod;" (.ref bA)) (V_A : Arv Z h0 bA kA (.object "com/example/corollary/corollary/EstimateMethod") (2 : Int32) [.ref m0, .ref m1] .null) (E_A : Exa Z h0 bA "[Lcom/example/corollary/corollary/EstimateMethod;") (E_m0 : Exa Z h0 m0 "com/example/corollary/corollary/EstimateMethod$1") (F_o0 : Fld Z h0 m0 "com/example/corollary/corollary/EstimateMethod" "optionName" "Ljava/lang/String;" (.ref s0)) (E_s0 : Exa Z h0 s0 "java/lang/String") (F_cs0 : Fld Z h0 s0 "java/lang/String" "coder" "B" (.int 0)) (F_vs0 : Fld Z h0 s0 "java/lang/String" "value" "[B" (.ref v0)) (V_v0 : Arv Z h0 v0 kv0 .byte (10 : Int32) [.int 115, .int 101, .int 113, .int 117, .int 101, .int 110, .int 116, .int 105, .int 97, .int 108] (.int 0)) (E_m1 : Exa Z h0 m1 "com/example/corollary/corollary/EstimateMethod$2") (F_o1 : Fld Z h0 m1 "com/example/corollary/corollary/EstimateMethod" "optionName" "Ljava/lang/String;" (.ref s1)) (E_s1 : Exa Z h0 s1 "java/lang/String") (F_cs1 : Fld Z h0 s1 "java/lang/String" "coder" "B" (.int 0)) (F_vs1 : Fld Z h0 s1 "java/lang/String" "value" "[B" (.ref v1)) (V_v1 : Arv Z h0 v1 kv1 .byte (9 : Int32) [.int 114, .int 101, .int 102, .int 101, .int 114, .int 101, .int 110, .int 99, .int 101] (.int 0)) (S_cs : Sta Z h0 "java/lang/String" "COMPACT_STRINGS" "Z" (.int cs)) (hcs : ¬ cs = (0 : Int32)) (E_b0 : Exa Z h0 b0 "java/lang/String") (F_cb0 : Fld Z h0 b0 "java/lang/String" "coder" "B" (.int 0)) (F_vb0 : Fld Z h0 b0 "java/lang/String" "value" "[B" (.ref vb)) (V_vb : Arv Z h0 vb kb .byte (9 : Int32) [.int y0, .int y1, .int y2, .int y3, .int y4, .int y5, .int y6, .int y7, .int y8] (.int 0)) (hb0 : ¬ s0 = b0) (hb1 : ¬ s1 = b0) (hE : own_E9 y0 y1 y2 y3 y4 y5 y6 y7 y8 = (0 : Int32)) : own_M l Z y0N prog_11_method_6_code 5 (some (.object "com/example/corollary/corollary/EstimateMethod")) ws ({ frames := 2, cells := 1, slots := 2, locals := 28 } : Room) #[.ref b0] h0 (own_QX .null h0 n0) := by
  refine own_begin (n0 := n0) (f0 := mkF ⟨0, 0⟩ 0 #[rv b0, .unset, .unset, .unset, .unset] []) (plainFor_of_name own_pn5) (fun m => ef_1_5 m _ rfl) ?_
  intro p e s m below meth c s₁ Bd hZ hx hby hml hown hnm X0 e0 N0
  refine own_go (b := s₁.setTop (mkF m 0 #[rv b0, .unset, .unset, .unset, .unset] [])) (fun t k => k) ?_
  refine own_cs X0 hx hZ hown hml e0 (wd hw 87 rfl) (wd hw 88 rfl) (wd hw 85 rfl) (wd hw 89 rfl) (own_rmA l Z a0 hw [] bA m0 m1 kA h0 n0 Z0 S_A V_A E_A) own_pd13 (hb hby d_B17_0) 0 [] rfl ⟨rfl, rfl, rfl, rfl, rfl⟩ (by decide) ?_
  rintro T1 L1 v1 X1 hQ1
  obtain ⟨bv1, rfl, N1q, K1q, B1_0, B1_1⟩ := hQ1
  have N1 := Fr.app N0 N1q
  have K1 := (Keep.refl h0 []).trans K1q (fun x hx => nomatch hx)
  have ne_b0_bv1 : b0 ≠ bv1 := Nat.ne_of_lt (Nat.lt_of_lt_of_le E_b0.lt B1_1)
  have ne_bA_bv1 : bA ≠ bv1 := Nat.ne_of_lt (Nat.lt_of_lt_of_le V_A.lt B1_1)
  have ne_m0_bv1 : m0 ≠ bv1 := Nat.ne_of_lt (Nat.lt_of_lt_of_le E_m0.lt B1_1)
  have ne_m1_bv1 : m1 ≠ bv1 := Nat.ne_of_lt (Nat.lt_of_lt_of_le E_m1.lt B1_1)
  have ne_s0_bv1 : s0 ≠ bv1 := Nat.ne_of_lt (Nat.lt_of_lt_of_le E_s0.lt B1_1)
  have ne_s1_bv1 : s1 ≠ bv1 := Nat.ne_of_lt (Nat.lt_of_lt_of_le E_s1.lt B1_1)
  have ne_v0_bv1 : v0 ≠ bv1 := Nat.ne_of_lt (Nat.lt_of_lt_of_le V_v0.lt B1_1)
  have ne_v1_bv1 : v1 ≠ bv1 := Nat.ne_of_lt (Nat.lt_of_lt_of_le V_v1.lt B1_1)
  have ne_vb_bv1 : vb ≠ bv1 := Nat.ne_of_lt (Nat.lt_of_lt_of_le V_vb.lt B1_1)
  obtain ⟨cl2, Ar2, -, Sz2, M2, -, -⟩ := id B1_0
  obtain ⟨cl3, Ar3, -, Sz3, M3, Hs3, Gs3⟩ := id B1_0
  have hin3 := inb_of (j := (0 : Int32)) Sz3 ⟨by decide, by decide⟩
  obtain ⟨T4, X4, e4, st4⟩ := getF X1 hx hZ hown (host := "") (Or.inl (wd hw 102 rfl)) Via.refl rfl (F_o0.keep K1 nNl) (g := (mkF m 21 #[rv b0, rv bv1, iv 2, iv 0, rv m0] [.ref m0])) rfl rfl (hb hby d_B17_21)
  refine own_go (b := T4.setTop (mkF m 25 #[rv b0, rv bv1, iv 2, iv 0, rv m0] [.ref b0, .ref s0])) (fun t k => ?_) ?_
  · refine xastoreN X1 hx hby rfl d_B17_3 rfl rfl (l' := #[rv b0, rv bv1, .unset, .unset, .unset]) rfl (xaloadN X1 hx hby rfl d_B17_4 rfl rfl (X1.arraylength hx Ar2.1 (State.isArrayOf_alike hZ.alike Ar2.2.1) (g := (mkF m 5 #[rv b0, rv bv1, .unset, .unset, .unset] [.ref bv1])) rfl rfl (hb hby d_B17_5) _ ?_))
    rw [len_of Sz2 M2]
    refine xistoreN X1 hx hby rfl d_B17_6 rfl (l' := #[rv b0, rv bv1, iv 2, .unset, .unset]) rfl (xiconst X1 hx hby rfl d_B17_7 (xistoreN X1 hx hby rfl d_B17_8 rfl (l' := #[rv b0, rv bv1, iv 2, iv 0, .unset]) rfl (xiloadN X1 hx hby rfl d_B17_9 rfl (xiloadN X1 hx hby rfl d_B17_10 rfl (xicmpNo X1 hx hby rfl d_B17_11 rfl (tlt ((by decide) : (0 : Int32) < (2 : Int32))).2.1 (xaloadN X1 hx hby rfl d_B17_14 rfl rfl (xiloadN X1 hx hby rfl d_B17_15 rfl (X1.aaload hx (j := (0 : Int32)) (v := (.ref m0)) Ar3.1 (State.isArrayOf_alike hZ.alike Ar3.2.1) rfl Ar3.2.2 hin3 (Has.at Hs3 hin3 rfl) (g := (mkF m 16 #[rv b0, rv bv1, iv 2, iv 0, .unset] [.int 0, .ref bv1])) rfl rfl (hb hby d_B17_16) _ (xastore X1 hx hby rfl d_B17_17 rfl rfl (l' := #[rv b0, rv bv1, iv 2, iv 0, rv m0]) rfl (xaload X1 hx hby rfl d_B17_19 rfl rfl (st4 _ (xaloadN X4 hx hby rfl d_B17_24 rfl rfl k))))))))))))
  refine own_cv X4 hx hZ hown hml e4 (wd hw 104 rfl) (wd hw 74 rfl) (wd hw 76 rfl) (wd hw 75 rfl) (wd hw 1 rfl) (wd hw 77 rfl) (E_s0.keep K1) (own_rmEqD l Z a0 hw [] s0 b0 v0 vb kv0 kb (10 : Int32) (9 : Int32) [.int 115, .int 101, .int 113, .int 117, .int 101, .int 110, .int 116, .int 105, .int 97, .int 108] [.int y0, .int y1, .int y2, .int y3, .int y4, .int y5, .int y6, .int y7, .int y8] cs T1.heap n0 (Nat.le_trans Z0 K1.1) (E_s0.keep K1) (F_cs0.keep K1 nNl) (F_vs0.keep K1 nNl) (V_v0.keep K1 nNl) (E_b0.keep K1) (F_cb0.keep K1 nNl) (F_vb0.keep K1 nNl) (V_vb.keep K1 nNl) (by decide) (own_staKeep0 S_cs K1) hcs hb0) own_pd14 (hb hby d_B17_25) 0 [] rfl rfl ⟨rfl, rfl, rfl, rfl, rfl⟩ (by decide) ?_
  rintro T5 L5 v5 X5 hQ5
  obtain ⟨rfl, N5q, e5⟩ := hQ5
  have N5 := Fr.app N1 N5q
  obtain ⟨cl6, Ar6, -, Sz6, M6, Hs6, Gs6⟩ := id B1_0
  have hin6 := inb_of (j := (1 : Int32)) Sz6 ⟨by decide, by decide⟩
  obtain ⟨T7, X7, e7, st7⟩ := getF X5 hx hZ hown (host := "") (Or.inl (wd hw 102 rfl)) Via.refl e5 (F_o1.keep K1 nNl) (g := (mkF m 21 #[rv b0, rv bv1, iv 2, iv 1, rv m1] [.ref m1])) rfl rfl (hb hby d_B17_21)
  refine own_go (b := T7.setTop (mkF m 25 #[rv b0, rv bv1, iv 2, iv 1, rv m1] [.ref b0, .ref s1])) (fun t k => xifYes X5 hx hby rfl 28 34 rfl d_B17_28 rfl ((if0 _ _).trans (teq ((by decide) : (0 : Int32) = (0 : Int32))).1) (by decide) (by decide) (xiinc X5 hx hby rfl d_B17_34 rfl (l' := #[rv b0, rv bv1, iv 2, iv 1, rv m0]) rfl (xgoto X5 hx hby rfl 37 9 rfl d_B17_37 (by decide) (by decide) (xiloadN X5 hx hby rfl d_B17_9 rfl (xiloadN X5 hx hby rfl d_B17_10 rfl (xicmpNo X5 hx hby rfl d_B17_11 rfl (tlt ((by decide) : (1 : Int32) < (2 : Int32))).2.1 (xaloadN X5 hx hby rfl d_B17_14 rfl rfl (xiloadN X5 hx hby rfl d_B17_15 rfl (X5.aaload hx (j := (1 : Int32)) (v := (.ref m1)) (own_in e5 Ar6.1) (State.isArrayOf_alike hZ.alike Ar6.2.1) rfl Ar6.2.2 hin6 (Has.at Hs6 hin6 rfl) (g := (mkF m 16 #[rv b0, rv bv1, iv 2, iv 1, rv m0] [.int 1, .ref bv1])) rfl rfl (hb hby d_B17_16) _ (xastore X5 hx hby rfl d_B17_17 rfl rfl (l' := #[rv b0, rv bv1, iv 2, iv 1, rv m1]) rfl (xaload X5 hx hby rfl d_B17_19 rfl rfl (st7 _ (xaloadN X7 hx hby rfl d_B17_24 rfl rfl k))))))))))))) ?_
  refine own_cv X7 hx hZ hown hml e7 (wd hw 104 rfl) (wd hw 74 rfl) (wd hw 76 rfl) (wd hw 75 rfl) (wd hw 1 rfl) (wd hw 77 rfl) (E_s1.keep K1) (own_rmEqB9 l Z a0 hw [] s1 b0 v1 vb kv1 kb y0 y1 y2 y3 y4 y5 y6 y7 y8 cs T1.heap n0 (Nat.le_trans Z0 K1.1) (E_s1.keep K1) (F_cs1.keep K1 nNl) (F_vs1.keep K1 nNl) (V_v1.keep K1 nNl) (E_b0.keep K1) (F_cb0.keep K1 nNl) (F_vb0.keep K1 nNl) (V_vb.keep K1 nNl) (own_staKeep0 S_cs K1) hcs hb1) own_pd14 (hb hby d_B17_25) 0 [] rfl rfl ⟨rfl, rfl, rfl, rfl, rfl⟩ (by decide) ?_
  rintro T8 L8 v8 X8 hQ8
  obtain ⟨rfl, N8q, e8⟩ := hQ8
  have N8 := Fr.app N5 N8q
  exact own_ret (v := some .null) X8 e8 Bd.notSynchronized (nv Bd.returns) (fun fs hr => xifYes X8 hx hby rfl 28 34 rfl d_B17_28 rfl ((if0 _ _).trans (teq (if_pos hE : (if (own_E9 y0 y1 y2 y3 y4 y5 y6 y7 y8) = (0 : Int32) then (0 : Int32) else (1 : Int32)) = (0 : Int32))).1) (by decide) (by decide) (xiinc X8 hx hby rfl d_B17_34 rfl (l' := #[rv b0, rv bv1, iv 2, iv 2, rv m1]) rfl (xgoto X8 hx hby rfl 37 9 rfl d_B17_37 (by decide) (by decide) (xiloadN X8 hx hby rfl d_B17_9 rfl (xiloadN X8 hx hby rfl d_B17_10 rfl (xicmpYes X8 hx hby rfl 11 40 rfl d_B17_11 rfl (flt ((by decide) : ¬ ((2 : Int32) < (2 : Int32)))).2.1 (by decide) (by decide) (xaconstNull X8 hx hby rfl d_B17_40 (retA X8 hx Bd.returns (hb hby d_B17_41) hr)))))))) ⟨rfl, N8, K1⟩ (by decide)
set_option maxRecDepth 65536 in
set_option maxHeartbeats 40000000 in
theorem own_rmNm9n (l : Launch) (Z : State) (a0 : Array Value) (hw : ∀ d ∈ tables_1, d.before a0 Z = true) (ws : List Jvm.Cond) (b0 : Addr) (bA m0 m1 s0 s1 v0 v1 : Addr) (kA kv0 kv1 : ClassId) (cs : Int32) (vb : Addr) (kb : ClassId) (y0 y1 y2 y3 y4 y5 y6 y7 y8 : Int32) (h0 : Heap) (n0 : Nat) (Z0 : n0 ≤ h0.size) (S_A : Sta Z h0 "com/example/corollary/corollary/EstimateMethod" "$VALUES" "[Lcom/example/corollary/corollary/EstimateMethod;" (.ref bA)) (V_A : Arv Z h0 bA kA (.object "com/example/corollary/corollary/EstimateMethod") (2 : Int32) [.ref m0, .ref m1] .null) (E_A : Exa Z h0 bA "[Lcom/example/corollary/corollary/EstimateMethod;") (E_m0 : Exa Z h0 m0 "com/example/corollary/corollary/EstimateMethod$1") (F_o0 : Fld Z h0 m0 "com/example/corollary/corollary/EstimateMethod" "optionName" "Ljava/lang/String;" (.ref s0)) (E_s0 : Exa Z h0 s0 "java/lang/String") (F_cs0 : Fld Z h0 s0 "java/lang/String" "coder" "B" (.int 0)) (F_vs0 : Fld Z h0 s0 "java/lang/String" "value" "[B" (.ref v0)) (V_v0 : Arv Z h0 v0 kv0 .byte (10 : Int32) [.int 115, .int 101, .int 113, .int 117, .int 101, .int 110, .int 116, .int 105, .int 97, .int 108] (.int 0)) (E_m1 : Exa Z h0 m1 "com/example/corollary/corollary/EstimateMethod$2") (F_o1 : Fld Z h0 m1 "com/example/corollary/corollary/EstimateMethod" "optionName" "Ljava/lang/String;" (.ref s1)) (E_s1 : Exa Z h0 s1 "java/lang/String") (F_cs1 : Fld Z h0 s1 "java/lang/String" "coder" "B" (.int 0)) (F_vs1 : Fld Z h0 s1 "java/lang/String" "value" "[B" (.ref v1)) (V_v1 : Arv Z h0 v1 kv1 .byte (9 : Int32) [.int 114, .int 101, .int 102, .int 101, .int 114, .int 101, .int 110, .int 99, .int 101] (.int 0)) (S_cs : Sta Z h0 "java/lang/String" "COMPACT_STRINGS" "Z" (.int cs)) (hcs : ¬ cs = (0 : Int32)) (E_b0 : Exa Z h0 b0 "java/lang/String") (F_cb0 : Fld Z h0 b0 "java/lang/String" "coder" "B" (.int 0)) (F_vb0 : Fld Z h0 b0 "java/lang/String" "value" "[B" (.ref vb)) (V_vb : Arv Z h0 vb kb .byte (9 : Int32) [.int y0, .int y1, .int y2, .int y3, .int y4, .int y5, .int y6, .int y7, .int y8] (.int 0)) (hb0 : ¬ s0 = b0) (hb1 : ¬ s1 = b0) (hE : ¬ own_E9 y0 y1 y2 y3 y4 y5 y6 y7 y8 = (0 : Int32)) : own_M l Z y0N prog_11_method_6_code 5 (some (.object "com/example/corollary/corollary/EstimateMethod")) ws ({ frames := 2, cells := 1, slots := 2, locals := 28 } : Room) #[.ref b0] h0 (own_QX (.ref m1) h0 n0) := by
  refine own_begin (n0 := n0) (f0 := mkF ⟨0, 0⟩ 0 #[rv b0, .unset, .unset, .unset, .unset] []) (plainFor_of_name own_pn5) (fun m => ef_1_5 m _ rfl) ?_
  intro p e s m below meth c s₁ Bd hZ hx hby hml hown hnm X0 e0 N0
  refine own_go (b := s₁.setTop (mkF m 0 #[rv b0, .unset, .unset, .unset, .unset] [])) (fun t k => k) ?_
  refine own_cs X0 hx hZ hown hml e0 (wd hw 87 rfl) (wd hw 88 rfl) (wd hw 85 rfl) (wd hw 89 rfl) (own_rmA l Z a0 hw [] bA m0 m1 kA h0 n0 Z0 S_A V_A E_A) own_pd13 (hb hby d_B17_0) 0 [] rfl ⟨rfl, rfl, rfl, rfl, rfl⟩ (by decide) ?_
  rintro T1 L1 v1 X1 hQ1
  obtain ⟨bv1, rfl, N1q, K1q, B1_0, B1_1⟩ := hQ1
  have N1 := Fr.app N0 N1q
  have K1 := (Keep.refl h0 []).trans K1q (fun x hx => nomatch hx)
  have ne_b0_bv1 : b0 ≠ bv1 := Nat.ne_of_lt (Nat.lt_of_lt_of_le E_b0.lt B1_1)
  have ne_bA_bv1 : bA ≠ bv1 := Nat.ne_of_lt (Nat.lt_of_lt_of_le V_A.lt B1_1)
  have ne_m0_bv1 : m0 ≠ bv1 := Nat.ne_of_lt (Nat.lt_of_lt_of_le E_m0.lt B1_1)
  have ne_m1_bv1 : m1 ≠ bv1 := Nat.ne_of_lt (Nat.lt_of_lt_of_le E_m1.lt B1_1)
  have ne_s0_bv1 : s0 ≠ bv1 := Nat.ne_of_lt (Nat.lt_of_lt_of_le E_s0.lt B1_1)
  have ne_s1_bv1 : s1 ≠ bv1 := Nat.ne_of_lt (Nat.lt_of_lt_of_le E_s1.lt B1_1)
  have ne_v0_bv1 : v0 ≠ bv1 := Nat.ne_of_lt (Nat.lt_of_lt_of_le V_v0.lt B1_1)
  have ne_v1_bv1 : v1 ≠ bv1 := Nat.ne_of_lt (Nat.lt_of_lt_of_le V_v1.lt B1_1)
  have ne_vb_bv1 : vb ≠ bv1 := Nat.ne_of_lt (Nat.lt_of_lt_of_le V_vb.lt B1_1)
  obtain ⟨cl2, Ar2, -, Sz2, M2, -, -⟩ := id B1_0
  obtain ⟨cl3, Ar3, -, Sz3, M3, Hs3, Gs3⟩ := id B1_0
  have hin3 := inb_of (j := (0 : Int32)) Sz3 ⟨by decide, by decide⟩
  obtain ⟨T4, X4, e4, st4⟩ := getF X1 hx hZ hown (host := "") (Or.inl (wd hw 102 rfl)) Via.refl rfl (F_o0.keep K1 nNl) (g := (mkF m 21 #[rv b0, rv bv1, iv 2, iv 0, rv m0] [.ref m0])) rfl rfl (hb hby d_B17_21)
  refine own_go (b := T4.setTop (mkF m 25 #[rv b0, rv bv1, iv 2, iv 0, rv m0] [.ref b0, .ref s0])) (fun t k => ?_) ?_
  · refine xastoreN X1 hx hby rfl d_B17_3 rfl rfl (l' := #[rv b0, rv bv1, .unset, .unset, .unset]) rfl (xaloadN X1 hx hby rfl d_B17_4 rfl rfl (X1.arraylength hx Ar2.1 (State.isArrayOf_alike hZ.alike Ar2.2.1) (g := (mkF m 5 #[rv b0, rv bv1, .unset, .unset, .unset] [.ref bv1])) rfl rfl (hb hby d_B17_5) _ ?_))
    rw [len_of Sz2 M2]
    refine xistoreN X1 hx hby rfl d_B17_6 rfl (l' := #[rv b0, rv bv1, iv 2, .unset, .unset]) rfl (xiconst X1 hx hby rfl d_B17_7 (xistoreN X1 hx hby rfl d_B17_8 rfl (l' := #[rv b0, rv bv1, iv 2, iv 0, .unset]) rfl (xiloadN X1 hx hby rfl d_B17_9 rfl (xiloadN X1 hx hby rfl d_B17_10 rfl (xicmpNo X1 hx hby rfl d_B17_11 rfl (tlt ((by decide) : (0 : Int32) < (2 : Int32))).2.1 (xaloadN X1 hx hby rfl d_B17_14 rfl rfl (xiloadN X1 hx hby rfl d_B17_15 rfl (X1.aaload hx (j := (0 : Int32)) (v := (.ref m0)) Ar3.1 (State.isArrayOf_alike hZ.alike Ar3.2.1) rfl Ar3.2.2 hin3 (Has.at Hs3 hin3 rfl) (g := (mkF m 16 #[rv b0, rv bv1, iv 2, iv 0, .unset] [.int 0, .ref bv1])) rfl rfl (hb hby d_B17_16) _ (xastore X1 hx hby rfl d_B17_17 rfl rfl (l' := #[rv b0, rv bv1, iv 2, iv 0, rv m0]) rfl (xaload X1 hx hby rfl d_B17_19 rfl rfl (st4 _ (xaloadN X4 hx hby rfl d_B17_24 rfl rfl k))))))))))))
  refine own_cv X4 hx hZ hown hml e4 (wd hw 104 rfl) (wd hw 74 rfl) (wd hw 76 rfl) (wd hw 75 rfl) (wd hw 1 rfl) (wd hw 77 rfl) (E_s0.keep K1) (own_rmEqD l Z a0 hw [] s0 b0 v0 vb kv0 kb (10 : Int32) (9 : Int32) [.int 115, .int 101, .int 113, .int 117, .int 101, .int 110, .int 116, .int 105, .int 97, .int 108] [.int y0, .int y1, .int y2, .int y3, .int y4, .int y5, .int y6, .int y7, .int y8] cs T1.heap n0 (Nat.le_trans Z0 K1.1) (E_s0.keep K1) (F_cs0.keep K1 nNl) (F_vs0.keep K1 nNl) (V_v0.keep K1 nNl) (E_b0.keep K1) (F_cb0.keep K1 nNl) (F_vb0.keep K1 nNl) (V_vb.keep K1 nNl) (by decide) (own_staKeep0 S_cs K1) hcs hb0) own_pd14 (hb hby d_B17_25) 0 [] rfl rfl ⟨rfl, rfl, rfl, rfl, rfl⟩ (by decide) ?_
  rintro T5 L5 v5 X5 hQ5
  obtain ⟨rfl, N5q, e5⟩ := hQ5
  have N5 := Fr.app N1 N5q
  obtain ⟨cl6, Ar6, -, Sz6, M6, Hs6, Gs6⟩ := id B1_0
  have hin6 := inb_of (j := (1 : Int32)) Sz6 ⟨by decide, by decide⟩
  obtain ⟨T7, X7, e7, st7⟩ := getF X5 hx hZ hown (host := "") (Or.inl (wd hw 102 rfl)) Via.refl e5 (F_o1.keep K1 nNl) (g := (mkF m 21 #[rv b0, rv bv1, iv 2, iv 1, rv m1] [.ref m1])) rfl rfl (hb hby d_B17_21)
  refine own_go (b := T7.setTop (mkF m 25 #[rv b0, rv bv1, iv 2, iv 1, rv m1] [.ref b0, .ref s1])) (fun t k => xifYes X5 hx hby rfl 28 34 rfl d_B17_28 rfl ((if0 _ _).trans (teq ((by decide) : (0 : Int32) = (0 : Int32))).1) (by decide) (by decide) (xiinc X5 hx hby rfl d_B17_34 rfl (l' := #[rv b0, rv bv1, iv 2, iv 1, rv m0]) rfl (xgoto X5 hx hby rfl 37 9 rfl d_B17_37 (by decide) (by decide) (xiloadN X5 hx hby rfl d_B17_9 rfl (xiloadN X5 hx hby rfl d_B17_10 rfl (xicmpNo X5 hx hby rfl d_B17_11 rfl (tlt ((by decide) : (1 : Int32) < (2 : Int32))).2.1 (xaloadN X5 hx hby rfl d_B17_14 rfl rfl (xiloadN X5 hx hby rfl d_B17_15 rfl (X5.aaload hx (j := (1 : Int32)) (v := (.ref m1)) (own_in e5 Ar6.1) (State.isArrayOf_alike hZ.alike Ar6.2.1) rfl Ar6.2.2 hin6 (Has.at Hs6 hin6 rfl) (g := (mkF m 16 #[rv b0, rv bv1, iv 2, iv 1, rv m0] [.int 1, .ref bv1])) rfl rfl (hb hby d_B17_16) _ (xastore X5 hx hby rfl d_B17_17 rfl rfl (l' := #[rv b0, rv bv1, iv 2, iv 1, rv m1]) rfl (xaload X5 hx hby rfl d_B17_19 rfl rfl (st7 _ (xaloadN X7 hx hby rfl d_B17_24 rfl rfl k))))))))))))) ?_
  refine own_cv X7 hx hZ hown hml e7 (wd hw 104 rfl) (wd hw 74 rfl) (wd hw 76 rfl) (wd hw 75 rfl) (wd hw 1 rfl) (wd hw 77 rfl) (E_s1.keep K1) (own_rmEqB9 l Z a0 hw [] s1 b0 v1 vb kv1 kb y0 y1 y2 y3 y4 y5 y6 y7 y8 cs T1.heap n0 (Nat.le_trans Z0 K1.1) (E_s1.keep K1) (F_cs1.keep K1 nNl) (F_vs1.keep K1 nNl) (V_v1.keep K1 nNl) (E_b0.keep K1) (F_cb0.keep K1 nNl) (F_vb0.keep K1 nNl) (V_vb.keep K1 nNl) (own_staKeep0 S_cs K1) hcs hb1) own_pd14 (hb hby d_B17_25) 0 [] rfl rfl ⟨rfl, rfl, rfl, rfl, rfl⟩ (by decide) ?_
  rintro T8 L8 v8 X8 hQ8
  obtain ⟨rfl, N8q, e8⟩ := hQ8
  have N8 := Fr.app N5 N8q
  exact own_ret (v := some (.ref m1)) X8 e8 Bd.notSynchronized (nv Bd.returns) (fun fs hr => xifNo X8 hx hby rfl d_B17_28 rfl ((if0 _ _).trans (feq ((by rw [if_neg hE]; decide) : ¬ ((if (own_E9 y0 y1 y2 y3 y4 y5 y6 y7 y8) = (0 : Int32) then (0 : Int32) else (1 : Int32)) = (0 : Int32)))).1) (xaload X8 hx hby rfl d_B17_31 rfl rfl (retA X8 hx Bd.returns (hb hby d_B17_33) hr))) ⟨rfl, N8, K1⟩ (by decide)
theorem own_staKeepV {Z : State} {h h' : Heap} {C n d : String} {w : Value} {a : Addr} {k : ClassId} {ty : FieldType} {z : Int32} {vs : List Value} {dv : Value} (F : Sta Z h C n d w) (A : Arv Z h a k ty z vs dv) (Kp : Keep h h' [a]) : Sta Z h' C n d w := by
  obtain ⟨cf, i, k, f, st, cell, h1, h2, h3, h4, h5, h6, h7⟩ := F
  refine ⟨cf, i, k, f, st, cell, h1, h2, h3, h4, Kp.2.1 st cell h5 ?_, h6, h7⟩
  intro q
  cases List.mem_singleton.mp q
  obtain ⟨c2, ⟨e1, ⟨e2, -⟩, -⟩, -⟩ := A
  cases h5.symm.trans e1
  generalize cell.vm = V at h6 e2
  cases V <;> first | exact absurd rfl (e2 _) | cases h6
theorem own_sg {p : Program} {e : Env} {below : List Frame} {P : State → Outcome → Prop} {a : State} (F : State → Prop) (h : ∃ (s₂ : State) (o : Outcome), Steps p.tables e below a s₂ ∧ F s₂) (k : ∀ b, F b → ∃ s₂ o, Steps p.tables e below b s₂ ∧ P s₂ o) : ∃ s₂ o, Steps p.tables e below a s₂ ∧ P s₂ o := by
  obtain ⟨b, _, h1, h2⟩ := h
  obtain ⟨t, o, h3, h4⟩ := k b h2
  exact ⟨t, o, h1.trans h3, h4⟩
def own_Q0 (n0 : Nat) (v : Option Value) (h : Heap) (L : List Loc) : Prop := v = some (.int 1) ∧ Fr n0 L
def own_W (s : State) (n0 : Nat) (p : Program) (e : Env) (below : List Frame) (a : State) : Prop := ∃ s₂ o, Steps p.tables e below a s₂ ∧ s₂.status = .running ∧ Ended s₂ below o ∧ ∃ v L, o = .returned v ∧ own_Q0 n0 v s₂.heap L ∧ ReturnedEndW s o s₂ L room_1.cells room_1.slots
set_option maxRecDepth 65536 in
set_option maxHeartbeats 40000000 in
theorem own_tD10_0 {p : Program} {l : Launch} {e : Env} {Z s s₁ Tq : State} {m : MethodId} {below : List Frame} {meth : Method} {c : Code} {a0 : Array Value} {ws : List Jvm.Cond} {n0 nS : Nat} {h0 hq : Heap} {Lq : List Loc} {bvm : Vm} {b5 bA m0 m1 s0 s1 v0 v1 : Addr} {k5 kA kv0 kv1 : ClassId} {p0 p1 p2 p3 p4 : Int32} {cs vc y0 y1 y10 y11 y2 y3 y4 y5 y6 y7 y8 y9 : Int32} {bw : Addr} {fv : Value} (hw : ∀ d ∈ tables_1, d.before a0 Z = true) (Bd : BodyLoose p l x (head1 (Jvm.Cond.code x code maxLocals ret :: ws) room_1) code maxLocals ret e s m #[.int p0, .int p1, .int p2, .int p3, .int p4] below meth c s₁) (hx : p.tables.exec = Jvm.exec) (hby : c.code = code) (hml : c.maxLocals = 13) (hown : (s.setVm bvm).vm.findClass "com/example/corollary/corollary/EstimateMethodNamedPinLaw" = some m.cls) (hZ : Z.Warmed39 (s.setVm bvm).vm) (Xq : Stand p l e room_1 (s.setVm bvm) m #[.int p0, .int p1, .int p2, .int p3, .int p4] below meth c Tq Lq 3 56) (eq0 : Tq.heap = hq) (Nq : Fr n0 Lq) (Z0 : n0 ≤ h0.size) (Kq : Keep h0 hq []) (hSq : s.Since bvm nS) (hkq : nS ≤ hq.size) (CRq : CHr Z own_EL s.vm h0 bvm hq) (S_A : Sta Z h0 "com/example/corollary/corollary/EstimateMethod" "$VALUES" "[Lcom/example/corollary/corollary/EstimateMethod;" (.ref bA)) (V_A : Arv Z h0 bA kA (.object "com/example/corollary/corollary/EstimateMethod") (2 : Int32) [.ref m0, .ref m1] .null) (E_A : Exa Z h0 bA "[Lcom/example/corollary/corollary/EstimateMethod;") (S_cs : Sta Z h0 "java/lang/String" "COMPACT_STRINGS" "Z" (.int cs)) (E_m0 : Exa Z h0 m0 "com/example/corollary/corollary/EstimateMethod$1") (F_o0 : Fld Z h0 m0 "com/example/corollary/corollary/EstimateMethod" "optionName" "Ljava/lang/String;" (.ref s0)) (E_s0 : Exa Z h0 s0 "java/lang/String") (F_cs0 : Fld Z h0 s0 "java/lang/String" "coder" "B" (.int 0)) (F_vs0 : Fld Z h0 s0 "java/lang/String" "value" "[B" (.ref v0)) (V_v0 : Arv Z h0 v0 kv0 .byte (10 : Int32) [.int 115, .int 101, .int 113, .int 117, .int 101, .int 110, .int 116, .int 105, .int 97, .int 108] (.int 0)) (E_m1 : Exa Z h0 m1 "com/example/corollary/corollary/EstimateMethod$2") (F_o1 : Fld Z h0 m1 "com/example/corollary/corollary/EstimateMethod" "optionName" "Ljava/lang/String;" (.ref s1)) (E_s1 : Exa Z h0 s1 "java/lang/String") (F_cs1 : Fld Z h0 s1 "java/lang/String" "coder" "B" (.int 0)) (F_vs1 : Fld Z h0 s1 "java/lang/String" "value" "[B" (.ref v1)) (V_v1 : Arv Z h0 v1 kv1 .byte (9 : Int32) [.int 114, .int 101, .int 102, .int 101, .int 114, .int 101, .int 110, .int 99, .int 101] (.int 0)) (S_S : Sta Z h0 "com/example/corollary/corollary/EstimateMethod" "SEQUENTIAL" "Lcom/example/corollary/corollary/EstimateMethod;" (.ref m0)) (S_R : Sta Z h0 "com/example/corollary/corollary/EstimateMethod" "REFERENCE" "Lcom/example/corollary/corollary/EstimateMethod;" (.ref m1)) (S_f : Sta Z h0 "jdk/internal/util/Preconditions" "SIOOBE_FORMATTER" "Ljava/util/function/BiFunction;" fv) (l_y0 : ¬ y0 < (0 : Int32)) (u_y0 : ¬ (255 : Int32) < y0) (l_y1 : ¬ y1 < (0 : Int32)) (u_y1 : ¬ (255 : Int32) < y1) (l_y2 : ¬ y2 < (0 : Int32)) (u_y2 : ¬ (255 : Int32) < y2) (l_y3 : ¬ y3 < (0 : Int32)) (u_y3 : ¬ (255 : Int32) < y3) (l_y4 : ¬ y4 < (0 : Int32)) (u_y4 : ¬ (255 : Int32) < y4) (l_y5 : ¬ y5 < (0 : Int32)) (u_y5 : ¬ (255 : Int32) < y5) (l_y6 : ¬ y6 < (0 : Int32)) (u_y6 : ¬ (255 : Int32) < y6) (l_y7 : ¬ y7 < (0 : Int32)) (u_y7 : ¬ (255 : Int32) < y7) (l_y8 : ¬ y8 < (0 : Int32)) (u_y8 : ¬ (255 : Int32) < y8) (l_y9 : ¬ y9 < (0 : Int32)) (u_y9 : ¬ (255 : Int32) < y9) (l_y10 : ¬ y10 < (0 : Int32)) (u_y10 : ¬ (255 : Int32) < y10) (l_y11 : ¬ y11 < (0 : Int32)) (u_y11 : ¬ (255 : Int32) < y11) (tV_b5 : Arv Z hq b5 k5 .char (12 : Int32) [.int y0, .int y1, .int y2, .int y3, .int y4, .int y5, .int y6, .int y7, .int y8, .int y9, .int y10, .int y11] (.int 0)) (new_b5 : n0 ≤ b5) (sz_b5 : h0.size ≤ b5) (hcs : ¬ cs = (0 : Int32)) (hfv : fv.isRef = true) :
    ∃ s₂ o, Steps p.tables e below (Tq.setTop (mkF m 258 #[iv p0, iv p1, iv p2, iv p3, iv p4, rv bw, iv 10, iv vc, iv (if (p4 &&& (2 : Int32)) = (0 : Int32) then (0 : Int32) else (1 : Int32)), rv b5, iv 0, .unset, .unset] [])) s₂ ∧ s₂.status = .running ∧ Ended s₂ below o ∧ ∃ v L, o = .returned v ∧ own_Q0 n0 v s₂.heap L ∧ ReturnedEndW s o s₂ L room_1.cells room_1.slots := by
  refine own_go (b := Tq.setTop (mkF m 267 #[iv p0, iv p1, iv p2, iv p3, iv p4, rv bw, iv 10, iv vc, iv (if (p4 &&& (2 : Int32)) = (0 : Int32) then (0 : Int32) else (1 : Int32)), rv b5, iv 0, .unset, .unset] [.int 10, .ref b5])) (fun t k => xiload Xq hx hby rfl at_258 rfl (xifNo Xq hx hby rfl at_260 rfl ((if0 _ _).trans (teq ((by decide) : (0 : Int32) = (0 : Int32))).2) (xaload Xq hx hby rfl at_263 rfl rfl (xiload Xq hx hby rfl at_265 rfl k)))) ?_
  refine own_cs Xq hx hZ hown hml eq0 (wd hw 49 rfl) (wd hw 50 rfl) (wd hw 24 rfl) (wd hw 51 rfl) (own_rmTk_10 l Z a0 hw [] b5 k5 cs y0 y1 y2 y3 y4 y5 y6 y7 y8 y9 y10 y11 hq n0 (Nat.le_trans Z0 Kq.1) tV_b5 (own_staKeep0 S_cs Kq) hcs l_y0 u_y0 l_y1 u_y1 l_y2 u_y2 l_y3 u_y3 l_y4 u_y4 l_y5 u_y5 l_y6 u_y6 l_y7 u_y7 l_y8 u_y8 l_y9 u_y9 l_y10 u_y10 l_y11 u_y11) own_pd16 (hb hby at_267) 0 [] rfl ⟨rfl, rfl, rfl, rfl, rfl⟩ (by decide) ?_
  rintro T43 L43 v43 X43 hQ43
  obtain ⟨bs43, br43, kr43, rfl, N43q, K43q, B43_0, B43_1, B43_2, B43_3, B43_4⟩ := hQ43
  have V_b5_43 := tV_b5.keep K43q List.not_mem_nil
  have N43 := Fr.app Nq N43q
  have hk43 := Nat.le_trans hkq K43q.1
  have K43 := Kq.trans K43q (fun x hx => nomatch hx)
  have CR43 := CRq.trans (CHr.keep K43q (fun x hx => nomatch hx) CRq.1)
  have ne_b5_bs43 : b5 ≠ bs43 := Nat.ne_of_lt (Nat.lt_of_lt_of_le tV_b5.lt B43_4)
  have ne_bA_bs43 : bA ≠ bs43 := Nat.ne_of_lt (Nat.lt_of_lt_of_le (V_A.keep Kq nNl).lt B43_4)
  have ne_m0_bs43 : m0 ≠ bs43 := Nat.ne_of_lt (Nat.lt_of_lt_of_le (E_m0.keep Kq).lt B43_4)
  have ne_m1_bs43 : m1 ≠ bs43 := Nat.ne_of_lt (Nat.lt_of_lt_of_le (E_m1.keep Kq).lt B43_4)
  have ne_s0_bs43 : s0 ≠ bs43 := Nat.ne_of_lt (Nat.lt_of_lt_of_le (E_s0.keep Kq).lt B43_4)
  have ne_s1_bs43 : s1 ≠ bs43 := Nat.ne_of_lt (Nat.lt_of_lt_of_le (E_s1.keep Kq).lt B43_4)
  have ne_v0_bs43 : v0 ≠ bs43 := Nat.ne_of_lt (Nat.lt_of_lt_of_le (V_v0.keep Kq nNl).lt B43_4)
  have ne_v1_bs43 : v1 ≠ bs43 := Nat.ne_of_lt (Nat.lt_of_lt_of_le (V_v1.keep Kq nNl).lt B43_4)
  have Sf_bs43 := Safe.keep (EL := own_EL) K43q (fun x hx => nomatch hx) CRq.1 (Safe.new B43_4)
  refine own_go (b := T43.setTop (mkF m 365 #[iv p0, iv p1, iv p2, iv p3, iv p4, rv bw, iv 10, iv vc, iv (if (p4 &&& (2 : Int32)) = (0 : Int32) then (0 : Int32) else (1 : Int32)), rv b5, iv 0, rv bs43, .unset] [.ref bs43])) (fun t k => xastore X43 hx hby rfl at_270 rfl rfl (l' := #[iv p0, iv p1, iv p2, iv p3, iv p4, rv bw, iv 10, iv vc, iv (if (p4 &&& (2 : Int32)) = (0 : Int32) then (0 : Int32) else (1 : Int32)), rv b5, iv 0, rv bs43, .unset]) rfl (xgoto X43 hx hby rfl 272 352 rfl at_272 (by decide) (by decide) (xaload X43 hx hby rfl at_352 rfl rfl (XS.ifnonnullYes X43.here hx rfl (pc0 := 354) (pc' := 363) rfl (hb hby at_354) rfl (by decide) (by decide) (xaload X43 hx hby rfl at_363 rfl rfl k))))) ?_
  clear tV_b5 N43q K43q B43_4
  obtain ⟨sa44, T44, h44, kk44, sb44, kb44, X44, e44, E44, hS44, hk44_, hZ, hown, Ea44, Fc44, Fv44, Va44, la44, lb44, CRl44, hL44, hne44, st44⟩ := ldcCH (s := s) X43 hx hZ hown (wd hw 0 rfl) (own_atoms hw) rfl hSq hk43 (own_EW hw) (List.mem_of_getElem? (i := 0) rfl) CR43.1 (vs := [.int 115, .int 101, .int 113, .int 117, .int 101, .int 110, .int 116, .int 105, .int 97, .int 108]) (z := (10 : Int32)) (by decide +kernel) (by decide) (by decide +kernel) (g := (mkF m 365 #[iv p0, iv p1, iv p2, iv p3, iv p4, rv bw, iv 10, iv vc, iv (if (p4 &&& (2 : Int32)) = (0 : Int32) then (0 : Int32) else (1 : Int32)), rv b5, iv 0, rv bs43, .unset] [.ref bs43])) rfl (hb hby at_365) (n := 40) (by decide +kernel) (by decide) (by decide) (by decide)
  have Sfbs43_44 := CHr.safe CRl44 B43_0.lt Sf_bs43
  have V_b5_44 := V_b5_43.ext E44
  have E_bs43_44 := B43_0.ext E44
  have F_bs43_coder_44 := B43_1.ext E44
  have F_bs43_value_44 := B43_2.ext E44
  have V_br43_44 := B43_3.ext E44
  have hk44 := Nat.le_trans hk43 E44.1
  have K44 := K43.ext E44
  have CR44 := CR43.trans CRl44
  have hq45 : ¬ bs43 = sa44 := (hne44 _ Sfbs43_44).1
  refine own_go (b := T44.setTop (mkF m 367 #[iv p0, iv p1, iv p2, iv p3, iv p4, rv bw, iv 10, iv vc, iv (if (p4 &&& (2 : Int32)) = (0 : Int32) then (0 : Int32) else (1 : Int32)), rv b5, iv 0, rv bs43, .unset] [.ref sa44, .ref bs43])) (fun t k => st44 _ k) ?_
  clear X43 B43_0 B43_1 B43_2 B43_3 V_b5_43 hk43 K43 CR43 Sf_bs43 E44 la44 lb44 CRl44 st44 hk44
  refine own_cv X44 hx hZ hown hml e44 (wd hw 73 rfl) (wd hw 74 rfl) (wd hw 76 rfl) (wd hw 75 rfl) (wd hw 1 rfl) (wd hw 77 rfl) E_bs43_44 (own_rmEqA10 l Z a0 hw [] bs43 sa44 br43 sb44 kr43 kb44 (own_b y0) (own_b y1) (own_b y2) (own_b y3) (own_b y4) (own_b y5) (own_b y6) (own_b y7) (own_b y8) (own_b y9) cs h44 n0 (Nat.le_trans Z0 K44.1) E_bs43_44 F_bs43_coder_44 F_bs43_value_44 V_br43_44 Ea44 Fc44 Fv44 Va44 (own_staKeep0 S_cs K44) hcs hq45) own_pd14 (hb hby at_367) 0 [] rfl rfl ⟨rfl, rfl, rfl, rfl, rfl⟩ (by decide) ?_
  rintro T46 L46 v46 X46 hQ46
  obtain ⟨rfl, N46q, e46⟩ := hQ46
  have N46 := Fr.app N43 N46q
  refine own_go (b := T46.setTop (mkF m 370 #[iv p0, iv p1, iv p2, iv p3, iv p4, rv bw, iv 10, iv vc, iv (if (p4 &&& (2 : Int32)) = (0 : Int32) then (0 : Int32) else (1 : Int32)), rv b5, iv 0, rv bs43, .unset] [(.int (if (own_E10 (own_b y0) (own_b y1) (own_b y2) (own_b y3) (own_b y4) (own_b y5) (own_b y6) (own_b y7) (own_b y8) (own_b y9)) = (0 : Int32) then (0 : Int32) else (1 : Int32)))])) (fun t k => ?_) ?_
  · exact k
  clear N43 X44 e44 N46q
  by_cases hE : (own_E10 (own_b y0) (own_b y1) (own_b y2) (own_b y3) (own_b y4) (own_b y5) (own_b y6) (own_b y7) (own_b y8) (own_b y9)) = (0 : Int32)
  · refine own_go (b := T46.setTop (mkF m 383 #[iv p0, iv p1, iv p2, iv p3, iv p4, rv bw, iv 10, iv vc, iv (if (p4 &&& (2 : Int32)) = (0 : Int32) then (0 : Int32) else (1 : Int32)), rv b5, iv 0, rv bs43, .unset] [.ref bs43])) (fun t k => xifYes X46 hx hby rfl 370 381 rfl at_370 rfl ((if0 _ _).trans (teq (if_pos hE : (if (own_E10 (own_b y0) (own_b y1) (own_b y2) (own_b y3) (own_b y4) (own_b y5) (own_b y6) (own_b y7) (own_b y8) (own_b y9)) = (0 : Int32) then (0 : Int32) else (1 : Int32)) = (0 : Int32))).1) (by decide) (by decide) (xaload X46 hx hby rfl at_381 rfl rfl k)) ?_
    obtain ⟨sa47, T47, h47, kk47, sb47, kb47, X47, e47, E47, hS47, hk47_, hZ, hown, Ea47, Fc47, Fv47, Va47, la47, lb47, CRl47, hL47, hne47, st47⟩ := ldcCH (s := s) X46 hx hZ hown (wd hw 82 rfl) (own_atoms hw) e46 hS44 hk44_ (own_EW hw) (List.mem_of_getElem? (i := 1) rfl) CR44.1 (vs := [.int 114, .int 101, .int 102, .int 101, .int 114, .int 101, .int 110, .int 99, .int 101]) (z := (9 : Int32)) (by decide +kernel) (by decide) (by decide +kernel) (g := (mkF m 383 #[iv p0, iv p1, iv p2, iv p3, iv p4, rv bw, iv 10, iv vc, iv (if (p4 &&& (2 : Int32)) = (0 : Int32) then (0 : Int32) else (1 : Int32)), rv b5, iv 0, rv bs43, .unset] [.ref bs43])) rfl (hb hby at_383) (n := 36) (by decide +kernel) (by decide) (by decide) (by decide)
    have Sfbs43_47 := CHr.safe CRl47 E_bs43_44.lt Sfbs43_44
    have V_b5_47 := V_b5_44.ext E47
    have E_bs43_47 := E_bs43_44.ext E47
    have F_bs43_coder_47 := F_bs43_coder_44.ext E47
    have F_bs43_value_47 := F_bs43_value_44.ext E47
    have V_br43_47 := V_br43_44.ext E47
    have E_sa44_47 := Ea44.ext E47
    have F_sa44_coder_47 := Fc44.ext E47
    have F_sa44_value_47 := Fv44.ext E47
    have V_sb44_47 := Va44.ext E47
    have hk47 := Nat.le_trans hk44_ E47.1
    have K47 := K44.ext E47
    have CR47 := CR44.trans CRl47
    have hq48 := own_neStr F_bs43_value_47 Fv47 V_br43_47 Va47 (by decide)
    refine own_go (b := T47.setTop (mkF m 385 #[iv p0, iv p1, iv p2, iv p3, iv p4, rv bw, iv 10, iv vc, iv (if (p4 &&& (2 : Int32)) = (0 : Int32) then (0 : Int32) else (1 : Int32)), rv b5, iv 0, rv bs43, .unset] [.ref sa47, .ref bs43])) (fun t k => st47 _ k) ?_
    clear hS44 hk44_ Ea44 Fc44 Fv44 Va44 Sfbs43_44 V_b5_44 E_bs43_44 F_bs43_coder_44 F_bs43_value_44 V_br43_44 K44 CR44 X46 e46 E47 la47 lb47 CRl47 st47 hk47
    refine own_cv X47 hx hZ hown hml e47 (wd hw 73 rfl) (wd hw 74 rfl) (wd hw 76 rfl) (wd hw 75 rfl) (wd hw 1 rfl) (wd hw 77 rfl) E_bs43_47 (own_rmEqD l Z a0 hw [] bs43 sa47 br43 sb47 kr43 kb47 (10 : Int32) (9 : Int32) [(.int (own_b y0)), (.int (own_b y1)), (.int (own_b y2)), (.int (own_b y3)), (.int (own_b y4)), (.int (own_b y5)), (.int (own_b y6)), (.int (own_b y7)), (.int (own_b y8)), (.int (own_b y9))] [.int 114, .int 101, .int 102, .int 101, .int 114, .int 101, .int 110, .int 99, .int 101] cs h47 n0 (Nat.le_trans Z0 K47.1) E_bs43_47 F_bs43_coder_47 F_bs43_value_47 V_br43_47 Ea47 Fc47 Fv47 Va47 (by decide) (own_staKeep0 S_cs K47) hcs hq48) own_pd14 (hb hby at_385) 0 [] rfl rfl ⟨rfl, rfl, rfl, rfl, rfl⟩ (by decide) ?_
    rintro T49 L49 v49 X49 hQ49
    obtain ⟨rfl, N49q, e49⟩ := hQ49
    have N49 := Fr.app N46 N49q
    refine own_go (b := T49.setTop (mkF m 404 #[iv p0, iv p1, iv p2, iv p3, iv p4, rv bw, iv 10, iv vc, iv (if (p4 &&& (2 : Int32)) = (0 : Int32) then (0 : Int32) else (1 : Int32)), rv b5, iv 0, rv bs43, .val .null] [.ref bs43])) (fun t k => xifYes X49 hx hby rfl 388 399 rfl at_388 rfl ((if0 _ _).trans (teq ((by decide) : (0 : Int32) = (0 : Int32))).1) (by decide) (by decide) (xaconstNull X49 hx hby rfl at_399 (xastore X49 hx hby rfl at_400 rfl rfl (l' := #[iv p0, iv p1, iv p2, iv p3, iv p4, rv bw, iv 10, iv vc, iv (if (p4 &&& (2 : Int32)) = (0 : Int32) then (0 : Int32) else (1 : Int32)), rv b5, iv 0, rv bs43, .val .null]) rfl (xaload X49 hx hby rfl at_402 rfl rfl k)))) ?_
    clear N46 X47 e47 N49q
    refine own_cs X49 hx hZ hown hml e49 (wd hw 83 rfl) (wd hw 84 rfl) (wd hw 85 rfl) (wd hw 86 rfl) (own_rmNm10z l Z a0 hw [] bs43 bA m0 m1 s0 s1 v0 v1 kA kv0 kv1 cs br43 kr43 (own_b y0) (own_b y1) (own_b y2) (own_b y3) (own_b y4) (own_b y5) (own_b y6) (own_b y7) (own_b y8) (own_b y9) h47 n0 (Nat.le_trans Z0 K47.1) (own_staKeep0 S_A K47) (V_A.keep K47 nNl) (E_A.keep K47) (E_m0.keep K47) (F_o0.keep K47 nNl) (E_s0.keep K47) (F_cs0.keep K47 nNl) (F_vs0.keep K47 nNl) (V_v0.keep K47 nNl) (E_m1.keep K47) (F_o1.keep K47 nNl) (E_s1.keep K47) (F_cs1.keep K47 nNl) (F_vs1.keep K47 nNl) (V_v1.keep K47 nNl) (own_staKeep0 S_cs K47) hcs E_bs43_47 F_bs43_coder_47 F_bs43_value_47 V_br43_47 ne_s0_bs43 ne_s1_bs43 hE) own_pd17 (hb hby at_404) 0 [] rfl ⟨rfl, rfl, rfl, rfl, rfl⟩ (by decide) ?_
    rintro T50 L50 v50 X50 hQ50
    obtain ⟨rfl, N50q, K50q⟩ := hQ50
    have V_b5_50 := V_b5_47.keep K50q List.not_mem_nil
    have E_bs43_50 := E_bs43_47.keep K50q
    have F_bs43_coder_50 := F_bs43_coder_47.keep K50q List.not_mem_nil
    have F_bs43_value_50 := F_bs43_value_47.keep K50q List.not_mem_nil
    have V_br43_50 := V_br43_47.keep K50q List.not_mem_nil
    have E_sa44_50 := E_sa44_47.keep K50q
    have F_sa44_coder_50 := F_sa44_coder_47.keep K50q List.not_mem_nil
    have F_sa44_value_50 := F_sa44_value_47.keep K50q List.not_mem_nil
    have V_sb44_50 := V_sb44_47.keep K50q List.not_mem_nil
    have E_sa47_50 := Ea47.keep K50q
    have F_sa47_coder_50 := Fc47.keep K50q List.not_mem_nil
    have F_sa47_value_50 := Fv47.keep K50q List.not_mem_nil
    have V_sb47_50 := Va47.keep K50q List.not_mem_nil
    have N50 := Fr.app N49 N50q
    have hk50 := Nat.le_trans hk47_ K50q.1
    have K50 := K47.trans K50q (fun x hx => nomatch hx)
    have CR50 := CR47.trans (CHr.keep K50q (fun x hx => nomatch hx) CR47.1)
    obtain ⟨fs, hr, hrun, hended, hRE⟩ := Jvm.Stand.leaveW (s := s) X50 hS47 (by show _ ≤ T50.heap.size; exact hk50) (v := some (.int 1)) (fun h => by rw [Bd.returns] at h; cases h)
    refine ⟨_, _, ?_, hrun, hended, _, _, rfl, ?_, hRE.1, hRE.2.1, hRE.2.2.1, hRE.2.2.2.mono (by decide) (by decide)⟩
    · refine xaload X50 hx hby rfl at_407 rfl rfl (Jvm.RoadKit.acmp (g := (mkF m 409 #[iv p0, iv p1, iv p2, iv p3, iv p4, rv bw, iv 10, iv vc, iv (if (p4 &&& (2 : Int32)) = (0 : Int32) then (0 : Int32) else (1 : Int32)), rv b5, iv 0, rv bs43, .val .null] [.null, .null])) X50 hx rfl rfl rfl (pc0 := 409) (pc' := 412) (same := true) rfl (hb hby at_409) rfl (decide_eq_true rfl) (by decide) (by decide) (xiconst X50 hx hby rfl at_412 (xgoto X50 hx hby rfl 413 417 rfl at_413 (by decide) (by decide) (retN X50 hx (t := .boolean) Bd.returns (by simp) (hb hby at_417) hr))))
    · show own_Q0 n0 _ T50.heap _
      exact ⟨rfl, N50⟩
  · obtain ⟨T51, X51, e51, st51⟩ := getS2 X46 hx hZ hown (host := "") (Or.inl (wd hw 109 rfl)) Via.refl e46 (own_staKeep0 S_S K44) (g := (mkF m 373 #[iv p0, iv p1, iv p2, iv p3, iv p4, rv bw, iv 10, iv vc, iv (if (p4 &&& (2 : Int32)) = (0 : Int32) then (0 : Int32) else (1 : Int32)), rv b5, iv 0, rv bs43, .unset] [])) rfl (hb hby at_373)
    refine own_go (b := T51.setTop (mkF m 404 #[iv p0, iv p1, iv p2, iv p3, iv p4, rv bw, iv 10, iv vc, iv (if (p4 &&& (2 : Int32)) = (0 : Int32) then (0 : Int32) else (1 : Int32)), rv b5, iv 0, rv bs43, rv m0] [.ref bs43])) (fun t k => xifNo X46 hx hby rfl at_370 rfl ((if0 _ _).trans (feq ((by rw [if_neg hE]; decide) : ¬ ((if (own_E10 (own_b y0) (own_b y1) (own_b y2) (own_b y3) (own_b y4) (own_b y5) (own_b y6) (own_b y7) (own_b y8) (own_b y9)) = (0 : Int32) then (0 : Int32) else (1 : Int32)) = (0 : Int32)))).1) (st51 _ (xastore X51 hx hby rfl at_376 rfl rfl (l' := #[iv p0, iv p1, iv p2, iv p3, iv p4, rv bw, iv 10, iv vc, iv (if (p4 &&& (2 : Int32)) = (0 : Int32) then (0 : Int32) else (1 : Int32)), rv b5, iv 0, rv bs43, rv m0]) rfl (xgoto X51 hx hby rfl 378 402 rfl at_378 (by decide) (by decide) (xaload X51 hx hby rfl at_402 rfl rfl k))))) ?_
    clear X46 e46 st51
    refine own_cs X51 hx hZ hown hml e51 (wd hw 83 rfl) (wd hw 84 rfl) (wd hw 85 rfl) (wd hw 86 rfl) (own_rmNm10n l Z a0 hw [] bs43 bA m0 m1 s0 s1 v0 v1 kA kv0 kv1 cs br43 kr43 (own_b y0) (own_b y1) (own_b y2) (own_b y3) (own_b y4) (own_b y5) (own_b y6) (own_b y7) (own_b y8) (own_b y9) h44 n0 (Nat.le_trans Z0 K44.1) (own_staKeep0 S_A K44) (V_A.keep K44 nNl) (E_A.keep K44) (E_m0.keep K44) (F_o0.keep K44 nNl) (E_s0.keep K44) (F_cs0.keep K44 nNl) (F_vs0.keep K44 nNl) (V_v0.keep K44 nNl) (E_m1.keep K44) (F_o1.keep K44 nNl) (E_s1.keep K44) (F_cs1.keep K44 nNl) (F_vs1.keep K44 nNl) (V_v1.keep K44 nNl) (own_staKeep0 S_cs K44) hcs E_bs43_44 F_bs43_coder_44 F_bs43_value_44 V_br43_44 ne_s0_bs43 ne_s1_bs43 hE) own_pd17 (hb hby at_404) 0 [] rfl ⟨rfl, rfl, rfl, rfl, rfl⟩ (by decide) ?_
    rintro T52 L52 v52 X52 hQ52
    obtain ⟨rfl, N52q, K52q⟩ := hQ52
    have V_b5_52 := V_b5_44.keep K52q List.not_mem_nil
    have E_bs43_52 := E_bs43_44.keep K52q
    have F_bs43_coder_52 := F_bs43_coder_44.keep K52q List.not_mem_nil
    have F_bs43_value_52 := F_bs43_value_44.keep K52q List.not_mem_nil
    have V_br43_52 := V_br43_44.keep K52q List.not_mem_nil
    have E_sa44_52 := Ea44.keep K52q
    have F_sa44_coder_52 := Fc44.keep K52q List.not_mem_nil
    have F_sa44_value_52 := Fv44.keep K52q List.not_mem_nil
    have V_sb44_52 := Va44.keep K52q List.not_mem_nil
    have N52 := Fr.app N46 N52q
    have hk52 := Nat.le_trans hk44_ K52q.1
    have K52 := K44.trans K52q (fun x hx => nomatch hx)
    have CR52 := CR44.trans (CHr.keep K52q (fun x hx => nomatch hx) CR44.1)
    obtain ⟨fs, hr, hrun, hended, hRE⟩ := Jvm.Stand.leaveW (s := s) X52 hS44 (by show _ ≤ T52.heap.size; exact hk52) (v := some (.int 1)) (fun h => by rw [Bd.returns] at h; cases h)
    refine ⟨_, _, ?_, hrun, hended, _, _, rfl, ?_, hRE.1, hRE.2.1, hRE.2.2.1, hRE.2.2.2.mono (by decide) (by decide)⟩
    · refine xaload X52 hx hby rfl at_407 rfl rfl (Jvm.RoadKit.acmp (g := (mkF m 409 #[iv p0, iv p1, iv p2, iv p3, iv p4, rv bw, iv 10, iv vc, iv (if (p4 &&& (2 : Int32)) = (0 : Int32) then (0 : Int32) else (1 : Int32)), rv b5, iv 0, rv bs43, rv m0] [.ref m0, .ref m0])) X52 hx rfl rfl rfl (pc0 := 409) (pc' := 412) (same := true) rfl (hb hby at_409) rfl (decide_eq_true rfl) (by decide) (by decide) (xiconst X52 hx hby rfl at_412 (xgoto X52 hx hby rfl 413 417 rfl at_413 (by decide) (by decide) (retN X52 hx (t := .boolean) Bd.returns (by simp) (hb hby at_417) hr))))
    · show own_Q0 n0 _ T52.heap _
      exact ⟨rfl, N52⟩
set_option maxRecDepth 65536 in
set_option maxHeartbeats 40000000 in
theorem own_tD9_0 {p : Program} {l : Launch} {e : Env} {Z s s₁ Tq : State} {m : MethodId} {below : List Frame} {meth : Method} {c : Code} {a0 : Array Value} {ws : List Jvm.Cond} {n0 nS : Nat} {h0 hq : Heap} {Lq : List Loc} {bvm : Vm} {b5 bA m0 m1 s0 s1 v0 v1 : Addr} {k5 kA kv0 kv1 : ClassId} {p0 p1 p2 p3 p4 : Int32} {cs vc y0 y1 y10 y11 y2 y3 y4 y5 y6 y7 y8 y9 : Int32} {bw : Addr} {fv : Value} (hw : ∀ d ∈ tables_1, d.before a0 Z = true) (Bd : BodyLoose p l x (head1 (Jvm.Cond.code x code maxLocals ret :: ws) room_1) code maxLocals ret e s m #[.int p0, .int p1, .int p2, .int p3, .int p4] below meth c s₁) (hx : p.tables.exec = Jvm.exec) (hby : c.code = code) (hml : c.maxLocals = 13) (hown : (s.setVm bvm).vm.findClass "com/example/corollary/corollary/EstimateMethodNamedPinLaw" = some m.cls) (hZ : Z.Warmed39 (s.setVm bvm).vm) (Xq : Stand p l e room_1 (s.setVm bvm) m #[.int p0, .int p1, .int p2, .int p3, .int p4] below meth c Tq Lq 3 56) (eq0 : Tq.heap = hq) (Nq : Fr n0 Lq) (Z0 : n0 ≤ h0.size) (Kq : Keep h0 hq []) (hSq : s.Since bvm nS) (hkq : nS ≤ hq.size) (CRq : CHr Z own_EL s.vm h0 bvm hq) (S_A : Sta Z h0 "com/example/corollary/corollary/EstimateMethod" "$VALUES" "[Lcom/example/corollary/corollary/EstimateMethod;" (.ref bA)) (V_A : Arv Z h0 bA kA (.object "com/example/corollary/corollary/EstimateMethod") (2 : Int32) [.ref m0, .ref m1] .null) (E_A : Exa Z h0 bA "[Lcom/example/corollary/corollary/EstimateMethod;") (S_cs : Sta Z h0 "java/lang/String" "COMPACT_STRINGS" "Z" (.int cs)) (E_m0 : Exa Z h0 m0 "com/example/corollary/corollary/EstimateMethod$1") (F_o0 : Fld Z h0 m0 "com/example/corollary/corollary/EstimateMethod" "optionName" "Ljava/lang/String;" (.ref s0)) (E_s0 : Exa Z h0 s0 "java/lang/String") (F_cs0 : Fld Z h0 s0 "java/lang/String" "coder" "B" (.int 0)) (F_vs0 : Fld Z h0 s0 "java/lang/String" "value" "[B" (.ref v0)) (V_v0 : Arv Z h0 v0 kv0 .byte (10 : Int32) [.int 115, .int 101, .int 113, .int 117, .int 101, .int 110, .int 116, .int 105, .int 97, .int 108] (.int 0)) (E_m1 : Exa Z h0 m1 "com/example/corollary/corollary/EstimateMethod$2") (F_o1 : Fld Z h0 m1 "com/example/corollary/corollary/EstimateMethod" "optionName" "Ljava/lang/String;" (.ref s1)) (E_s1 : Exa Z h0 s1 "java/lang/String") (F_cs1 : Fld Z h0 s1 "java/lang/String" "coder" "B" (.int 0)) (F_vs1 : Fld Z h0 s1 "java/lang/String" "value" "[B" (.ref v1)) (V_v1 : Arv Z h0 v1 kv1 .byte (9 : Int32) [.int 114, .int 101, .int 102, .int 101, .int 114, .int 101, .int 110, .int 99, .int 101] (.int 0)) (S_S : Sta Z h0 "com/example/corollary/corollary/EstimateMethod" "SEQUENTIAL" "Lcom/example/corollary/corollary/EstimateMethod;" (.ref m0)) (S_R : Sta Z h0 "com/example/corollary/corollary/EstimateMethod" "REFERENCE" "Lcom/example/corollary/corollary/EstimateMethod;" (.ref m1)) (S_f : Sta Z h0 "jdk/internal/util/Preconditions" "SIOOBE_FORMATTER" "Ljava/util/function/BiFunction;" fv) (l_y0 : ¬ y0 < (0 : Int32)) (u_y0 : ¬ (255 : Int32) < y0) (l_y1 : ¬ y1 < (0 : Int32)) (u_y1 : ¬ (255 : Int32) < y1) (l_y2 : ¬ y2 < (0 : Int32)) (u_y2 : ¬ (255 : Int32) < y2) (l_y3 : ¬ y3 < (0 : Int32)) (u_y3 : ¬ (255 : Int32) < y3) (l_y4 : ¬ y4 < (0 : Int32)) (u_y4 : ¬ (255 : Int32) < y4) (l_y5 : ¬ y5 < (0 : Int32)) (u_y5 : ¬ (255 : Int32) < y5) (l_y6 : ¬ y6 < (0 : Int32)) (u_y6 : ¬ (255 : Int32) < y6) (l_y7 : ¬ y7 < (0 : Int32)) (u_y7 : ¬ (255 : Int32) < y7) (l_y8 : ¬ y8 < (0 : Int32)) (u_y8 : ¬ (255 : Int32) < y8) (l_y9 : ¬ y9 < (0 : Int32)) (u_y9 : ¬ (255 : Int32) < y9) (l_y10 : ¬ y10 < (0 : Int32)) (u_y10 : ¬ (255 : Int32) < y10) (l_y11 : ¬ y11 < (0 : Int32)) (u_y11 : ¬ (255 : Int32) < y11) (tV_b5 : Arv Z hq b5 k5 .char (12 : Int32) [.int y0, .int y1, .int y2, .int y3, .int y4, .int y5, .int y6, .int y7, .int y8, .int y9, .int y10, .int y11] (.int 0)) (new_b5 : n0 ≤ b5) (sz_b5 : h0.size ≤ b5) (hcs : ¬ cs = (0 : Int32)) (hfv : fv.isRef = true) :
    ∃ s₂ o, Steps p.tables e below (Tq.setTop (mkF m 258 #[iv p0, iv p1, iv p2, iv p3, iv p4, rv bw, iv 9, iv vc, iv (if (p4 &&& (2 : Int32)) = (0 : Int32) then (0 : Int32) else (1 : Int32)), rv b5, iv 0, .unset, .unset] [])) s₂ ∧ s₂.status = .running ∧ Ended s₂ below o ∧ ∃ v L, o = .returned v ∧ own_Q0 n0 v s₂.heap L ∧ ReturnedEndW s o s₂ L room_1.cells room_1.slots := by
  refine own_go (b := Tq.setTop (mkF m 267 #[iv p0, iv p1, iv p2, iv p3, iv p4, rv bw, iv 9, iv vc, iv (if (p4 &&& (2 : Int32)) = (0 : Int32) then (0 : Int32) else (1 : Int32)), rv b5, iv 0, .unset, .unset] [.int 9, .ref b5])) (fun t k => xiload Xq hx hby rfl at_258 rfl (xifNo Xq hx hby rfl at_260 rfl ((if0 _ _).trans (teq ((by decide) : (0 : Int32) = (0 : Int32))).2) (xaload Xq hx hby rfl at_263 rfl rfl (xiload Xq hx hby rfl at_265 rfl k)))) ?_
  refine own_cs Xq hx hZ hown hml eq0 (wd hw 49 rfl) (wd hw 50 rfl) (wd hw 24 rfl) (wd hw 51 rfl) (own_rmTk_9 l Z a0 hw [] b5 k5 cs y0 y1 y2 y3 y4 y5 y6 y7 y8 y9 y10 y11 hq n0 (Nat.le_trans Z0 Kq.1) tV_b5 (own_staKeep0 S_cs Kq) hcs l_y0 u_y0 l_y1 u_y1 l_y2 u_y2 l_y3 u_y3 l_y4 u_y4 l_y5 u_y5 l_y6 u_y6 l_y7 u_y7 l_y8 u_y8 l_y9 u_y9 l_y10 u_y10 l_y11 u_y11) own_pd16 (hb hby at_267) 0 [] rfl ⟨rfl, rfl, rfl, rfl, rfl⟩ (by decide) ?_
  rintro T53 L53 v53 X53 hQ53
  obtain ⟨bs53, br53, kr53, rfl, N53q, K53q, B53_0, B53_1, B53_2, B53_3, B53_4⟩ := hQ53
  have V_b5_53 := tV_b5.keep K53q List.not_mem_nil
  have N53 := Fr.app Nq N53q
  have hk53 := Nat.le_trans hkq K53q.1
  have K53 := Kq.trans K53q (fun x hx => nomatch hx)
  have CR53 := CRq.trans (CHr.keep K53q (fun x hx => nomatch hx) CRq.1)
  have ne_b5_bs53 : b5 ≠ bs53 := Nat.ne_of_lt (Nat.lt_of_lt_of_le tV_b5.lt B53_4)
  have ne_bA_bs53 : bA ≠ bs53 := Nat.ne_of_lt (Nat.lt_of_lt_of_le (V_A.keep Kq nNl).lt B53_4)
  have ne_m0_bs53 : m0 ≠ bs53 := Nat.ne_of_lt (Nat.lt_of_lt_of_le (E_m0.keep Kq).lt B53_4)
  have ne_m1_bs53 : m1 ≠ bs53 := Nat.ne_of_lt (Nat.lt_of_lt_of_le (E_m1.keep Kq).lt B53_4)
  have ne_s0_bs53 : s0 ≠ bs53 := Nat.ne_of_lt (Nat.lt_of_lt_of_le (E_s0.keep Kq).lt B53_4)
  have ne_s1_bs53 : s1 ≠ bs53 := Nat.ne_of_lt (Nat.lt_of_lt_of_le (E_s1.keep Kq).lt B53_4)
  have ne_v0_bs53 : v0 ≠ bs53 := Nat.ne_of_lt (Nat.lt_of_lt_of_le (V_v0.keep Kq nNl).lt B53_4)
  have ne_v1_bs53 : v1 ≠ bs53 := Nat.ne_of_lt (Nat.lt_of_lt_of_le (V_v1.keep Kq nNl).lt B53_4)
  have Sf_bs53 := Safe.keep (EL := own_EL) K53q (fun x hx => nomatch hx) CRq.1 (Safe.new B53_4)
  refine own_go (b := T53.setTop (mkF m 365 #[iv p0, iv p1, iv p2, iv p3, iv p4, rv bw, iv 9, iv vc, iv (if (p4 &&& (2 : Int32)) = (0 : Int32) then (0 : Int32) else (1 : Int32)), rv b5, iv 0, rv bs53, .unset] [.ref bs53])) (fun t k => xastore X53 hx hby rfl at_270 rfl rfl (l' := #[iv p0, iv p1, iv p2, iv p3, iv p4, rv bw, iv 9, iv vc, iv (if (p4 &&& (2 : Int32)) = (0 : Int32) then (0 : Int32) else (1 : Int32)), rv b5, iv 0, rv bs53, .unset]) rfl (xgoto X53 hx hby rfl 272 352 rfl at_272 (by decide) (by decide) (xaload X53 hx hby rfl at_352 rfl rfl (XS.ifnonnullYes X53.here hx rfl (pc0 := 354) (pc' := 363) rfl (hb hby at_354) rfl (by decide) (by decide) (xaload X53 hx hby rfl at_363 rfl rfl k))))) ?_
  clear tV_b5 N53q K53q B53_4
  obtain ⟨sa54, T54, h54, kk54, sb54, kb54, X54, e54, E54, hS54, hk54_, hZ, hown, Ea54, Fc54, Fv54, Va54, la54, lb54, CRl54, hL54, hne54, st54⟩ := ldcCH (s := s) X53 hx hZ hown (wd hw 0 rfl) (own_atoms hw) rfl hSq hk53 (own_EW hw) (List.mem_of_getElem? (i := 0) rfl) CR53.1 (vs := [.int 115, .int 101, .int 113, .int 117, .int 101, .int 110, .int 116, .int 105, .int 97, .int 108]) (z := (10 : Int32)) (by decide +kernel) (by decide) (by decide +kernel) (g := (mkF m 365 #[iv p0, iv p1, iv p2, iv p3, iv p4, rv bw, iv 9, iv vc, iv (if (p4 &&& (2 : Int32)) = (0 : Int32) then (0 : Int32) else (1 : Int32)), rv b5, iv 0, rv bs53, .unset] [.ref bs53])) rfl (hb hby at_365) (n := 40) (by decide +kernel) (by decide) (by decide) (by decide)
  have Sfbs53_54 := CHr.safe CRl54 B53_0.lt Sf_bs53
  have V_b5_54 := V_b5_53.ext E54
  have E_bs53_54 := B53_0.ext E54
  have F_bs53_coder_54 := B53_1.ext E54
  have F_bs53_value_54 := B53_2.ext E54
  have V_br53_54 := B53_3.ext E54
  have hk54 := Nat.le_trans hk53 E54.1
  have K54 := K53.ext E54
  have CR54 := CR53.trans CRl54
  have hq55 := own_neStr F_bs53_value_54 Fv54 V_br53_54 Va54 (by decide)
  refine own_go (b := T54.setTop (mkF m 367 #[iv p0, iv p1, iv p2, iv p3, iv p4, rv bw, iv 9, iv vc, iv (if (p4 &&& (2 : Int32)) = (0 : Int32) then (0 : Int32) else (1 : Int32)), rv b5, iv 0, rv bs53, .unset] [.ref sa54, .ref bs53])) (fun t k => st54 _ k) ?_
  clear X53 B53_0 B53_1 B53_2 B53_3 V_b5_53 hk53 K53 CR53 Sf_bs53 E54 la54 lb54 CRl54 st54 hk54
  refine own_cv X54 hx hZ hown hml e54 (wd hw 73 rfl) (wd hw 74 rfl) (wd hw 76 rfl) (wd hw 75 rfl) (wd hw 1 rfl) (wd hw 77 rfl) E_bs53_54 (own_rmEqD l Z a0 hw [] bs53 sa54 br53 sb54 kr53 kb54 (9 : Int32) (10 : Int32) [(.int (own_b y0)), (.int (own_b y1)), (.int (own_b y2)), (.int (own_b y3)), (.int (own_b y4)), (.int (own_b y5)), (.int (own_b y6)), (.int (own_b y7)), (.int (own_b y8))] [.int 115, .int 101, .int 113, .int 117, .int 101, .int 110, .int 116, .int 105, .int 97, .int 108] cs h54 n0 (Nat.le_trans Z0 K54.1) E_bs53_54 F_bs53_coder_54 F_bs53_value_54 V_br53_54 Ea54 Fc54 Fv54 Va54 (by decide) (own_staKeep0 S_cs K54) hcs hq55) own_pd14 (hb hby at_367) 0 [] rfl rfl ⟨rfl, rfl, rfl, rfl, rfl⟩ (by decide) ?_
  rintro T56 L56 v56 X56 hQ56
  obtain ⟨rfl, N56q, e56⟩ := hQ56
  have N56 := Fr.app N53 N56q
  refine own_go (b := T56.setTop (mkF m 383 #[iv p0, iv p1, iv p2, iv p3, iv p4, rv bw, iv 9, iv vc, iv (if (p4 &&& (2 : Int32)) = (0 : Int32) then (0 : Int32) else (1 : Int32)), rv b5, iv 0, rv bs53, .unset] [.ref bs53])) (fun t k => xifYes X56 hx hby rfl 370 381 rfl at_370 rfl ((if0 _ _).trans (teq ((by decide) : (0 : Int32) = (0 : Int32))).1) (by decide) (by decide) (xaload X56 hx hby rfl at_381 rfl rfl k)) ?_
  clear N53 X54 e54 N56q
  obtain ⟨sa57, T57, h57, kk57, sb57, kb57, X57, e57, E57, hS57, hk57_, hZ, hown, Ea57, Fc57, Fv57, Va57, la57, lb57, CRl57, hL57, hne57, st57⟩ := ldcCH (s := s) X56 hx hZ hown (wd hw 82 rfl) (own_atoms hw) e56 hS54 hk54_ (own_EW hw) (List.mem_of_getElem? (i := 1) rfl) CR54.1 (vs := [.int 114, .int 101, .int 102, .int 101, .int 114, .int 101, .int 110, .int 99, .int 101]) (z := (9 : Int32)) (by decide +kernel) (by decide) (by decide +kernel) (g := (mkF m 383 #[iv p0, iv p1, iv p2, iv p3, iv p4, rv bw, iv 9, iv vc, iv (if (p4 &&& (2 : Int32)) = (0 : Int32) then (0 : Int32) else (1 : Int32)), rv b5, iv 0, rv bs53, .unset] [.ref bs53])) rfl (hb hby at_383) (n := 36) (by decide +kernel) (by decide) (by decide) (by decide)
  have Sfbs53_57 := CHr.safe CRl57 E_bs53_54.lt Sfbs53_54
  have V_b5_57 := V_b5_54.ext E57
  have E_bs53_57 := E_bs53_54.ext E57
  have F_bs53_coder_57 := F_bs53_coder_54.ext E57
  have F_bs53_value_57 := F_bs53_value_54.ext E57
  have V_br53_57 := V_br53_54.ext E57
  have E_sa54_57 := Ea54.ext E57
  have F_sa54_coder_57 := Fc54.ext E57
  have F_sa54_value_57 := Fv54.ext E57
  have V_sb54_57 := Va54.ext E57
  have hk57 := Nat.le_trans hk54_ E57.1
  have K57 := K54.ext E57
  have CR57 := CR54.trans CRl57
  have hq58 : ¬ bs53 = sa57 := (hne57 _ Sfbs53_57).1
  refine own_go (b := T57.setTop (mkF m 385 #[iv p0, iv p1, iv p2, iv p3, iv p4, rv bw, iv 9, iv vc, iv (if (p4 &&& (2 : Int32)) = (0 : Int32) then (0 : Int32) else (1 : Int32)), rv b5, iv 0, rv bs53, .unset] [.ref sa57, .ref bs53])) (fun t k => st57 _ k) ?_
  clear hS54 hk54_ Ea54 Fc54 Fv54 Va54 Sfbs53_54 V_b5_54 E_bs53_54 F_bs53_coder_54 F_bs53_value_54 V_br53_54 K54 CR54 X56 e56 E57 la57 lb57 CRl57 st57 hk57
  refine own_cv X57 hx hZ hown hml e57 (wd hw 73 rfl) (wd hw 74 rfl) (wd hw 76 rfl) (wd hw 75 rfl) (wd hw 1 rfl) (wd hw 77 rfl) E_bs53_57 (own_rmEqA9 l Z a0 hw [] bs53 sa57 br53 sb57 kr53 kb57 (own_b y0) (own_b y1) (own_b y2) (own_b y3) (own_b y4) (own_b y5) (own_b y6) (own_b y7) (own_b y8) cs h57 n0 (Nat.le_trans Z0 K57.1) E_bs53_57 F_bs53_coder_57 F_bs53_value_57 V_br53_57 Ea57 Fc57 Fv57 Va57 (own_staKeep0 S_cs K57) hcs hq58) own_pd14 (hb hby at_385) 0 [] rfl rfl ⟨rfl, rfl, rfl, rfl, rfl⟩ (by decide) ?_
  rintro T59 L59 v59 X59 hQ59
  obtain ⟨rfl, N59q, e59⟩ := hQ59
  have N59 := Fr.app N56 N59q
  refine own_go (b := T59.setTop (mkF m 388 #[iv p0, iv p1, iv p2, iv p3, iv p4, rv bw, iv 9, iv vc, iv (if (p4 &&& (2 : Int32)) = (0 : Int32) then (0 : Int32) else (1 : Int32)), rv b5, iv 0, rv bs53, .unset] [(.int (if (own_E9 (own_b y0) (own_b y1) (own_b y2) (own_b y3) (own_b y4) (own_b y5) (own_b y6) (own_b y7) (own_b y8)) = (0 : Int32) then (0 : Int32) else (1 : Int32)))])) (fun t k => ?_) ?_
  · exact k
  clear N56 X57 e57 N59q
  by_cases hE : (own_E9 (own_b y0) (own_b y1) (own_b y2) (own_b y3) (own_b y4) (own_b y5) (own_b y6) (own_b y7) (own_b y8)) = (0 : Int32)
  · refine own_go (b := T59.setTop (mkF m 404 #[iv p0, iv p1, iv p2, iv p3, iv p4, rv bw, iv 9, iv vc, iv (if (p4 &&& (2 : Int32)) = (0 : Int32) then (0 : Int32) else (1 : Int32)), rv b5, iv 0, rv bs53, .val .null] [.ref bs53])) (fun t k => xifYes X59 hx hby rfl 388 399 rfl at_388 rfl ((if0 _ _).trans (teq (if_pos hE : (if (own_E9 (own_b y0) (own_b y1) (own_b y2) (own_b y3) (own_b y4) (own_b y5) (own_b y6) (own_b y7) (own_b y8)) = (0 : Int32) then (0 : Int32) else (1 : Int32)) = (0 : Int32))).1) (by decide) (by decide) (xaconstNull X59 hx hby rfl at_399 (xastore X59 hx hby rfl at_400 rfl rfl (l' := #[iv p0, iv p1, iv p2, iv p3, iv p4, rv bw, iv 9, iv vc, iv (if (p4 &&& (2 : Int32)) = (0 : Int32) then (0 : Int32) else (1 : Int32)), rv b5, iv 0, rv bs53, .val .null]) rfl (xaload X59 hx hby rfl at_402 rfl rfl k)))) ?_
    refine own_cs X59 hx hZ hown hml e59 (wd hw 83 rfl) (wd hw 84 rfl) (wd hw 85 rfl) (wd hw 86 rfl) (own_rmNm9z l Z a0 hw [] bs53 bA m0 m1 s0 s1 v0 v1 kA kv0 kv1 cs br53 kr53 (own_b y0) (own_b y1) (own_b y2) (own_b y3) (own_b y4) (own_b y5) (own_b y6) (own_b y7) (own_b y8) h57 n0 (Nat.le_trans Z0 K57.1) (own_staKeep0 S_A K57) (V_A.keep K57 nNl) (E_A.keep K57) (E_m0.keep K57) (F_o0.keep K57 nNl) (E_s0.keep K57) (F_cs0.keep K57 nNl) (F_vs0.keep K57 nNl) (V_v0.keep K57 nNl) (E_m1.keep K57) (F_o1.keep K57 nNl) (E_s1.keep K57) (F_cs1.keep K57 nNl) (F_vs1.keep K57 nNl) (V_v1.keep K57 nNl) (own_staKeep0 S_cs K57) hcs E_bs53_57 F_bs53_coder_57 F_bs53_value_57 V_br53_57 ne_s0_bs53 ne_s1_bs53 hE) own_pd17 (hb hby at_404) 0 [] rfl ⟨rfl, rfl, rfl, rfl, rfl⟩ (by decide) ?_
    rintro T60 L60 v60 X60 hQ60
    obtain ⟨rfl, N60q, K60q⟩ := hQ60
    have V_b5_60 := V_b5_57.keep K60q List.not_mem_nil
    have E_bs53_60 := E_bs53_57.keep K60q
    have F_bs53_coder_60 := F_bs53_coder_57.keep K60q List.not_mem_nil
    have F_bs53_value_60 := F_bs53_value_57.keep K60q List.not_mem_nil
    have V_br53_60 := V_br53_57.keep K60q List.not_mem_nil
    have E_sa54_60 := E_sa54_57.keep K60q
    have F_sa54_coder_60 := F_sa54_coder_57.keep K60q List.not_mem_nil
    have F_sa54_value_60 := F_sa54_value_57.keep K60q List.not_mem_nil
    have V_sb54_60 := V_sb54_57.keep K60q List.not_mem_nil
    have E_sa57_60 := Ea57.keep K60q
    have F_sa57_coder_60 := Fc57.keep K60q List.not_mem_nil
    have F_sa57_value_60 := Fv57.keep K60q List.not_mem_nil
    have V_sb57_60 := Va57.keep K60q List.not_mem_nil
    have N60 := Fr.app N59 N60q
    have hk60 := Nat.le_trans hk57_ K60q.1
    have K60 := K57.trans K60q (fun x hx => nomatch hx)
    have CR60 := CR57.trans (CHr.keep K60q (fun x hx => nomatch hx) CR57.1)
    obtain ⟨fs, hr, hrun, hended, hRE⟩ := Jvm.Stand.leaveW (s := s) X60 hS57 (by show _ ≤ T60.heap.size; exact hk60) (v := some (.int 1)) (fun h => by rw [Bd.returns] at h; cases h)
    refine ⟨_, _, ?_, hrun, hended, _, _, rfl, ?_, hRE.1, hRE.2.1, hRE.2.2.1, hRE.2.2.2.mono (by decide) (by decide)⟩
    · refine xaload X60 hx hby rfl at_407 rfl rfl (Jvm.RoadKit.acmp (g := (mkF m 409 #[iv p0, iv p1, iv p2, iv p3, iv p4, rv bw, iv 9, iv vc, iv (if (p4 &&& (2 : Int32)) = (0 : Int32) then (0 : Int32) else (1 : Int32)), rv b5, iv 0, rv bs53, .val .null] [.null, .null])) X60 hx rfl rfl rfl (pc0 := 409) (pc' := 412) (same := true) rfl (hb hby at_409) rfl (decide_eq_true rfl) (by decide) (by decide) (xiconst X60 hx hby rfl at_412 (xgoto X60 hx hby rfl 413 417 rfl at_413 (by decide) (by decide) (retN X60 hx (t := .boolean) Bd.returns (by simp) (hb hby at_417) hr))))
    · show own_Q0 n0 _ T60.heap _
      exact ⟨rfl, N60⟩
  · obtain ⟨T61, X61, e61, st61⟩ := getS2 X59 hx hZ hown (host := "") (Or.inl (wd hw 107 rfl)) Via.refl e59 (own_staKeep0 S_R K57) (g := (mkF m 391 #[iv p0, iv p1, iv p2, iv p3, iv p4, rv bw, iv 9, iv vc, iv (if (p4 &&& (2 : Int32)) = (0 : Int32) then (0 : Int32) else (1 : Int32)), rv b5, iv 0, rv bs53, .unset] [])) rfl (hb hby at_391)
    refine own_go (b := T61.setTop (mkF m 404 #[iv p0, iv p1, iv p2, iv p3, iv p4, rv bw, iv 9, iv vc, iv (if (p4 &&& (2 : Int32)) = (0 : Int32) then (0 : Int32) else (1 : Int32)), rv b5, iv 0, rv bs53, rv m1] [.ref bs53])) (fun t k => xifNo X59 hx hby rfl at_388 rfl ((if0 _ _).trans (feq ((by rw [if_neg hE]; decide) : ¬ ((if (own_E9 (own_b y0) (own_b y1) (own_b y2) (own_b y3) (own_b y4) (own_b y5) (own_b y6) (own_b y7) (own_b y8)) = (0 : Int32) then (0 : Int32) else (1 : Int32)) = (0 : Int32)))).1) (st61 _ (xastore X61 hx hby rfl at_394 rfl rfl (l' := #[iv p0, iv p1, iv p2, iv p3, iv p4, rv bw, iv 9, iv vc, iv (if (p4 &&& (2 : Int32)) = (0 : Int32) then (0 : Int32) else (1 : Int32)), rv b5, iv 0, rv bs53, rv m1]) rfl (xgoto X61 hx hby rfl 396 402 rfl at_396 (by decide) (by decide) (xaload X61 hx hby rfl at_402 rfl rfl k))))) ?_
    clear X59 e59 st61
    refine own_cs X61 hx hZ hown hml e61 (wd hw 83 rfl) (wd hw 84 rfl) (wd hw 85 rfl) (wd hw 86 rfl) (own_rmNm9n l Z a0 hw [] bs53 bA m0 m1 s0 s1 v0 v1 kA kv0 kv1 cs br53 kr53 (own_b y0) (own_b y1) (own_b y2) (own_b y3) (own_b y4) (own_b y5) (own_b y6) (own_b y7) (own_b y8) h57 n0 (Nat.le_trans Z0 K57.1) (own_staKeep0 S_A K57) (V_A.keep K57 nNl) (E_A.keep K57) (E_m0.keep K57) (F_o0.keep K57 nNl) (E_s0.keep K57) (F_cs0.keep K57 nNl) (F_vs0.keep K57 nNl) (V_v0.keep K57 nNl) (E_m1.keep K57) (F_o1.keep K57 nNl) (E_s1.keep K57) (F_cs1.keep K57 nNl) (F_vs1.keep K57 nNl) (V_v1.keep K57 nNl) (own_staKeep0 S_cs K57) hcs E_bs53_57 F_bs53_coder_57 F_bs53_value_57 V_br53_57 ne_s0_bs53 ne_s1_bs53 hE) own_pd17 (hb hby at_404) 0 [] rfl ⟨rfl, rfl, rfl, rfl, rfl⟩ (by decide) ?_
    rintro T62 L62 v62 X62 hQ62
    obtain ⟨rfl, N62q, K62q⟩ := hQ62
    have V_b5_62 := V_b5_57.keep K62q List.not_mem_nil
    have E_bs53_62 := E_bs53_57.keep K62q
    have F_bs53_coder_62 := F_bs53_coder_57.keep K62q List.not_mem_nil
    have F_bs53_value_62 := F_bs53_value_57.keep K62q List.not_mem_nil
    have V_br53_62 := V_br53_57.keep K62q List.not_mem_nil
    have E_sa54_62 := E_sa54_57.keep K62q
    have F_sa54_coder_62 := F_sa54_coder_57.keep K62q List.not_mem_nil
    have F_sa54_value_62 := F_sa54_value_57.keep K62q List.not_mem_nil
    have V_sb54_62 := V_sb54_57.keep K62q List.not_mem_nil
    have E_sa57_62 := Ea57.keep K62q
    have F_sa57_coder_62 := Fc57.keep K62q List.not_mem_nil
    have F_sa57_value_62 := Fv57.keep K62q List.not_mem_nil
    have V_sb57_62 := Va57.keep K62q List.not_mem_nil
    have N62 := Fr.app N59 N62q
    have hk62 := Nat.le_trans hk57_ K62q.1
    have K62 := K57.trans K62q (fun x hx => nomatch hx)
    have CR62 := CR57.trans (CHr.keep K62q (fun x hx => nomatch hx) CR57.1)
    obtain ⟨fs, hr, hrun, hended, hRE⟩ := Jvm.Stand.leaveW (s := s) X62 hS57 (by show _ ≤ T62.heap.size; exact hk62) (v := some (.int 1)) (fun h => by rw [Bd.returns] at h; cases h)
    refine ⟨_, _, ?_, hrun, hended, _, _, rfl, ?_, hRE.1, hRE.2.1, hRE.2.2.1, hRE.2.2.2.mono (by decide) (by decide)⟩
    · refine xaload X62 hx hby rfl at_407 rfl rfl (Jvm.RoadKit.acmp (g := (mkF m 409 #[iv p0, iv p1, iv p2, iv p3, iv p4, rv bw, iv 9, iv vc, iv (if (p4 &&& (2 : Int32)) = (0 : Int32) then (0 : Int32) else (1 : Int32)), rv b5, iv 0, rv bs53, rv m1] [.ref m1, .ref m1])) X62 hx rfl rfl rfl (pc0 := 409) (pc' := 412) (same := true) rfl (hb hby at_409) rfl (decide_eq_true rfl) (by decide) (by decide) (xiconst X62 hx hby rfl at_412 (xgoto X62 hx hby rfl 413 417 rfl at_413 (by decide) (by decide) (retN X62 hx (t := .boolean) Bd.returns (by simp) (hb hby at_417) hr))))
    · show own_Q0 n0 _ T62.heap _
      exact ⟨rfl, N62⟩
set_option maxRecDepth 65536 in
set_option maxHeartbeats 40000000 in
theorem own_tD10_1 {p : Program} {l : Launch} {e : Env} {Z s s₁ Tq : State} {m : MethodId} {below : List Frame} {meth : Method} {c : Code} {a0 : Array Value} {ws : List Jvm.Cond} {n0 nS : Nat} {h0 hq : Heap} {Lq : List Loc} {bvm : Vm} {b5 bA m0 m1 s0 s1 v0 v1 : Addr} {k5 kA kv0 kv1 : ClassId} {p0 p1 p2 p3 p4 : Int32} {cs vc y0 y1 y10 y11 y2 y3 y4 y5 y6 y7 y8 y9 : Int32} {bw : Addr} {fv : Value} (hw : ∀ d ∈ tables_1, d.before a0 Z = true) (Bd : BodyLoose p l x (head1 (Jvm.Cond.code x code maxLocals ret :: ws) room_1) code maxLocals ret e s m #[.int p0, .int p1, .int p2, .int p3, .int p4] below meth c s₁) (hx : p.tables.exec = Jvm.exec) (hby : c.code = code) (hml : c.maxLocals = 13) (hown : (s.setVm bvm).vm.findClass "com/example/corollary/corollary/EstimateMethodNamedPinLaw" = some m.cls) (hZ : Z.Warmed39 (s.setVm bvm).vm) (Xq : Stand p l e room_1 (s.setVm bvm) m #[.int p0, .int p1, .int p2, .int p3, .int p4] below meth c Tq Lq 3 56) (eq0 : Tq.heap = hq) (Nq : Fr n0 Lq) (Z0 : n0 ≤ h0.size) (Kq : Keep h0 hq []) (hSq : s.Since bvm nS) (hkq : nS ≤ hq.size) (CRq : CHr Z own_EL s.vm h0 bvm hq) (S_A : Sta Z h0 "com/example/corollary/corollary/EstimateMethod" "$VALUES" "[Lcom/example/corollary/corollary/EstimateMethod;" (.ref bA)) (V_A : Arv Z h0 bA kA (.object "com/example/corollary/corollary/EstimateMethod") (2 : Int32) [.ref m0, .ref m1] .null) (E_A : Exa Z h0 bA "[Lcom/example/corollary/corollary/EstimateMethod;") (S_cs : Sta Z h0 "java/lang/String" "COMPACT_STRINGS" "Z" (.int cs)) (E_m0 : Exa Z h0 m0 "com/example/corollary/corollary/EstimateMethod$1") (F_o0 : Fld Z h0 m0 "com/example/corollary/corollary/EstimateMethod" "optionName" "Ljava/lang/String;" (.ref s0)) (E_s0 : Exa Z h0 s0 "java/lang/String") (F_cs0 : Fld Z h0 s0 "java/lang/String" "coder" "B" (.int 0)) (F_vs0 : Fld Z h0 s0 "java/lang/String" "value" "[B" (.ref v0)) (V_v0 : Arv Z h0 v0 kv0 .byte (10 : Int32) [.int 115, .int 101, .int 113, .int 117, .int 101, .int 110, .int 116, .int 105, .int 97, .int 108] (.int 0)) (E_m1 : Exa Z h0 m1 "com/example/corollary/corollary/EstimateMethod$2") (F_o1 : Fld Z h0 m1 "com/example/corollary/corollary/EstimateMethod" "optionName" "Ljava/lang/String;" (.ref s1)) (E_s1 : Exa Z h0 s1 "java/lang/String") (F_cs1 : Fld Z h0 s1 "java/lang/String" "coder" "B" (.int 0)) (F_vs1 : Fld Z h0 s1 "java/lang/String" "value" "[B" (.ref v1)) (V_v1 : Arv Z h0 v1 kv1 .byte (9 : Int32) [.int 114, .int 101, .int 102, .int 101, .int 114, .int 101, .int 110, .int 99, .int 101] (.int 0)) (S_S : Sta Z h0 "com/example/corollary/corollary/EstimateMethod" "SEQUENTIAL" "Lcom/example/corollary/corollary/EstimateMethod;" (.ref m0)) (S_R : Sta Z h0 "com/example/corollary/corollary/EstimateMethod" "REFERENCE" "Lcom/example/corollary/corollary/EstimateMethod;" (.ref m1)) (S_f : Sta Z h0 "jdk/internal/util/Preconditions" "SIOOBE_FORMATTER" "Ljava/util/function/BiFunction;" fv) (l_y0 : ¬ y0 < (0 : Int32)) (u_y0 : ¬ (255 : Int32) < y0) (l_y1 : ¬ y1 < (0 : Int32)) (u_y1 : ¬ (255 : Int32) < y1) (l_y2 : ¬ y2 < (0 : Int32)) (u_y2 : ¬ (255 : Int32) < y2) (l_y3 : ¬ y3 < (0 : Int32)) (u_y3 : ¬ (255 : Int32) < y3) (l_y4 : ¬ y4 < (0 : Int32)) (u_y4 : ¬ (255 : Int32) < y4) (l_y5 : ¬ y5 < (0 : Int32)) (u_y5 : ¬ (255 : Int32) < y5) (l_y6 : ¬ y6 < (0 : Int32)) (u_y6 : ¬ (255 : Int32) < y6) (l_y7 : ¬ y7 < (0 : Int32)) (u_y7 : ¬ (255 : Int32) < y7) (l_y8 : ¬ y8 < (0 : Int32)) (u_y8 : ¬ (255 : Int32) < y8) (l_y9 : ¬ y9 < (0 : Int32)) (u_y9 : ¬ (255 : Int32) < y9) (l_y10 : ¬ y10 < (0 : Int32)) (u_y10 : ¬ (255 : Int32) < y10) (l_y11 : ¬ y11 < (0 : Int32)) (u_y11 : ¬ (255 : Int32) < y11) (tV_b5 : Arv Z hq b5 k5 .char (12 : Int32) [.int y0, .int y1, .int y2, .int y3, .int y4, .int y5, .int y6, .int y7, .int y8, .int y9, .int y10, .int y11] (.int 0)) (new_b5 : n0 ≤ b5) (sz_b5 : h0.size ≤ b5) (hcs : ¬ cs = (0 : Int32)) (hfv : fv.isRef = true) :
    ∃ s₂ o, Steps p.tables e below (Tq.setTop (mkF m 258 #[iv p0, iv p1, iv p2, iv p3, iv p4, rv bw, iv 10, iv vc, iv (if (p4 &&& (2 : Int32)) = (0 : Int32) then (0 : Int32) else (1 : Int32)), rv b5, iv 1, .unset, .unset] [])) s₂ ∧ s₂.status = .running ∧ Ended s₂ below o ∧ ∃ v L, o = .returned v ∧ own_Q0 n0 v s₂.heap L ∧ ReturnedEndW s o s₂ L room_1.cells room_1.slots := by
  refine own_go (b := Tq.setTop (mkF m 287 #[iv p0, iv p1, iv p2, iv p3, iv p4, rv bw, iv 10, iv vc, iv (if (p4 &&& (2 : Int32)) = (0 : Int32) then (0 : Int32) else (1 : Int32)), rv b5, iv 1, .unset, .unset] [.int 9, .ref b5])) (fun t k => xiload Xq hx hby rfl at_258 rfl (xifYes Xq hx hby rfl 260 275 rfl at_260 rfl ((if0 _ _).trans (feq ((by decide) : ¬ ((1 : Int32) = (0 : Int32)))).2) (by decide) (by decide) (xiload Xq hx hby rfl at_275 rfl (xiconst Xq hx hby rfl at_277 (xicmpNo Xq hx hby rfl at_278 rfl (teq ((by decide) : (1 : Int32) = (1 : Int32))).2 (xaload Xq hx hby rfl at_281 rfl rfl (xiload Xq hx hby rfl at_283 rfl (xiconst Xq hx hby rfl at_285 (xisub Xq hx hby rfl at_286 rfl k))))))))) ?_
  refine own_cs Xq hx hZ hown hml eq0 (wd hw 49 rfl) (wd hw 50 rfl) (wd hw 24 rfl) (wd hw 51 rfl) (own_rmTk_9 l Z a0 hw [] b5 k5 cs y0 y1 y2 y3 y4 y5 y6 y7 y8 y9 y10 y11 hq n0 (Nat.le_trans Z0 Kq.1) tV_b5 (own_staKeep0 S_cs Kq) hcs l_y0 u_y0 l_y1 u_y1 l_y2 u_y2 l_y3 u_y3 l_y4 u_y4 l_y5 u_y5 l_y6 u_y6 l_y7 u_y7 l_y8 u_y8 l_y9 u_y9 l_y10 u_y10 l_y11 u_y11) own_pd16 (hb hby at_287) 0 [] rfl ⟨rfl, rfl, rfl, rfl, rfl⟩ (by decide) ?_
  rintro T63 L63 v63 X63 hQ63
  obtain ⟨bs63, br63, kr63, rfl, N63q, K63q, B63_0, B63_1, B63_2, B63_3, B63_4⟩ := hQ63
  have V_b5_63 := tV_b5.keep K63q List.not_mem_nil
  have N63 := Fr.app Nq N63q
  have hk63 := Nat.le_trans hkq K63q.1
  have K63 := Kq.trans K63q (fun x hx => nomatch hx)
  have CR63 := CRq.trans (CHr.keep K63q (fun x hx => nomatch hx) CRq.1)
  have ne_b5_bs63 : b5 ≠ bs63 := Nat.ne_of_lt (Nat.lt_of_lt_of_le tV_b5.lt B63_4)
  have ne_bA_bs63 : bA ≠ bs63 := Nat.ne_of_lt (Nat.lt_of_lt_of_le (V_A.keep Kq nNl).lt B63_4)
  have ne_m0_bs63 : m0 ≠ bs63 := Nat.ne_of_lt (Nat.lt_of_lt_of_le (E_m0.keep Kq).lt B63_4)
  have ne_m1_bs63 : m1 ≠ bs63 := Nat.ne_of_lt (Nat.lt_of_lt_of_le (E_m1.keep Kq).lt B63_4)
  have ne_s0_bs63 : s0 ≠ bs63 := Nat.ne_of_lt (Nat.lt_of_lt_of_le (E_s0.keep Kq).lt B63_4)
  have ne_s1_bs63 : s1 ≠ bs63 := Nat.ne_of_lt (Nat.lt_of_lt_of_le (E_s1.keep Kq).lt B63_4)
  have ne_v0_bs63 : v0 ≠ bs63 := Nat.ne_of_lt (Nat.lt_of_lt_of_le (V_v0.keep Kq nNl).lt B63_4)
  have ne_v1_bs63 : v1 ≠ bs63 := Nat.ne_of_lt (Nat.lt_of_lt_of_le (V_v1.keep Kq nNl).lt B63_4)
  have Sf_bs63 := Safe.keep (EL := own_EL) K63q (fun x hx => nomatch hx) CRq.1 (Safe.new B63_4)
  refine own_go (b := T63.setTop (mkF m 365 #[iv p0, iv p1, iv p2, iv p3, iv p4, rv bw, iv 10, iv vc, iv (if (p4 &&& (2 : Int32)) = (0 : Int32) then (0 : Int32) else (1 : Int32)), rv b5, iv 1, rv bs63, .unset] [.ref bs63])) (fun t k => xastore X63 hx hby rfl at_290 rfl rfl (l' := #[iv p0, iv p1, iv p2, iv p3, iv p4, rv bw, iv 10, iv vc, iv (if (p4 &&& (2 : Int32)) = (0 : Int32) then (0 : Int32) else (1 : Int32)), rv b5, iv 1, rv bs63, .unset]) rfl (xgoto X63 hx hby rfl 292 352 rfl at_292 (by decide) (by decide) (xaload X63 hx hby rfl at_352 rfl rfl (XS.ifnonnullYes X63.here hx rfl (pc0 := 354) (pc' := 363) rfl (hb hby at_354) rfl (by decide) (by decide) (xaload X63 hx hby rfl at_363 rfl rfl k))))) ?_
  clear tV_b5 N63q K63q B63_4
  obtain ⟨sa64, T64, h64, kk64, sb64, kb64, X64, e64, E64, hS64, hk64_, hZ, hown, Ea64, Fc64, Fv64, Va64, la64, lb64, CRl64, hL64, hne64, st64⟩ := ldcCH (s := s) X63 hx hZ hown (wd hw 0 rfl) (own_atoms hw) rfl hSq hk63 (own_EW hw) (List.mem_of_getElem? (i := 0) rfl) CR63.1 (vs := [.int 115, .int 101, .int 113, .int 117, .int 101, .int 110, .int 116, .int 105, .int 97, .int 108]) (z := (10 : Int32)) (by decide +kernel) (by decide) (by decide +kernel) (g := (mkF m 365 #[iv p0, iv p1, iv p2, iv p3, iv p4, rv bw, iv 10, iv vc, iv (if (p4 &&& (2 : Int32)) = (0 : Int32) then (0 : Int32) else (1 : Int32)), rv b5, iv 1, rv bs63, .unset] [.ref bs63])) rfl (hb hby at_365) (n := 40) (by decide +kernel) (by decide) (by decide) (by decide)
  have Sfbs63_64 := CHr.safe CRl64 B63_0.lt Sf_bs63
  have V_b5_64 := V_b5_63.ext E64
  have E_bs63_64 := B63_0.ext E64
  have F_bs63_coder_64 := B63_1.ext E64
  have F_bs63_value_64 := B63_2.ext E64
  have V_br63_64 := B63_3.ext E64
  have hk64 := Nat.le_trans hk63 E64.1
  have K64 := K63.ext E64
  have CR64 := CR63.trans CRl64
  have hq65 := own_neStr F_bs63_value_64 Fv64 V_br63_64 Va64 (by decide)
  refine own_go (b := T64.setTop (mkF m 367 #[iv p0, iv p1, iv p2, iv p3, iv p4, rv bw, iv 10, iv vc, iv (if (p4 &&& (2 : Int32)) = (0 : Int32) then (0 : Int32) else (1 : Int32)), rv b5, iv 1, rv bs63, .unset] [.ref sa64, .ref bs63])) (fun t k => st64 _ k) ?_
  clear X63 B63_0 B63_1 B63_2 B63_3 V_b5_63 hk63 K63 CR63 Sf_bs63 E64 la64 lb64 CRl64 st64 hk64
  refine own_cv X64 hx hZ hown hml e64 (wd hw 73 rfl) (wd hw 74 rfl) (wd hw 76 rfl) (wd hw 75 rfl) (wd hw 1 rfl) (wd hw 77 rfl) E_bs63_64 (own_rmEqD l Z a0 hw [] bs63 sa64 br63 sb64 kr63 kb64 (9 : Int32) (10 : Int32) [(.int (own_b y0)), (.int (own_b y1)), (.int (own_b y2)), (.int (own_b y3)), (.int (own_b y4)), (.int (own_b y5)), (.int (own_b y6)), (.int (own_b y7)), (.int (own_b y8))] [.int 115, .int 101, .int 113, .int 117, .int 101, .int 110, .int 116, .int 105, .int 97, .int 108] cs h64 n0 (Nat.le_trans Z0 K64.1) E_bs63_64 F_bs63_coder_64 F_bs63_value_64 V_br63_64 Ea64 Fc64 Fv64 Va64 (by decide) (own_staKeep0 S_cs K64) hcs hq65) own_pd14 (hb hby at_367) 0 [] rfl rfl ⟨rfl, rfl, rfl, rfl, rfl⟩ (by decide) ?_
  rintro T66 L66 v66 X66 hQ66
  obtain ⟨rfl, N66q, e66⟩ := hQ66
  have N66 := Fr.app N63 N66q
  refine own_go (b := T66.setTop (mkF m 383 #[iv p0, iv p1, iv p2, iv p3, iv p4, rv bw, iv 10, iv vc, iv (if (p4 &&& (2 : Int32)) = (0 : Int32) then (0 : Int32) else (1 : Int32)), rv b5, iv 1, rv bs63, .unset] [.ref bs63])) (fun t k => xifYes X66 hx hby rfl 370 381 rfl at_370 rfl ((if0 _ _).trans (teq ((by decide) : (0 : Int32) = (0 : Int32))).1) (by decide) (by decide) (xaload X66 hx hby rfl at_381 rfl rfl k)) ?_
  clear N63 X64 e64 N66q
  obtain ⟨sa67, T67, h67, kk67, sb67, kb67, X67, e67, E67, hS67, hk67_, hZ, hown, Ea67, Fc67, Fv67, Va67, la67, lb67, CRl67, hL67, hne67, st67⟩ := ldcCH (s := s) X66 hx hZ hown (wd hw 82 rfl) (own_atoms hw) e66 hS64 hk64_ (own_EW hw) (List.mem_of_getElem? (i := 1) rfl) CR64.1 (vs := [.int 114, .int 101, .int 102, .int 101, .int 114, .int 101, .int 110, .int 99, .int 101]) (z := (9 : Int32)) (by decide +kernel) (by decide) (by decide +kernel) (g := (mkF m 383 #[iv p0, iv p1, iv p2, iv p3, iv p4, rv bw, iv 10, iv vc, iv (if (p4 &&& (2 : Int32)) = (0 : Int32) then (0 : Int32) else (1 : Int32)), rv b5, iv 1, rv bs63, .unset] [.ref bs63])) rfl (hb hby at_383) (n := 36) (by decide +kernel) (by decide) (by decide) (by decide)
  have Sfbs63_67 := CHr.safe CRl67 E_bs63_64.lt Sfbs63_64
  have V_b5_67 := V_b5_64.ext E67
  have E_bs63_67 := E_bs63_64.ext E67
  have F_bs63_coder_67 := F_bs63_coder_64.ext E67
  have F_bs63_value_67 := F_bs63_value_64.ext E67
  have V_br63_67 := V_br63_64.ext E67
  have E_sa64_67 := Ea64.ext E67
  have F_sa64_coder_67 := Fc64.ext E67
  have F_sa64_value_67 := Fv64.ext E67
  have V_sb64_67 := Va64.ext E67
  have hk67 := Nat.le_trans hk64_ E67.1
  have K67 := K64.ext E67
  have CR67 := CR64.trans CRl67
  have hq68 : ¬ bs63 = sa67 := (hne67 _ Sfbs63_67).1
  refine own_go (b := T67.setTop (mkF m 385 #[iv p0, iv p1, iv p2, iv p3, iv p4, rv bw, iv 10, iv vc, iv (if (p4 &&& (2 : Int32)) = (0 : Int32) then (0 : Int32) else (1 : Int32)), rv b5, iv 1, rv bs63, .unset] [.ref sa67, .ref bs63])) (fun t k => st67 _ k) ?_
  clear hS64 hk64_ Ea64 Fc64 Fv64 Va64 Sfbs63_64 V_b5_64 E_bs63_64 F_bs63_coder_64 F_bs63_value_64 V_br63_64 K64 CR64 X66 e66 E67 la67 lb67 CRl67 st67 hk67
  refine own_cv X67 hx hZ hown hml e67 (wd hw 73 rfl) (wd hw 74 rfl) (wd hw 76 rfl) (wd hw 75 rfl) (wd hw 1 rfl) (wd hw 77 rfl) E_bs63_67 (own_rmEqA9 l Z a0 hw [] bs63 sa67 br63 sb67 kr63 kb67 (own_b y0) (own_b y1) (own_b y2) (own_b y3) (own_b y4) (own_b y5) (own_b y6) (own_b y7) (own_b y8) cs h67 n0 (Nat.le_trans Z0 K67.1) E_bs63_67 F_bs63_coder_67 F_bs63_value_67 V_br63_67 Ea67 Fc67 Fv67 Va67 (own_staKeep0 S_cs K67) hcs hq68) own_pd14 (hb hby at_385) 0 [] rfl rfl ⟨rfl, rfl, rfl, rfl, rfl⟩ (by decide) ?_
  rintro T69 L69 v69 X69 hQ69
  obtain ⟨rfl, N69q, e69⟩ := hQ69
  have N69 := Fr.app N66 N69q
  refine own_go (b := T69.setTop (mkF m 388 #[iv p0, iv p1, iv p2, iv p3, iv p4, rv bw, iv 10, iv vc, iv (if (p4 &&& (2 : Int32)) = (0 : Int32) then (0 : Int32) else (1 : Int32)), rv b5, iv 1, rv bs63, .unset] [(.int (if (own_E9 (own_b y0) (own_b y1) (own_b y2) (own_b y3) (own_b y4) (own_b y5) (own_b y6) (own_b y7) (own_b y8)) = (0 : Int32) then (0 : Int32) else (1 : Int32)))])) (fun t k => ?_) ?_
  · exact k
  clear N66 X67 e67 N69q
  by_cases hE : (own_E9 (own_b y0) (own_b y1) (own_b y2) (own_b y3) (own_b y4) (own_b y5) (own_b y6) (own_b y7) (own_b y8)) = (0 : Int32)
  · refine own_go (b := T69.setTop (mkF m 404 #[iv p0, iv p1, iv p2, iv p3, iv p4, rv bw, iv 10, iv vc, iv (if (p4 &&& (2 : Int32)) = (0 : Int32) then (0 : Int32) else (1 : Int32)), rv b5, iv 1, rv bs63, .val .null] [.ref bs63])) (fun t k => xifYes X69 hx hby rfl 388 399 rfl at_388 rfl ((if0 _ _).trans (teq (if_pos hE : (if (own_E9 (own_b y0) (own_b y1) (own_b y2) (own_b y3) (own_b y4) (own_b y5) (own_b y6) (own_b y7) (own_b y8)) = (0 : Int32) then (0 : Int32) else (1 : Int32)) = (0 : Int32))).1) (by decide) (by decide) (xaconstNull X69 hx hby rfl at_399 (xastore X69 hx hby rfl at_400 rfl rfl (l' := #[iv p0, iv p1, iv p2, iv p3, iv p4, rv bw, iv 10, iv vc, iv (if (p4 &&& (2 : Int32)) = (0 : Int32) then (0 : Int32) else (1 : Int32)), rv b5, iv 1, rv bs63, .val .null]) rfl (xaload X69 hx hby rfl at_402 rfl rfl k)))) ?_
    refine own_cs X69 hx hZ hown hml e69 (wd hw 83 rfl) (wd hw 84 rfl) (wd hw 85 rfl) (wd hw 86 rfl) (own_rmNm9z l Z a0 hw [] bs63 bA m0 m1 s0 s1 v0 v1 kA kv0 kv1 cs br63 kr63 (own_b y0) (own_b y1) (own_b y2) (own_b y3) (own_b y4) (own_b y5) (own_b y6) (own_b y7) (own_b y8) h67 n0 (Nat.le_trans Z0 K67.1) (own_staKeep0 S_A K67) (V_A.keep K67 nNl) (E_A.keep K67) (E_m0.keep K67) (F_o0.keep K67 nNl) (E_s0.keep K67) (F_cs0.keep K67 nNl) (F_vs0.keep K67 nNl) (V_v0.keep K67 nNl) (E_m1.keep K67) (F_o1.keep K67 nNl) (E_s1.keep K67) (F_cs1.keep K67 nNl) (F_vs1.keep K67 nNl) (V_v1.keep K67 nNl) (own_staKeep0 S_cs K67) hcs E_bs63_67 F_bs63_coder_67 F_bs63_value_67 V_br63_67 ne_s0_bs63 ne_s1_bs63 hE) own_pd17 (hb hby at_404) 0 [] rfl ⟨rfl, rfl, rfl, rfl, rfl⟩ (by decide) ?_
    rintro T70 L70 v70 X70 hQ70
    obtain ⟨rfl, N70q, K70q⟩ := hQ70
    have V_b5_70 := V_b5_67.keep K70q List.not_mem_nil
    have E_bs63_70 := E_bs63_67.keep K70q
    have F_bs63_coder_70 := F_bs63_coder_67.keep K70q List.not_mem_nil
    have F_bs63_value_70 := F_bs63_value_67.keep K70q List.not_mem_nil
    have V_br63_70 := V_br63_67.keep K70q List.not_mem_nil
    have E_sa64_70 := E_sa64_67.keep K70q
    have F_sa64_coder_70 := F_sa64_coder_67.keep K70q List.not_mem_nil
    have F_sa64_value_70 := F_sa64_value_67.keep K70q List.not_mem_nil
    have V_sb64_70 := V_sb64_67.keep K70q List.not_mem_nil
    have E_sa67_70 := Ea67.keep K70q
    have F_sa67_coder_70 := Fc67.keep K70q List.not_mem_nil
    have F_sa67_value_70 := Fv67.keep K70q List.not_mem_nil
    have V_sb67_70 := Va67.keep K70q List.not_mem_nil
    have N70 := Fr.app N69 N70q
    have hk70 := Nat.le_trans hk67_ K70q.1
    have K70 := K67.trans K70q (fun x hx => nomatch hx)
    have CR70 := CR67.trans (CHr.keep K70q (fun x hx => nomatch hx) CR67.1)
    obtain ⟨fs, hr, hrun, hended, hRE⟩ := Jvm.Stand.leaveW (s := s) X70 hS67 (by show _ ≤ T70.heap.size; exact hk70) (v := some (.int 1)) (fun h => by rw [Bd.returns] at h; cases h)
    refine ⟨_, _, ?_, hrun, hended, _, _, rfl, ?_, hRE.1, hRE.2.1, hRE.2.2.1, hRE.2.2.2.mono (by decide) (by decide)⟩
    · refine xaload X70 hx hby rfl at_407 rfl rfl (Jvm.RoadKit.acmp (g := (mkF m 409 #[iv p0, iv p1, iv p2, iv p3, iv p4, rv bw, iv 10, iv vc, iv (if (p4 &&& (2 : Int32)) = (0 : Int32) then (0 : Int32) else (1 : Int32)), rv b5, iv 1, rv bs63, .val .null] [.null, .null])) X70 hx rfl rfl rfl (pc0 := 409) (pc' := 412) (same := true) rfl (hb hby at_409) rfl (decide_eq_true rfl) (by decide) (by decide) (xiconst X70 hx hby rfl at_412 (xgoto X70 hx hby rfl 413 417 rfl at_413 (by decide) (by decide) (retN X70 hx (t := .boolean) Bd.returns (by simp) (hb hby at_417) hr))))
    · show own_Q0 n0 _ T70.heap _
      exact ⟨rfl, N70⟩
  · obtain ⟨T71, X71, e71, st71⟩ := getS2 X69 hx hZ hown (host := "") (Or.inl (wd hw 107 rfl)) Via.refl e69 (own_staKeep0 S_R K67) (g := (mkF m 391 #[iv p0, iv p1, iv p2, iv p3, iv p4, rv bw, iv 10, iv vc, iv (if (p4 &&& (2 : Int32)) = (0 : Int32) then (0 : Int32) else (1 : Int32)), rv b5, iv 1, rv bs63, .unset] [])) rfl (hb hby at_391)
    refine own_go (b := T71.setTop (mkF m 404 #[iv p0, iv p1, iv p2, iv p3, iv p4, rv bw, iv 10, iv vc, iv (if (p4 &&& (2 : Int32)) = (0 : Int32) then (0 : Int32) else (1 : Int32)), rv b5, iv 1, rv bs63, rv m1] [.ref bs63])) (fun t k => xifNo X69 hx hby rfl at_388 rfl ((if0 _ _).trans (feq ((by rw [if_neg hE]; decide) : ¬ ((if (own_E9 (own_b y0) (own_b y1) (own_b y2) (own_b y3) (own_b y4) (own_b y5) (own_b y6) (own_b y7) (own_b y8)) = (0 : Int32) then (0 : Int32) else (1 : Int32)) = (0 : Int32)))).1) (st71 _ (xastore X71 hx hby rfl at_394 rfl rfl (l' := #[iv p0, iv p1, iv p2, iv p3, iv p4, rv bw, iv 10, iv vc, iv (if (p4 &&& (2 : Int32)) = (0 : Int32) then (0 : Int32) else (1 : Int32)), rv b5, iv 1, rv bs63, rv m1]) rfl (xgoto X71 hx hby rfl 396 402 rfl at_396 (by decide) (by decide) (xaload X71 hx hby rfl at_402 rfl rfl k))))) ?_
    clear X69 e69 st71
    refine own_cs X71 hx hZ hown hml e71 (wd hw 83 rfl) (wd hw 84 rfl) (wd hw 85 rfl) (wd hw 86 rfl) (own_rmNm9n l Z a0 hw [] bs63 bA m0 m1 s0 s1 v0 v1 kA kv0 kv1 cs br63 kr63 (own_b y0) (own_b y1) (own_b y2) (own_b y3) (own_b y4) (own_b y5) (own_b y6) (own_b y7) (own_b y8) h67 n0 (Nat.le_trans Z0 K67.1) (own_staKeep0 S_A K67) (V_A.keep K67 nNl) (E_A.keep K67) (E_m0.keep K67) (F_o0.keep K67 nNl) (E_s0.keep K67) (F_cs0.keep K67 nNl) (F_vs0.keep K67 nNl) (V_v0.keep K67 nNl) (E_m1.keep K67) (F_o1.keep K67 nNl) (E_s1.keep K67) (F_cs1.keep K67 nNl) (F_vs1.keep K67 nNl) (V_v1.keep K67 nNl) (own_staKeep0 S_cs K67) hcs E_bs63_67 F_bs63_coder_67 F_bs63_value_67 V_br63_67 ne_s0_bs63 ne_s1_bs63 hE) own_pd17 (hb hby at_404) 0 [] rfl ⟨rfl, rfl, rfl, rfl, rfl⟩ (by decide) ?_
    rintro T72 L72 v72 X72 hQ72
    obtain ⟨rfl, N72q, K72q⟩ := hQ72
    have V_b5_72 := V_b5_67.keep K72q List.not_mem_nil
    have E_bs63_72 := E_bs63_67.keep K72q
    have F_bs63_coder_72 := F_bs63_coder_67.keep K72q List.not_mem_nil
    have F_bs63_value_72 := F_bs63_value_67.keep K72q List.not_mem_nil
    have V_br63_72 := V_br63_67.keep K72q List.not_mem_nil
    have E_sa64_72 := E_sa64_67.keep K72q
    have F_sa64_coder_72 := F_sa64_coder_67.keep K72q List.not_mem_nil
    have F_sa64_value_72 := F_sa64_value_67.keep K72q List.not_mem_nil
    have V_sb64_72 := V_sb64_67.keep K72q List.not_mem_nil
    have E_sa67_72 := Ea67.keep K72q
    have F_sa67_coder_72 := Fc67.keep K72q List.not_mem_nil
    have F_sa67_value_72 := Fv67.keep K72q List.not_mem_nil
    have V_sb67_72 := Va67.keep K72q List.not_mem_nil
    have N72 := Fr.app N69 N72q
    have hk72 := Nat.le_trans hk67_ K72q.1
    have K72 := K67.trans K72q (fun x hx => nomatch hx)
    have CR72 := CR67.trans (CHr.keep K72q (fun x hx => nomatch hx) CR67.1)
    obtain ⟨fs, hr, hrun, hended, hRE⟩ := Jvm.Stand.leaveW (s := s) X72 hS67 (by show _ ≤ T72.heap.size; exact hk72) (v := some (.int 1)) (fun h => by rw [Bd.returns] at h; cases h)
    refine ⟨_, _, ?_, hrun, hended, _, _, rfl, ?_, hRE.1, hRE.2.1, hRE.2.2.1, hRE.2.2.2.mono (by decide) (by decide)⟩
    · refine xaload X72 hx hby rfl at_407 rfl rfl (Jvm.RoadKit.acmp (g := (mkF m 409 #[iv p0, iv p1, iv p2, iv p3, iv p4, rv bw, iv 10, iv vc, iv (if (p4 &&& (2 : Int32)) = (0 : Int32) then (0 : Int32) else (1 : Int32)), rv b5, iv 1, rv bs63, rv m1] [.ref m1, .ref m1])) X72 hx rfl rfl rfl (pc0 := 409) (pc' := 412) (same := true) rfl (hb hby at_409) rfl (decide_eq_true rfl) (by decide) (by decide) (xiconst X72 hx hby rfl at_412 (xgoto X72 hx hby rfl 413 417 rfl at_413 (by decide) (by decide) (retN X72 hx (t := .boolean) Bd.returns (by simp) (hb hby at_417) hr))))
    · show own_Q0 n0 _ T72.heap _
      exact ⟨rfl, N72⟩
set_option maxRecDepth 65536 in
set_option maxHeartbeats 40000000 in
theorem own_tD9_1 {p : Program} {l : Launch} {e : Env} {Z s s₁ Tq : State} {m : MethodId} {below : List Frame} {meth : Method} {c : Code} {a0 : Array Value} {ws : List Jvm.Cond} {n0 nS : Nat} {h0 hq : Heap} {Lq : List Loc} {bvm : Vm} {b5 bA m0 m1 s0 s1 v0 v1 : Addr} {k5 kA kv0 kv1 : ClassId} {p0 p1 p2 p3 p4 : Int32} {cs vc y0 y1 y10 y11 y2 y3 y4 y5 y6 y7 y8 y9 : Int32} {bw : Addr} {fv : Value} (hw : ∀ d ∈ tables_1, d.before a0 Z = true) (Bd : BodyLoose p l x (head1 (Jvm.Cond.code x code maxLocals ret :: ws) room_1) code maxLocals ret e s m #[.int p0, .int p1, .int p2, .int p3, .int p4] below meth c s₁) (hx : p.tables.exec = Jvm.exec) (hby : c.code = code) (hml : c.maxLocals = 13) (hown : (s.setVm bvm).vm.findClass "com/example/corollary/corollary/EstimateMethodNamedPinLaw" = some m.cls) (hZ : Z.Warmed39 (s.setVm bvm).vm) (Xq : Stand p l e room_1 (s.setVm bvm) m #[.int p0, .int p1, .int p2, .int p3, .int p4] below meth c Tq Lq 3 56) (eq0 : Tq.heap = hq) (Nq : Fr n0 Lq) (Z0 : n0 ≤ h0.size) (Kq : Keep h0 hq []) (hSq : s.Since bvm nS) (hkq : nS ≤ hq.size) (CRq : CHr Z own_EL s.vm h0 bvm hq) (S_A : Sta Z h0 "com/example/corollary/corollary/EstimateMethod" "$VALUES" "[Lcom/example/corollary/corollary/EstimateMethod;" (.ref bA)) (V_A : Arv Z h0 bA kA (.object "com/example/corollary/corollary/EstimateMethod") (2 : Int32) [.ref m0, .ref m1] .null) (E_A : Exa Z h0 bA "[Lcom/example/corollary/corollary/EstimateMethod;") (S_cs : Sta Z h0 "java/lang/String" "COMPACT_STRINGS" "Z" (.int cs)) (E_m0 : Exa Z h0 m0 "com/example/corollary/corollary/EstimateMethod$1") (F_o0 : Fld Z h0 m0 "com/example/corollary/corollary/EstimateMethod" "optionName" "Ljava/lang/String;" (.ref s0)) (E_s0 : Exa Z h0 s0 "java/lang/String") (F_cs0 : Fld Z h0 s0 "java/lang/String" "coder" "B" (.int 0)) (F_vs0 : Fld Z h0 s0 "java/lang/String" "value" "[B" (.ref v0)) (V_v0 : Arv Z h0 v0 kv0 .byte (10 : Int32) [.int 115, .int 101, .int 113, .int 117, .int 101, .int 110, .int 116, .int 105, .int 97, .int 108] (.int 0)) (E_m1 : Exa Z h0 m1 "com/example/corollary/corollary/EstimateMethod$2") (F_o1 : Fld Z h0 m1 "com/example/corollary/corollary/EstimateMethod" "optionName" "Ljava/lang/String;" (.ref s1)) (E_s1 : Exa Z h0 s1 "java/lang/String") (F_cs1 : Fld Z h0 s1 "java/lang/String" "coder" "B" (.int 0)) (F_vs1 : Fld Z h0 s1 "java/lang/String" "value" "[B" (.ref v1)) (V_v1 : Arv Z h0 v1 kv1 .byte (9 : Int32) [.int 114, .int 101, .int 102, .int 101, .int 114, .int 101, .int 110, .int 99, .int 101] (.int 0)) (S_S : Sta Z h0 "com/example/corollary/corollary/EstimateMethod" "SEQUENTIAL" "Lcom/example/corollary/corollary/EstimateMethod;" (.ref m0)) (S_R : Sta Z h0 "com/example/corollary/corollary/EstimateMethod" "REFERENCE" "Lcom/example/corollary/corollary/EstimateMethod;" (.ref m1)) (S_f : Sta Z h0 "jdk/internal/util/Preconditions" "SIOOBE_FORMATTER" "Ljava/util/function/BiFunction;" fv) (l_y0 : ¬ y0 < (0 : Int32)) (u_y0 : ¬ (255 : Int32) < y0) (l_y1 : ¬ y1 < (0 : Int32)) (u_y1 : ¬ (255 : Int32) < y1) (l_y2 : ¬ y2 < (0 : Int32)) (u_y2 : ¬ (255 : Int32) < y2) (l_y3 : ¬ y3 < (0 : Int32)) (u_y3 : ¬ (255 : Int32) < y3) (l_y4 : ¬ y4 < (0 : Int32)) (u_y4 : ¬ (255 : Int32) < y4) (l_y5 : ¬ y5 < (0 : Int32)) (u_y5 : ¬ (255 : Int32) < y5) (l_y6 : ¬ y6 < (0 : Int32)) (u_y6 : ¬ (255 : Int32) < y6) (l_y7 : ¬ y7 < (0 : Int32)) (u_y7 : ¬ (255 : Int32) < y7) (l_y8 : ¬ y8 < (0 : Int32)) (u_y8 : ¬ (255 : Int32) < y8) (l_y9 : ¬ y9 < (0 : Int32)) (u_y9 : ¬ (255 : Int32) < y9) (l_y10 : ¬ y10 < (0 : Int32)) (u_y10 : ¬ (255 : Int32) < y10) (l_y11 : ¬ y11 < (0 : Int32)) (u_y11 : ¬ (255 : Int32) < y11) (tV_b5 : Arv Z hq b5 k5 .char (12 : Int32) [.int y0, .int y1, .int y2, .int y3, .int y4, .int y5, .int y6, .int y7, .int y8, .int y9, .int y10, .int y11] (.int 0)) (new_b5 : n0 ≤ b5) (sz_b5 : h0.size ≤ b5) (hcs : ¬ cs = (0 : Int32)) (hfv : fv.isRef = true) :
    ∃ s₂ o, Steps p.tables e below (Tq.setTop (mkF m 258 #[iv p0, iv p1, iv p2, iv p3, iv p4, rv bw, iv 9, iv vc, iv (if (p4 &&& (2 : Int32)) = (0 : Int32) then (0 : Int32) else (1 : Int32)), rv b5, iv 1, .unset, .unset] [])) s₂ ∧ s₂.status = .running ∧ Ended s₂ below o ∧ ∃ v L, o = .returned v ∧ own_Q0 n0 v s₂.heap L ∧ ReturnedEndW s o s₂ L room_1.cells room_1.slots := by
  refine own_go (b := Tq.setTop (mkF m 287 #[iv p0, iv p1, iv p2, iv p3, iv p4, rv bw, iv 9, iv vc, iv (if (p4 &&& (2 : Int32)) = (0 : Int32) then (0 : Int32) else (1 : Int32)), rv b5, iv 1, .unset, .unset] [.int 8, .ref b5])) (fun t k => xiload Xq hx hby rfl at_258 rfl (xifYes Xq hx hby rfl 260 275 rfl at_260 rfl ((if0 _ _).trans (feq ((by decide) : ¬ ((1 : Int32) = (0 : Int32)))).2) (by decide) (by decide) (xiload Xq hx hby rfl at_275 rfl (xiconst Xq hx hby rfl at_277 (xicmpNo Xq hx hby rfl at_278 rfl (teq ((by decide) : (1 : Int32) = (1 : Int32))).2 (xaload Xq hx hby rfl at_281 rfl rfl (xiload Xq hx hby rfl at_283 rfl (xiconst Xq hx hby rfl at_285 (xisub Xq hx hby rfl at_286 rfl k))))))))) ?_
  refine own_cs Xq hx hZ hown hml eq0 (wd hw 49 rfl) (wd hw 50 rfl) (wd hw 24 rfl) (wd hw 51 rfl) (own_rmTk_8 l Z a0 hw [] b5 k5 cs y0 y1 y2 y3 y4 y5 y6 y7 y8 y9 y10 y11 hq n0 (Nat.le_trans Z0 Kq.1) tV_b5 (own_staKeep0 S_cs Kq) hcs l_y0 u_y0 l_y1 u_y1 l_y2 u_y2 l_y3 u_y3 l_y4 u_y4 l_y5 u_y5 l_y6 u_y6 l_y7 u_y7 l_y8 u_y8 l_y9 u_y9 l_y10 u_y10 l_y11 u_y11) own_pd16 (hb hby at_287) 0 [] rfl ⟨rfl, rfl, rfl, rfl, rfl⟩ (by decide) ?_
  rintro T73 L73 v73 X73 hQ73
  obtain ⟨bs73, br73, kr73, rfl, N73q, K73q, B73_0, B73_1, B73_2, B73_3, B73_4⟩ := hQ73
  have V_b5_73 := tV_b5.keep K73q List.not_mem_nil
  have N73 := Fr.app Nq N73q
  have hk73 := Nat.le_trans hkq K73q.1
  have K73 := Kq.trans K73q (fun x hx => nomatch hx)
  have CR73 := CRq.trans (CHr.keep K73q (fun x hx => nomatch hx) CRq.1)
  have ne_b5_bs73 : b5 ≠ bs73 := Nat.ne_of_lt (Nat.lt_of_lt_of_le tV_b5.lt B73_4)
  have ne_bA_bs73 : bA ≠ bs73 := Nat.ne_of_lt (Nat.lt_of_lt_of_le (V_A.keep Kq nNl).lt B73_4)
  have ne_m0_bs73 : m0 ≠ bs73 := Nat.ne_of_lt (Nat.lt_of_lt_of_le (E_m0.keep Kq).lt B73_4)
  have ne_m1_bs73 : m1 ≠ bs73 := Nat.ne_of_lt (Nat.lt_of_lt_of_le (E_m1.keep Kq).lt B73_4)
  have ne_s0_bs73 : s0 ≠ bs73 := Nat.ne_of_lt (Nat.lt_of_lt_of_le (E_s0.keep Kq).lt B73_4)
  have ne_s1_bs73 : s1 ≠ bs73 := Nat.ne_of_lt (Nat.lt_of_lt_of_le (E_s1.keep Kq).lt B73_4)
  have ne_v0_bs73 : v0 ≠ bs73 := Nat.ne_of_lt (Nat.lt_of_lt_of_le (V_v0.keep Kq nNl).lt B73_4)
  have ne_v1_bs73 : v1 ≠ bs73 := Nat.ne_of_lt (Nat.lt_of_lt_of_le (V_v1.keep Kq nNl).lt B73_4)
  refine own_go (b := T73.setTop (mkF m 365 #[iv p0, iv p1, iv p2, iv p3, iv p4, rv bw, iv 9, iv vc, iv (if (p4 &&& (2 : Int32)) = (0 : Int32) then (0 : Int32) else (1 : Int32)), rv b5, iv 1, rv bs73, .unset] [.ref bs73])) (fun t k => xastore X73 hx hby rfl at_290 rfl rfl (l' := #[iv p0, iv p1, iv p2, iv p3, iv p4, rv bw, iv 9, iv vc, iv (if (p4 &&& (2 : Int32)) = (0 : Int32) then (0 : Int32) else (1 : Int32)), rv b5, iv 1, rv bs73, .unset]) rfl (xgoto X73 hx hby rfl 292 352 rfl at_292 (by decide) (by decide) (xaload X73 hx hby rfl at_352 rfl rfl (XS.ifnonnullYes X73.here hx rfl (pc0 := 354) (pc' := 363) rfl (hb hby at_354) rfl (by decide) (by decide) (xaload X73 hx hby rfl at_363 rfl rfl k))))) ?_
  clear tV_b5 N73q K73q B73_4
  obtain ⟨sa74, T74, h74, kk74, sb74, kb74, X74, e74, E74, hS74, hk74_, hZ, hown, Ea74, Fc74, Fv74, Va74, la74, lb74, CRl74, hL74, hne74, st74⟩ := ldcCH (s := s) X73 hx hZ hown (wd hw 0 rfl) (own_atoms hw) rfl hSq hk73 (own_EW hw) (List.mem_of_getElem? (i := 0) rfl) CR73.1 (vs := [.int 115, .int 101, .int 113, .int 117, .int 101, .int 110, .int 116, .int 105, .int 97, .int 108]) (z := (10 : Int32)) (by decide +kernel) (by decide) (by decide +kernel) (g := (mkF m 365 #[iv p0, iv p1, iv p2, iv p3, iv p4, rv bw, iv 9, iv vc, iv (if (p4 &&& (2 : Int32)) = (0 : Int32) then (0 : Int32) else (1 : Int32)), rv b5, iv 1, rv bs73, .unset] [.ref bs73])) rfl (hb hby at_365) (n := 40) (by decide +kernel) (by decide) (by decide) (by decide)
  have V_b5_74 := V_b5_73.ext E74
  have E_bs73_74 := B73_0.ext E74
  have F_bs73_coder_74 := B73_1.ext E74
  have F_bs73_value_74 := B73_2.ext E74
  have V_br73_74 := B73_3.ext E74
  have hk74 := Nat.le_trans hk73 E74.1
  have K74 := K73.ext E74
  have CR74 := CR73.trans CRl74
  have hq75 := own_neStr F_bs73_value_74 Fv74 V_br73_74 Va74 (by decide)
  refine own_go (b := T74.setTop (mkF m 367 #[iv p0, iv p1, iv p2, iv p3, iv p4, rv bw, iv 9, iv vc, iv (if (p4 &&& (2 : Int32)) = (0 : Int32) then (0 : Int32) else (1 : Int32)), rv b5, iv 1, rv bs73, .unset] [.ref sa74, .ref bs73])) (fun t k => st74 _ k) ?_
  clear X73 B73_0 B73_1 B73_2 B73_3 V_b5_73 hk73 K73 CR73 E74 la74 lb74 CRl74 st74 hk74
  refine own_cv X74 hx hZ hown hml e74 (wd hw 73 rfl) (wd hw 74 rfl) (wd hw 76 rfl) (wd hw 75 rfl) (wd hw 1 rfl) (wd hw 77 rfl) E_bs73_74 (own_rmEqD l Z a0 hw [] bs73 sa74 br73 sb74 kr73 kb74 (8 : Int32) (10 : Int32) [(.int (own_b y0)), (.int (own_b y1)), (.int (own_b y2)), (.int (own_b y3)), (.int (own_b y4)), (.int (own_b y5)), (.int (own_b y6)), (.int (own_b y7))] [.int 115, .int 101, .int 113, .int 117, .int 101, .int 110, .int 116, .int 105, .int 97, .int 108] cs h74 n0 (Nat.le_trans Z0 K74.1) E_bs73_74 F_bs73_coder_74 F_bs73_value_74 V_br73_74 Ea74 Fc74 Fv74 Va74 (by decide) (own_staKeep0 S_cs K74) hcs hq75) own_pd14 (hb hby at_367) 0 [] rfl rfl ⟨rfl, rfl, rfl, rfl, rfl⟩ (by decide) ?_
  rintro T76 L76 v76 X76 hQ76
  obtain ⟨rfl, N76q, e76⟩ := hQ76
  have N76 := Fr.app N73 N76q
  refine own_go (b := T76.setTop (mkF m 383 #[iv p0, iv p1, iv p2, iv p3, iv p4, rv bw, iv 9, iv vc, iv (if (p4 &&& (2 : Int32)) = (0 : Int32) then (0 : Int32) else (1 : Int32)), rv b5, iv 1, rv bs73, .unset] [.ref bs73])) (fun t k => xifYes X76 hx hby rfl 370 381 rfl at_370 rfl ((if0 _ _).trans (teq ((by decide) : (0 : Int32) = (0 : Int32))).1) (by decide) (by decide) (xaload X76 hx hby rfl at_381 rfl rfl k)) ?_
  clear N73 X74 e74 N76q
  obtain ⟨sa77, T77, h77, kk77, sb77, kb77, X77, e77, E77, hS77, hk77_, hZ, hown, Ea77, Fc77, Fv77, Va77, la77, lb77, CRl77, hL77, hne77, st77⟩ := ldcCH (s := s) X76 hx hZ hown (wd hw 82 rfl) (own_atoms hw) e76 hS74 hk74_ (own_EW hw) (List.mem_of_getElem? (i := 1) rfl) CR74.1 (vs := [.int 114, .int 101, .int 102, .int 101, .int 114, .int 101, .int 110, .int 99, .int 101]) (z := (9 : Int32)) (by decide +kernel) (by decide) (by decide +kernel) (g := (mkF m 383 #[iv p0, iv p1, iv p2, iv p3, iv p4, rv bw, iv 9, iv vc, iv (if (p4 &&& (2 : Int32)) = (0 : Int32) then (0 : Int32) else (1 : Int32)), rv b5, iv 1, rv bs73, .unset] [.ref bs73])) rfl (hb hby at_383) (n := 36) (by decide +kernel) (by decide) (by decide) (by decide)
  have V_b5_77 := V_b5_74.ext E77
  have E_bs73_77 := E_bs73_74.ext E77
  have F_bs73_coder_77 := F_bs73_coder_74.ext E77
  have F_bs73_value_77 := F_bs73_value_74.ext E77
  have V_br73_77 := V_br73_74.ext E77
  have E_sa74_77 := Ea74.ext E77
  have F_sa74_coder_77 := Fc74.ext E77
  have F_sa74_value_77 := Fv74.ext E77
  have V_sb74_77 := Va74.ext E77
  have hk77 := Nat.le_trans hk74_ E77.1
  have K77 := K74.ext E77
  have CR77 := CR74.trans CRl77
  have hq78 := own_neStr F_bs73_value_77 Fv77 V_br73_77 Va77 (by decide)
  refine own_go (b := T77.setTop (mkF m 385 #[iv p0, iv p1, iv p2, iv p3, iv p4, rv bw, iv 9, iv vc, iv (if (p4 &&& (2 : Int32)) = (0 : Int32) then (0 : Int32) else (1 : Int32)), rv b5, iv 1, rv bs73, .unset] [.ref sa77, .ref bs73])) (fun t k => st77 _ k) ?_
  clear hS74 hk74_ Ea74 Fc74 Fv74 Va74 V_b5_74 E_bs73_74 F_bs73_coder_74 F_bs73_value_74 V_br73_74 K74 CR74 X76 e76 E77 la77 lb77 CRl77 st77 hk77
  refine own_cv X77 hx hZ hown hml e77 (wd hw 73 rfl) (wd hw 74 rfl) (wd hw 76 rfl) (wd hw 75 rfl) (wd hw 1 rfl) (wd hw 77 rfl) E_bs73_77 (own_rmEqD l Z a0 hw [] bs73 sa77 br73 sb77 kr73 kb77 (8 : Int32) (9 : Int32) [(.int (own_b y0)), (.int (own_b y1)), (.int (own_b y2)), (.int (own_b y3)), (.int (own_b y4)), (.int (own_b y5)), (.int (own_b y6)), (.int (own_b y7))] [.int 114, .int 101, .int 102, .int 101, .int 114, .int 101, .int 110, .int 99, .int 101] cs h77 n0 (Nat.le_trans Z0 K77.1) E_bs73_77 F_bs73_coder_77 F_bs73_value_77 V_br73_77 Ea77 Fc77 Fv77 Va77 (by decide) (own_staKeep0 S_cs K77) hcs hq78) own_pd14 (hb hby at_385) 0 [] rfl rfl ⟨rfl, rfl, rfl, rfl, rfl⟩ (by decide) ?_
  rintro T79 L79 v79 X79 hQ79
  obtain ⟨rfl, N79q, e79⟩ := hQ79
  have N79 := Fr.app N76 N79q
  refine own_go (b := T79.setTop (mkF m 404 #[iv p0, iv p1, iv p2, iv p3, iv p4, rv bw, iv 9, iv vc, iv (if (p4 &&& (2 : Int32)) = (0 : Int32) then (0 : Int32) else (1 : Int32)), rv b5, iv 1, rv bs73, .val .null] [.ref bs73])) (fun t k => xifYes X79 hx hby rfl 388 399 rfl at_388 rfl ((if0 _ _).trans (teq ((by decide) : (0 : Int32) = (0 : Int32))).1) (by decide) (by decide) (xaconstNull X79 hx hby rfl at_399 (xastore X79 hx hby rfl at_400 rfl rfl (l' := #[iv p0, iv p1, iv p2, iv p3, iv p4, rv bw, iv 9, iv vc, iv (if (p4 &&& (2 : Int32)) = (0 : Int32) then (0 : Int32) else (1 : Int32)), rv b5, iv 1, rv bs73, .val .null]) rfl (xaload X79 hx hby rfl at_402 rfl rfl k)))) ?_
  clear N76 X77 e77 N79q
  refine own_cs X79 hx hZ hown hml e79 (wd hw 83 rfl) (wd hw 84 rfl) (wd hw 85 rfl) (wd hw 86 rfl) (own_rmNmD l Z a0 hw [] bs73 bA m0 m1 s0 s1 v0 v1 kA kv0 kv1 cs br73 kr73 (8 : Int32) [(.int (own_b y0)), (.int (own_b y1)), (.int (own_b y2)), (.int (own_b y3)), (.int (own_b y4)), (.int (own_b y5)), (.int (own_b y6)), (.int (own_b y7))] h77 n0 (Nat.le_trans Z0 K77.1) (own_staKeep0 S_A K77) (V_A.keep K77 nNl) (E_A.keep K77) (E_m0.keep K77) (F_o0.keep K77 nNl) (E_s0.keep K77) (F_cs0.keep K77 nNl) (F_vs0.keep K77 nNl) (V_v0.keep K77 nNl) (E_m1.keep K77) (F_o1.keep K77 nNl) (E_s1.keep K77) (F_cs1.keep K77 nNl) (F_vs1.keep K77 nNl) (V_v1.keep K77 nNl) (own_staKeep0 S_cs K77) hcs E_bs73_77 F_bs73_coder_77 F_bs73_value_77 V_br73_77 ne_s0_bs73 ne_s1_bs73 (by decide) (by decide)) own_pd17 (hb hby at_404) 0 [] rfl ⟨rfl, rfl, rfl, rfl, rfl⟩ (by decide) ?_
  rintro T80 L80 v80 X80 hQ80
  obtain ⟨rfl, N80q, K80q⟩ := hQ80
  have V_b5_80 := V_b5_77.keep K80q List.not_mem_nil
  have E_bs73_80 := E_bs73_77.keep K80q
  have F_bs73_coder_80 := F_bs73_coder_77.keep K80q List.not_mem_nil
  have F_bs73_value_80 := F_bs73_value_77.keep K80q List.not_mem_nil
  have V_br73_80 := V_br73_77.keep K80q List.not_mem_nil
  have E_sa74_80 := E_sa74_77.keep K80q
  have F_sa74_coder_80 := F_sa74_coder_77.keep K80q List.not_mem_nil
  have F_sa74_value_80 := F_sa74_value_77.keep K80q List.not_mem_nil
  have V_sb74_80 := V_sb74_77.keep K80q List.not_mem_nil
  have E_sa77_80 := Ea77.keep K80q
  have F_sa77_coder_80 := Fc77.keep K80q List.not_mem_nil
  have F_sa77_value_80 := Fv77.keep K80q List.not_mem_nil
  have V_sb77_80 := Va77.keep K80q List.not_mem_nil
  have N80 := Fr.app N79 N80q
  have hk80 := Nat.le_trans hk77_ K80q.1
  have K80 := K77.trans K80q (fun x hx => nomatch hx)
  have CR80 := CR77.trans (CHr.keep K80q (fun x hx => nomatch hx) CR77.1)
  obtain ⟨fs, hr, hrun, hended, hRE⟩ := Jvm.Stand.leaveW (s := s) X80 hS77 (by show _ ≤ T80.heap.size; exact hk80) (v := some (.int 1)) (fun h => by rw [Bd.returns] at h; cases h)
  refine ⟨_, _, ?_, hrun, hended, _, _, rfl, ?_, hRE.1, hRE.2.1, hRE.2.2.1, hRE.2.2.2.mono (by decide) (by decide)⟩
  · refine xaload X80 hx hby rfl at_407 rfl rfl (Jvm.RoadKit.acmp (g := (mkF m 409 #[iv p0, iv p1, iv p2, iv p3, iv p4, rv bw, iv 9, iv vc, iv (if (p4 &&& (2 : Int32)) = (0 : Int32) then (0 : Int32) else (1 : Int32)), rv b5, iv 1, rv bs73, .val .null] [.null, .null])) X80 hx rfl rfl rfl (pc0 := 409) (pc' := 412) (same := true) rfl (hb hby at_409) rfl (decide_eq_true rfl) (by decide) (by decide) (xiconst X80 hx hby rfl at_412 (xgoto X80 hx hby rfl 413 417 rfl at_413 (by decide) (by decide) (retN X80 hx (t := .boolean) Bd.returns (by simp) (hb hby at_417) hr))))
  · show own_Q0 n0 _ T80.heap _
    exact ⟨rfl, N80⟩
set_option maxRecDepth 65536 in
set_option maxHeartbeats 40000000 in
theorem own_tD10_2 {p : Program} {l : Launch} {e : Env} {Z s s₁ Tq : State} {m : MethodId} {below : List Frame} {meth : Method} {c : Code} {a0 : Array Value} {ws : List Jvm.Cond} {n0 nS : Nat} {h0 hq : Heap} {Lq : List Loc} {bvm : Vm} {b5 bA m0 m1 s0 s1 v0 v1 : Addr} {k5 kA kv0 kv1 : ClassId} {p0 p1 p2 p3 p4 : Int32} {cs vc y0 y1 y10 y11 y2 y3 y4 y5 y6 y7 y8 y9 : Int32} {bw : Addr} {fv : Value} (hw : ∀ d ∈ tables_1, d.before a0 Z = true) (Bd : BodyLoose p l x (head1 (Jvm.Cond.code x code maxLocals ret :: ws) room_1) code maxLocals ret e s m #[.int p0, .int p1, .int p2, .int p3, .int p4] below meth c s₁) (hx : p.tables.exec = Jvm.exec) (hby : c.code = code) (hml : c.maxLocals = 13) (hown : (s.setVm bvm).vm.findClass "com/example/corollary/corollary/EstimateMethodNamedPinLaw" = some m.cls) (hZ : Z.Warmed39 (s.setVm bvm).vm) (Xq : Stand p l e room_1 (s.setVm bvm) m #[.int p0, .int p1, .int p2, .int p3, .int p4] below meth c Tq Lq 3 56) (eq0 : Tq.heap = hq) (Nq : Fr n0 Lq) (Z0 : n0 ≤ h0.size) (Kq : Keep h0 hq []) (hSq : s.Since bvm nS) (hkq : nS ≤ hq.size) (CRq : CHr Z own_EL s.vm h0 bvm hq) (S_A : Sta Z h0 "com/example/corollary/corollary/EstimateMethod" "$VALUES" "[Lcom/example/corollary/corollary/EstimateMethod;" (.ref bA)) (V_A : Arv Z h0 bA kA (.object "com/example/corollary/corollary/EstimateMethod") (2 : Int32) [.ref m0, .ref m1] .null) (E_A : Exa Z h0 bA "[Lcom/example/corollary/corollary/EstimateMethod;") (S_cs : Sta Z h0 "java/lang/String" "COMPACT_STRINGS" "Z" (.int cs)) (E_m0 : Exa Z h0 m0 "com/example/corollary/corollary/EstimateMethod$1") (F_o0 : Fld Z h0 m0 "com/example/corollary/corollary/EstimateMethod" "optionName" "Ljava/lang/String;" (.ref s0)) (E_s0 : Exa Z h0 s0 "java/lang/String") (F_cs0 : Fld Z h0 s0 "java/lang/String" "coder" "B" (.int 0)) (F_vs0 : Fld Z h0 s0 "java/lang/String" "value" "[B" (.ref v0)) (V_v0 : Arv Z h0 v0 kv0 .byte (10 : Int32) [.int 115, .int 101, .int 113, .int 117, .int 101, .int 110, .int 116, .int 105, .int 97, .int 108] (.int 0)) (E_m1 : Exa Z h0 m1 "com/example/corollary/corollary/EstimateMethod$2") (F_o1 : Fld Z h0 m1 "com/example/corollary/corollary/EstimateMethod" "optionName" "Ljava/lang/String;" (.ref s1)) (E_s1 : Exa Z h0 s1 "java/lang/String") (F_cs1 : Fld Z h0 s1 "java/lang/String" "coder" "B" (.int 0)) (F_vs1 : Fld Z h0 s1 "java/lang/String" "value" "[B" (.ref v1)) (V_v1 : Arv Z h0 v1 kv1 .byte (9 : Int32) [.int 114, .int 101, .int 102, .int 101, .int 114, .int 101, .int 110, .int 99, .int 101] (.int 0)) (S_S : Sta Z h0 "com/example/corollary/corollary/EstimateMethod" "SEQUENTIAL" "Lcom/example/corollary/corollary/EstimateMethod;" (.ref m0)) (S_R : Sta Z h0 "com/example/corollary/corollary/EstimateMethod" "REFERENCE" "Lcom/example/corollary/corollary/EstimateMethod;" (.ref m1)) (S_f : Sta Z h0 "jdk/internal/util/Preconditions" "SIOOBE_FORMATTER" "Ljava/util/function/BiFunction;" fv) (l_y0 : ¬ y0 < (0 : Int32)) (u_y0 : ¬ (255 : Int32) < y0) (l_y1 : ¬ y1 < (0 : Int32)) (u_y1 : ¬ (255 : Int32) < y1) (l_y2 : ¬ y2 < (0 : Int32)) (u_y2 : ¬ (255 : Int32) < y2) (l_y3 : ¬ y3 < (0 : Int32)) (u_y3 : ¬ (255 : Int32) < y3) (l_y4 : ¬ y4 < (0 : Int32)) (u_y4 : ¬ (255 : Int32) < y4) (l_y5 : ¬ y5 < (0 : Int32)) (u_y5 : ¬ (255 : Int32) < y5) (l_y6 : ¬ y6 < (0 : Int32)) (u_y6 : ¬ (255 : Int32) < y6) (l_y7 : ¬ y7 < (0 : Int32)) (u_y7 : ¬ (255 : Int32) < y7) (l_y8 : ¬ y8 < (0 : Int32)) (u_y8 : ¬ (255 : Int32) < y8) (l_y9 : ¬ y9 < (0 : Int32)) (u_y9 : ¬ (255 : Int32) < y9) (l_y10 : ¬ y10 < (0 : Int32)) (u_y10 : ¬ (255 : Int32) < y10) (l_y11 : ¬ y11 < (0 : Int32)) (u_y11 : ¬ (255 : Int32) < y11) (tV_b5 : Arv Z hq b5 k5 .char (12 : Int32) [.int y0, .int y1, .int y2, .int y3, .int y4, .int y5, .int y6, .int y7, .int y8, .int y9, .int y10, .int y11] (.int 0)) (new_b5 : n0 ≤ b5) (sz_b5 : h0.size ≤ b5) (hcs : ¬ cs = (0 : Int32)) (hfv : fv.isRef = true) :
    ∃ s₂ o, Steps p.tables e below (Tq.setTop (mkF m 258 #[iv p0, iv p1, iv p2, iv p3, iv p4, rv bw, iv 10, iv vc, iv (if (p4 &&& (2 : Int32)) = (0 : Int32) then (0 : Int32) else (1 : Int32)), rv b5, iv 2, .unset, .unset] [])) s₂ ∧ s₂.status = .running ∧ Ended s₂ below o ∧ ∃ v L, o = .returned v ∧ own_Q0 n0 v s₂.heap L ∧ ReturnedEndW s o s₂ L room_1.cells room_1.slots := by
  refine own_go (b := Tq.setTop (mkF m 307 #[iv p0, iv p1, iv p2, iv p3, iv p4, rv bw, iv 10, iv vc, iv (if (p4 &&& (2 : Int32)) = (0 : Int32) then (0 : Int32) else (1 : Int32)), rv b5, iv 2, .unset, .unset] [.int 11, .ref b5])) (fun t k => xiload Xq hx hby rfl at_258 rfl (xifYes Xq hx hby rfl 260 275 rfl at_260 rfl ((if0 _ _).trans (feq ((by decide) : ¬ ((2 : Int32) = (0 : Int32)))).2) (by decide) (by decide) (xiload Xq hx hby rfl at_275 rfl (xiconst Xq hx hby rfl at_277 (xicmpYes Xq hx hby rfl 278 295 rfl at_278 rfl (feq ((by decide) : ¬ ((2 : Int32) = (1 : Int32)))).2 (by decide) (by decide) (xiload Xq hx hby rfl at_295 rfl (xiconst Xq hx hby rfl at_297 (xicmpNo Xq hx hby rfl at_298 rfl (teq ((by decide) : (2 : Int32) = (2 : Int32))).2 (xaload Xq hx hby rfl at_301 rfl rfl (xiload Xq hx hby rfl at_303 rfl (xiconst Xq hx hby rfl at_305 (xiadd Xq hx hby rfl at_306 rfl k)))))))))))) ?_
  refine own_cs Xq hx hZ hown hml eq0 (wd hw 49 rfl) (wd hw 50 rfl) (wd hw 24 rfl) (wd hw 51 rfl) (own_rmTk_11 l Z a0 hw [] b5 k5 cs y0 y1 y2 y3 y4 y5 y6 y7 y8 y9 y10 y11 hq n0 (Nat.le_trans Z0 Kq.1) tV_b5 (own_staKeep0 S_cs Kq) hcs l_y0 u_y0 l_y1 u_y1 l_y2 u_y2 l_y3 u_y3 l_y4 u_y4 l_y5 u_y5 l_y6 u_y6 l_y7 u_y7 l_y8 u_y8 l_y9 u_y9 l_y10 u_y10 l_y11 u_y11) own_pd16 (hb hby at_307) 0 [] rfl ⟨rfl, rfl, rfl, rfl, rfl⟩ (by decide) ?_
  rintro T81 L81 v81 X81 hQ81
  obtain ⟨bs81, br81, kr81, rfl, N81q, K81q, B81_0, B81_1, B81_2, B81_3, B81_4⟩ := hQ81
  have V_b5_81 := tV_b5.keep K81q List.not_mem_nil
  have N81 := Fr.app Nq N81q
  have hk81 := Nat.le_trans hkq K81q.1
  have K81 := Kq.trans K81q (fun x hx => nomatch hx)
  have CR81 := CRq.trans (CHr.keep K81q (fun x hx => nomatch hx) CRq.1)
  have ne_b5_bs81 : b5 ≠ bs81 := Nat.ne_of_lt (Nat.lt_of_lt_of_le tV_b5.lt B81_4)
  have ne_bA_bs81 : bA ≠ bs81 := Nat.ne_of_lt (Nat.lt_of_lt_of_le (V_A.keep Kq nNl).lt B81_4)
  have ne_m0_bs81 : m0 ≠ bs81 := Nat.ne_of_lt (Nat.lt_of_lt_of_le (E_m0.keep Kq).lt B81_4)
  have ne_m1_bs81 : m1 ≠ bs81 := Nat.ne_of_lt (Nat.lt_of_lt_of_le (E_m1.keep Kq).lt B81_4)
  have ne_s0_bs81 : s0 ≠ bs81 := Nat.ne_of_lt (Nat.lt_of_lt_of_le (E_s0.keep Kq).lt B81_4)
  have ne_s1_bs81 : s1 ≠ bs81 := Nat.ne_of_lt (Nat.lt_of_lt_of_le (E_s1.keep Kq).lt B81_4)
  have ne_v0_bs81 : v0 ≠ bs81 := Nat.ne_of_lt (Nat.lt_of_lt_of_le (V_v0.keep Kq nNl).lt B81_4)
  have ne_v1_bs81 : v1 ≠ bs81 := Nat.ne_of_lt (Nat.lt_of_lt_of_le (V_v1.keep Kq nNl).lt B81_4)
  refine own_go (b := T81.setTop (mkF m 365 #[iv p0, iv p1, iv p2, iv p3, iv p4, rv bw, iv 10, iv vc, iv (if (p4 &&& (2 : Int32)) = (0 : Int32) then (0 : Int32) else (1 : Int32)), rv b5, iv 2, rv bs81, .unset] [.ref bs81])) (fun t k => xastore X81 hx hby rfl at_310 rfl rfl (l' := #[iv p0, iv p1, iv p2, iv p3, iv p4, rv bw, iv 10, iv vc, iv (if (p4 &&& (2 : Int32)) = (0 : Int32) then (0 : Int32) else (1 : Int32)), rv b5, iv 2, rv bs81, .unset]) rfl (xgoto X81 hx hby rfl 312 352 rfl at_312 (by decide) (by decide) (xaload X81 hx hby rfl at_352 rfl rfl (XS.ifnonnullYes X81.here hx rfl (pc0 := 354) (pc' := 363) rfl (hb hby at_354) rfl (by decide) (by decide) (xaload X81 hx hby rfl at_363 rfl rfl k))))) ?_
  clear tV_b5 N81q K81q B81_4
  obtain ⟨sa82, T82, h82, kk82, sb82, kb82, X82, e82, E82, hS82, hk82_, hZ, hown, Ea82, Fc82, Fv82, Va82, la82, lb82, CRl82, hL82, hne82, st82⟩ := ldcCH (s := s) X81 hx hZ hown (wd hw 0 rfl) (own_atoms hw) rfl hSq hk81 (own_EW hw) (List.mem_of_getElem? (i := 0) rfl) CR81.1 (vs := [.int 115, .int 101, .int 113, .int 117, .int 101, .int 110, .int 116, .int 105, .int 97, .int 108]) (z := (10 : Int32)) (by decide +kernel) (by decide) (by decide +kernel) (g := (mkF m 365 #[iv p0, iv p1, iv p2, iv p3, iv p4, rv bw, iv 10, iv vc, iv (if (p4 &&& (2 : Int32)) = (0 : Int32) then (0 : Int32) else (1 : Int32)), rv b5, iv 2, rv bs81, .unset] [.ref bs81])) rfl (hb hby at_365) (n := 40) (by decide +kernel) (by decide) (by decide) (by decide)
  have V_b5_82 := V_b5_81.ext E82
  have E_bs81_82 := B81_0.ext E82
  have F_bs81_coder_82 := B81_1.ext E82
  have F_bs81_value_82 := B81_2.ext E82
  have V_br81_82 := B81_3.ext E82
  have hk82 := Nat.le_trans hk81 E82.1
  have K82 := K81.ext E82
  have CR82 := CR81.trans CRl82
  have hq83 := own_neStr F_bs81_value_82 Fv82 V_br81_82 Va82 (by decide)
  refine own_go (b := T82.setTop (mkF m 367 #[iv p0, iv p1, iv p2, iv p3, iv p4, rv bw, iv 10, iv vc, iv (if (p4 &&& (2 : Int32)) = (0 : Int32) then (0 : Int32) else (1 : Int32)), rv b5, iv 2, rv bs81, .unset] [.ref sa82, .ref bs81])) (fun t k => st82 _ k) ?_
  clear X81 B81_0 B81_1 B81_2 B81_3 V_b5_81 hk81 K81 CR81 E82 la82 lb82 CRl82 st82 hk82
  refine own_cv X82 hx hZ hown hml e82 (wd hw 73 rfl) (wd hw 74 rfl) (wd hw 76 rfl) (wd hw 75 rfl) (wd hw 1 rfl) (wd hw 77 rfl) E_bs81_82 (own_rmEqD l Z a0 hw [] bs81 sa82 br81 sb82 kr81 kb82 (11 : Int32) (10 : Int32) [(.int (own_b y0)), (.int (own_b y1)), (.int (own_b y2)), (.int (own_b y3)), (.int (own_b y4)), (.int (own_b y5)), (.int (own_b y6)), (.int (own_b y7)), (.int (own_b y8)), (.int (own_b y9)), (.int (own_b y10))] [.int 115, .int 101, .int 113, .int 117, .int 101, .int 110, .int 116, .int 105, .int 97, .int 108] cs h82 n0 (Nat.le_trans Z0 K82.1) E_bs81_82 F_bs81_coder_82 F_bs81_value_82 V_br81_82 Ea82 Fc82 Fv82 Va82 (by decide) (own_staKeep0 S_cs K82) hcs hq83) own_pd14 (hb hby at_367) 0 [] rfl rfl ⟨rfl, rfl, rfl, rfl, rfl⟩ (by decide) ?_
  rintro T84 L84 v84 X84 hQ84
  obtain ⟨rfl, N84q, e84⟩ := hQ84
  have N84 := Fr.app N81 N84q
  refine own_go (b := T84.setTop (mkF m 383 #[iv p0, iv p1, iv p2, iv p3, iv p4, rv bw, iv 10, iv vc, iv (if (p4 &&& (2 : Int32)) = (0 : Int32) then (0 : Int32) else (1 : Int32)), rv b5, iv 2, rv bs81, .unset] [.ref bs81])) (fun t k => xifYes X84 hx hby rfl 370 381 rfl at_370 rfl ((if0 _ _).trans (teq ((by decide) : (0 : Int32) = (0 : Int32))).1) (by decide) (by decide) (xaload X84 hx hby rfl at_381 rfl rfl k)) ?_
  clear N81 X82 e82 N84q
  obtain ⟨sa85, T85, h85, kk85, sb85, kb85, X85, e85, E85, hS85, hk85_, hZ, hown, Ea85, Fc85, Fv85, Va85, la85, lb85, CRl85, hL85, hne85, st85⟩ := ldcCH (s := s) X84 hx hZ hown (wd hw 82 rfl) (own_atoms hw) e84 hS82 hk82_ (own_EW hw) (List.mem_of_getElem? (i := 1) rfl) CR82.1 (vs := [.int 114, .int 101, .int 102, .int 101, .int 114, .int 101, .int 110, .int 99, .int 101]) (z := (9 : Int32)) (by decide +kernel) (by decide) (by decide +kernel) (g := (mkF m 383 #[iv p0, iv p1, iv p2, iv p3, iv p4, rv bw, iv 10, iv vc, iv (if (p4 &&& (2 : Int32)) = (0 : Int32) then (0 : Int32) else (1 : Int32)), rv b5, iv 2, rv bs81, .unset] [.ref bs81])) rfl (hb hby at_383) (n := 36) (by decide +kernel) (by decide) (by decide) (by decide)
  have V_b5_85 := V_b5_82.ext E85
  have E_bs81_85 := E_bs81_82.ext E85
  have F_bs81_coder_85 := F_bs81_coder_82.ext E85
  have F_bs81_value_85 := F_bs81_value_82.ext E85
  have V_br81_85 := V_br81_82.ext E85
  have E_sa82_85 := Ea82.ext E85
  have F_sa82_coder_85 := Fc82.ext E85
  have F_sa82_value_85 := Fv82.ext E85
  have V_sb82_85 := Va82.ext E85
  have hk85 := Nat.le_trans hk82_ E85.1
  have K85 := K82.ext E85
  have CR85 := CR82.trans CRl85
  have hq86 := own_neStr F_bs81_value_85 Fv85 V_br81_85 Va85 (by decide)
  refine own_go (b := T85.setTop (mkF m 385 #[iv p0, iv p1, iv p2, iv p3, iv p4, rv bw, iv 10, iv vc, iv (if (p4 &&& (2 : Int32)) = (0 : Int32) then (0 : Int32) else (1 : Int32)), rv b5, iv 2, rv bs81, .unset] [.ref sa85, .ref bs81])) (fun t k => st85 _ k) ?_
  clear hS82 hk82_ Ea82 Fc82 Fv82 Va82 V_b5_82 E_bs81_82 F_bs81_coder_82 F_bs81_value_82 V_br81_82 K82 CR82 X84 e84 E85 la85 lb85 CRl85 st85 hk85
  refine own_cv X85 hx hZ hown hml e85 (wd hw 73 rfl) (wd hw 74 rfl) (wd hw 76 rfl) (wd hw 75 rfl) (wd hw 1 rfl) (wd hw 77 rfl) E_bs81_85 (own_rmEqD l Z a0 hw [] bs81 sa85 br81 sb85 kr81 kb85 (11 : Int32) (9 : Int32) [(.int (own_b y0)), (.int (own_b y1)), (.int (own_b y2)), (.int (own_b y3)), (.int (own_b y4)), (.int (own_b y5)), (.int (own_b y6)), (.int (own_b y7)), (.int (own_b y8)), (.int (own_b y9)), (.int (own_b y10))] [.int 114, .int 101, .int 102, .int 101, .int 114, .int 101, .int 110, .int 99, .int 101] cs h85 n0 (Nat.le_trans Z0 K85.1) E_bs81_85 F_bs81_coder_85 F_bs81_value_85 V_br81_85 Ea85 Fc85 Fv85 Va85 (by decide) (own_staKeep0 S_cs K85) hcs hq86) own_pd14 (hb hby at_385) 0 [] rfl rfl ⟨rfl, rfl, rfl, rfl, rfl⟩ (by decide) ?_
  rintro T87 L87 v87 X87 hQ87
  obtain ⟨rfl, N87q, e87⟩ := hQ87
  have N87 := Fr.app N84 N87q
  refine own_go (b := T87.setTop (mkF m 404 #[iv p0, iv p1, iv p2, iv p3, iv p4, rv bw, iv 10, iv vc, iv (if (p4 &&& (2 : Int32)) = (0 : Int32) then (0 : Int32) else (1 : Int32)), rv b5, iv 2, rv bs81, .val .null] [.ref bs81])) (fun t k => xifYes X87 hx hby rfl 388 399 rfl at_388 rfl ((if0 _ _).trans (teq ((by decide) : (0 : Int32) = (0 : Int32))).1) (by decide) (by decide) (xaconstNull X87 hx hby rfl at_399 (xastore X87 hx hby rfl at_400 rfl rfl (l' := #[iv p0, iv p1, iv p2, iv p3, iv p4, rv bw, iv 10, iv vc, iv (if (p4 &&& (2 : Int32)) = (0 : Int32) then (0 : Int32) else (1 : Int32)), rv b5, iv 2, rv bs81, .val .null]) rfl (xaload X87 hx hby rfl at_402 rfl rfl k)))) ?_
  clear N84 X85 e85 N87q
  refine own_cs X87 hx hZ hown hml e87 (wd hw 83 rfl) (wd hw 84 rfl) (wd hw 85 rfl) (wd hw 86 rfl) (own_rmNmD l Z a0 hw [] bs81 bA m0 m1 s0 s1 v0 v1 kA kv0 kv1 cs br81 kr81 (11 : Int32) [(.int (own_b y0)), (.int (own_b y1)), (.int (own_b y2)), (.int (own_b y3)), (.int (own_b y4)), (.int (own_b y5)), (.int (own_b y6)), (.int (own_b y7)), (.int (own_b y8)), (.int (own_b y9)), (.int (own_b y10))] h85 n0 (Nat.le_trans Z0 K85.1) (own_staKeep0 S_A K85) (V_A.keep K85 nNl) (E_A.keep K85) (E_m0.keep K85) (F_o0.keep K85 nNl) (E_s0.keep K85) (F_cs0.keep K85 nNl) (F_vs0.keep K85 nNl) (V_v0.keep K85 nNl) (E_m1.keep K85) (F_o1.keep K85 nNl) (E_s1.keep K85) (F_cs1.keep K85 nNl) (F_vs1.keep K85 nNl) (V_v1.keep K85 nNl) (own_staKeep0 S_cs K85) hcs E_bs81_85 F_bs81_coder_85 F_bs81_value_85 V_br81_85 ne_s0_bs81 ne_s1_bs81 (by decide) (by decide)) own_pd17 (hb hby at_404) 0 [] rfl ⟨rfl, rfl, rfl, rfl, rfl⟩ (by decide) ?_
  rintro T88 L88 v88 X88 hQ88
  obtain ⟨rfl, N88q, K88q⟩ := hQ88
  have V_b5_88 := V_b5_85.keep K88q List.not_mem_nil
  have E_bs81_88 := E_bs81_85.keep K88q
  have F_bs81_coder_88 := F_bs81_coder_85.keep K88q List.not_mem_nil
  have F_bs81_value_88 := F_bs81_value_85.keep K88q List.not_mem_nil
  have V_br81_88 := V_br81_85.keep K88q List.not_mem_nil
  have E_sa82_88 := E_sa82_85.keep K88q
  have F_sa82_coder_88 := F_sa82_coder_85.keep K88q List.not_mem_nil
  have F_sa82_value_88 := F_sa82_value_85.keep K88q List.not_mem_nil
  have V_sb82_88 := V_sb82_85.keep K88q List.not_mem_nil
  have E_sa85_88 := Ea85.keep K88q
  have F_sa85_coder_88 := Fc85.keep K88q List.not_mem_nil
  have F_sa85_value_88 := Fv85.keep K88q List.not_mem_nil
  have V_sb85_88 := Va85.keep K88q List.not_mem_nil
  have N88 := Fr.app N87 N88q
  have hk88 := Nat.le_trans hk85_ K88q.1
  have K88 := K85.trans K88q (fun x hx => nomatch hx)
  have CR88 := CR85.trans (CHr.keep K88q (fun x hx => nomatch hx) CR85.1)
  obtain ⟨fs, hr, hrun, hended, hRE⟩ := Jvm.Stand.leaveW (s := s) X88 hS85 (by show _ ≤ T88.heap.size; exact hk88) (v := some (.int 1)) (fun h => by rw [Bd.returns] at h; cases h)
  refine ⟨_, _, ?_, hrun, hended, _, _, rfl, ?_, hRE.1, hRE.2.1, hRE.2.2.1, hRE.2.2.2.mono (by decide) (by decide)⟩
  · refine xaload X88 hx hby rfl at_407 rfl rfl (Jvm.RoadKit.acmp (g := (mkF m 409 #[iv p0, iv p1, iv p2, iv p3, iv p4, rv bw, iv 10, iv vc, iv (if (p4 &&& (2 : Int32)) = (0 : Int32) then (0 : Int32) else (1 : Int32)), rv b5, iv 2, rv bs81, .val .null] [.null, .null])) X88 hx rfl rfl rfl (pc0 := 409) (pc' := 412) (same := true) rfl (hb hby at_409) rfl (decide_eq_true rfl) (by decide) (by decide) (xiconst X88 hx hby rfl at_412 (xgoto X88 hx hby rfl 413 417 rfl at_413 (by decide) (by decide) (retN X88 hx (t := .boolean) Bd.returns (by simp) (hb hby at_417) hr))))
  · show own_Q0 n0 _ T88.heap _
    exact ⟨rfl, N88⟩
set_option maxRecDepth 65536 in
set_option maxHeartbeats 40000000 in
theorem own_tD9_2 {p : Program} {l : Launch} {e : Env} {Z s s₁ Tq : State} {m : MethodId} {below : List Frame} {meth : Method} {c : Code} {a0 : Array Value} {ws : List Jvm.Cond} {n0 nS : Nat} {h0 hq : Heap} {Lq : List Loc} {bvm : Vm} {b5 bA m0 m1 s0 s1 v0 v1 : Addr} {k5 kA kv0 kv1 : ClassId} {p0 p1 p2 p3 p4 : Int32} {cs vc y0 y1 y10 y11 y2 y3 y4 y5 y6 y7 y8 y9 : Int32} {bw : Addr} {fv : Value} (hw : ∀ d ∈ tables_1, d.before a0 Z = true) (Bd : BodyLoose p l x (head1 (Jvm.Cond.code x code maxLocals ret :: ws) room_1) code maxLocals ret e s m #[.int p0, .int p1, .int p2, .int p3, .int p4] below meth c s₁) (hx : p.tables.exec = Jvm.exec) (hby : c.code = code) (hml : c.maxLocals = 13) (hown : (s.setVm bvm).vm.findClass "com/example/corollary/corollary/EstimateMethodNamedPinLaw" = some m.cls) (hZ : Z.Warmed39 (s.setVm bvm).vm) (Xq : Stand p l e room_1 (s.setVm bvm) m #[.int p0, .int p1, .int p2, .int p3, .int p4] below meth c Tq Lq 3 56) (eq0 : Tq.heap = hq) (Nq : Fr n0 Lq) (Z0 : n0 ≤ h0.size) (Kq : Keep h0 hq []) (hSq : s.Since bvm nS) (hkq : nS ≤ hq.size) (CRq : CHr Z own_EL s.vm h0 bvm hq) (S_A : Sta Z h0 "com/example/corollary/corollary/EstimateMethod" "$VALUES" "[Lcom/example/corollary/corollary/EstimateMethod;" (.ref bA)) (V_A : Arv Z h0 bA kA (.object "com/example/corollary/corollary/EstimateMethod") (2 : Int32) [.ref m0, .ref m1] .null) (E_A : Exa Z h0 bA "[Lcom/example/corollary/corollary/EstimateMethod;") (S_cs : Sta Z h0 "java/lang/String" "COMPACT_STRINGS" "Z" (.int cs)) (E_m0 : Exa Z h0 m0 "com/example/corollary/corollary/EstimateMethod$1") (F_o0 : Fld Z h0 m0 "com/example/corollary/corollary/EstimateMethod" "optionName" "Ljava/lang/String;" (.ref s0)) (E_s0 : Exa Z h0 s0 "java/lang/String") (F_cs0 : Fld Z h0 s0 "java/lang/String" "coder" "B" (.int 0)) (F_vs0 : Fld Z h0 s0 "java/lang/String" "value" "[B" (.ref v0)) (V_v0 : Arv Z h0 v0 kv0 .byte (10 : Int32) [.int 115, .int 101, .int 113, .int 117, .int 101, .int 110, .int 116, .int 105, .int 97, .int 108] (.int 0)) (E_m1 : Exa Z h0 m1 "com/example/corollary/corollary/EstimateMethod$2") (F_o1 : Fld Z h0 m1 "com/example/corollary/corollary/EstimateMethod" "optionName" "Ljava/lang/String;" (.ref s1)) (E_s1 : Exa Z h0 s1 "java/lang/String") (F_cs1 : Fld Z h0 s1 "java/lang/String" "coder" "B" (.int 0)) (F_vs1 : Fld Z h0 s1 "java/lang/String" "value" "[B" (.ref v1)) (V_v1 : Arv Z h0 v1 kv1 .byte (9 : Int32) [.int 114, .int 101, .int 102, .int 101, .int 114, .int 101, .int 110, .int 99, .int 101] (.int 0)) (S_S : Sta Z h0 "com/example/corollary/corollary/EstimateMethod" "SEQUENTIAL" "Lcom/example/corollary/corollary/EstimateMethod;" (.ref m0)) (S_R : Sta Z h0 "com/example/corollary/corollary/EstimateMethod" "REFERENCE" "Lcom/example/corollary/corollary/EstimateMethod;" (.ref m1)) (S_f : Sta Z h0 "jdk/internal/util/Preconditions" "SIOOBE_FORMATTER" "Ljava/util/function/BiFunction;" fv) (l_y0 : ¬ y0 < (0 : Int32)) (u_y0 : ¬ (255 : Int32) < y0) (l_y1 : ¬ y1 < (0 : Int32)) (u_y1 : ¬ (255 : Int32) < y1) (l_y2 : ¬ y2 < (0 : Int32)) (u_y2 : ¬ (255 : Int32) < y2) (l_y3 : ¬ y3 < (0 : Int32)) (u_y3 : ¬ (255 : Int32) < y3) (l_y4 : ¬ y4 < (0 : Int32)) (u_y4 : ¬ (255 : Int32) < y4) (l_y5 : ¬ y5 < (0 : Int32)) (u_y5 : ¬ (255 : Int32) < y5) (l_y6 : ¬ y6 < (0 : Int32)) (u_y6 : ¬ (255 : Int32) < y6) (l_y7 : ¬ y7 < (0 : Int32)) (u_y7 : ¬ (255 : Int32) < y7) (l_y8 : ¬ y8 < (0 : Int32)) (u_y8 : ¬ (255 : Int32) < y8) (l_y9 : ¬ y9 < (0 : Int32)) (u_y9 : ¬ (255 : Int32) < y9) (l_y10 : ¬ y10 < (0 : Int32)) (u_y10 : ¬ (255 : Int32) < y10) (l_y11 : ¬ y11 < (0 : Int32)) (u_y11 : ¬ (255 : Int32) < y11) (tV_b5 : Arv Z hq b5 k5 .char (12 : Int32) [.int y0, .int y1, .int y2, .int y3, .int y4, .int y5, .int y6, .int y7, .int y8, .int y9, .int y10, .int y11] (.int 0)) (new_b5 : n0 ≤ b5) (sz_b5 : h0.size ≤ b5) (hcs : ¬ cs = (0 : Int32)) (hfv : fv.isRef = true) :
    ∃ s₂ o, Steps p.tables e below (Tq.setTop (mkF m 258 #[iv p0, iv p1, iv p2, iv p3, iv p4, rv bw, iv 9, iv vc, iv (if (p4 &&& (2 : Int32)) = (0 : Int32) then (0 : Int32) else (1 : Int32)), rv b5, iv 2, .unset, .unset] [])) s₂ ∧ s₂.status = .running ∧ Ended s₂ below o ∧ ∃ v L, o = .returned v ∧ own_Q0 n0 v s₂.heap L ∧ ReturnedEndW s o s₂ L room_1.cells room_1.slots := by
  refine own_go (b := Tq.setTop (mkF m 307 #[iv p0, iv p1, iv p2, iv p3, iv p4, rv bw, iv 9, iv vc, iv (if (p4 &&& (2 : Int32)) = (0 : Int32) then (0 : Int32) else (1 : Int32)), rv b5, iv 2, .unset, .unset] [.int 10, .ref b5])) (fun t k => xiload Xq hx hby rfl at_258 rfl (xifYes Xq hx hby rfl 260 275 rfl at_260 rfl ((if0 _ _).trans (feq ((by decide) : ¬ ((2 : Int32) = (0 : Int32)))).2) (by decide) (by decide) (xiload Xq hx hby rfl at_275 rfl (xiconst Xq hx hby rfl at_277 (xicmpYes Xq hx hby rfl 278 295 rfl at_278 rfl (feq ((by decide) : ¬ ((2 : Int32) = (1 : Int32)))).2 (by decide) (by decide) (xiload Xq hx hby rfl at_295 rfl (xiconst Xq hx hby rfl at_297 (xicmpNo Xq hx hby rfl at_298 rfl (teq ((by decide) : (2 : Int32) = (2 : Int32))).2 (xaload Xq hx hby rfl at_301 rfl rfl (xiload Xq hx hby rfl at_303 rfl (xiconst Xq hx hby rfl at_305 (xiadd Xq hx hby rfl at_306 rfl k)))))))))))) ?_
  refine own_cs Xq hx hZ hown hml eq0 (wd hw 49 rfl) (wd hw 50 rfl) (wd hw 24 rfl) (wd hw 51 rfl) (own_rmTk_10 l Z a0 hw [] b5 k5 cs y0 y1 y2 y3 y4 y5 y6 y7 y8 y9 y10 y11 hq n0 (Nat.le_trans Z0 Kq.1) tV_b5 (own_staKeep0 S_cs Kq) hcs l_y0 u_y0 l_y1 u_y1 l_y2 u_y2 l_y3 u_y3 l_y4 u_y4 l_y5 u_y5 l_y6 u_y6 l_y7 u_y7 l_y8 u_y8 l_y9 u_y9 l_y10 u_y10 l_y11 u_y11) own_pd16 (hb hby at_307) 0 [] rfl ⟨rfl, rfl, rfl, rfl, rfl⟩ (by decide) ?_
  rintro T89 L89 v89 X89 hQ89
  obtain ⟨bs89, br89, kr89, rfl, N89q, K89q, B89_0, B89_1, B89_2, B89_3, B89_4⟩ := hQ89
  have V_b5_89 := tV_b5.keep K89q List.not_mem_nil
  have N89 := Fr.app Nq N89q
  have hk89 := Nat.le_trans hkq K89q.1
  have K89 := Kq.trans K89q (fun x hx => nomatch hx)
  have CR89 := CRq.trans (CHr.keep K89q (fun x hx => nomatch hx) CRq.1)
  have ne_b5_bs89 : b5 ≠ bs89 := Nat.ne_of_lt (Nat.lt_of_lt_of_le tV_b5.lt B89_4)
  have ne_bA_bs89 : bA ≠ bs89 := Nat.ne_of_lt (Nat.lt_of_lt_of_le (V_A.keep Kq nNl).lt B89_4)
  have ne_m0_bs89 : m0 ≠ bs89 := Nat.ne_of_lt (Nat.lt_of_lt_of_le (E_m0.keep Kq).lt B89_4)
  have ne_m1_bs89 : m1 ≠ bs89 := Nat.ne_of_lt (Nat.lt_of_lt_of_le (E_m1.keep Kq).lt B89_4)
  have ne_s0_bs89 : s0 ≠ bs89 := Nat.ne_of_lt (Nat.lt_of_lt_of_le (E_s0.keep Kq).lt B89_4)
  have ne_s1_bs89 : s1 ≠ bs89 := Nat.ne_of_lt (Nat.lt_of_lt_of_le (E_s1.keep Kq).lt B89_4)
  have ne_v0_bs89 : v0 ≠ bs89 := Nat.ne_of_lt (Nat.lt_of_lt_of_le (V_v0.keep Kq nNl).lt B89_4)
  have ne_v1_bs89 : v1 ≠ bs89 := Nat.ne_of_lt (Nat.lt_of_lt_of_le (V_v1.keep Kq nNl).lt B89_4)
  have Sf_bs89 := Safe.keep (EL := own_EL) K89q (fun x hx => nomatch hx) CRq.1 (Safe.new B89_4)
  refine own_go (b := T89.setTop (mkF m 365 #[iv p0, iv p1, iv p2, iv p3, iv p4, rv bw, iv 9, iv vc, iv (if (p4 &&& (2 : Int32)) = (0 : Int32) then (0 : Int32) else (1 : Int32)), rv b5, iv 2, rv bs89, .unset] [.ref bs89])) (fun t k => xastore X89 hx hby rfl at_310 rfl rfl (l' := #[iv p0, iv p1, iv p2, iv p3, iv p4, rv bw, iv 9, iv vc, iv (if (p4 &&& (2 : Int32)) = (0 : Int32) then (0 : Int32) else (1 : Int32)), rv b5, iv 2, rv bs89, .unset]) rfl (xgoto X89 hx hby rfl 312 352 rfl at_312 (by decide) (by decide) (xaload X89 hx hby rfl at_352 rfl rfl (XS.ifnonnullYes X89.here hx rfl (pc0 := 354) (pc' := 363) rfl (hb hby at_354) rfl (by decide) (by decide) (xaload X89 hx hby rfl at_363 rfl rfl k))))) ?_
  clear tV_b5 N89q K89q B89_4
  obtain ⟨sa90, T90, h90, kk90, sb90, kb90, X90, e90, E90, hS90, hk90_, hZ, hown, Ea90, Fc90, Fv90, Va90, la90, lb90, CRl90, hL90, hne90, st90⟩ := ldcCH (s := s) X89 hx hZ hown (wd hw 0 rfl) (own_atoms hw) rfl hSq hk89 (own_EW hw) (List.mem_of_getElem? (i := 0) rfl) CR89.1 (vs := [.int 115, .int 101, .int 113, .int 117, .int 101, .int 110, .int 116, .int 105, .int 97, .int 108]) (z := (10 : Int32)) (by decide +kernel) (by decide) (by decide +kernel) (g := (mkF m 365 #[iv p0, iv p1, iv p2, iv p3, iv p4, rv bw, iv 9, iv vc, iv (if (p4 &&& (2 : Int32)) = (0 : Int32) then (0 : Int32) else (1 : Int32)), rv b5, iv 2, rv bs89, .unset] [.ref bs89])) rfl (hb hby at_365) (n := 40) (by decide +kernel) (by decide) (by decide) (by decide)
  have Sfbs89_90 := CHr.safe CRl90 B89_0.lt Sf_bs89
  have V_b5_90 := V_b5_89.ext E90
  have E_bs89_90 := B89_0.ext E90
  have F_bs89_coder_90 := B89_1.ext E90
  have F_bs89_value_90 := B89_2.ext E90
  have V_br89_90 := B89_3.ext E90
  have hk90 := Nat.le_trans hk89 E90.1
  have K90 := K89.ext E90
  have CR90 := CR89.trans CRl90
  have hq91 : ¬ bs89 = sa90 := (hne90 _ Sfbs89_90).1
  refine own_go (b := T90.setTop (mkF m 367 #[iv p0, iv p1, iv p2, iv p3, iv p4, rv bw, iv 9, iv vc, iv (if (p4 &&& (2 : Int32)) = (0 : Int32) then (0 : Int32) else (1 : Int32)), rv b5, iv 2, rv bs89, .unset] [.ref sa90, .ref bs89])) (fun t k => st90 _ k) ?_
  clear X89 B89_0 B89_1 B89_2 B89_3 V_b5_89 hk89 K89 CR89 Sf_bs89 E90 la90 lb90 CRl90 st90 hk90
  refine own_cv X90 hx hZ hown hml e90 (wd hw 73 rfl) (wd hw 74 rfl) (wd hw 76 rfl) (wd hw 75 rfl) (wd hw 1 rfl) (wd hw 77 rfl) E_bs89_90 (own_rmEqA10 l Z a0 hw [] bs89 sa90 br89 sb90 kr89 kb90 (own_b y0) (own_b y1) (own_b y2) (own_b y3) (own_b y4) (own_b y5) (own_b y6) (own_b y7) (own_b y8) (own_b y9) cs h90 n0 (Nat.le_trans Z0 K90.1) E_bs89_90 F_bs89_coder_90 F_bs89_value_90 V_br89_90 Ea90 Fc90 Fv90 Va90 (own_staKeep0 S_cs K90) hcs hq91) own_pd14 (hb hby at_367) 0 [] rfl rfl ⟨rfl, rfl, rfl, rfl, rfl⟩ (by decide) ?_
  rintro T92 L92 v92 X92 hQ92
  obtain ⟨rfl, N92q, e92⟩ := hQ92
  have N92 := Fr.app N89 N92q
  refine own_go (b := T92.setTop (mkF m 370 #[iv p0, iv p1, iv p2, iv p3, iv p4, rv bw, iv 9, iv vc, iv (if (p4 &&& (2 : Int32)) = (0 : Int32) then (0 : Int32) else (1 : Int32)), rv b5, iv 2, rv bs89, .unset] [(.int (if (own_E10 (own_b y0) (own_b y1) (own_b y2) (own_b y3) (own_b y4) (own_b y5) (own_b y6) (own_b y7) (own_b y8) (own_b y9)) = (0 : Int32) then (0 : Int32) else (1 : Int32)))])) (fun t k => ?_) ?_
  · exact k
  clear N89 X90 e90 N92q
  by_cases hE : (own_E10 (own_b y0) (own_b y1) (own_b y2) (own_b y3) (own_b y4) (own_b y5) (own_b y6) (own_b y7) (own_b y8) (own_b y9)) = (0 : Int32)
  · refine own_go (b := T92.setTop (mkF m 383 #[iv p0, iv p1, iv p2, iv p3, iv p4, rv bw, iv 9, iv vc, iv (if (p4 &&& (2 : Int32)) = (0 : Int32) then (0 : Int32) else (1 : Int32)), rv b5, iv 2, rv bs89, .unset] [.ref bs89])) (fun t k => xifYes X92 hx hby rfl 370 381 rfl at_370 rfl ((if0 _ _).trans (teq (if_pos hE : (if (own_E10 (own_b y0) (own_b y1) (own_b y2) (own_b y3) (own_b y4) (own_b y5) (own_b y6) (own_b y7) (own_b y8) (own_b y9)) = (0 : Int32) then (0 : Int32) else (1 : Int32)) = (0 : Int32))).1) (by decide) (by decide) (xaload X92 hx hby rfl at_381 rfl rfl k)) ?_
    obtain ⟨sa93, T93, h93, kk93, sb93, kb93, X93, e93, E93, hS93, hk93_, hZ, hown, Ea93, Fc93, Fv93, Va93, la93, lb93, CRl93, hL93, hne93, st93⟩ := ldcCH (s := s) X92 hx hZ hown (wd hw 82 rfl) (own_atoms hw) e92 hS90 hk90_ (own_EW hw) (List.mem_of_getElem? (i := 1) rfl) CR90.1 (vs := [.int 114, .int 101, .int 102, .int 101, .int 114, .int 101, .int 110, .int 99, .int 101]) (z := (9 : Int32)) (by decide +kernel) (by decide) (by decide +kernel) (g := (mkF m 383 #[iv p0, iv p1, iv p2, iv p3, iv p4, rv bw, iv 9, iv vc, iv (if (p4 &&& (2 : Int32)) = (0 : Int32) then (0 : Int32) else (1 : Int32)), rv b5, iv 2, rv bs89, .unset] [.ref bs89])) rfl (hb hby at_383) (n := 36) (by decide +kernel) (by decide) (by decide) (by decide)
    have Sfbs89_93 := CHr.safe CRl93 E_bs89_90.lt Sfbs89_90
    have V_b5_93 := V_b5_90.ext E93
    have E_bs89_93 := E_bs89_90.ext E93
    have F_bs89_coder_93 := F_bs89_coder_90.ext E93
    have F_bs89_value_93 := F_bs89_value_90.ext E93
    have V_br89_93 := V_br89_90.ext E93
    have E_sa90_93 := Ea90.ext E93
    have F_sa90_coder_93 := Fc90.ext E93
    have F_sa90_value_93 := Fv90.ext E93
    have V_sb90_93 := Va90.ext E93
    have hk93 := Nat.le_trans hk90_ E93.1
    have K93 := K90.ext E93
    have CR93 := CR90.trans CRl93
    have hq94 := own_neStr F_bs89_value_93 Fv93 V_br89_93 Va93 (by decide)
    refine own_go (b := T93.setTop (mkF m 385 #[iv p0, iv p1, iv p2, iv p3, iv p4, rv bw, iv 9, iv vc, iv (if (p4 &&& (2 : Int32)) = (0 : Int32) then (0 : Int32) else (1 : Int32)), rv b5, iv 2, rv bs89, .unset] [.ref sa93, .ref bs89])) (fun t k => st93 _ k) ?_
    clear hS90 hk90_ Ea90 Fc90 Fv90 Va90 Sfbs89_90 V_b5_90 E_bs89_90 F_bs89_coder_90 F_bs89_value_90 V_br89_90 K90 CR90 X92 e92 E93 la93 lb93 CRl93 st93 hk93
    refine own_cv X93 hx hZ hown hml e93 (wd hw 73 rfl) (wd hw 74 rfl) (wd hw 76 rfl) (wd hw 75 rfl) (wd hw 1 rfl) (wd hw 77 rfl) E_bs89_93 (own_rmEqD l Z a0 hw [] bs89 sa93 br89 sb93 kr89 kb93 (10 : Int32) (9 : Int32) [(.int (own_b y0)), (.int (own_b y1)), (.int (own_b y2)), (.int (own_b y3)), (.int (own_b y4)), (.int (own_b y5)), (.int (own_b y6)), (.int (own_b y7)), (.int (own_b y8)), (.int (own_b y9))] [.int 114, .int 101, .int 102, .int 101, .int 114, .int 101, .int 110, .int 99, .int 101] cs h93 n0 (Nat.le_trans Z0 K93.1) E_bs89_93 F_bs89_coder_93 F_bs89_value_93 V_br89_93 Ea93 Fc93 Fv93 Va93 (by decide) (own_staKeep0 S_cs K93) hcs hq94) own_pd14 (hb hby at_385) 0 [] rfl rfl ⟨rfl, rfl, rfl, rfl, rfl⟩ (by decide) ?_
    rintro T95 L95 v95 X95 hQ95
    obtain ⟨rfl, N95q, e95⟩ := hQ95
    have N95 := Fr.app N92 N95q
    refine own_go (b := T95.setTop (mkF m 404 #[iv p0, iv p1, iv p2, iv p3, iv p4, rv bw, iv 9, iv vc, iv (if (p4 &&& (2 : Int32)) = (0 : Int32) then (0 : Int32) else (1 : Int32)), rv b5, iv 2, rv bs89, .val .null] [.ref bs89])) (fun t k => xifYes X95 hx hby rfl 388 399 rfl at_388 rfl ((if0 _ _).trans (teq ((by decide) : (0 : Int32) = (0 : Int32))).1) (by decide) (by decide) (xaconstNull X95 hx hby rfl at_399 (xastore X95 hx hby rfl at_400 rfl rfl (l' := #[iv p0, iv p1, iv p2, iv p3, iv p4, rv bw, iv 9, iv vc, iv (if (p4 &&& (2 : Int32)) = (0 : Int32) then (0 : Int32) else (1 : Int32)), rv b5, iv 2, rv bs89, .val .null]) rfl (xaload X95 hx hby rfl at_402 rfl rfl k)))) ?_
    clear N92 X93 e93 N95q
    refine own_cs X95 hx hZ hown hml e95 (wd hw 83 rfl) (wd hw 84 rfl) (wd hw 85 rfl) (wd hw 86 rfl) (own_rmNm10z l Z a0 hw [] bs89 bA m0 m1 s0 s1 v0 v1 kA kv0 kv1 cs br89 kr89 (own_b y0) (own_b y1) (own_b y2) (own_b y3) (own_b y4) (own_b y5) (own_b y6) (own_b y7) (own_b y8) (own_b y9) h93 n0 (Nat.le_trans Z0 K93.1) (own_staKeep0 S_A K93) (V_A.keep K93 nNl) (E_A.keep K93) (E_m0.keep K93) (F_o0.keep K93 nNl) (E_s0.keep K93) (F_cs0.keep K93 nNl) (F_vs0.keep K93 nNl) (V_v0.keep K93 nNl) (E_m1.keep K93) (F_o1.keep K93 nNl) (E_s1.keep K93) (F_cs1.keep K93 nNl) (F_vs1.keep K93 nNl) (V_v1.keep K93 nNl) (own_staKeep0 S_cs K93) hcs E_bs89_93 F_bs89_coder_93 F_bs89_value_93 V_br89_93 ne_s0_bs89 ne_s1_bs89 hE) own_pd17 (hb hby at_404) 0 [] rfl ⟨rfl, rfl, rfl, rfl, rfl⟩ (by decide) ?_
    rintro T96 L96 v96 X96 hQ96
    obtain ⟨rfl, N96q, K96q⟩ := hQ96
    have V_b5_96 := V_b5_93.keep K96q List.not_mem_nil
    have E_bs89_96 := E_bs89_93.keep K96q
    have F_bs89_coder_96 := F_bs89_coder_93.keep K96q List.not_mem_nil
    have F_bs89_value_96 := F_bs89_value_93.keep K96q List.not_mem_nil
    have V_br89_96 := V_br89_93.keep K96q List.not_mem_nil
    have E_sa90_96 := E_sa90_93.keep K96q
    have F_sa90_coder_96 := F_sa90_coder_93.keep K96q List.not_mem_nil
    have F_sa90_value_96 := F_sa90_value_93.keep K96q List.not_mem_nil
    have V_sb90_96 := V_sb90_93.keep K96q List.not_mem_nil
    have E_sa93_96 := Ea93.keep K96q
    have F_sa93_coder_96 := Fc93.keep K96q List.not_mem_nil
    have F_sa93_value_96 := Fv93.keep K96q List.not_mem_nil
    have V_sb93_96 := Va93.keep K96q List.not_mem_nil
    have N96 := Fr.app N95 N96q
    have hk96 := Nat.le_trans hk93_ K96q.1
    have K96 := K93.trans K96q (fun x hx => nomatch hx)
    have CR96 := CR93.trans (CHr.keep K96q (fun x hx => nomatch hx) CR93.1)
    obtain ⟨fs, hr, hrun, hended, hRE⟩ := Jvm.Stand.leaveW (s := s) X96 hS93 (by show _ ≤ T96.heap.size; exact hk96) (v := some (.int 1)) (fun h => by rw [Bd.returns] at h; cases h)
    refine ⟨_, _, ?_, hrun, hended, _, _, rfl, ?_, hRE.1, hRE.2.1, hRE.2.2.1, hRE.2.2.2.mono (by decide) (by decide)⟩
    · refine xaload X96 hx hby rfl at_407 rfl rfl (Jvm.RoadKit.acmp (g := (mkF m 409 #[iv p0, iv p1, iv p2, iv p3, iv p4, rv bw, iv 9, iv vc, iv (if (p4 &&& (2 : Int32)) = (0 : Int32) then (0 : Int32) else (1 : Int32)), rv b5, iv 2, rv bs89, .val .null] [.null, .null])) X96 hx rfl rfl rfl (pc0 := 409) (pc' := 412) (same := true) rfl (hb hby at_409) rfl (decide_eq_true rfl) (by decide) (by decide) (xiconst X96 hx hby rfl at_412 (xgoto X96 hx hby rfl 413 417 rfl at_413 (by decide) (by decide) (retN X96 hx (t := .boolean) Bd.returns (by simp) (hb hby at_417) hr))))
    · show own_Q0 n0 _ T96.heap _
      exact ⟨rfl, N96⟩
  · obtain ⟨T97, X97, e97, st97⟩ := getS2 X92 hx hZ hown (host := "") (Or.inl (wd hw 109 rfl)) Via.refl e92 (own_staKeep0 S_S K90) (g := (mkF m 373 #[iv p0, iv p1, iv p2, iv p3, iv p4, rv bw, iv 9, iv vc, iv (if (p4 &&& (2 : Int32)) = (0 : Int32) then (0 : Int32) else (1 : Int32)), rv b5, iv 2, rv bs89, .unset] [])) rfl (hb hby at_373)
    refine own_go (b := T97.setTop (mkF m 404 #[iv p0, iv p1, iv p2, iv p3, iv p4, rv bw, iv 9, iv vc, iv (if (p4 &&& (2 : Int32)) = (0 : Int32) then (0 : Int32) else (1 : Int32)), rv b5, iv 2, rv bs89, rv m0] [.ref bs89])) (fun t k => xifNo X92 hx hby rfl at_370 rfl ((if0 _ _).trans (feq ((by rw [if_neg hE]; decide) : ¬ ((if (own_E10 (own_b y0) (own_b y1) (own_b y2) (own_b y3) (own_b y4) (own_b y5) (own_b y6) (own_b y7) (own_b y8) (own_b y9)) = (0 : Int32) then (0 : Int32) else (1 : Int32)) = (0 : Int32)))).1) (st97 _ (xastore X97 hx hby rfl at_376 rfl rfl (l' := #[iv p0, iv p1, iv p2, iv p3, iv p4, rv bw, iv 9, iv vc, iv (if (p4 &&& (2 : Int32)) = (0 : Int32) then (0 : Int32) else (1 : Int32)), rv b5, iv 2, rv bs89, rv m0]) rfl (xgoto X97 hx hby rfl 378 402 rfl at_378 (by decide) (by decide) (xaload X97 hx hby rfl at_402 rfl rfl k))))) ?_
    clear X92 e92 st97
    refine own_cs X97 hx hZ hown hml e97 (wd hw 83 rfl) (wd hw 84 rfl) (wd hw 85 rfl) (wd hw 86 rfl) (own_rmNm10n l Z a0 hw [] bs89 bA m0 m1 s0 s1 v0 v1 kA kv0 kv1 cs br89 kr89 (own_b y0) (own_b y1) (own_b y2) (own_b y3) (own_b y4) (own_b y5) (own_b y6) (own_b y7) (own_b y8) (own_b y9) h90 n0 (Nat.le_trans Z0 K90.1) (own_staKeep0 S_A K90) (V_A.keep K90 nNl) (E_A.keep K90) (E_m0.keep K90) (F_o0.keep K90 nNl) (E_s0.keep K90) (F_cs0.keep K90 nNl) (F_vs0.keep K90 nNl) (V_v0.keep K90 nNl) (E_m1.keep K90) (F_o1.keep K90 nNl) (E_s1.keep K90) (F_cs1.keep K90 nNl) (F_vs1.keep K90 nNl) (V_v1.keep K90 nNl) (own_staKeep0 S_cs K90) hcs E_bs89_90 F_bs89_coder_90 F_bs89_value_90 V_br89_90 ne_s0_bs89 ne_s1_bs89 hE) own_pd17 (hb hby at_404) 0 [] rfl ⟨rfl, rfl, rfl, rfl, rfl⟩ (by decide) ?_
    rintro T98 L98 v98 X98 hQ98
    obtain ⟨rfl, N98q, K98q⟩ := hQ98
    have V_b5_98 := V_b5_90.keep K98q List.not_mem_nil
    have E_bs89_98 := E_bs89_90.keep K98q
    have F_bs89_coder_98 := F_bs89_coder_90.keep K98q List.not_mem_nil
    have F_bs89_value_98 := F_bs89_value_90.keep K98q List.not_mem_nil
    have V_br89_98 := V_br89_90.keep K98q List.not_mem_nil
    have E_sa90_98 := Ea90.keep K98q
    have F_sa90_coder_98 := Fc90.keep K98q List.not_mem_nil
    have F_sa90_value_98 := Fv90.keep K98q List.not_mem_nil
    have V_sb90_98 := Va90.keep K98q List.not_mem_nil
    have N98 := Fr.app N92 N98q
    have hk98 := Nat.le_trans hk90_ K98q.1
    have K98 := K90.trans K98q (fun x hx => nomatch hx)
    have CR98 := CR90.trans (CHr.keep K98q (fun x hx => nomatch hx) CR90.1)
    obtain ⟨fs, hr, hrun, hended, hRE⟩ := Jvm.Stand.leaveW (s := s) X98 hS90 (by show _ ≤ T98.heap.size; exact hk98) (v := some (.int 1)) (fun h => by rw [Bd.returns] at h; cases h)
    refine ⟨_, _, ?_, hrun, hended, _, _, rfl, ?_, hRE.1, hRE.2.1, hRE.2.2.1, hRE.2.2.2.mono (by decide) (by decide)⟩
    · refine xaload X98 hx hby rfl at_407 rfl rfl (Jvm.RoadKit.acmp (g := (mkF m 409 #[iv p0, iv p1, iv p2, iv p3, iv p4, rv bw, iv 9, iv vc, iv (if (p4 &&& (2 : Int32)) = (0 : Int32) then (0 : Int32) else (1 : Int32)), rv b5, iv 2, rv bs89, rv m0] [.ref m0, .ref m0])) X98 hx rfl rfl rfl (pc0 := 409) (pc' := 412) (same := true) rfl (hb hby at_409) rfl (decide_eq_true rfl) (by decide) (by decide) (xiconst X98 hx hby rfl at_412 (xgoto X98 hx hby rfl 413 417 rfl at_413 (by decide) (by decide) (retN X98 hx (t := .boolean) Bd.returns (by simp) (hb hby at_417) hr))))
    · show own_Q0 n0 _ T98.heap _
      exact ⟨rfl, N98⟩
set_option maxRecDepth 65536 in
set_option maxHeartbeats 40000000 in
theorem own_tD_3 {p : Program} {l : Launch} {e : Env} {Z s s₁ Tq : State} {m : MethodId} {below : List Frame} {meth : Method} {c : Code} {a0 : Array Value} {ws : List Jvm.Cond} {n0 nS : Nat} {h0 hq : Heap} {Lq : List Loc} {bvm : Vm} {b5 bA m0 m1 s0 s1 v0 v1 : Addr} {k5 kA kv0 kv1 : ClassId} {p0 p1 p2 p3 p4 : Int32} {cs pn vc y0 y1 y10 y11 y2 y3 y4 y5 y6 y7 y8 y9 : Int32} {bw : Addr} {fv : Value} (hw : ∀ d ∈ tables_1, d.before a0 Z = true) (Bd : BodyLoose p l x (head1 (Jvm.Cond.code x code maxLocals ret :: ws) room_1) code maxLocals ret e s m #[.int p0, .int p1, .int p2, .int p3, .int p4] below meth c s₁) (hx : p.tables.exec = Jvm.exec) (hby : c.code = code) (hml : c.maxLocals = 13) (hown : (s.setVm bvm).vm.findClass "com/example/corollary/corollary/EstimateMethodNamedPinLaw" = some m.cls) (hZ : Z.Warmed39 (s.setVm bvm).vm) (Xq : Stand p l e room_1 (s.setVm bvm) m #[.int p0, .int p1, .int p2, .int p3, .int p4] below meth c Tq Lq 3 56) (eq0 : Tq.heap = hq) (Nq : Fr n0 Lq) (Z0 : n0 ≤ h0.size) (Kq : Keep h0 hq []) (hSq : s.Since bvm nS) (hkq : nS ≤ hq.size) (CRq : CHr Z own_EL s.vm h0 bvm hq) (S_A : Sta Z h0 "com/example/corollary/corollary/EstimateMethod" "$VALUES" "[Lcom/example/corollary/corollary/EstimateMethod;" (.ref bA)) (V_A : Arv Z h0 bA kA (.object "com/example/corollary/corollary/EstimateMethod") (2 : Int32) [.ref m0, .ref m1] .null) (E_A : Exa Z h0 bA "[Lcom/example/corollary/corollary/EstimateMethod;") (S_cs : Sta Z h0 "java/lang/String" "COMPACT_STRINGS" "Z" (.int cs)) (E_m0 : Exa Z h0 m0 "com/example/corollary/corollary/EstimateMethod$1") (F_o0 : Fld Z h0 m0 "com/example/corollary/corollary/EstimateMethod" "optionName" "Ljava/lang/String;" (.ref s0)) (E_s0 : Exa Z h0 s0 "java/lang/String") (F_cs0 : Fld Z h0 s0 "java/lang/String" "coder" "B" (.int 0)) (F_vs0 : Fld Z h0 s0 "java/lang/String" "value" "[B" (.ref v0)) (V_v0 : Arv Z h0 v0 kv0 .byte (10 : Int32) [.int 115, .int 101, .int 113, .int 117, .int 101, .int 110, .int 116, .int 105, .int 97, .int 108] (.int 0)) (E_m1 : Exa Z h0 m1 "com/example/corollary/corollary/EstimateMethod$2") (F_o1 : Fld Z h0 m1 "com/example/corollary/corollary/EstimateMethod" "optionName" "Ljava/lang/String;" (.ref s1)) (E_s1 : Exa Z h0 s1 "java/lang/String") (F_cs1 : Fld Z h0 s1 "java/lang/String" "coder" "B" (.int 0)) (F_vs1 : Fld Z h0 s1 "java/lang/String" "value" "[B" (.ref v1)) (V_v1 : Arv Z h0 v1 kv1 .byte (9 : Int32) [.int 114, .int 101, .int 102, .int 101, .int 114, .int 101, .int 110, .int 99, .int 101] (.int 0)) (S_S : Sta Z h0 "com/example/corollary/corollary/EstimateMethod" "SEQUENTIAL" "Lcom/example/corollary/corollary/EstimateMethod;" (.ref m0)) (S_R : Sta Z h0 "com/example/corollary/corollary/EstimateMethod" "REFERENCE" "Lcom/example/corollary/corollary/EstimateMethod;" (.ref m1)) (S_f : Sta Z h0 "jdk/internal/util/Preconditions" "SIOOBE_FORMATTER" "Ljava/util/function/BiFunction;" fv) (l_y0 : ¬ y0 < (0 : Int32)) (u_y0 : ¬ (255 : Int32) < y0) (l_y1 : ¬ y1 < (0 : Int32)) (u_y1 : ¬ (255 : Int32) < y1) (l_y2 : ¬ y2 < (0 : Int32)) (u_y2 : ¬ (255 : Int32) < y2) (l_y3 : ¬ y3 < (0 : Int32)) (u_y3 : ¬ (255 : Int32) < y3) (l_y4 : ¬ y4 < (0 : Int32)) (u_y4 : ¬ (255 : Int32) < y4) (l_y5 : ¬ y5 < (0 : Int32)) (u_y5 : ¬ (255 : Int32) < y5) (l_y6 : ¬ y6 < (0 : Int32)) (u_y6 : ¬ (255 : Int32) < y6) (l_y7 : ¬ y7 < (0 : Int32)) (u_y7 : ¬ (255 : Int32) < y7) (l_y8 : ¬ y8 < (0 : Int32)) (u_y8 : ¬ (255 : Int32) < y8) (l_y9 : ¬ y9 < (0 : Int32)) (u_y9 : ¬ (255 : Int32) < y9) (l_y10 : ¬ y10 < (0 : Int32)) (u_y10 : ¬ (255 : Int32) < y10) (l_y11 : ¬ y11 < (0 : Int32)) (u_y11 : ¬ (255 : Int32) < y11) (tV_b5 : Arv Z hq b5 k5 .char (12 : Int32) [.int y0, .int y1, .int y2, .int y3, .int y4, .int y5, .int y6, .int y7, .int y8, .int y9, .int y10, .int y11] (.int 0)) (new_b5 : n0 ≤ b5) (sz_b5 : h0.size ≤ b5) (hcs : ¬ cs = (0 : Int32)) (hfv : fv.isRef = true) :
    ∃ s₂ o, Steps p.tables e below (Tq.setTop (mkF m 258 #[iv p0, iv p1, iv p2, iv p3, iv p4, rv bw, iv pn, iv vc, iv (if (p4 &&& (2 : Int32)) = (0 : Int32) then (0 : Int32) else (1 : Int32)), rv b5, iv 3, .unset, .unset] [])) s₂ ∧ s₂.status = .running ∧ Ended s₂ below o ∧ ∃ v L, o = .returned v ∧ own_Q0 n0 v s₂.heap L ∧ ReturnedEndW s o s₂ L room_1.cells room_1.slots := by
  refine own_go (b := Tq.setTop (mkF m 324 #[iv p0, iv p1, iv p2, iv p3, iv p4, rv bw, iv pn, iv vc, iv (if (p4 &&& (2 : Int32)) = (0 : Int32) then (0 : Int32) else (1 : Int32)), rv b5, iv 3, .unset, .unset] [.int 0, .ref b5])) (fun t k => xiload Xq hx hby rfl at_258 rfl (xifYes Xq hx hby rfl 260 275 rfl at_260 rfl ((if0 _ _).trans (feq ((by decide) : ¬ ((3 : Int32) = (0 : Int32)))).2) (by decide) (by decide) (xiload Xq hx hby rfl at_275 rfl (xiconst Xq hx hby rfl at_277 (xicmpYes Xq hx hby rfl 278 295 rfl at_278 rfl (feq ((by decide) : ¬ ((3 : Int32) = (1 : Int32)))).2 (by decide) (by decide) (xiload Xq hx hby rfl at_295 rfl (xiconst Xq hx hby rfl at_297 (xicmpYes Xq hx hby rfl 298 315 rfl at_298 rfl (feq ((by decide) : ¬ ((3 : Int32) = (2 : Int32)))).2 (by decide) (by decide) (xiload Xq hx hby rfl at_315 rfl (xiconst Xq hx hby rfl at_317 (xicmpNo Xq hx hby rfl at_318 rfl (teq ((by decide) : (3 : Int32) = (3 : Int32))).2 (xaload Xq hx hby rfl at_321 rfl rfl (xiconst Xq hx hby rfl at_323 k))))))))))))) ?_
  obtain ⟨_, _, ⟨T99, L99, k99, n99⟩, -, X99, hS99x, hk99x, ⟨Lc99, hQ99, l99, y99, z99, CRq99⟩, st99⟩ := callSS Xq hx (y := y3N) hown (mvT hZ (wd hw 49 rfl)) (mvT hZ (wd hw 50 rfl)) (mvT hZ (wd hw 24 rfl)) (mvT hZ (wd hw 51 rfl)) (by decide) (backOfSH (W := 0) (own_rmTk_0 l Z a0 hw [] b5 hq n0 (Nat.le_trans Z0 Kq.1) ) hZ (wd hw 51 rfl) (wd hw 24 rfl) (by decide) (by decide) (own_EW hw) CRq.1) (g := (mkF m 324 #[iv p0, iv p1, iv p2, iv p3, iv p4, rv bw, iv pn, iv vc, iv (if (p4 &&& (2 : Int32)) = (0 : Int32) then (0 : Int32) else (1 : Int32)), rv b5, iv 3, .unset, .unset] [.int 0, .ref b5])) rfl (by rw [hml]; rfl) (argsL := [.ref b5, .int 0]) (rest := []) (lenOf own_pd16 rfl) rfl (by show 2 * 0 + _ ≤ _; exact Nat.le_of_eq rfl) (hb hby at_324) (fun _ _ => ⟨rfl, eq0, (by decide : 3 + 4 ≤ _), (by decide : 56 + 8 ≤ _)⟩)
  dsimp only [Pt.U, Pt.locs, Pt.cells, Pt.slots] at X99 l99 y99 z99 st99 hQ99 hS99x hk99x CRq99
  subst l99 y99 z99
  have hS99 : s.Since T99.vm T99.heap.size := hSq.trans hS99x (Nat.le_trans (by show _ ≤ Tq.heap.size; rw [eq0]; exact hkq) hk99x)
  have X99 : Stand p l e room_1 (s.setVm T99.vm) m _ below meth c T99 _ _ _ := X99
  have hZ : Z.Warmed39 (s.setVm T99.vm).vm := State.Warmed39.trans (t := s.setVm bvm) hZ hS99x.1
  have hown : (s.setVm T99.vm).vm.findClass "com/example/corollary/corollary/EstimateMethodNamedPinLaw" = some m.cls := by show T99.vm.findClass _ = _; rw [hS99x.1.alike.findClass]; exact hown
  have CR99 := CRq.trans CRq99
  obtain ⟨bs99, br99, kr99, rfl, N99q, K99q, B99_0, B99_1, B99_2, B99_3, B99_4⟩ := hQ99
  have V_b5_99 := tV_b5.keep K99q List.not_mem_nil
  have N99 := Fr.app Nq N99q
  have hk99 := Nat.le_trans hkq K99q.1
  have K99 := Kq.trans K99q (fun x hx => nomatch hx)
  have ne_b5_bs99 : b5 ≠ bs99 := Nat.ne_of_lt (Nat.lt_of_lt_of_le tV_b5.lt B99_4)
  have ne_bA_bs99 : bA ≠ bs99 := Nat.ne_of_lt (Nat.lt_of_lt_of_le (V_A.keep Kq nNl).lt B99_4)
  have ne_m0_bs99 : m0 ≠ bs99 := Nat.ne_of_lt (Nat.lt_of_lt_of_le (E_m0.keep Kq).lt B99_4)
  have ne_m1_bs99 : m1 ≠ bs99 := Nat.ne_of_lt (Nat.lt_of_lt_of_le (E_m1.keep Kq).lt B99_4)
  have ne_s0_bs99 : s0 ≠ bs99 := Nat.ne_of_lt (Nat.lt_of_lt_of_le (E_s0.keep Kq).lt B99_4)
  have ne_s1_bs99 : s1 ≠ bs99 := Nat.ne_of_lt (Nat.lt_of_lt_of_le (E_s1.keep Kq).lt B99_4)
  have ne_v0_bs99 : v0 ≠ bs99 := Nat.ne_of_lt (Nat.lt_of_lt_of_le (V_v0.keep Kq nNl).lt B99_4)
  have ne_v1_bs99 : v1 ≠ bs99 := Nat.ne_of_lt (Nat.lt_of_lt_of_le (V_v1.keep Kq nNl).lt B99_4)
  have hk99w : T99.heap.size ≤ T99.heap.size := Nat.le_refl _
  refine own_go (b := T99.setTop (mkF m 365 #[iv p0, iv p1, iv p2, iv p3, iv p4, rv bw, iv pn, iv vc, iv (if (p4 &&& (2 : Int32)) = (0 : Int32) then (0 : Int32) else (1 : Int32)), rv b5, iv 3, rv bs99, .unset] [.ref bs99])) (fun t k => st99.trans (xastore X99 hx hby rfl at_327 rfl rfl (l' := #[iv p0, iv p1, iv p2, iv p3, iv p4, rv bw, iv pn, iv vc, iv (if (p4 &&& (2 : Int32)) = (0 : Int32) then (0 : Int32) else (1 : Int32)), rv b5, iv 3, rv bs99, .unset]) rfl (xgoto X99 hx hby rfl 329 352 rfl at_329 (by decide) (by decide) (xaload X99 hx hby rfl at_352 rfl rfl (XS.ifnonnullYes X99.here hx rfl (pc0 := 354) (pc' := 363) rfl (hb hby at_354) rfl (by decide) (by decide) (xaload X99 hx hby rfl at_363 rfl rfl k)))))) ?_
  clear tV_b5 hS99x hk99x CRq99 st99 N99q K99q B99_4 hk99
  obtain ⟨sa100, T100, h100, kk100, sb100, kb100, X100, e100, E100, hS100, hk100_, hZ, hown, Ea100, Fc100, Fv100, Va100, la100, lb100, CRl100, hL100, hne100, st100⟩ := ldcCH (s := s) X99 hx hZ hown (wd hw 0 rfl) (own_atoms hw) rfl hS99 hk99w (own_EW hw) (List.mem_of_getElem? (i := 0) rfl) CR99.1 (vs := [.int 115, .int 101, .int 113, .int 117, .int 101, .int 110, .int 116, .int 105, .int 97, .int 108]) (z := (10 : Int32)) (by decide +kernel) (by decide) (by decide +kernel) (g := (mkF m 365 #[iv p0, iv p1, iv p2, iv p3, iv p4, rv bw, iv pn, iv vc, iv (if (p4 &&& (2 : Int32)) = (0 : Int32) then (0 : Int32) else (1 : Int32)), rv b5, iv 3, rv bs99, .unset] [.ref bs99])) rfl (hb hby at_365) (n := 40) (by decide +kernel) (by decide) (by decide) (by decide)
  have V_b5_100 := V_b5_99.ext E100
  have E_bs99_100 := B99_0.ext E100
  have F_bs99_coder_100 := B99_1.ext E100
  have F_bs99_value_100 := B99_2.ext E100
  have V_br99_100 := B99_3.ext E100
  have hk100 := Nat.le_trans hk99w E100.1
  have K100 := K99.ext E100
  have CR100 := CR99.trans CRl100
  have hq101 := own_neStr F_bs99_value_100 Fv100 V_br99_100 Va100 (by decide)
  refine own_go (b := T100.setTop (mkF m 367 #[iv p0, iv p1, iv p2, iv p3, iv p4, rv bw, iv pn, iv vc, iv (if (p4 &&& (2 : Int32)) = (0 : Int32) then (0 : Int32) else (1 : Int32)), rv b5, iv 3, rv bs99, .unset] [.ref sa100, .ref bs99])) (fun t k => st100 _ k) ?_
  clear X99 hS99 B99_0 B99_1 B99_2 B99_3 V_b5_99 K99 hk99w E100 la100 lb100 CRl100 st100 hk100
  refine own_cv X100 hx hZ hown hml e100 (wd hw 73 rfl) (wd hw 74 rfl) (wd hw 76 rfl) (wd hw 75 rfl) (wd hw 1 rfl) (wd hw 77 rfl) E_bs99_100 (own_rmEqD l Z a0 hw [] bs99 sa100 br99 sb100 kr99 kb100 (0 : Int32) (10 : Int32) [] [.int 115, .int 101, .int 113, .int 117, .int 101, .int 110, .int 116, .int 105, .int 97, .int 108] cs h100 n0 (Nat.le_trans Z0 K100.1) E_bs99_100 F_bs99_coder_100 F_bs99_value_100 V_br99_100 Ea100 Fc100 Fv100 Va100 (by decide) (own_staKeep0 S_cs K100) hcs hq101) own_pd14 (hb hby at_367) 0 [] rfl rfl ⟨rfl, rfl, rfl, rfl, rfl⟩ (by decide) ?_
  rintro T102 L102 v102 X102 hQ102
  obtain ⟨rfl, N102q, e102⟩ := hQ102
  have N102 := Fr.app N99 N102q
  refine own_go (b := T102.setTop (mkF m 383 #[iv p0, iv p1, iv p2, iv p3, iv p4, rv bw, iv pn, iv vc, iv (if (p4 &&& (2 : Int32)) = (0 : Int32) then (0 : Int32) else (1 : Int32)), rv b5, iv 3, rv bs99, .unset] [.ref bs99])) (fun t k => xifYes X102 hx hby rfl 370 381 rfl at_370 rfl ((if0 _ _).trans (teq ((by decide) : (0 : Int32) = (0 : Int32))).1) (by decide) (by decide) (xaload X102 hx hby rfl at_381 rfl rfl k)) ?_
  clear N99 X100 e100 N102q
  obtain ⟨sa103, T103, h103, kk103, sb103, kb103, X103, e103, E103, hS103, hk103_, hZ, hown, Ea103, Fc103, Fv103, Va103, la103, lb103, CRl103, hL103, hne103, st103⟩ := ldcCH (s := s) X102 hx hZ hown (wd hw 82 rfl) (own_atoms hw) e102 hS100 hk100_ (own_EW hw) (List.mem_of_getElem? (i := 1) rfl) CR100.1 (vs := [.int 114, .int 101, .int 102, .int 101, .int 114, .int 101, .int 110, .int 99, .int 101]) (z := (9 : Int32)) (by decide +kernel) (by decide) (by decide +kernel) (g := (mkF m 383 #[iv p0, iv p1, iv p2, iv p3, iv p4, rv bw, iv pn, iv vc, iv (if (p4 &&& (2 : Int32)) = (0 : Int32) then (0 : Int32) else (1 : Int32)), rv b5, iv 3, rv bs99, .unset] [.ref bs99])) rfl (hb hby at_383) (n := 36) (by decide +kernel) (by decide) (by decide) (by decide)
  have V_b5_103 := V_b5_100.ext E103
  have E_bs99_103 := E_bs99_100.ext E103
  have F_bs99_coder_103 := F_bs99_coder_100.ext E103
  have F_bs99_value_103 := F_bs99_value_100.ext E103
  have V_br99_103 := V_br99_100.ext E103
  have E_sa100_103 := Ea100.ext E103
  have F_sa100_coder_103 := Fc100.ext E103
  have F_sa100_value_103 := Fv100.ext E103
  have V_sb100_103 := Va100.ext E103
  have hk103 := Nat.le_trans hk100_ E103.1
  have K103 := K100.ext E103
  have CR103 := CR100.trans CRl103
  have hq104 := own_neStr F_bs99_value_103 Fv103 V_br99_103 Va103 (by decide)
  refine own_go (b := T103.setTop (mkF m 385 #[iv p0, iv p1, iv p2, iv p3, iv p4, rv bw, iv pn, iv vc, iv (if (p4 &&& (2 : Int32)) = (0 : Int32) then (0 : Int32) else (1 : Int32)), rv b5, iv 3, rv bs99, .unset] [.ref sa103, .ref bs99])) (fun t k => st103 _ k) ?_
  clear hS100 hk100_ Ea100 Fc100 Fv100 Va100 V_b5_100 E_bs99_100 F_bs99_coder_100 F_bs99_value_100 V_br99_100 K100 CR100 X102 e102 E103 la103 lb103 CRl103 st103 hk103
  refine own_cv X103 hx hZ hown hml e103 (wd hw 73 rfl) (wd hw 74 rfl) (wd hw 76 rfl) (wd hw 75 rfl) (wd hw 1 rfl) (wd hw 77 rfl) E_bs99_103 (own_rmEqD l Z a0 hw [] bs99 sa103 br99 sb103 kr99 kb103 (0 : Int32) (9 : Int32) [] [.int 114, .int 101, .int 102, .int 101, .int 114, .int 101, .int 110, .int 99, .int 101] cs h103 n0 (Nat.le_trans Z0 K103.1) E_bs99_103 F_bs99_coder_103 F_bs99_value_103 V_br99_103 Ea103 Fc103 Fv103 Va103 (by decide) (own_staKeep0 S_cs K103) hcs hq104) own_pd14 (hb hby at_385) 0 [] rfl rfl ⟨rfl, rfl, rfl, rfl, rfl⟩ (by decide) ?_
  rintro T105 L105 v105 X105 hQ105
  obtain ⟨rfl, N105q, e105⟩ := hQ105
  have N105 := Fr.app N102 N105q
  refine own_go (b := T105.setTop (mkF m 404 #[iv p0, iv p1, iv p2, iv p3, iv p4, rv bw, iv pn, iv vc, iv (if (p4 &&& (2 : Int32)) = (0 : Int32) then (0 : Int32) else (1 : Int32)), rv b5, iv 3, rv bs99, .val .null] [.ref bs99])) (fun t k => xifYes X105 hx hby rfl 388 399 rfl at_388 rfl ((if0 _ _).trans (teq ((by decide) : (0 : Int32) = (0 : Int32))).1) (by decide) (by decide) (xaconstNull X105 hx hby rfl at_399 (xastore X105 hx hby rfl at_400 rfl rfl (l' := #[iv p0, iv p1, iv p2, iv p3, iv p4, rv bw, iv pn, iv vc, iv (if (p4 &&& (2 : Int32)) = (0 : Int32) then (0 : Int32) else (1 : Int32)), rv b5, iv 3, rv bs99, .val .null]) rfl (xaload X105 hx hby rfl at_402 rfl rfl k)))) ?_
  clear N102 X103 e103 N105q
  refine own_cs X105 hx hZ hown hml e105 (wd hw 83 rfl) (wd hw 84 rfl) (wd hw 85 rfl) (wd hw 86 rfl) (own_rmNmD l Z a0 hw [] bs99 bA m0 m1 s0 s1 v0 v1 kA kv0 kv1 cs br99 kr99 (0 : Int32) [] h103 n0 (Nat.le_trans Z0 K103.1) (own_staKeep0 S_A K103) (V_A.keep K103 nNl) (E_A.keep K103) (E_m0.keep K103) (F_o0.keep K103 nNl) (E_s0.keep K103) (F_cs0.keep K103 nNl) (F_vs0.keep K103 nNl) (V_v0.keep K103 nNl) (E_m1.keep K103) (F_o1.keep K103 nNl) (E_s1.keep K103) (F_cs1.keep K103 nNl) (F_vs1.keep K103 nNl) (V_v1.keep K103 nNl) (own_staKeep0 S_cs K103) hcs E_bs99_103 F_bs99_coder_103 F_bs99_value_103 V_br99_103 ne_s0_bs99 ne_s1_bs99 (by decide) (by decide)) own_pd17 (hb hby at_404) 0 [] rfl ⟨rfl, rfl, rfl, rfl, rfl⟩ (by decide) ?_
  rintro T106 L106 v106 X106 hQ106
  obtain ⟨rfl, N106q, K106q⟩ := hQ106
  have V_b5_106 := V_b5_103.keep K106q List.not_mem_nil
  have E_bs99_106 := E_bs99_103.keep K106q
  have F_bs99_coder_106 := F_bs99_coder_103.keep K106q List.not_mem_nil
  have F_bs99_value_106 := F_bs99_value_103.keep K106q List.not_mem_nil
  have V_br99_106 := V_br99_103.keep K106q List.not_mem_nil
  have E_sa100_106 := E_sa100_103.keep K106q
  have F_sa100_coder_106 := F_sa100_coder_103.keep K106q List.not_mem_nil
  have F_sa100_value_106 := F_sa100_value_103.keep K106q List.not_mem_nil
  have V_sb100_106 := V_sb100_103.keep K106q List.not_mem_nil
  have E_sa103_106 := Ea103.keep K106q
  have F_sa103_coder_106 := Fc103.keep K106q List.not_mem_nil
  have F_sa103_value_106 := Fv103.keep K106q List.not_mem_nil
  have V_sb103_106 := Va103.keep K106q List.not_mem_nil
  have N106 := Fr.app N105 N106q
  have hk106 := Nat.le_trans hk103_ K106q.1
  have K106 := K103.trans K106q (fun x hx => nomatch hx)
  have CR106 := CR103.trans (CHr.keep K106q (fun x hx => nomatch hx) CR103.1)
  obtain ⟨fs, hr, hrun, hended, hRE⟩ := Jvm.Stand.leaveW (s := s) X106 hS103 (by show _ ≤ T106.heap.size; exact hk106) (v := some (.int 1)) (fun h => by rw [Bd.returns] at h; cases h)
  refine ⟨_, _, ?_, hrun, hended, _, _, rfl, ?_, hRE.1, hRE.2.1, hRE.2.2.1, hRE.2.2.2.mono (by decide) (by decide)⟩
  · refine xaload X106 hx hby rfl at_407 rfl rfl (Jvm.RoadKit.acmp (g := (mkF m 409 #[iv p0, iv p1, iv p2, iv p3, iv p4, rv bw, iv pn, iv vc, iv (if (p4 &&& (2 : Int32)) = (0 : Int32) then (0 : Int32) else (1 : Int32)), rv b5, iv 3, rv bs99, .val .null] [.null, .null])) X106 hx rfl rfl rfl (pc0 := 409) (pc' := 412) (same := true) rfl (hb hby at_409) rfl (decide_eq_true rfl) (by decide) (by decide) (xiconst X106 hx hby rfl at_412 (xgoto X106 hx hby rfl 413 417 rfl at_413 (by decide) (by decide) (retN X106 hx (t := .boolean) Bd.returns (by simp) (hb hby at_417) hr))))
  · show own_Q0 n0 _ T106.heap _
    exact ⟨rfl, N106⟩
set_option maxRecDepth 65536 in
set_option maxHeartbeats 40000000 in
theorem own_tD_4 {p : Program} {l : Launch} {e : Env} {Z s s₁ Tq : State} {m : MethodId} {below : List Frame} {meth : Method} {c : Code} {a0 : Array Value} {ws : List Jvm.Cond} {n0 nS : Nat} {h0 hq : Heap} {Lq : List Loc} {bvm : Vm} {b5 bA m0 m1 s0 s1 v0 v1 : Addr} {k5 kA kv0 kv1 : ClassId} {p0 p1 p2 p3 p4 : Int32} {cs pn vc y0 y1 y10 y11 y2 y3 y4 y5 y6 y7 y8 y9 : Int32} {bw : Addr} {fv : Value} (hw : ∀ d ∈ tables_1, d.before a0 Z = true) (Bd : BodyLoose p l x (head1 (Jvm.Cond.code x code maxLocals ret :: ws) room_1) code maxLocals ret e s m #[.int p0, .int p1, .int p2, .int p3, .int p4] below meth c s₁) (hx : p.tables.exec = Jvm.exec) (hby : c.code = code) (hml : c.maxLocals = 13) (hown : (s.setVm bvm).vm.findClass "com/example/corollary/corollary/EstimateMethodNamedPinLaw" = some m.cls) (hZ : Z.Warmed39 (s.setVm bvm).vm) (Xq : Stand p l e room_1 (s.setVm bvm) m #[.int p0, .int p1, .int p2, .int p3, .int p4] below meth c Tq Lq 3 56) (eq0 : Tq.heap = hq) (Nq : Fr n0 Lq) (Z0 : n0 ≤ h0.size) (Kq : Keep h0 hq []) (hSq : s.Since bvm nS) (hkq : nS ≤ hq.size) (CRq : CHr Z own_EL s.vm h0 bvm hq) (S_A : Sta Z h0 "com/example/corollary/corollary/EstimateMethod" "$VALUES" "[Lcom/example/corollary/corollary/EstimateMethod;" (.ref bA)) (V_A : Arv Z h0 bA kA (.object "com/example/corollary/corollary/EstimateMethod") (2 : Int32) [.ref m0, .ref m1] .null) (E_A : Exa Z h0 bA "[Lcom/example/corollary/corollary/EstimateMethod;") (S_cs : Sta Z h0 "java/lang/String" "COMPACT_STRINGS" "Z" (.int cs)) (E_m0 : Exa Z h0 m0 "com/example/corollary/corollary/EstimateMethod$1") (F_o0 : Fld Z h0 m0 "com/example/corollary/corollary/EstimateMethod" "optionName" "Ljava/lang/String;" (.ref s0)) (E_s0 : Exa Z h0 s0 "java/lang/String") (F_cs0 : Fld Z h0 s0 "java/lang/String" "coder" "B" (.int 0)) (F_vs0 : Fld Z h0 s0 "java/lang/String" "value" "[B" (.ref v0)) (V_v0 : Arv Z h0 v0 kv0 .byte (10 : Int32) [.int 115, .int 101, .int 113, .int 117, .int 101, .int 110, .int 116, .int 105, .int 97, .int 108] (.int 0)) (E_m1 : Exa Z h0 m1 "com/example/corollary/corollary/EstimateMethod$2") (F_o1 : Fld Z h0 m1 "com/example/corollary/corollary/EstimateMethod" "optionName" "Ljava/lang/String;" (.ref s1)) (E_s1 : Exa Z h0 s1 "java/lang/String") (F_cs1 : Fld Z h0 s1 "java/lang/String" "coder" "B" (.int 0)) (F_vs1 : Fld Z h0 s1 "java/lang/String" "value" "[B" (.ref v1)) (V_v1 : Arv Z h0 v1 kv1 .byte (9 : Int32) [.int 114, .int 101, .int 102, .int 101, .int 114, .int 101, .int 110, .int 99, .int 101] (.int 0)) (S_S : Sta Z h0 "com/example/corollary/corollary/EstimateMethod" "SEQUENTIAL" "Lcom/example/corollary/corollary/EstimateMethod;" (.ref m0)) (S_R : Sta Z h0 "com/example/corollary/corollary/EstimateMethod" "REFERENCE" "Lcom/example/corollary/corollary/EstimateMethod;" (.ref m1)) (S_f : Sta Z h0 "jdk/internal/util/Preconditions" "SIOOBE_FORMATTER" "Ljava/util/function/BiFunction;" fv) (l_y0 : ¬ y0 < (0 : Int32)) (u_y0 : ¬ (255 : Int32) < y0) (l_y1 : ¬ y1 < (0 : Int32)) (u_y1 : ¬ (255 : Int32) < y1) (l_y2 : ¬ y2 < (0 : Int32)) (u_y2 : ¬ (255 : Int32) < y2) (l_y3 : ¬ y3 < (0 : Int32)) (u_y3 : ¬ (255 : Int32) < y3) (l_y4 : ¬ y4 < (0 : Int32)) (u_y4 : ¬ (255 : Int32) < y4) (l_y5 : ¬ y5 < (0 : Int32)) (u_y5 : ¬ (255 : Int32) < y5) (l_y6 : ¬ y6 < (0 : Int32)) (u_y6 : ¬ (255 : Int32) < y6) (l_y7 : ¬ y7 < (0 : Int32)) (u_y7 : ¬ (255 : Int32) < y7) (l_y8 : ¬ y8 < (0 : Int32)) (u_y8 : ¬ (255 : Int32) < y8) (l_y9 : ¬ y9 < (0 : Int32)) (u_y9 : ¬ (255 : Int32) < y9) (l_y10 : ¬ y10 < (0 : Int32)) (u_y10 : ¬ (255 : Int32) < y10) (l_y11 : ¬ y11 < (0 : Int32)) (u_y11 : ¬ (255 : Int32) < y11) (tV_b5 : Arv Z hq b5 k5 .char (12 : Int32) [.int y0, .int y1, .int y2, .int y3, .int y4, .int y5, .int y6, .int y7, .int y8, .int y9, .int y10, .int y11] (.int 0)) (new_b5 : n0 ≤ b5) (sz_b5 : h0.size ≤ b5) (hcs : ¬ cs = (0 : Int32)) (hfv : fv.isRef = true) :
    ∃ s₂ o, Steps p.tables e below (Tq.setTop (mkF m 258 #[iv p0, iv p1, iv p2, iv p3, iv p4, rv bw, iv pn, iv vc, iv (if (p4 &&& (2 : Int32)) = (0 : Int32) then (0 : Int32) else (1 : Int32)), rv b5, iv 4, .unset, .unset] [])) s₂ ∧ s₂.status = .running ∧ Ended s₂ below o ∧ ∃ v L, o = .returned v ∧ own_Q0 n0 v s₂.heap L ∧ ReturnedEndW s o s₂ L room_1.cells room_1.slots := by
  refine own_go (b := Tq.setTop (mkF m 341 #[iv p0, iv p1, iv p2, iv p3, iv p4, rv bw, iv pn, iv vc, iv (if (p4 &&& (2 : Int32)) = (0 : Int32) then (0 : Int32) else (1 : Int32)), rv b5, iv 4, .unset, .unset] [.int 1, .ref b5])) (fun t k => xiload Xq hx hby rfl at_258 rfl (xifYes Xq hx hby rfl 260 275 rfl at_260 rfl ((if0 _ _).trans (feq ((by decide) : ¬ ((4 : Int32) = (0 : Int32)))).2) (by decide) (by decide) (xiload Xq hx hby rfl at_275 rfl (xiconst Xq hx hby rfl at_277 (xicmpYes Xq hx hby rfl 278 295 rfl at_278 rfl (feq ((by decide) : ¬ ((4 : Int32) = (1 : Int32)))).2 (by decide) (by decide) (xiload Xq hx hby rfl at_295 rfl (xiconst Xq hx hby rfl at_297 (xicmpYes Xq hx hby rfl 298 315 rfl at_298 rfl (feq ((by decide) : ¬ ((4 : Int32) = (2 : Int32)))).2 (by decide) (by decide) (xiload Xq hx hby rfl at_315 rfl (xiconst Xq hx hby rfl at_317 (xicmpYes Xq hx hby rfl 318 332 rfl at_318 rfl (feq ((by decide) : ¬ ((4 : Int32) = (3 : Int32)))).2 (by decide) (by decide) (xiload Xq hx hby rfl at_332 rfl (xiconst Xq hx hby rfl at_334 (xicmpNo Xq hx hby rfl at_335 rfl (teq ((by decide) : (4 : Int32) = (4 : Int32))).2 (xaload Xq hx hby rfl at_338 rfl rfl (xiconst Xq hx hby rfl at_340 k)))))))))))))))) ?_
  refine own_cs Xq hx hZ hown hml eq0 (wd hw 49 rfl) (wd hw 50 rfl) (wd hw 24 rfl) (wd hw 51 rfl) (own_rmTk_1 l Z a0 hw [] b5 k5 cs y0 y1 y2 y3 y4 y5 y6 y7 y8 y9 y10 y11 hq n0 (Nat.le_trans Z0 Kq.1) tV_b5 (own_staKeep0 S_cs Kq) hcs l_y0 u_y0 l_y1 u_y1 l_y2 u_y2 l_y3 u_y3 l_y4 u_y4 l_y5 u_y5 l_y6 u_y6 l_y7 u_y7 l_y8 u_y8 l_y9 u_y9 l_y10 u_y10 l_y11 u_y11) own_pd16 (hb hby at_341) 0 [] rfl ⟨rfl, rfl, rfl, rfl, rfl⟩ (by decide) ?_
  rintro T107 L107 v107 X107 hQ107
  obtain ⟨bs107, br107, kr107, rfl, N107q, K107q, B107_0, B107_1, B107_2, B107_3, B107_4⟩ := hQ107
  have V_b5_107 := tV_b5.keep K107q List.not_mem_nil
  have N107 := Fr.app Nq N107q
  have hk107 := Nat.le_trans hkq K107q.1
  have K107 := Kq.trans K107q (fun x hx => nomatch hx)
  have CR107 := CRq.trans (CHr.keep K107q (fun x hx => nomatch hx) CRq.1)
  have ne_b5_bs107 : b5 ≠ bs107 := Nat.ne_of_lt (Nat.lt_of_lt_of_le tV_b5.lt B107_4)
  have ne_bA_bs107 : bA ≠ bs107 := Nat.ne_of_lt (Nat.lt_of_lt_of_le (V_A.keep Kq nNl).lt B107_4)
  have ne_m0_bs107 : m0 ≠ bs107 := Nat.ne_of_lt (Nat.lt_of_lt_of_le (E_m0.keep Kq).lt B107_4)
  have ne_m1_bs107 : m1 ≠ bs107 := Nat.ne_of_lt (Nat.lt_of_lt_of_le (E_m1.keep Kq).lt B107_4)
  have ne_s0_bs107 : s0 ≠ bs107 := Nat.ne_of_lt (Nat.lt_of_lt_of_le (E_s0.keep Kq).lt B107_4)
  have ne_s1_bs107 : s1 ≠ bs107 := Nat.ne_of_lt (Nat.lt_of_lt_of_le (E_s1.keep Kq).lt B107_4)
  have ne_v0_bs107 : v0 ≠ bs107 := Nat.ne_of_lt (Nat.lt_of_lt_of_le (V_v0.keep Kq nNl).lt B107_4)
  have ne_v1_bs107 : v1 ≠ bs107 := Nat.ne_of_lt (Nat.lt_of_lt_of_le (V_v1.keep Kq nNl).lt B107_4)
  refine own_go (b := T107.setTop (mkF m 365 #[iv p0, iv p1, iv p2, iv p3, iv p4, rv bw, iv pn, iv vc, iv (if (p4 &&& (2 : Int32)) = (0 : Int32) then (0 : Int32) else (1 : Int32)), rv b5, iv 4, rv bs107, .unset] [.ref bs107])) (fun t k => xastore X107 hx hby rfl at_344 rfl rfl (l' := #[iv p0, iv p1, iv p2, iv p3, iv p4, rv bw, iv pn, iv vc, iv (if (p4 &&& (2 : Int32)) = (0 : Int32) then (0 : Int32) else (1 : Int32)), rv b5, iv 4, rv bs107, .unset]) rfl (xgoto X107 hx hby rfl 346 352 rfl at_346 (by decide) (by decide) (xaload X107 hx hby rfl at_352 rfl rfl (XS.ifnonnullYes X107.here hx rfl (pc0 := 354) (pc' := 363) rfl (hb hby at_354) rfl (by decide) (by decide) (xaload X107 hx hby rfl at_363 rfl rfl k))))) ?_
  clear tV_b5 N107q K107q B107_4
  obtain ⟨sa108, T108, h108, kk108, sb108, kb108, X108, e108, E108, hS108, hk108_, hZ, hown, Ea108, Fc108, Fv108, Va108, la108, lb108, CRl108, hL108, hne108, st108⟩ := ldcCH (s := s) X107 hx hZ hown (wd hw 0 rfl) (own_atoms hw) rfl hSq hk107 (own_EW hw) (List.mem_of_getElem? (i := 0) rfl) CR107.1 (vs := [.int 115, .int 101, .int 113, .int 117, .int 101, .int 110, .int 116, .int 105, .int 97, .int 108]) (z := (10 : Int32)) (by decide +kernel) (by decide) (by decide +kernel) (g := (mkF m 365 #[iv p0, iv p1, iv p2, iv p3, iv p4, rv bw, iv pn, iv vc, iv (if (p4 &&& (2 : Int32)) = (0 : Int32) then (0 : Int32) else (1 : Int32)), rv b5, iv 4, rv bs107, .unset] [.ref bs107])) rfl (hb hby at_365) (n := 40) (by decide +kernel) (by decide) (by decide) (by decide)
  have V_b5_108 := V_b5_107.ext E108
  have E_bs107_108 := B107_0.ext E108
  have F_bs107_coder_108 := B107_1.ext E108
  have F_bs107_value_108 := B107_2.ext E108
  have V_br107_108 := B107_3.ext E108
  have hk108 := Nat.le_trans hk107 E108.1
  have K108 := K107.ext E108
  have CR108 := CR107.trans CRl108
  have hq109 := own_neStr F_bs107_value_108 Fv108 V_br107_108 Va108 (by decide)
  refine own_go (b := T108.setTop (mkF m 367 #[iv p0, iv p1, iv p2, iv p3, iv p4, rv bw, iv pn, iv vc, iv (if (p4 &&& (2 : Int32)) = (0 : Int32) then (0 : Int32) else (1 : Int32)), rv b5, iv 4, rv bs107, .unset] [.ref sa108, .ref bs107])) (fun t k => st108 _ k) ?_
  clear X107 B107_0 B107_1 B107_2 B107_3 V_b5_107 hk107 K107 CR107 E108 la108 lb108 CRl108 st108 hk108
  refine own_cv X108 hx hZ hown hml e108 (wd hw 73 rfl) (wd hw 74 rfl) (wd hw 76 rfl) (wd hw 75 rfl) (wd hw 1 rfl) (wd hw 77 rfl) E_bs107_108 (own_rmEqD l Z a0 hw [] bs107 sa108 br107 sb108 kr107 kb108 (1 : Int32) (10 : Int32) [(.int (own_b y0))] [.int 115, .int 101, .int 113, .int 117, .int 101, .int 110, .int 116, .int 105, .int 97, .int 108] cs h108 n0 (Nat.le_trans Z0 K108.1) E_bs107_108 F_bs107_coder_108 F_bs107_value_108 V_br107_108 Ea108 Fc108 Fv108 Va108 (by decide) (own_staKeep0 S_cs K108) hcs hq109) own_pd14 (hb hby at_367) 0 [] rfl rfl ⟨rfl, rfl, rfl, rfl, rfl⟩ (by decide) ?_
  rintro T110 L110 v110 X110 hQ110
  obtain ⟨rfl, N110q, e110⟩ := hQ110
  have N110 := Fr.app N107 N110q
  refine own_go (b := T110.setTop (mkF m 383 #[iv p0, iv p1, iv p2, iv p3, iv p4, rv bw, iv pn, iv vc, iv (if (p4 &&& (2 : Int32)) = (0 : Int32) then (0 : Int32) else (1 : Int32)), rv b5, iv 4, rv bs107, .unset] [.ref bs107])) (fun t k => xifYes X110 hx hby rfl 370 381 rfl at_370 rfl ((if0 _ _).trans (teq ((by decide) : (0 : Int32) = (0 : Int32))).1) (by decide) (by decide) (xaload X110 hx hby rfl at_381 rfl rfl k)) ?_
  clear N107 X108 e108 N110q
  obtain ⟨sa111, T111, h111, kk111, sb111, kb111, X111, e111, E111, hS111, hk111_, hZ, hown, Ea111, Fc111, Fv111, Va111, la111, lb111, CRl111, hL111, hne111, st111⟩ := ldcCH (s := s) X110 hx hZ hown (wd hw 82 rfl) (own_atoms hw) e110 hS108 hk108_ (own_EW hw) (List.mem_of_getElem? (i := 1) rfl) CR108.1 (vs := [.int 114, .int 101, .int 102, .int 101, .int 114, .int 101, .int 110, .int 99, .int 101]) (z := (9 : Int32)) (by decide +kernel) (by decide) (by decide +kernel) (g := (mkF m 383 #[iv p0, iv p1, iv p2, iv p3, iv p4, rv bw, iv pn, iv vc, iv (if (p4 &&& (2 : Int32)) = (0 : Int32) then (0 : Int32) else (1 : Int32)), rv b5, iv 4, rv bs107, .unset] [.ref bs107])) rfl (hb hby at_383) (n := 36) (by decide +kernel) (by decide) (by decide) (by decide)
  have V_b5_111 := V_b5_108.ext E111
  have E_bs107_111 := E_bs107_108.ext E111
  have F_bs107_coder_111 := F_bs107_coder_108.ext E111
  have F_bs107_value_111 := F_bs107_value_108.ext E111
  have V_br107_111 := V_br107_108.ext E111
  have E_sa108_111 := Ea108.ext E111
  have F_sa108_coder_111 := Fc108.ext E111
  have F_sa108_value_111 := Fv108.ext E111
  have V_sb108_111 := Va108.ext E111
  have hk111 := Nat.le_trans hk108_ E111.1
  have K111 := K108.ext E111
  have CR111 := CR108.trans CRl111
  have hq112 := own_neStr F_bs107_value_111 Fv111 V_br107_111 Va111 (by decide)
  refine own_go (b := T111.setTop (mkF m 385 #[iv p0, iv p1, iv p2, iv p3, iv p4, rv bw, iv pn, iv vc, iv (if (p4 &&& (2 : Int32)) = (0 : Int32) then (0 : Int32) else (1 : Int32)), rv b5, iv 4, rv bs107, .unset] [.ref sa111, .ref bs107])) (fun t k => st111 _ k) ?_
  clear hS108 hk108_ Ea108 Fc108 Fv108 Va108 V_b5_108 E_bs107_108 F_bs107_coder_108 F_bs107_value_108 V_br107_108 K108 CR108 X110 e110 E111 la111 lb111 CRl111 st111 hk111
  refine own_cv X111 hx hZ hown hml e111 (wd hw 73 rfl) (wd hw 74 rfl) (wd hw 76 rfl) (wd hw 75 rfl) (wd hw 1 rfl) (wd hw 77 rfl) E_bs107_111 (own_rmEqD l Z a0 hw [] bs107 sa111 br107 sb111 kr107 kb111 (1 : Int32) (9 : Int32) [(.int (own_b y0))] [.int 114, .int 101, .int 102, .int 101, .int 114, .int 101, .int 110, .int 99, .int 101] cs h111 n0 (Nat.le_trans Z0 K111.1) E_bs107_111 F_bs107_coder_111 F_bs107_value_111 V_br107_111 Ea111 Fc111 Fv111 Va111 (by decide) (own_staKeep0 S_cs K111) hcs hq112) own_pd14 (hb hby at_385) 0 [] rfl rfl ⟨rfl, rfl, rfl, rfl, rfl⟩ (by decide) ?_
  rintro T113 L113 v113 X113 hQ113
  obtain ⟨rfl, N113q, e113⟩ := hQ113
  have N113 := Fr.app N110 N113q
  refine own_go (b := T113.setTop (mkF m 404 #[iv p0, iv p1, iv p2, iv p3, iv p4, rv bw, iv pn, iv vc, iv (if (p4 &&& (2 : Int32)) = (0 : Int32) then (0 : Int32) else (1 : Int32)), rv b5, iv 4, rv bs107, .val .null] [.ref bs107])) (fun t k => xifYes X113 hx hby rfl 388 399 rfl at_388 rfl ((if0 _ _).trans (teq ((by decide) : (0 : Int32) = (0 : Int32))).1) (by decide) (by decide) (xaconstNull X113 hx hby rfl at_399 (xastore X113 hx hby rfl at_400 rfl rfl (l' := #[iv p0, iv p1, iv p2, iv p3, iv p4, rv bw, iv pn, iv vc, iv (if (p4 &&& (2 : Int32)) = (0 : Int32) then (0 : Int32) else (1 : Int32)), rv b5, iv 4, rv bs107, .val .null]) rfl (xaload X113 hx hby rfl at_402 rfl rfl k)))) ?_
  clear N110 X111 e111 N113q
  refine own_cs X113 hx hZ hown hml e113 (wd hw 83 rfl) (wd hw 84 rfl) (wd hw 85 rfl) (wd hw 86 rfl) (own_rmNmD l Z a0 hw [] bs107 bA m0 m1 s0 s1 v0 v1 kA kv0 kv1 cs br107 kr107 (1 : Int32) [(.int (own_b y0))] h111 n0 (Nat.le_trans Z0 K111.1) (own_staKeep0 S_A K111) (V_A.keep K111 nNl) (E_A.keep K111) (E_m0.keep K111) (F_o0.keep K111 nNl) (E_s0.keep K111) (F_cs0.keep K111 nNl) (F_vs0.keep K111 nNl) (V_v0.keep K111 nNl) (E_m1.keep K111) (F_o1.keep K111 nNl) (E_s1.keep K111) (F_cs1.keep K111 nNl) (F_vs1.keep K111 nNl) (V_v1.keep K111 nNl) (own_staKeep0 S_cs K111) hcs E_bs107_111 F_bs107_coder_111 F_bs107_value_111 V_br107_111 ne_s0_bs107 ne_s1_bs107 (by decide) (by decide)) own_pd17 (hb hby at_404) 0 [] rfl ⟨rfl, rfl, rfl, rfl, rfl⟩ (by decide) ?_
  rintro T114 L114 v114 X114 hQ114
  obtain ⟨rfl, N114q, K114q⟩ := hQ114
  have V_b5_114 := V_b5_111.keep K114q List.not_mem_nil
  have E_bs107_114 := E_bs107_111.keep K114q
  have F_bs107_coder_114 := F_bs107_coder_111.keep K114q List.not_mem_nil
  have F_bs107_value_114 := F_bs107_value_111.keep K114q List.not_mem_nil
  have V_br107_114 := V_br107_111.keep K114q List.not_mem_nil
  have E_sa108_114 := E_sa108_111.keep K114q
  have F_sa108_coder_114 := F_sa108_coder_111.keep K114q List.not_mem_nil
  have F_sa108_value_114 := F_sa108_value_111.keep K114q List.not_mem_nil
  have V_sb108_114 := V_sb108_111.keep K114q List.not_mem_nil
  have E_sa111_114 := Ea111.keep K114q
  have F_sa111_coder_114 := Fc111.keep K114q List.not_mem_nil
  have F_sa111_value_114 := Fv111.keep K114q List.not_mem_nil
  have V_sb111_114 := Va111.keep K114q List.not_mem_nil
  have N114 := Fr.app N113 N114q
  have hk114 := Nat.le_trans hk111_ K114q.1
  have K114 := K111.trans K114q (fun x hx => nomatch hx)
  have CR114 := CR111.trans (CHr.keep K114q (fun x hx => nomatch hx) CR111.1)
  obtain ⟨fs, hr, hrun, hended, hRE⟩ := Jvm.Stand.leaveW (s := s) X114 hS111 (by show _ ≤ T114.heap.size; exact hk114) (v := some (.int 1)) (fun h => by rw [Bd.returns] at h; cases h)
  refine ⟨_, _, ?_, hrun, hended, _, _, rfl, ?_, hRE.1, hRE.2.1, hRE.2.2.1, hRE.2.2.2.mono (by decide) (by decide)⟩
  · refine xaload X114 hx hby rfl at_407 rfl rfl (Jvm.RoadKit.acmp (g := (mkF m 409 #[iv p0, iv p1, iv p2, iv p3, iv p4, rv bw, iv pn, iv vc, iv (if (p4 &&& (2 : Int32)) = (0 : Int32) then (0 : Int32) else (1 : Int32)), rv b5, iv 4, rv bs107, .val .null] [.null, .null])) X114 hx rfl rfl rfl (pc0 := 409) (pc' := 412) (same := true) rfl (hb hby at_409) rfl (decide_eq_true rfl) (by decide) (by decide) (xiconst X114 hx hby rfl at_412 (xgoto X114 hx hby rfl 413 417 rfl at_413 (by decide) (by decide) (retN X114 hx (t := .boolean) Bd.returns (by simp) (hb hby at_417) hr))))
  · show own_Q0 n0 _ T114.heap _
    exact ⟨rfl, N114⟩
set_option maxRecDepth 65536 in
set_option maxHeartbeats 40000000 in
theorem own_tD_5 {p : Program} {l : Launch} {e : Env} {Z s s₁ Tq : State} {m : MethodId} {below : List Frame} {meth : Method} {c : Code} {a0 : Array Value} {ws : List Jvm.Cond} {n0 nS : Nat} {h0 hq : Heap} {Lq : List Loc} {bvm : Vm} {b5 bA m0 m1 s0 s1 v0 v1 : Addr} {k5 kA kv0 kv1 : ClassId} {p0 p1 p2 p3 p4 : Int32} {cs pn vc y0 y1 y10 y11 y2 y3 y4 y5 y6 y7 y8 y9 : Int32} {bw : Addr} {fv : Value} (hw : ∀ d ∈ tables_1, d.before a0 Z = true) (Bd : BodyLoose p l x (head1 (Jvm.Cond.code x code maxLocals ret :: ws) room_1) code maxLocals ret e s m #[.int p0, .int p1, .int p2, .int p3, .int p4] below meth c s₁) (hx : p.tables.exec = Jvm.exec) (hby : c.code = code) (hml : c.maxLocals = 13) (hown : (s.setVm bvm).vm.findClass "com/example/corollary/corollary/EstimateMethodNamedPinLaw" = some m.cls) (hZ : Z.Warmed39 (s.setVm bvm).vm) (Xq : Stand p l e room_1 (s.setVm bvm) m #[.int p0, .int p1, .int p2, .int p3, .int p4] below meth c Tq Lq 3 56) (eq0 : Tq.heap = hq) (Nq : Fr n0 Lq) (Z0 : n0 ≤ h0.size) (Kq : Keep h0 hq []) (hSq : s.Since bvm nS) (hkq : nS ≤ hq.size) (CRq : CHr Z own_EL s.vm h0 bvm hq) (S_A : Sta Z h0 "com/example/corollary/corollary/EstimateMethod" "$VALUES" "[Lcom/example/corollary/corollary/EstimateMethod;" (.ref bA)) (V_A : Arv Z h0 bA kA (.object "com/example/corollary/corollary/EstimateMethod") (2 : Int32) [.ref m0, .ref m1] .null) (E_A : Exa Z h0 bA "[Lcom/example/corollary/corollary/EstimateMethod;") (S_cs : Sta Z h0 "java/lang/String" "COMPACT_STRINGS" "Z" (.int cs)) (E_m0 : Exa Z h0 m0 "com/example/corollary/corollary/EstimateMethod$1") (F_o0 : Fld Z h0 m0 "com/example/corollary/corollary/EstimateMethod" "optionName" "Ljava/lang/String;" (.ref s0)) (E_s0 : Exa Z h0 s0 "java/lang/String") (F_cs0 : Fld Z h0 s0 "java/lang/String" "coder" "B" (.int 0)) (F_vs0 : Fld Z h0 s0 "java/lang/String" "value" "[B" (.ref v0)) (V_v0 : Arv Z h0 v0 kv0 .byte (10 : Int32) [.int 115, .int 101, .int 113, .int 117, .int 101, .int 110, .int 116, .int 105, .int 97, .int 108] (.int 0)) (E_m1 : Exa Z h0 m1 "com/example/corollary/corollary/EstimateMethod$2") (F_o1 : Fld Z h0 m1 "com/example/corollary/corollary/EstimateMethod" "optionName" "Ljava/lang/String;" (.ref s1)) (E_s1 : Exa Z h0 s1 "java/lang/String") (F_cs1 : Fld Z h0 s1 "java/lang/String" "coder" "B" (.int 0)) (F_vs1 : Fld Z h0 s1 "java/lang/String" "value" "[B" (.ref v1)) (V_v1 : Arv Z h0 v1 kv1 .byte (9 : Int32) [.int 114, .int 101, .int 102, .int 101, .int 114, .int 101, .int 110, .int 99, .int 101] (.int 0)) (S_S : Sta Z h0 "com/example/corollary/corollary/EstimateMethod" "SEQUENTIAL" "Lcom/example/corollary/corollary/EstimateMethod;" (.ref m0)) (S_R : Sta Z h0 "com/example/corollary/corollary/EstimateMethod" "REFERENCE" "Lcom/example/corollary/corollary/EstimateMethod;" (.ref m1)) (S_f : Sta Z h0 "jdk/internal/util/Preconditions" "SIOOBE_FORMATTER" "Ljava/util/function/BiFunction;" fv) (l_y0 : ¬ y0 < (0 : Int32)) (u_y0 : ¬ (255 : Int32) < y0) (l_y1 : ¬ y1 < (0 : Int32)) (u_y1 : ¬ (255 : Int32) < y1) (l_y2 : ¬ y2 < (0 : Int32)) (u_y2 : ¬ (255 : Int32) < y2) (l_y3 : ¬ y3 < (0 : Int32)) (u_y3 : ¬ (255 : Int32) < y3) (l_y4 : ¬ y4 < (0 : Int32)) (u_y4 : ¬ (255 : Int32) < y4) (l_y5 : ¬ y5 < (0 : Int32)) (u_y5 : ¬ (255 : Int32) < y5) (l_y6 : ¬ y6 < (0 : Int32)) (u_y6 : ¬ (255 : Int32) < y6) (l_y7 : ¬ y7 < (0 : Int32)) (u_y7 : ¬ (255 : Int32) < y7) (l_y8 : ¬ y8 < (0 : Int32)) (u_y8 : ¬ (255 : Int32) < y8) (l_y9 : ¬ y9 < (0 : Int32)) (u_y9 : ¬ (255 : Int32) < y9) (l_y10 : ¬ y10 < (0 : Int32)) (u_y10 : ¬ (255 : Int32) < y10) (l_y11 : ¬ y11 < (0 : Int32)) (u_y11 : ¬ (255 : Int32) < y11) (tV_b5 : Arv Z hq b5 k5 .char (12 : Int32) [.int y0, .int y1, .int y2, .int y3, .int y4, .int y5, .int y6, .int y7, .int y8, .int y9, .int y10, .int y11] (.int 0)) (new_b5 : n0 ≤ b5) (sz_b5 : h0.size ≤ b5) (hcs : ¬ cs = (0 : Int32)) (hfv : fv.isRef = true) :
    ∃ s₂ o, Steps p.tables e below (Tq.setTop (mkF m 258 #[iv p0, iv p1, iv p2, iv p3, iv p4, rv bw, iv pn, iv vc, iv (if (p4 &&& (2 : Int32)) = (0 : Int32) then (0 : Int32) else (1 : Int32)), rv b5, iv 5, .unset, .unset] [])) s₂ ∧ s₂.status = .running ∧ Ended s₂ below o ∧ ∃ v L, o = .returned v ∧ own_Q0 n0 v s₂.heap L ∧ ReturnedEndW s o s₂ L room_1.cells room_1.slots := by
  refine own_go (b := Tq.setTop (mkF m 404 #[iv p0, iv p1, iv p2, iv p3, iv p4, rv bw, iv pn, iv vc, iv (if (p4 &&& (2 : Int32)) = (0 : Int32) then (0 : Int32) else (1 : Int32)), rv b5, iv 5, .val .null, .val .null] [.null])) (fun t k => xiload Xq hx hby rfl at_258 rfl (xifYes Xq hx hby rfl 260 275 rfl at_260 rfl ((if0 _ _).trans (feq ((by decide) : ¬ ((5 : Int32) = (0 : Int32)))).2) (by decide) (by decide) (xiload Xq hx hby rfl at_275 rfl (xiconst Xq hx hby rfl at_277 (xicmpYes Xq hx hby rfl 278 295 rfl at_278 rfl (feq ((by decide) : ¬ ((5 : Int32) = (1 : Int32)))).2 (by decide) (by decide) (xiload Xq hx hby rfl at_295 rfl (xiconst Xq hx hby rfl at_297 (xicmpYes Xq hx hby rfl 298 315 rfl at_298 rfl (feq ((by decide) : ¬ ((5 : Int32) = (2 : Int32)))).2 (by decide) (by decide) (xiload Xq hx hby rfl at_315 rfl (xiconst Xq hx hby rfl at_317 (xicmpYes Xq hx hby rfl 318 332 rfl at_318 rfl (feq ((by decide) : ¬ ((5 : Int32) = (3 : Int32)))).2 (by decide) (by decide) (xiload Xq hx hby rfl at_332 rfl (xiconst Xq hx hby rfl at_334 (xicmpYes Xq hx hby rfl 335 349 rfl at_335 rfl (feq ((by decide) : ¬ ((5 : Int32) = (4 : Int32)))).2 (by decide) (by decide) (xaconstNull Xq hx hby rfl at_349 (xastore Xq hx hby rfl at_350 rfl rfl (l' := #[iv p0, iv p1, iv p2, iv p3, iv p4, rv bw, iv pn, iv vc, iv (if (p4 &&& (2 : Int32)) = (0 : Int32) then (0 : Int32) else (1 : Int32)), rv b5, iv 5, .val .null, .unset]) rfl (xaload Xq hx hby rfl at_352 rfl rfl (XS.ifnonnullNo Xq.here hx rfl (hb hby at_354) rfl (xaconstNull Xq hx hby rfl at_357 (xastore Xq hx hby rfl at_358 rfl rfl (l' := #[iv p0, iv p1, iv p2, iv p3, iv p4, rv bw, iv pn, iv vc, iv (if (p4 &&& (2 : Int32)) = (0 : Int32) then (0 : Int32) else (1 : Int32)), rv b5, iv 5, .val .null, .val .null]) rfl (xgoto Xq hx hby rfl 360 402 rfl at_360 (by decide) (by decide) (xaload Xq hx hby rfl at_402 rfl rfl k)))))))))))))))))))))) ?_
  refine own_cs Xq hx hZ hown hml eq0 (wd hw 83 rfl) (wd hw 84 rfl) (wd hw 85 rfl) (wd hw 86 rfl) (own_rmNmN l Z a0 hw [] bA m0 m1 s0 s1 v0 v1 kA kv0 kv1 cs hq n0 (Nat.le_trans Z0 Kq.1) (own_staKeep0 S_A Kq) (V_A.keep Kq nNl) (E_A.keep Kq) (E_m0.keep Kq) (F_o0.keep Kq nNl) (E_s0.keep Kq) (F_cs0.keep Kq nNl) (F_vs0.keep Kq nNl) (V_v0.keep Kq nNl) (E_m1.keep Kq) (F_o1.keep Kq nNl) (E_s1.keep Kq) (F_cs1.keep Kq nNl) (F_vs1.keep Kq nNl) (V_v1.keep Kq nNl) (own_staKeep0 S_cs Kq) hcs) own_pd17 (hb hby at_404) 0 [] rfl ⟨rfl, rfl, rfl, rfl, rfl⟩ (by decide) ?_
  rintro T115 L115 v115 X115 hQ115
  obtain ⟨rfl, N115q, K115q⟩ := hQ115
  have V_b5_115 := tV_b5.keep K115q List.not_mem_nil
  have N115 := Fr.app Nq N115q
  have hk115 := Nat.le_trans hkq K115q.1
  have K115 := Kq.trans K115q (fun x hx => nomatch hx)
  have CR115 := CRq.trans (CHr.keep K115q (fun x hx => nomatch hx) CRq.1)
  obtain ⟨fs, hr, hrun, hended, hRE⟩ := Jvm.Stand.leaveW (s := s) X115 hSq (by show _ ≤ T115.heap.size; exact hk115) (v := some (.int 1)) (fun h => by rw [Bd.returns] at h; cases h)
  refine ⟨_, _, ?_, hrun, hended, _, _, rfl, ?_, hRE.1, hRE.2.1, hRE.2.2.1, hRE.2.2.2.mono (by decide) (by decide)⟩
  · refine xaload X115 hx hby rfl at_407 rfl rfl (Jvm.RoadKit.acmp (g := (mkF m 409 #[iv p0, iv p1, iv p2, iv p3, iv p4, rv bw, iv pn, iv vc, iv (if (p4 &&& (2 : Int32)) = (0 : Int32) then (0 : Int32) else (1 : Int32)), rv b5, iv 5, .val .null, .val .null] [.null, .null])) X115 hx rfl rfl rfl (pc0 := 409) (pc' := 412) (same := true) rfl (hb hby at_409) rfl (decide_eq_true rfl) (by decide) (by decide) (xiconst X115 hx hby rfl at_412 (xgoto X115 hx hby rfl 413 417 rfl at_413 (by decide) (by decide) (retN X115 hx (t := .boolean) Bd.returns (by simp) (hb hby at_417) hr))))
  · show own_Q0 n0 _ T115.heap _
    exact ⟨rfl, N115⟩
set_option maxRecDepth 65536 in
set_option maxHeartbeats 40000000 in
theorem own_tC {p : Program} {l : Launch} {e : Env} {Z s s₁ Tq : State} {m : MethodId} {below : List Frame} {meth : Method} {c : Code} {a0 : Array Value} {ws : List Jvm.Cond} {n0 nS : Nat} {h0 hq : Heap} {Lq : List Loc} {bvm : Vm} {b5 bA m0 m1 s0 s1 v0 v1 : Addr} {k5 kA kv0 kv1 : ClassId} {p0 p1 p2 p3 p4 : Int32} {cs pn vc y0 y1 y10 y11 y2 y3 y4 y5 y6 y7 y8 y9 : Int32} {bw : Addr} {fv : Value} (hw : ∀ d ∈ tables_1, d.before a0 Z = true) (Bd : BodyLoose p l x (head1 (Jvm.Cond.code x code maxLocals ret :: ws) room_1) code maxLocals ret e s m #[.int p0, .int p1, .int p2, .int p3, .int p4] below meth c s₁) (hx : p.tables.exec = Jvm.exec) (hby : c.code = code) (hml : c.maxLocals = 13) (hown : (s.setVm bvm).vm.findClass "com/example/corollary/corollary/EstimateMethodNamedPinLaw" = some m.cls) (hZ : Z.Warmed39 (s.setVm bvm).vm) (Xq : Stand p l e room_1 (s.setVm bvm) m #[.int p0, .int p1, .int p2, .int p3, .int p4] below meth c Tq Lq 3 56) (eq0 : Tq.heap = hq) (Nq : Fr n0 Lq) (Z0 : n0 ≤ h0.size) (Kq : Keep h0 hq []) (hSq : s.Since bvm nS) (hkq : nS ≤ hq.size) (CRq : CHr Z own_EL s.vm h0 bvm hq) (S_A : Sta Z h0 "com/example/corollary/corollary/EstimateMethod" "$VALUES" "[Lcom/example/corollary/corollary/EstimateMethod;" (.ref bA)) (V_A : Arv Z h0 bA kA (.object "com/example/corollary/corollary/EstimateMethod") (2 : Int32) [.ref m0, .ref m1] .null) (E_A : Exa Z h0 bA "[Lcom/example/corollary/corollary/EstimateMethod;") (S_cs : Sta Z h0 "java/lang/String" "COMPACT_STRINGS" "Z" (.int cs)) (E_m0 : Exa Z h0 m0 "com/example/corollary/corollary/EstimateMethod$1") (F_o0 : Fld Z h0 m0 "com/example/corollary/corollary/EstimateMethod" "optionName" "Ljava/lang/String;" (.ref s0)) (E_s0 : Exa Z h0 s0 "java/lang/String") (F_cs0 : Fld Z h0 s0 "java/lang/String" "coder" "B" (.int 0)) (F_vs0 : Fld Z h0 s0 "java/lang/String" "value" "[B" (.ref v0)) (V_v0 : Arv Z h0 v0 kv0 .byte (10 : Int32) [.int 115, .int 101, .int 113, .int 117, .int 101, .int 110, .int 116, .int 105, .int 97, .int 108] (.int 0)) (E_m1 : Exa Z h0 m1 "com/example/corollary/corollary/EstimateMethod$2") (F_o1 : Fld Z h0 m1 "com/example/corollary/corollary/EstimateMethod" "optionName" "Ljava/lang/String;" (.ref s1)) (E_s1 : Exa Z h0 s1 "java/lang/String") (F_cs1 : Fld Z h0 s1 "java/lang/String" "coder" "B" (.int 0)) (F_vs1 : Fld Z h0 s1 "java/lang/String" "value" "[B" (.ref v1)) (V_v1 : Arv Z h0 v1 kv1 .byte (9 : Int32) [.int 114, .int 101, .int 102, .int 101, .int 114, .int 101, .int 110, .int 99, .int 101] (.int 0)) (S_S : Sta Z h0 "com/example/corollary/corollary/EstimateMethod" "SEQUENTIAL" "Lcom/example/corollary/corollary/EstimateMethod;" (.ref m0)) (S_R : Sta Z h0 "com/example/corollary/corollary/EstimateMethod" "REFERENCE" "Lcom/example/corollary/corollary/EstimateMethod;" (.ref m1)) (S_f : Sta Z h0 "jdk/internal/util/Preconditions" "SIOOBE_FORMATTER" "Ljava/util/function/BiFunction;" fv) (l_y0 : ¬ y0 < (0 : Int32)) (u_y0 : ¬ (255 : Int32) < y0) (l_y1 : ¬ y1 < (0 : Int32)) (u_y1 : ¬ (255 : Int32) < y1) (l_y2 : ¬ y2 < (0 : Int32)) (u_y2 : ¬ (255 : Int32) < y2) (l_y3 : ¬ y3 < (0 : Int32)) (u_y3 : ¬ (255 : Int32) < y3) (l_y4 : ¬ y4 < (0 : Int32)) (u_y4 : ¬ (255 : Int32) < y4) (l_y5 : ¬ y5 < (0 : Int32)) (u_y5 : ¬ (255 : Int32) < y5) (l_y6 : ¬ y6 < (0 : Int32)) (u_y6 : ¬ (255 : Int32) < y6) (l_y7 : ¬ y7 < (0 : Int32)) (u_y7 : ¬ (255 : Int32) < y7) (l_y8 : ¬ y8 < (0 : Int32)) (u_y8 : ¬ (255 : Int32) < y8) (l_y9 : ¬ y9 < (0 : Int32)) (u_y9 : ¬ (255 : Int32) < y9) (l_y10 : ¬ y10 < (0 : Int32)) (u_y10 : ¬ (255 : Int32) < y10) (l_y11 : ¬ y11 < (0 : Int32)) (u_y11 : ¬ (255 : Int32) < y11) (tV_b5 : Arv Z hq b5 k5 .char (12 : Int32) [.int y0, .int y1, .int y2, .int y3, .int y4, .int y5, .int y6, .int y7, .int y8, .int y9, .int y10, .int y11] (.int 0)) (new_b5 : n0 ≤ b5) (sz_b5 : h0.size ≤ b5) (hcs : ¬ cs = (0 : Int32)) (hfv : fv.isRef = true) (hpn : pn = (10 : Int32) ∨ pn = (9 : Int32)) :
    ∃ s₂ o, Steps p.tables e below (Tq.setTop (mkF m 249 #[iv p0, iv p1, iv p2, iv p3, iv p4, rv bw, iv pn, iv vc, iv (if (p4 &&& (2 : Int32)) = (0 : Int32) then (0 : Int32) else (1 : Int32)), rv b5, .unset, .unset, .unset] [])) s₂ ∧ s₂.status = .running ∧ Ended s₂ below o ∧ ∃ v L, o = .returned v ∧ own_Q0 n0 v s₂.heap L ∧ ReturnedEndW s o s₂ L room_1.cells room_1.slots := by
  refine own_go (b := Tq.setTop (mkF m 250 #[iv p0, iv p1, iv p2, iv p3, iv p4, rv bw, iv pn, iv vc, iv (if (p4 &&& (2 : Int32)) = (0 : Int32) then (0 : Int32) else (1 : Int32)), rv b5, .unset, .unset, .unset] [.int p3])) (fun t k => xiloadN Xq hx hby rfl at_249 rfl k) ?_
  refine own_go (b := Tq.setTop (mkF m 256 #[iv p0, iv p1, iv p2, iv p3, iv p4, rv bw, iv pn, iv vc, iv (if (p4 &&& (2 : Int32)) = (0 : Int32) then (0 : Int32) else (1 : Int32)), rv b5, .unset, .unset, .unset] [(.int ((p3 &&& (2147483647 : Int32)) - ((p3 &&& (2147483647 : Int32)) / (6 : Int32)) * (6 : Int32)))])) (fun t k => Xq.ldcInt hx hown (mvT hZ (wd hw 48 rfl)) (g := (mkF m 250 #[iv p0, iv p1, iv p2, iv p3, iv p4, rv bw, iv pn, iv vc, iv (if (p4 &&& (2 : Int32)) = (0 : Int32) then (0 : Int32) else (1 : Int32)), rv b5, .unset, .unset, .unset] [.int p3])) rfl (hb hby at_250) _ (xiand Xq hx hby rfl at_252 rfl (xbipush Xq hx hby rfl at_253 (xirem Xq hx hby rfl at_255 rfl (by decide) k)))) ?_
  have hm_kk := own_mod6 p3
  generalize ((p3 &&& (2147483647 : Int32)) - ((p3 &&& (2147483647 : Int32)) / (6 : Int32)) * (6 : Int32)) = v_kk at hm_kk ⊢
  rcases hm_kk with rfl | rfl | rfl | rfl | rfl | rfl
  · refine own_go (b := Tq.setTop (mkF m 258 #[iv p0, iv p1, iv p2, iv p3, iv p4, rv bw, iv pn, iv vc, iv (if (p4 &&& (2 : Int32)) = (0 : Int32) then (0 : Int32) else (1 : Int32)), rv b5, iv 0, .unset, .unset] [])) (fun t k => xistore Xq hx hby rfl at_256 rfl (l' := #[iv p0, iv p1, iv p2, iv p3, iv p4, rv bw, iv pn, iv vc, iv (if (p4 &&& (2 : Int32)) = (0 : Int32) then (0 : Int32) else (1 : Int32)), rv b5, iv 0, .unset, .unset]) rfl k) ?_
    rcases hpn with rfl | rfl
    · exact own_tD10_0 hw Bd hx hby hml hown hZ Xq eq0 Nq Z0 Kq hSq hkq CRq S_A V_A E_A S_cs E_m0 F_o0 E_s0 F_cs0 F_vs0 V_v0 E_m1 F_o1 E_s1 F_cs1 F_vs1 V_v1 S_S S_R S_f l_y0 u_y0 l_y1 u_y1 l_y2 u_y2 l_y3 u_y3 l_y4 u_y4 l_y5 u_y5 l_y6 u_y6 l_y7 u_y7 l_y8 u_y8 l_y9 u_y9 l_y10 u_y10 l_y11 u_y11 tV_b5 new_b5 sz_b5 hcs hfv
    · exact own_tD9_0 hw Bd hx hby hml hown hZ Xq eq0 Nq Z0 Kq hSq hkq CRq S_A V_A E_A S_cs E_m0 F_o0 E_s0 F_cs0 F_vs0 V_v0 E_m1 F_o1 E_s1 F_cs1 F_vs1 V_v1 S_S S_R S_f l_y0 u_y0 l_y1 u_y1 l_y2 u_y2 l_y3 u_y3 l_y4 u_y4 l_y5 u_y5 l_y6 u_y6 l_y7 u_y7 l_y8 u_y8 l_y9 u_y9 l_y10 u_y10 l_y11 u_y11 tV_b5 new_b5 sz_b5 hcs hfv
  · refine own_go (b := Tq.setTop (mkF m 258 #[iv p0, iv p1, iv p2, iv p3, iv p4, rv bw, iv pn, iv vc, iv (if (p4 &&& (2 : Int32)) = (0 : Int32) then (0 : Int32) else (1 : Int32)), rv b5, iv 1, .unset, .unset] [])) (fun t k => xistore Xq hx hby rfl at_256 rfl (l' := #[iv p0, iv p1, iv p2, iv p3, iv p4, rv bw, iv pn, iv vc, iv (if (p4 &&& (2 : Int32)) = (0 : Int32) then (0 : Int32) else (1 : Int32)), rv b5, iv 1, .unset, .unset]) rfl k) ?_
    rcases hpn with rfl | rfl
    · exact own_tD10_1 hw Bd hx hby hml hown hZ Xq eq0 Nq Z0 Kq hSq hkq CRq S_A V_A E_A S_cs E_m0 F_o0 E_s0 F_cs0 F_vs0 V_v0 E_m1 F_o1 E_s1 F_cs1 F_vs1 V_v1 S_S S_R S_f l_y0 u_y0 l_y1 u_y1 l_y2 u_y2 l_y3 u_y3 l_y4 u_y4 l_y5 u_y5 l_y6 u_y6 l_y7 u_y7 l_y8 u_y8 l_y9 u_y9 l_y10 u_y10 l_y11 u_y11 tV_b5 new_b5 sz_b5 hcs hfv
    · exact own_tD9_1 hw Bd hx hby hml hown hZ Xq eq0 Nq Z0 Kq hSq hkq CRq S_A V_A E_A S_cs E_m0 F_o0 E_s0 F_cs0 F_vs0 V_v0 E_m1 F_o1 E_s1 F_cs1 F_vs1 V_v1 S_S S_R S_f l_y0 u_y0 l_y1 u_y1 l_y2 u_y2 l_y3 u_y3 l_y4 u_y4 l_y5 u_y5 l_y6 u_y6 l_y7 u_y7 l_y8 u_y8 l_y9 u_y9 l_y10 u_y10 l_y11 u_y11 tV_b5 new_b5 sz_b5 hcs hfv
  · refine own_go (b := Tq.setTop (mkF m 258 #[iv p0, iv p1, iv p2, iv p3, iv p4, rv bw, iv pn, iv vc, iv (if (p4 &&& (2 : Int32)) = (0 : Int32) then (0 : Int32) else (1 : Int32)), rv b5, iv 2, .unset, .unset] [])) (fun t k => xistore Xq hx hby rfl at_256 rfl (l' := #[iv p0, iv p1, iv p2, iv p3, iv p4, rv bw, iv pn, iv vc, iv (if (p4 &&& (2 : Int32)) = (0 : Int32) then (0 : Int32) else (1 : Int32)), rv b5, iv 2, .unset, .unset]) rfl k) ?_
    rcases hpn with rfl | rfl
    · exact own_tD10_2 hw Bd hx hby hml hown hZ Xq eq0 Nq Z0 Kq hSq hkq CRq S_A V_A E_A S_cs E_m0 F_o0 E_s0 F_cs0 F_vs0 V_v0 E_m1 F_o1 E_s1 F_cs1 F_vs1 V_v1 S_S S_R S_f l_y0 u_y0 l_y1 u_y1 l_y2 u_y2 l_y3 u_y3 l_y4 u_y4 l_y5 u_y5 l_y6 u_y6 l_y7 u_y7 l_y8 u_y8 l_y9 u_y9 l_y10 u_y10 l_y11 u_y11 tV_b5 new_b5 sz_b5 hcs hfv
    · exact own_tD9_2 hw Bd hx hby hml hown hZ Xq eq0 Nq Z0 Kq hSq hkq CRq S_A V_A E_A S_cs E_m0 F_o0 E_s0 F_cs0 F_vs0 V_v0 E_m1 F_o1 E_s1 F_cs1 F_vs1 V_v1 S_S S_R S_f l_y0 u_y0 l_y1 u_y1 l_y2 u_y2 l_y3 u_y3 l_y4 u_y4 l_y5 u_y5 l_y6 u_y6 l_y7 u_y7 l_y8 u_y8 l_y9 u_y9 l_y10 u_y10 l_y11 u_y11 tV_b5 new_b5 sz_b5 hcs hfv
  · refine own_go (b := Tq.setTop (mkF m 258 #[iv p0, iv p1, iv p2, iv p3, iv p4, rv bw, iv pn, iv vc, iv (if (p4 &&& (2 : Int32)) = (0 : Int32) then (0 : Int32) else (1 : Int32)), rv b5, iv 3, .unset, .unset] [])) (fun t k => xistore Xq hx hby rfl at_256 rfl (l' := #[iv p0, iv p1, iv p2, iv p3, iv p4, rv bw, iv pn, iv vc, iv (if (p4 &&& (2 : Int32)) = (0 : Int32) then (0 : Int32) else (1 : Int32)), rv b5, iv 3, .unset, .unset]) rfl k) ?_
    exact own_tD_3 hw Bd hx hby hml hown hZ Xq eq0 Nq Z0 Kq hSq hkq CRq S_A V_A E_A S_cs E_m0 F_o0 E_s0 F_cs0 F_vs0 V_v0 E_m1 F_o1 E_s1 F_cs1 F_vs1 V_v1 S_S S_R S_f l_y0 u_y0 l_y1 u_y1 l_y2 u_y2 l_y3 u_y3 l_y4 u_y4 l_y5 u_y5 l_y6 u_y6 l_y7 u_y7 l_y8 u_y8 l_y9 u_y9 l_y10 u_y10 l_y11 u_y11 tV_b5 new_b5 sz_b5 hcs hfv
  · refine own_go (b := Tq.setTop (mkF m 258 #[iv p0, iv p1, iv p2, iv p3, iv p4, rv bw, iv pn, iv vc, iv (if (p4 &&& (2 : Int32)) = (0 : Int32) then (0 : Int32) else (1 : Int32)), rv b5, iv 4, .unset, .unset] [])) (fun t k => xistore Xq hx hby rfl at_256 rfl (l' := #[iv p0, iv p1, iv p2, iv p3, iv p4, rv bw, iv pn, iv vc, iv (if (p4 &&& (2 : Int32)) = (0 : Int32) then (0 : Int32) else (1 : Int32)), rv b5, iv 4, .unset, .unset]) rfl k) ?_
    exact own_tD_4 hw Bd hx hby hml hown hZ Xq eq0 Nq Z0 Kq hSq hkq CRq S_A V_A E_A S_cs E_m0 F_o0 E_s0 F_cs0 F_vs0 V_v0 E_m1 F_o1 E_s1 F_cs1 F_vs1 V_v1 S_S S_R S_f l_y0 u_y0 l_y1 u_y1 l_y2 u_y2 l_y3 u_y3 l_y4 u_y4 l_y5 u_y5 l_y6 u_y6 l_y7 u_y7 l_y8 u_y8 l_y9 u_y9 l_y10 u_y10 l_y11 u_y11 tV_b5 new_b5 sz_b5 hcs hfv
  · refine own_go (b := Tq.setTop (mkF m 258 #[iv p0, iv p1, iv p2, iv p3, iv p4, rv bw, iv pn, iv vc, iv (if (p4 &&& (2 : Int32)) = (0 : Int32) then (0 : Int32) else (1 : Int32)), rv b5, iv 5, .unset, .unset] [])) (fun t k => xistore Xq hx hby rfl at_256 rfl (l' := #[iv p0, iv p1, iv p2, iv p3, iv p4, rv bw, iv pn, iv vc, iv (if (p4 &&& (2 : Int32)) = (0 : Int32) then (0 : Int32) else (1 : Int32)), rv b5, iv 5, .unset, .unset]) rfl k) ?_
    exact own_tD_5 hw Bd hx hby hml hown hZ Xq eq0 Nq Z0 Kq hSq hkq CRq S_A V_A E_A S_cs E_m0 F_o0 E_s0 F_cs0 F_vs0 V_v0 E_m1 F_o1 E_s1 F_cs1 F_vs1 V_v1 S_S S_R S_f l_y0 u_y0 l_y1 u_y1 l_y2 u_y2 l_y3 u_y3 l_y4 u_y4 l_y5 u_y5 l_y6 u_y6 l_y7 u_y7 l_y8 u_y8 l_y9 u_y9 l_y10 u_y10 l_y11 u_y11 tV_b5 new_b5 sz_b5 hcs hfv
set_option maxRecDepth 65536 in
set_option maxHeartbeats 40000000 in
theorem own_tB {p : Program} {l : Launch} {e : Env} {Z s s₁ Tq : State} {m : MethodId} {below : List Frame} {meth : Method} {c : Code} {a0 : Array Value} {ws : List Jvm.Cond} {n0 nS : Nat} {h0 hq : Heap} {Lq : List Loc} {bvm : Vm} {b5 bA bw m0 m1 s0 s1 v0 v1 vw : Addr} {k5 kA kv0 kv1 kw : ClassId} {p0 p1 p2 p3 p4 : Int32} {cs pn vc : Int32} {fv : Value} {vs : List Value} (hw : ∀ d ∈ tables_1, d.before a0 Z = true) (Bd : BodyLoose p l x (head1 (Jvm.Cond.code x code maxLocals ret :: ws) room_1) code maxLocals ret e s m #[.int p0, .int p1, .int p2, .int p3, .int p4] below meth c s₁) (hx : p.tables.exec = Jvm.exec) (hby : c.code = code) (hml : c.maxLocals = 13) (hown : (s.setVm bvm).vm.findClass "com/example/corollary/corollary/EstimateMethodNamedPinLaw" = some m.cls) (hZ : Z.Warmed39 (s.setVm bvm).vm) (Xq : Stand p l e room_1 (s.setVm bvm) m #[.int p0, .int p1, .int p2, .int p3, .int p4] below meth c Tq Lq 3 56) (eq0 : Tq.heap = hq) (Nq : Fr n0 Lq) (Z0 : n0 ≤ h0.size) (Kq : Keep h0 hq []) (hSq : s.Since bvm nS) (hkq : nS ≤ hq.size) (CRq : CHr Z own_EL s.vm h0 bvm hq) (S_A : Sta Z h0 "com/example/corollary/corollary/EstimateMethod" "$VALUES" "[Lcom/example/corollary/corollary/EstimateMethod;" (.ref bA)) (V_A : Arv Z h0 bA kA (.object "com/example/corollary/corollary/EstimateMethod") (2 : Int32) [.ref m0, .ref m1] .null) (E_A : Exa Z h0 bA "[Lcom/example/corollary/corollary/EstimateMethod;") (S_cs : Sta Z h0 "java/lang/String" "COMPACT_STRINGS" "Z" (.int cs)) (E_m0 : Exa Z h0 m0 "com/example/corollary/corollary/EstimateMethod$1") (F_o0 : Fld Z h0 m0 "com/example/corollary/corollary/EstimateMethod" "optionName" "Ljava/lang/String;" (.ref s0)) (E_s0 : Exa Z h0 s0 "java/lang/String") (F_cs0 : Fld Z h0 s0 "java/lang/String" "coder" "B" (.int 0)) (F_vs0 : Fld Z h0 s0 "java/lang/String" "value" "[B" (.ref v0)) (V_v0 : Arv Z h0 v0 kv0 .byte (10 : Int32) [.int 115, .int 101, .int 113, .int 117, .int 101, .int 110, .int 116, .int 105, .int 97, .int 108] (.int 0)) (E_m1 : Exa Z h0 m1 "com/example/corollary/corollary/EstimateMethod$2") (F_o1 : Fld Z h0 m1 "com/example/corollary/corollary/EstimateMethod" "optionName" "Ljava/lang/String;" (.ref s1)) (E_s1 : Exa Z h0 s1 "java/lang/String") (F_cs1 : Fld Z h0 s1 "java/lang/String" "coder" "B" (.int 0)) (F_vs1 : Fld Z h0 s1 "java/lang/String" "value" "[B" (.ref v1)) (V_v1 : Arv Z h0 v1 kv1 .byte (9 : Int32) [.int 114, .int 101, .int 102, .int 101, .int 114, .int 101, .int 110, .int 99, .int 101] (.int 0)) (S_S : Sta Z h0 "com/example/corollary/corollary/EstimateMethod" "SEQUENTIAL" "Lcom/example/corollary/corollary/EstimateMethod;" (.ref m0)) (S_R : Sta Z h0 "com/example/corollary/corollary/EstimateMethod" "REFERENCE" "Lcom/example/corollary/corollary/EstimateMethod;" (.ref m1)) (S_f : Sta Z h0 "jdk/internal/util/Preconditions" "SIOOBE_FORMATTER" "Ljava/util/function/BiFunction;" fv) (tE_bw : Exa Z hq bw "java/lang/String") (tF_bw_coder : Fld Z hq bw "java/lang/String" "coder" "B" (.int 0)) (tF_bw_value : Fld Z hq bw "java/lang/String" "value" "[B" (.ref vw)) (tV_vw : Arv Z hq vw kw .byte pn vs (.int 0)) (tV_b5 : Arv Z hq b5 k5 .char (12 : Int32) [.int 0, .int 0, .int 0, .int 0, .int 0, .int 0, .int 0, .int 0, .int 0, .int 0, .int 0, .int 0] (.int 0)) (ne_bA_b5 : bA ≠ b5) (ne_m0_b5 : m0 ≠ b5) (ne_m1_b5 : m1 ≠ b5) (ne_s0_b5 : s0 ≠ b5) (ne_s1_b5 : s1 ≠ b5) (ne_bw_b5 : bw ≠ b5) (ne_vw_b5 : vw ≠ b5) (ne_v0_b5 : v0 ≠ b5) (ne_v1_b5 : v1 ≠ b5) (new_b5 : n0 ≤ b5) (sz_b5 : h0.size ≤ b5) (hcs : ¬ cs = (0 : Int32)) (hfv : fv.isRef = true) (hvc : ¬ vc < (0 : Int32) ∧ ¬ (255 : Int32) < vc) (hpn : pn = (10 : Int32) ∨ pn = (9 : Int32)) :
    ∃ s₂ o, Steps p.tables e below (Tq.setTop (mkF m 50 #[iv p0, iv p1, iv p2, iv p3, iv p4, rv bw, iv pn, iv vc, iv (if (p4 &&& (2 : Int32)) = (0 : Int32) then (0 : Int32) else (1 : Int32)), rv b5, .unset, .unset, .unset] [])) s₂ ∧ s₂.status = .running ∧ Ended s₂ below o ∧ ∃ v L, o = .returned v ∧ own_Q0 n0 v s₂.heap L ∧ ReturnedEndW s o s₂ L room_1.cells room_1.slots := by
  refine own_go (b := Tq.setTop (mkF m 60 #[iv p0, iv p1, iv p2, iv p3, iv p4, rv bw, iv pn, iv vc, iv (if (p4 &&& (2 : Int32)) = (0 : Int32) then (0 : Int32) else (1 : Int32)), rv b5, .unset, .unset, .unset] [(.int (if (p4 &&& (2 : Int32)) = (0 : Int32) then (0 : Int32) else (1 : Int32))), .int vc, .int 0, .ref bw, .int 0, .ref b5])) (fun t k => xaload Xq hx hby rfl at_50 rfl rfl (xiconst Xq hx hby rfl at_52 (xaload Xq hx hby rfl at_53 rfl rfl (xiconst Xq hx hby rfl at_55 (xiload Xq hx hby rfl at_56 rfl (xiload Xq hx hby rfl at_58 rfl k)))))) ?_
  refine own_cs Xq hx hZ hown hml eq0 (wd hw 22 rfl) (wd hw 23 rfl) (wd hw 24 rfl) (wd hw 25 rfl) (own_rmAt l Z a0 hw [] bw (0 : Int32) vc (if (p4 &&& (2 : Int32)) = (0 : Int32) then (0 : Int32) else (1 : Int32)) vw kw pn vs cs fv hq n0 (Nat.le_trans Z0 Kq.1) tE_bw tF_bw_coder tF_bw_value tV_vw (own_staKeep0 S_cs Kq) hcs (own_staKeep0 S_f Kq) hfv hvc.1 hvc.2 (by decide)) own_pd15 (hb hby at_60) 2 [.int 0, .ref b5] rfl ⟨rfl, rfl, rfl, rfl, rfl⟩ (by decide) ?_
  rintro T6 L6 v6 X6 hQ6
  obtain ⟨z6', rfl, N6q, e6, lz6, uz6⟩ := hQ6
  have N6 := Fr.app Nq N6q
  obtain ⟨cl7, Ar7, q7, Sz7, M7, Hs7, Gs7⟩ := id tV_b5
  have hin7 := inb_of (j := (0 : Int32)) Sz7 ⟨by decide, by decide⟩
  obtain ⟨T8, h8, X8, e8, W8, st8⟩ := stC X6 hx hZ e6 Ar7 (j := (0 : Int32)) hin7 (g := (mkF m 63 #[iv p0, iv p1, iv p2, iv p3, iv p4, rv bw, iv pn, iv vc, iv (if (p4 &&& (2 : Int32)) = (0 : Int32) then (0 : Int32) else (1 : Int32)), rv b5, .unset, .unset, .unset] [(.int z6'), .int 0, .ref b5])) rfl rfl (hb hby at_63)
  have E_bw_8 := tE_bw.wr W8
  have F_bw_coder_8 := tF_bw_coder.other W8 (Or.inl ne_bw_b5)
  have F_bw_value_8 := tF_bw_value.other W8 (Or.inl ne_bw_b5)
  have V_vw_8 := tV_vw.other W8 ne_vw_b5
  have hk8 := Nat.le_trans hkq (Keep.of_wr W8).1
  have CR8 := CRq.trans (CHr.wr W8 (Safe.arr hZ.alike Ar7 (by decide)) CRq.1)
  have K8 := Kq.wr W8 (Or.inr sz_b5)
  have N8 := Fr.snoc X8 N6 new_b5
  have V_b5_8 := Arv.set Ar7 q7 Sz7 M7 Hs7 Gs7 (fits_nar_char _) W8 0 rfl (Nat.le_of_ble_eq_true rfl)
  rw [own_narc lz6 uz6] at V_b5_8
  refine own_go (b := T8.setTop (mkF m 74 #[iv p0, iv p1, iv p2, iv p3, iv p4, rv bw, iv pn, iv vc, iv (if (p4 &&& (2 : Int32)) = (0 : Int32) then (0 : Int32) else (1 : Int32)), rv b5, .unset, .unset, .unset] [(.int (if (p4 &&& (2 : Int32)) = (0 : Int32) then (0 : Int32) else (1 : Int32))), .int vc, .int 1, .ref bw, .int 1, .ref b5])) (fun t k => st8 _ (xaload X8 hx hby rfl at_64 rfl rfl (xiconst X8 hx hby rfl at_66 (xaload X8 hx hby rfl at_67 rfl rfl (xiconst X8 hx hby rfl at_69 (xiload X8 hx hby rfl at_70 rfl (xiload X8 hx hby rfl at_72 rfl k))))))) ?_
  clear tE_bw tF_bw_coder tF_bw_value tV_vw tV_b5 X6 N6q e6 N6 q7 Sz7 M7 Hs7 Gs7 hin7 W8 st8
  refine own_cs X8 hx hZ hown hml e8 (wd hw 22 rfl) (wd hw 23 rfl) (wd hw 24 rfl) (wd hw 25 rfl) (own_rmAt l Z a0 hw [] bw (1 : Int32) vc (if (p4 &&& (2 : Int32)) = (0 : Int32) then (0 : Int32) else (1 : Int32)) vw kw pn vs cs fv h8 n0 (Nat.le_trans Z0 K8.1) E_bw_8 F_bw_coder_8 F_bw_value_8 V_vw_8 (own_staKeep0 S_cs K8) hcs (own_staKeep0 S_f K8) hfv hvc.1 hvc.2 (by decide)) own_pd15 (hb hby at_74) 2 [.int 1, .ref b5] rfl ⟨rfl, rfl, rfl, rfl, rfl⟩ (by decide) ?_
  rintro T9 L9 v9 X9 hQ9
  obtain ⟨z9', rfl, N9q, e9, lz9, uz9⟩ := hQ9
  have N9 := Fr.app N8 N9q
  obtain ⟨cl10, Ar10, q10, Sz10, M10, Hs10, Gs10⟩ := id V_b5_8
  have hin10 := inb_of (j := (1 : Int32)) Sz10 ⟨by decide, by decide⟩
  obtain ⟨T11, h11, X11, e11, W11, st11⟩ := stC X9 hx hZ e9 Ar10 (j := (1 : Int32)) hin10 (g := (mkF m 77 #[iv p0, iv p1, iv p2, iv p3, iv p4, rv bw, iv pn, iv vc, iv (if (p4 &&& (2 : Int32)) = (0 : Int32) then (0 : Int32) else (1 : Int32)), rv b5, .unset, .unset, .unset] [(.int z9'), .int 1, .ref b5])) rfl rfl (hb hby at_77)
  have E_bw_11 := E_bw_8.wr W11
  have F_bw_coder_11 := F_bw_coder_8.other W11 (Or.inl ne_bw_b5)
  have F_bw_value_11 := F_bw_value_8.other W11 (Or.inl ne_bw_b5)
  have V_vw_11 := V_vw_8.other W11 ne_vw_b5
  have hk11 := Nat.le_trans hk8 (Keep.of_wr W11).1
  have CR11 := CR8.trans (CHr.wr W11 (Safe.arr hZ.alike Ar10 (by decide)) CR8.1)
  have K11 := K8.wr W11 (Or.inr sz_b5)
  have N11 := Fr.snoc X11 N9 new_b5
  have V_b5_11 := Arv.set Ar10 q10 Sz10 M10 Hs10 Gs10 (fits_nar_char _) W11 1 rfl (Nat.le_of_ble_eq_true rfl)
  rw [own_narc lz9 uz9] at V_b5_11
  refine own_go (b := T11.setTop (mkF m 88 #[iv p0, iv p1, iv p2, iv p3, iv p4, rv bw, iv pn, iv vc, iv (if (p4 &&& (2 : Int32)) = (0 : Int32) then (0 : Int32) else (1 : Int32)), rv b5, .unset, .unset, .unset] [(.int (if (p4 &&& (2 : Int32)) = (0 : Int32) then (0 : Int32) else (1 : Int32))), .int vc, .int 2, .ref bw, .int 2, .ref b5])) (fun t k => st11 _ (xaload X11 hx hby rfl at_78 rfl rfl (xiconst X11 hx hby rfl at_80 (xaload X11 hx hby rfl at_81 rfl rfl (xiconst X11 hx hby rfl at_83 (xiload X11 hx hby rfl at_84 rfl (xiload X11 hx hby rfl at_86 rfl k))))))) ?_
  clear Ar7 X8 e8 E_bw_8 F_bw_coder_8 F_bw_value_8 V_vw_8 hk8 CR8 K8 N8 V_b5_8 X9 N9q e9 N9 q10 Sz10 M10 Hs10 Gs10 hin10 W11 st11
  refine own_cs X11 hx hZ hown hml e11 (wd hw 22 rfl) (wd hw 23 rfl) (wd hw 24 rfl) (wd hw 25 rfl) (own_rmAt l Z a0 hw [] bw (2 : Int32) vc (if (p4 &&& (2 : Int32)) = (0 : Int32) then (0 : Int32) else (1 : Int32)) vw kw pn vs cs fv h11 n0 (Nat.le_trans Z0 K11.1) E_bw_11 F_bw_coder_11 F_bw_value_11 V_vw_11 (own_staKeep0 S_cs K11) hcs (own_staKeep0 S_f K11) hfv hvc.1 hvc.2 (by decide)) own_pd15 (hb hby at_88) 2 [.int 2, .ref b5] rfl ⟨rfl, rfl, rfl, rfl, rfl⟩ (by decide) ?_
  rintro T12 L12 v12 X12 hQ12
  obtain ⟨z12', rfl, N12q, e12, lz12, uz12⟩ := hQ12
  have N12 := Fr.app N11 N12q
  obtain ⟨cl13, Ar13, q13, Sz13, M13, Hs13, Gs13⟩ := id V_b5_11
  have hin13 := inb_of (j := (2 : Int32)) Sz13 ⟨by decide, by decide⟩
  obtain ⟨T14, h14, X14, e14, W14, st14⟩ := stC X12 hx hZ e12 Ar13 (j := (2 : Int32)) hin13 (g := (mkF m 91 #[iv p0, iv p1, iv p2, iv p3, iv p4, rv bw, iv pn, iv vc, iv (if (p4 &&& (2 : Int32)) = (0 : Int32) then (0 : Int32) else (1 : Int32)), rv b5, .unset, .unset, .unset] [(.int z12'), .int 2, .ref b5])) rfl rfl (hb hby at_91)
  have E_bw_14 := E_bw_11.wr W14
  have F_bw_coder_14 := F_bw_coder_11.other W14 (Or.inl ne_bw_b5)
  have F_bw_value_14 := F_bw_value_11.other W14 (Or.inl ne_bw_b5)
  have V_vw_14 := V_vw_11.other W14 ne_vw_b5
  have hk14 := Nat.le_trans hk11 (Keep.of_wr W14).1
  have CR14 := CR11.trans (CHr.wr W14 (Safe.arr hZ.alike Ar13 (by decide)) CR11.1)
  have K14 := K11.wr W14 (Or.inr sz_b5)
  have N14 := Fr.snoc X14 N12 new_b5
  have V_b5_14 := Arv.set Ar13 q13 Sz13 M13 Hs13 Gs13 (fits_nar_char _) W14 2 rfl (Nat.le_of_ble_eq_true rfl)
  rw [own_narc lz12 uz12] at V_b5_14
  refine own_go (b := T14.setTop (mkF m 102 #[iv p0, iv p1, iv p2, iv p3, iv p4, rv bw, iv pn, iv vc, iv (if (p4 &&& (2 : Int32)) = (0 : Int32) then (0 : Int32) else (1 : Int32)), rv b5, .unset, .unset, .unset] [(.int (if (p4 &&& (2 : Int32)) = (0 : Int32) then (0 : Int32) else (1 : Int32))), .int vc, .int 3, .ref bw, .int 3, .ref b5])) (fun t k => st14 _ (xaload X14 hx hby rfl at_92 rfl rfl (xiconst X14 hx hby rfl at_94 (xaload X14 hx hby rfl at_95 rfl rfl (xiconst X14 hx hby rfl at_97 (xiload X14 hx hby rfl at_98 rfl (xiload X14 hx hby rfl at_100 rfl k))))))) ?_
  clear Ar10 X11 e11 E_bw_11 F_bw_coder_11 F_bw_value_11 V_vw_11 hk11 CR11 K11 N11 V_b5_11 X12 N12q e12 N12 q13 Sz13 M13 Hs13 Gs13 hin13 W14 st14
  refine own_cs X14 hx hZ hown hml e14 (wd hw 22 rfl) (wd hw 23 rfl) (wd hw 24 rfl) (wd hw 25 rfl) (own_rmAt l Z a0 hw [] bw (3 : Int32) vc (if (p4 &&& (2 : Int32)) = (0 : Int32) then (0 : Int32) else (1 : Int32)) vw kw pn vs cs fv h14 n0 (Nat.le_trans Z0 K14.1) E_bw_14 F_bw_coder_14 F_bw_value_14 V_vw_14 (own_staKeep0 S_cs K14) hcs (own_staKeep0 S_f K14) hfv hvc.1 hvc.2 (by decide)) own_pd15 (hb hby at_102) 2 [.int 3, .ref b5] rfl ⟨rfl, rfl, rfl, rfl, rfl⟩ (by decide) ?_
  rintro T15 L15 v15 X15 hQ15
  obtain ⟨z15', rfl, N15q, e15, lz15, uz15⟩ := hQ15
  have N15 := Fr.app N14 N15q
  obtain ⟨cl16, Ar16, q16, Sz16, M16, Hs16, Gs16⟩ := id V_b5_14
  have hin16 := inb_of (j := (3 : Int32)) Sz16 ⟨by decide, by decide⟩
  obtain ⟨T17, h17, X17, e17, W17, st17⟩ := stC X15 hx hZ e15 Ar16 (j := (3 : Int32)) hin16 (g := (mkF m 105 #[iv p0, iv p1, iv p2, iv p3, iv p4, rv bw, iv pn, iv vc, iv (if (p4 &&& (2 : Int32)) = (0 : Int32) then (0 : Int32) else (1 : Int32)), rv b5, .unset, .unset, .unset] [(.int z15'), .int 3, .ref b5])) rfl rfl (hb hby at_105)
  have E_bw_17 := E_bw_14.wr W17
  have F_bw_coder_17 := F_bw_coder_14.other W17 (Or.inl ne_bw_b5)
  have F_bw_value_17 := F_bw_value_14.other W17 (Or.inl ne_bw_b5)
  have V_vw_17 := V_vw_14.other W17 ne_vw_b5
  have hk17 := Nat.le_trans hk14 (Keep.of_wr W17).1
  have CR17 := CR14.trans (CHr.wr W17 (Safe.arr hZ.alike Ar16 (by decide)) CR14.1)
  have K17 := K14.wr W17 (Or.inr sz_b5)
  have N17 := Fr.snoc X17 N15 new_b5
  have V_b5_17 := Arv.set Ar16 q16 Sz16 M16 Hs16 Gs16 (fits_nar_char _) W17 3 rfl (Nat.le_of_ble_eq_true rfl)
  rw [own_narc lz15 uz15] at V_b5_17
  refine own_go (b := T17.setTop (mkF m 116 #[iv p0, iv p1, iv p2, iv p3, iv p4, rv bw, iv pn, iv vc, iv (if (p4 &&& (2 : Int32)) = (0 : Int32) then (0 : Int32) else (1 : Int32)), rv b5, .unset, .unset, .unset] [(.int (if (p4 &&& (2 : Int32)) = (0 : Int32) then (0 : Int32) else (1 : Int32))), .int vc, .int 4, .ref bw, .int 4, .ref b5])) (fun t k => st17 _ (xaload X17 hx hby rfl at_106 rfl rfl (xiconst X17 hx hby rfl at_108 (xaload X17 hx hby rfl at_109 rfl rfl (xiconst X17 hx hby rfl at_111 (xiload X17 hx hby rfl at_112 rfl (xiload X17 hx hby rfl at_114 rfl k))))))) ?_
  clear Ar13 X14 e14 E_bw_14 F_bw_coder_14 F_bw_value_14 V_vw_14 hk14 CR14 K14 N14 V_b5_14 X15 N15q e15 N15 q16 Sz16 M16 Hs16 Gs16 hin16 W17 st17
  refine own_cs X17 hx hZ hown hml e17 (wd hw 22 rfl) (wd hw 23 rfl) (wd hw 24 rfl) (wd hw 25 rfl) (own_rmAt l Z a0 hw [] bw (4 : Int32) vc (if (p4 &&& (2 : Int32)) = (0 : Int32) then (0 : Int32) else (1 : Int32)) vw kw pn vs cs fv h17 n0 (Nat.le_trans Z0 K17.1) E_bw_17 F_bw_coder_17 F_bw_value_17 V_vw_17 (own_staKeep0 S_cs K17) hcs (own_staKeep0 S_f K17) hfv hvc.1 hvc.2 (by decide)) own_pd15 (hb hby at_116) 2 [.int 4, .ref b5] rfl ⟨rfl, rfl, rfl, rfl, rfl⟩ (by decide) ?_
  rintro T18 L18 v18 X18 hQ18
  obtain ⟨z18', rfl, N18q, e18, lz18, uz18⟩ := hQ18
  have N18 := Fr.app N17 N18q
  obtain ⟨cl19, Ar19, q19, Sz19, M19, Hs19, Gs19⟩ := id V_b5_17
  have hin19 := inb_of (j := (4 : Int32)) Sz19 ⟨by decide, by decide⟩
  obtain ⟨T20, h20, X20, e20, W20, st20⟩ := stC X18 hx hZ e18 Ar19 (j := (4 : Int32)) hin19 (g := (mkF m 119 #[iv p0, iv p1, iv p2, iv p3, iv p4, rv bw, iv pn, iv vc, iv (if (p4 &&& (2 : Int32)) = (0 : Int32) then (0 : Int32) else (1 : Int32)), rv b5, .unset, .unset, .unset] [(.int z18'), .int 4, .ref b5])) rfl rfl (hb hby at_119)
  have E_bw_20 := E_bw_17.wr W20
  have F_bw_coder_20 := F_bw_coder_17.other W20 (Or.inl ne_bw_b5)
  have F_bw_value_20 := F_bw_value_17.other W20 (Or.inl ne_bw_b5)
  have V_vw_20 := V_vw_17.other W20 ne_vw_b5
  have hk20 := Nat.le_trans hk17 (Keep.of_wr W20).1
  have CR20 := CR17.trans (CHr.wr W20 (Safe.arr hZ.alike Ar19 (by decide)) CR17.1)
  have K20 := K17.wr W20 (Or.inr sz_b5)
  have N20 := Fr.snoc X20 N18 new_b5
  have V_b5_20 := Arv.set Ar19 q19 Sz19 M19 Hs19 Gs19 (fits_nar_char _) W20 4 rfl (Nat.le_of_ble_eq_true rfl)
  rw [own_narc lz18 uz18] at V_b5_20
  refine own_go (b := T20.setTop (mkF m 130 #[iv p0, iv p1, iv p2, iv p3, iv p4, rv bw, iv pn, iv vc, iv (if (p4 &&& (2 : Int32)) = (0 : Int32) then (0 : Int32) else (1 : Int32)), rv b5, .unset, .unset, .unset] [(.int (if (p4 &&& (2 : Int32)) = (0 : Int32) then (0 : Int32) else (1 : Int32))), .int vc, .int 5, .ref bw, .int 5, .ref b5])) (fun t k => st20 _ (xaload X20 hx hby rfl at_120 rfl rfl (xiconst X20 hx hby rfl at_122 (xaload X20 hx hby rfl at_123 rfl rfl (xiconst X20 hx hby rfl at_125 (xiload X20 hx hby rfl at_126 rfl (xiload X20 hx hby rfl at_128 rfl k))))))) ?_
  clear Ar16 X17 e17 E_bw_17 F_bw_coder_17 F_bw_value_17 V_vw_17 hk17 CR17 K17 N17 V_b5_17 X18 N18q e18 N18 q19 Sz19 M19 Hs19 Gs19 hin19 W20 st20
  refine own_cs X20 hx hZ hown hml e20 (wd hw 22 rfl) (wd hw 23 rfl) (wd hw 24 rfl) (wd hw 25 rfl) (own_rmAt l Z a0 hw [] bw (5 : Int32) vc (if (p4 &&& (2 : Int32)) = (0 : Int32) then (0 : Int32) else (1 : Int32)) vw kw pn vs cs fv h20 n0 (Nat.le_trans Z0 K20.1) E_bw_20 F_bw_coder_20 F_bw_value_20 V_vw_20 (own_staKeep0 S_cs K20) hcs (own_staKeep0 S_f K20) hfv hvc.1 hvc.2 (by decide)) own_pd15 (hb hby at_130) 2 [.int 5, .ref b5] rfl ⟨rfl, rfl, rfl, rfl, rfl⟩ (by decide) ?_
  rintro T21 L21 v21 X21 hQ21
  obtain ⟨z21', rfl, N21q, e21, lz21, uz21⟩ := hQ21
  have N21 := Fr.app N20 N21q
  obtain ⟨cl22, Ar22, q22, Sz22, M22, Hs22, Gs22⟩ := id V_b5_20
  have hin22 := inb_of (j := (5 : Int32)) Sz22 ⟨by decide, by decide⟩
  obtain ⟨T23, h23, X23, e23, W23, st23⟩ := stC X21 hx hZ e21 Ar22 (j := (5 : Int32)) hin22 (g := (mkF m 133 #[iv p0, iv p1, iv p2, iv p3, iv p4, rv bw, iv pn, iv vc, iv (if (p4 &&& (2 : Int32)) = (0 : Int32) then (0 : Int32) else (1 : Int32)), rv b5, .unset, .unset, .unset] [(.int z21'), .int 5, .ref b5])) rfl rfl (hb hby at_133)
  have E_bw_23 := E_bw_20.wr W23
  have F_bw_coder_23 := F_bw_coder_20.other W23 (Or.inl ne_bw_b5)
  have F_bw_value_23 := F_bw_value_20.other W23 (Or.inl ne_bw_b5)
  have V_vw_23 := V_vw_20.other W23 ne_vw_b5
  have hk23 := Nat.le_trans hk20 (Keep.of_wr W23).1
  have CR23 := CR20.trans (CHr.wr W23 (Safe.arr hZ.alike Ar22 (by decide)) CR20.1)
  have K23 := K20.wr W23 (Or.inr sz_b5)
  have N23 := Fr.snoc X23 N21 new_b5
  have V_b5_23 := Arv.set Ar22 q22 Sz22 M22 Hs22 Gs22 (fits_nar_char _) W23 5 rfl (Nat.le_of_ble_eq_true rfl)
  rw [own_narc lz21 uz21] at V_b5_23
  refine own_go (b := T23.setTop (mkF m 146 #[iv p0, iv p1, iv p2, iv p3, iv p4, rv bw, iv pn, iv vc, iv (if (p4 &&& (2 : Int32)) = (0 : Int32) then (0 : Int32) else (1 : Int32)), rv b5, .unset, .unset, .unset] [(.int (if (p4 &&& (2 : Int32)) = (0 : Int32) then (0 : Int32) else (1 : Int32))), .int vc, .int 6, .ref bw, .int 6, .ref b5])) (fun t k => st23 _ (xaload X23 hx hby rfl at_134 rfl rfl (xbipush X23 hx hby rfl at_136 (xaload X23 hx hby rfl at_138 rfl rfl (xbipush X23 hx hby rfl at_140 (xiload X23 hx hby rfl at_142 rfl (xiload X23 hx hby rfl at_144 rfl k))))))) ?_
  clear Ar19 X20 e20 E_bw_20 F_bw_coder_20 F_bw_value_20 V_vw_20 hk20 CR20 K20 N20 V_b5_20 X21 N21q e21 N21 q22 Sz22 M22 Hs22 Gs22 hin22 W23 st23
  refine own_cs X23 hx hZ hown hml e23 (wd hw 22 rfl) (wd hw 23 rfl) (wd hw 24 rfl) (wd hw 25 rfl) (own_rmAt l Z a0 hw [] bw (6 : Int32) vc (if (p4 &&& (2 : Int32)) = (0 : Int32) then (0 : Int32) else (1 : Int32)) vw kw pn vs cs fv h23 n0 (Nat.le_trans Z0 K23.1) E_bw_23 F_bw_coder_23 F_bw_value_23 V_vw_23 (own_staKeep0 S_cs K23) hcs (own_staKeep0 S_f K23) hfv hvc.1 hvc.2 (by decide)) own_pd15 (hb hby at_146) 2 [.int 6, .ref b5] rfl ⟨rfl, rfl, rfl, rfl, rfl⟩ (by decide) ?_
  rintro T24 L24 v24 X24 hQ24
  obtain ⟨z24', rfl, N24q, e24, lz24, uz24⟩ := hQ24
  have N24 := Fr.app N23 N24q
  obtain ⟨cl25, Ar25, q25, Sz25, M25, Hs25, Gs25⟩ := id V_b5_23
  have hin25 := inb_of (j := (6 : Int32)) Sz25 ⟨by decide, by decide⟩
  obtain ⟨T26, h26, X26, e26, W26, st26⟩ := stC X24 hx hZ e24 Ar25 (j := (6 : Int32)) hin25 (g := (mkF m 149 #[iv p0, iv p1, iv p2, iv p3, iv p4, rv bw, iv pn, iv vc, iv (if (p4 &&& (2 : Int32)) = (0 : Int32) then (0 : Int32) else (1 : Int32)), rv b5, .unset, .unset, .unset] [(.int z24'), .int 6, .ref b5])) rfl rfl (hb hby at_149)
  have E_bw_26 := E_bw_23.wr W26
  have F_bw_coder_26 := F_bw_coder_23.other W26 (Or.inl ne_bw_b5)
  have F_bw_value_26 := F_bw_value_23.other W26 (Or.inl ne_bw_b5)
  have V_vw_26 := V_vw_23.other W26 ne_vw_b5
  have hk26 := Nat.le_trans hk23 (Keep.of_wr W26).1
  have CR26 := CR23.trans (CHr.wr W26 (Safe.arr hZ.alike Ar25 (by decide)) CR23.1)
  have K26 := K23.wr W26 (Or.inr sz_b5)
  have N26 := Fr.snoc X26 N24 new_b5
  have V_b5_26 := Arv.set Ar25 q25 Sz25 M25 Hs25 Gs25 (fits_nar_char _) W26 6 rfl (Nat.le_of_ble_eq_true rfl)
  rw [own_narc lz24 uz24] at V_b5_26
  refine own_go (b := T26.setTop (mkF m 162 #[iv p0, iv p1, iv p2, iv p3, iv p4, rv bw, iv pn, iv vc, iv (if (p4 &&& (2 : Int32)) = (0 : Int32) then (0 : Int32) else (1 : Int32)), rv b5, .unset, .unset, .unset] [(.int (if (p4 &&& (2 : Int32)) = (0 : Int32) then (0 : Int32) else (1 : Int32))), .int vc, .int 7, .ref bw, .int 7, .ref b5])) (fun t k => st26 _ (xaload X26 hx hby rfl at_150 rfl rfl (xbipush X26 hx hby rfl at_152 (xaload X26 hx hby rfl at_154 rfl rfl (xbipush X26 hx hby rfl at_156 (xiload X26 hx hby rfl at_158 rfl (xiload X26 hx hby rfl at_160 rfl k))))))) ?_
  clear Ar22 X23 e23 E_bw_23 F_bw_coder_23 F_bw_value_23 V_vw_23 hk23 CR23 K23 N23 V_b5_23 X24 N24q e24 N24 q25 Sz25 M25 Hs25 Gs25 hin25 W26 st26
  refine own_cs X26 hx hZ hown hml e26 (wd hw 22 rfl) (wd hw 23 rfl) (wd hw 24 rfl) (wd hw 25 rfl) (own_rmAt l Z a0 hw [] bw (7 : Int32) vc (if (p4 &&& (2 : Int32)) = (0 : Int32) then (0 : Int32) else (1 : Int32)) vw kw pn vs cs fv h26 n0 (Nat.le_trans Z0 K26.1) E_bw_26 F_bw_coder_26 F_bw_value_26 V_vw_26 (own_staKeep0 S_cs K26) hcs (own_staKeep0 S_f K26) hfv hvc.1 hvc.2 (by decide)) own_pd15 (hb hby at_162) 2 [.int 7, .ref b5] rfl ⟨rfl, rfl, rfl, rfl, rfl⟩ (by decide) ?_
  rintro T27 L27 v27 X27 hQ27
  obtain ⟨z27', rfl, N27q, e27, lz27, uz27⟩ := hQ27
  have N27 := Fr.app N26 N27q
  obtain ⟨cl28, Ar28, q28, Sz28, M28, Hs28, Gs28⟩ := id V_b5_26
  have hin28 := inb_of (j := (7 : Int32)) Sz28 ⟨by decide, by decide⟩
  obtain ⟨T29, h29, X29, e29, W29, st29⟩ := stC X27 hx hZ e27 Ar28 (j := (7 : Int32)) hin28 (g := (mkF m 165 #[iv p0, iv p1, iv p2, iv p3, iv p4, rv bw, iv pn, iv vc, iv (if (p4 &&& (2 : Int32)) = (0 : Int32) then (0 : Int32) else (1 : Int32)), rv b5, .unset, .unset, .unset] [(.int z27'), .int 7, .ref b5])) rfl rfl (hb hby at_165)
  have E_bw_29 := E_bw_26.wr W29
  have F_bw_coder_29 := F_bw_coder_26.other W29 (Or.inl ne_bw_b5)
  have F_bw_value_29 := F_bw_value_26.other W29 (Or.inl ne_bw_b5)
  have V_vw_29 := V_vw_26.other W29 ne_vw_b5
  have hk29 := Nat.le_trans hk26 (Keep.of_wr W29).1
  have CR29 := CR26.trans (CHr.wr W29 (Safe.arr hZ.alike Ar28 (by decide)) CR26.1)
  have K29 := K26.wr W29 (Or.inr sz_b5)
  have N29 := Fr.snoc X29 N27 new_b5
  have V_b5_29 := Arv.set Ar28 q28 Sz28 M28 Hs28 Gs28 (fits_nar_char _) W29 7 rfl (Nat.le_of_ble_eq_true rfl)
  rw [own_narc lz27 uz27] at V_b5_29
  refine own_go (b := T29.setTop (mkF m 178 #[iv p0, iv p1, iv p2, iv p3, iv p4, rv bw, iv pn, iv vc, iv (if (p4 &&& (2 : Int32)) = (0 : Int32) then (0 : Int32) else (1 : Int32)), rv b5, .unset, .unset, .unset] [(.int (if (p4 &&& (2 : Int32)) = (0 : Int32) then (0 : Int32) else (1 : Int32))), .int vc, .int 8, .ref bw, .int 8, .ref b5])) (fun t k => st29 _ (xaload X29 hx hby rfl at_166 rfl rfl (xbipush X29 hx hby rfl at_168 (xaload X29 hx hby rfl at_170 rfl rfl (xbipush X29 hx hby rfl at_172 (xiload X29 hx hby rfl at_174 rfl (xiload X29 hx hby rfl at_176 rfl k))))))) ?_
  clear Ar25 X26 e26 E_bw_26 F_bw_coder_26 F_bw_value_26 V_vw_26 hk26 CR26 K26 N26 V_b5_26 X27 N27q e27 N27 q28 Sz28 M28 Hs28 Gs28 hin28 W29 st29
  refine own_cs X29 hx hZ hown hml e29 (wd hw 22 rfl) (wd hw 23 rfl) (wd hw 24 rfl) (wd hw 25 rfl) (own_rmAt l Z a0 hw [] bw (8 : Int32) vc (if (p4 &&& (2 : Int32)) = (0 : Int32) then (0 : Int32) else (1 : Int32)) vw kw pn vs cs fv h29 n0 (Nat.le_trans Z0 K29.1) E_bw_29 F_bw_coder_29 F_bw_value_29 V_vw_29 (own_staKeep0 S_cs K29) hcs (own_staKeep0 S_f K29) hfv hvc.1 hvc.2 (by decide)) own_pd15 (hb hby at_178) 2 [.int 8, .ref b5] rfl ⟨rfl, rfl, rfl, rfl, rfl⟩ (by decide) ?_
  rintro T30 L30 v30 X30 hQ30
  obtain ⟨z30', rfl, N30q, e30, lz30, uz30⟩ := hQ30
  have N30 := Fr.app N29 N30q
  obtain ⟨cl31, Ar31, q31, Sz31, M31, Hs31, Gs31⟩ := id V_b5_29
  have hin31 := inb_of (j := (8 : Int32)) Sz31 ⟨by decide, by decide⟩
  obtain ⟨T32, h32, X32, e32, W32, st32⟩ := stC X30 hx hZ e30 Ar31 (j := (8 : Int32)) hin31 (g := (mkF m 181 #[iv p0, iv p1, iv p2, iv p3, iv p4, rv bw, iv pn, iv vc, iv (if (p4 &&& (2 : Int32)) = (0 : Int32) then (0 : Int32) else (1 : Int32)), rv b5, .unset, .unset, .unset] [(.int z30'), .int 8, .ref b5])) rfl rfl (hb hby at_181)
  have E_bw_32 := E_bw_29.wr W32
  have F_bw_coder_32 := F_bw_coder_29.other W32 (Or.inl ne_bw_b5)
  have F_bw_value_32 := F_bw_value_29.other W32 (Or.inl ne_bw_b5)
  have V_vw_32 := V_vw_29.other W32 ne_vw_b5
  have hk32 := Nat.le_trans hk29 (Keep.of_wr W32).1
  have CR32 := CR29.trans (CHr.wr W32 (Safe.arr hZ.alike Ar31 (by decide)) CR29.1)
  have K32 := K29.wr W32 (Or.inr sz_b5)
  have N32 := Fr.snoc X32 N30 new_b5
  have V_b5_32 := Arv.set Ar31 q31 Sz31 M31 Hs31 Gs31 (fits_nar_char _) W32 8 rfl (Nat.le_of_ble_eq_true rfl)
  rw [own_narc lz30 uz30] at V_b5_32
  refine own_go (b := T32.setTop (mkF m 194 #[iv p0, iv p1, iv p2, iv p3, iv p4, rv bw, iv pn, iv vc, iv (if (p4 &&& (2 : Int32)) = (0 : Int32) then (0 : Int32) else (1 : Int32)), rv b5, .unset, .unset, .unset] [(.int (if (p4 &&& (2 : Int32)) = (0 : Int32) then (0 : Int32) else (1 : Int32))), .int vc, .int 9, .ref bw, .int 9, .ref b5])) (fun t k => st32 _ (xaload X32 hx hby rfl at_182 rfl rfl (xbipush X32 hx hby rfl at_184 (xaload X32 hx hby rfl at_186 rfl rfl (xbipush X32 hx hby rfl at_188 (xiload X32 hx hby rfl at_190 rfl (xiload X32 hx hby rfl at_192 rfl k))))))) ?_
  clear Ar28 X29 e29 E_bw_29 F_bw_coder_29 F_bw_value_29 V_vw_29 hk29 CR29 K29 N29 V_b5_29 X30 N30q e30 N30 q31 Sz31 M31 Hs31 Gs31 hin31 W32 st32
  refine own_cs X32 hx hZ hown hml e32 (wd hw 22 rfl) (wd hw 23 rfl) (wd hw 24 rfl) (wd hw 25 rfl) (own_rmAt l Z a0 hw [] bw (9 : Int32) vc (if (p4 &&& (2 : Int32)) = (0 : Int32) then (0 : Int32) else (1 : Int32)) vw kw pn vs cs fv h32 n0 (Nat.le_trans Z0 K32.1) E_bw_32 F_bw_coder_32 F_bw_value_32 V_vw_32 (own_staKeep0 S_cs K32) hcs (own_staKeep0 S_f K32) hfv hvc.1 hvc.2 (by decide)) own_pd15 (hb hby at_194) 2 [.int 9, .ref b5] rfl ⟨rfl, rfl, rfl, rfl, rfl⟩ (by decide) ?_
  rintro T33 L33 v33 X33 hQ33
  obtain ⟨z33', rfl, N33q, e33, lz33, uz33⟩ := hQ33
  have N33 := Fr.app N32 N33q
  obtain ⟨cl34, Ar34, q34, Sz34, M34, Hs34, Gs34⟩ := id V_b5_32
  have hin34 := inb_of (j := (9 : Int32)) Sz34 ⟨by decide, by decide⟩
  obtain ⟨T35, h35, X35, e35, W35, st35⟩ := stC X33 hx hZ e33 Ar34 (j := (9 : Int32)) hin34 (g := (mkF m 197 #[iv p0, iv p1, iv p2, iv p3, iv p4, rv bw, iv pn, iv vc, iv (if (p4 &&& (2 : Int32)) = (0 : Int32) then (0 : Int32) else (1 : Int32)), rv b5, .unset, .unset, .unset] [(.int z33'), .int 9, .ref b5])) rfl rfl (hb hby at_197)
  have E_bw_35 := E_bw_32.wr W35
  have F_bw_coder_35 := F_bw_coder_32.other W35 (Or.inl ne_bw_b5)
  have F_bw_value_35 := F_bw_value_32.other W35 (Or.inl ne_bw_b5)
  have V_vw_35 := V_vw_32.other W35 ne_vw_b5
  have hk35 := Nat.le_trans hk32 (Keep.of_wr W35).1
  have CR35 := CR32.trans (CHr.wr W35 (Safe.arr hZ.alike Ar34 (by decide)) CR32.1)
  have K35 := K32.wr W35 (Or.inr sz_b5)
  have N35 := Fr.snoc X35 N33 new_b5
  have V_b5_35 := Arv.set Ar34 q34 Sz34 M34 Hs34 Gs34 (fits_nar_char _) W35 9 rfl (Nat.le_of_ble_eq_true rfl)
  rw [own_narc lz33 uz33] at V_b5_35
  refine own_go (b := T35.setTop (mkF m 210 #[iv p0, iv p1, iv p2, iv p3, iv p4, rv bw, iv pn, iv vc, iv (if (p4 &&& (2 : Int32)) = (0 : Int32) then (0 : Int32) else (1 : Int32)), rv b5, .unset, .unset, .unset] [(.int (if (p4 &&& (2 : Int32)) = (0 : Int32) then (0 : Int32) else (1 : Int32))), .int vc, .int 10, .ref bw, .int 10, .ref b5])) (fun t k => st35 _ (xaload X35 hx hby rfl at_198 rfl rfl (xbipush X35 hx hby rfl at_200 (xaload X35 hx hby rfl at_202 rfl rfl (xbipush X35 hx hby rfl at_204 (xiload X35 hx hby rfl at_206 rfl (xiload X35 hx hby rfl at_208 rfl k))))))) ?_
  clear Ar31 X32 e32 E_bw_32 F_bw_coder_32 F_bw_value_32 V_vw_32 hk32 CR32 K32 N32 V_b5_32 X33 N33q e33 N33 q34 Sz34 M34 Hs34 Gs34 hin34 W35 st35
  refine own_cs X35 hx hZ hown hml e35 (wd hw 22 rfl) (wd hw 23 rfl) (wd hw 24 rfl) (wd hw 25 rfl) (own_rmAt l Z a0 hw [] bw (10 : Int32) vc (if (p4 &&& (2 : Int32)) = (0 : Int32) then (0 : Int32) else (1 : Int32)) vw kw pn vs cs fv h35 n0 (Nat.le_trans Z0 K35.1) E_bw_35 F_bw_coder_35 F_bw_value_35 V_vw_35 (own_staKeep0 S_cs K35) hcs (own_staKeep0 S_f K35) hfv hvc.1 hvc.2 (by decide)) own_pd15 (hb hby at_210) 2 [.int 10, .ref b5] rfl ⟨rfl, rfl, rfl, rfl, rfl⟩ (by decide) ?_
  rintro T36 L36 v36 X36 hQ36
  obtain ⟨z36', rfl, N36q, e36, lz36, uz36⟩ := hQ36
  have N36 := Fr.app N35 N36q
  obtain ⟨cl37, Ar37, q37, Sz37, M37, Hs37, Gs37⟩ := id V_b5_35
  have hin37 := inb_of (j := (10 : Int32)) Sz37 ⟨by decide, by decide⟩
  obtain ⟨T38, h38, X38, e38, W38, st38⟩ := stC X36 hx hZ e36 Ar37 (j := (10 : Int32)) hin37 (g := (mkF m 213 #[iv p0, iv p1, iv p2, iv p3, iv p4, rv bw, iv pn, iv vc, iv (if (p4 &&& (2 : Int32)) = (0 : Int32) then (0 : Int32) else (1 : Int32)), rv b5, .unset, .unset, .unset] [(.int z36'), .int 10, .ref b5])) rfl rfl (hb hby at_213)
  have E_bw_38 := E_bw_35.wr W38
  have F_bw_coder_38 := F_bw_coder_35.other W38 (Or.inl ne_bw_b5)
  have F_bw_value_38 := F_bw_value_35.other W38 (Or.inl ne_bw_b5)
  have V_vw_38 := V_vw_35.other W38 ne_vw_b5
  have hk38 := Nat.le_trans hk35 (Keep.of_wr W38).1
  have CR38 := CR35.trans (CHr.wr W38 (Safe.arr hZ.alike Ar37 (by decide)) CR35.1)
  have K38 := K35.wr W38 (Or.inr sz_b5)
  have N38 := Fr.snoc X38 N36 new_b5
  have V_b5_38 := Arv.set Ar37 q37 Sz37 M37 Hs37 Gs37 (fits_nar_char _) W38 10 rfl (Nat.le_of_ble_eq_true rfl)
  rw [own_narc lz36 uz36] at V_b5_38
  refine own_go (b := T38.setTop (mkF m 226 #[iv p0, iv p1, iv p2, iv p3, iv p4, rv bw, iv pn, iv vc, iv (if (p4 &&& (2 : Int32)) = (0 : Int32) then (0 : Int32) else (1 : Int32)), rv b5, .unset, .unset, .unset] [(.int (if (p4 &&& (2 : Int32)) = (0 : Int32) then (0 : Int32) else (1 : Int32))), .int vc, .int 11, .ref bw, .int 11, .ref b5])) (fun t k => st38 _ (xaload X38 hx hby rfl at_214 rfl rfl (xbipush X38 hx hby rfl at_216 (xaload X38 hx hby rfl at_218 rfl rfl (xbipush X38 hx hby rfl at_220 (xiload X38 hx hby rfl at_222 rfl (xiload X38 hx hby rfl at_224 rfl k))))))) ?_
  clear Ar34 X35 e35 E_bw_35 F_bw_coder_35 F_bw_value_35 V_vw_35 hk35 CR35 K35 N35 V_b5_35 X36 N36q e36 N36 q37 Sz37 M37 Hs37 Gs37 hin37 W38 st38
  refine own_cs X38 hx hZ hown hml e38 (wd hw 22 rfl) (wd hw 23 rfl) (wd hw 24 rfl) (wd hw 25 rfl) (own_rmAt l Z a0 hw [] bw (11 : Int32) vc (if (p4 &&& (2 : Int32)) = (0 : Int32) then (0 : Int32) else (1 : Int32)) vw kw pn vs cs fv h38 n0 (Nat.le_trans Z0 K38.1) E_bw_38 F_bw_coder_38 F_bw_value_38 V_vw_38 (own_staKeep0 S_cs K38) hcs (own_staKeep0 S_f K38) hfv hvc.1 hvc.2 (by decide)) own_pd15 (hb hby at_226) 2 [.int 11, .ref b5] rfl ⟨rfl, rfl, rfl, rfl, rfl⟩ (by decide) ?_
  rintro T39 L39 v39 X39 hQ39
  obtain ⟨z39', rfl, N39q, e39, lz39, uz39⟩ := hQ39
  have N39 := Fr.app N38 N39q
  obtain ⟨cl40, Ar40, q40, Sz40, M40, Hs40, Gs40⟩ := id V_b5_38
  have hin40 := inb_of (j := (11 : Int32)) Sz40 ⟨by decide, by decide⟩
  obtain ⟨T41, h41, X41, e41, W41, st41⟩ := stC X39 hx hZ e39 Ar40 (j := (11 : Int32)) hin40 (g := (mkF m 229 #[iv p0, iv p1, iv p2, iv p3, iv p4, rv bw, iv pn, iv vc, iv (if (p4 &&& (2 : Int32)) = (0 : Int32) then (0 : Int32) else (1 : Int32)), rv b5, .unset, .unset, .unset] [(.int z39'), .int 11, .ref b5])) rfl rfl (hb hby at_229)
  have E_bw_41 := E_bw_38.wr W41
  have F_bw_coder_41 := F_bw_coder_38.other W41 (Or.inl ne_bw_b5)
  have F_bw_value_41 := F_bw_value_38.other W41 (Or.inl ne_bw_b5)
  have V_vw_41 := V_vw_38.other W41 ne_vw_b5
  have hk41 := Nat.le_trans hk38 (Keep.of_wr W41).1
  have CR41 := CR38.trans (CHr.wr W41 (Safe.arr hZ.alike Ar40 (by decide)) CR38.1)
  have K41 := K38.wr W41 (Or.inr sz_b5)
  have N41 := Fr.snoc X41 N39 new_b5
  have V_b5_41 := Arv.set Ar40 q40 Sz40 M40 Hs40 Gs40 (fits_nar_char _) W41 11 rfl (Nat.le_of_ble_eq_true rfl)
  rw [own_narc lz39 uz39] at V_b5_41
  refine own_go (b := T41.setTop (mkF m 234 #[iv p0, iv p1, iv p2, iv p3, iv p4, rv bw, iv pn, iv vc, iv (if (p4 &&& (2 : Int32)) = (0 : Int32) then (0 : Int32) else (1 : Int32)), rv b5, .unset, .unset, .unset] [(.int (p4 &&& (1 : Int32)))])) (fun t k => st41 _ (xiload X41 hx hby rfl at_230 rfl (xiconst X41 hx hby rfl at_232 (xiand X41 hx hby rfl at_233 rfl k)))) ?_
  clear Ar37 X38 e38 E_bw_38 F_bw_coder_38 F_bw_value_38 V_vw_38 hk38 CR38 K38 N38 V_b5_38 X39 N39q e39 N39 q40 Sz40 M40 Hs40 Gs40 hin40 W41 st41
  by_cases hc234_42 : (p4 &&& (1 : Int32)) = (0 : Int32)
  · refine own_go (b := T41.setTop (mkF m 249 #[iv p0, iv p1, iv p2, iv p3, iv p4, rv bw, iv pn, iv vc, iv (if (p4 &&& (2 : Int32)) = (0 : Int32) then (0 : Int32) else (1 : Int32)), rv b5, .unset, .unset, .unset] [])) (fun t k => xifYes X41 hx hby rfl 234 249 rfl at_234 rfl ((if0 _ _).trans (teq hc234_42).1) (by decide) (by decide) k) ?_
    exact own_tC hw Bd hx hby hml hown hZ X41 e41 N41 Z0 K41 hSq hk41 CR41 S_A V_A E_A S_cs E_m0 F_o0 E_s0 F_cs0 F_vs0 V_v0 E_m1 F_o1 E_s1 F_cs1 F_vs1 V_v1 S_S S_R S_f lz6 uz6 lz9 uz9 lz12 uz12 lz15 uz15 lz18 uz18 lz21 uz21 lz24 uz24 lz27 uz27 lz30 uz30 lz33 uz33 lz36 uz36 lz39 uz39 V_b5_41 new_b5 sz_b5 hcs hfv hpn
  · refine own_go (b := T41.setTop (mkF m 240 #[iv p0, iv p1, iv p2, iv p3, iv p4, rv bw, iv pn, iv vc, iv (if (p4 &&& (2 : Int32)) = (0 : Int32) then (0 : Int32) else (1 : Int32)), rv b5, .unset, .unset, .unset] [.int p1, .ref b5])) (fun t k => xifNo X41 hx hby rfl at_234 rfl ((if0 _ _).trans (feq hc234_42).1) (xaload X41 hx hby rfl at_237 rfl rfl (xiloadN X41 hx hby rfl at_239 rfl k))) ?_
    refine own_go (b := T41.setTop (mkF m 246 #[iv p0, iv p1, iv p2, iv p3, iv p4, rv bw, iv pn, iv vc, iv (if (p4 &&& (2 : Int32)) = (0 : Int32) then (0 : Int32) else (1 : Int32)), rv b5, .unset, .unset, .unset] [(.int ((p1 &&& (2147483647 : Int32)) - ((p1 &&& (2147483647 : Int32)) / (12 : Int32)) * (12 : Int32))), .ref b5])) (fun t k => X41.ldcInt hx hown (mvT hZ (wd hw 48 rfl)) (g := (mkF m 240 #[iv p0, iv p1, iv p2, iv p3, iv p4, rv bw, iv pn, iv vc, iv (if (p4 &&& (2 : Int32)) = (0 : Int32) then (0 : Int32) else (1 : Int32)), rv b5, .unset, .unset, .unset] [.int p1, .ref b5])) rfl (hb hby at_240) _ (xiand X41 hx hby rfl at_242 rfl (xbipush X41 hx hby rfl at_243 (xirem X41 hx hby rfl at_245 rfl (by decide) k)))) ?_
    have hm_ix := own_mod12 p1
    generalize ((p1 &&& (2147483647 : Int32)) - ((p1 &&& (2147483647 : Int32)) / (12 : Int32)) * (12 : Int32)) = v_ix at hm_ix ⊢
    rcases hm_ix with rfl | rfl | rfl | rfl | rfl | rfl | rfl | rfl | rfl | rfl | rfl | rfl
    · obtain ⟨cl116, Ar116, q116, Sz116, M116, Hs116, Gs116⟩ := id V_b5_41
      have hin116 := inb_of (j := (0 : Int32)) Sz116 ⟨by decide, by decide⟩
      obtain ⟨T117, h117, X117, e117, W117, st117⟩ := stC X41 hx hZ e41 Ar116 (j := (0 : Int32)) hin116 (g := (mkF m 248 #[iv p0, iv p1, iv p2, iv p3, iv p4, rv bw, iv pn, iv vc, iv (if (p4 &&& (2 : Int32)) = (0 : Int32) then (0 : Int32) else (1 : Int32)), rv b5, .unset, .unset, .unset] [.int vc, .int 0, .ref b5])) rfl rfl (hb hby at_248)
      have E_bw_117 := E_bw_41.wr W117
      have F_bw_coder_117 := F_bw_coder_41.other W117 (Or.inl ne_bw_b5)
      have F_bw_value_117 := F_bw_value_41.other W117 (Or.inl ne_bw_b5)
      have V_vw_117 := V_vw_41.other W117 ne_vw_b5
      have hk117 := Nat.le_trans hk41 (Keep.of_wr W117).1
      have CR117 := CR41.trans (CHr.wr W117 (Safe.arr hZ.alike Ar116 (by decide)) CR41.1)
      have K117 := K41.wr W117 (Or.inr sz_b5)
      have N117 := Fr.snoc X117 N41 new_b5
      have V_b5_117 := Arv.set Ar116 q116 Sz116 M116 Hs116 Gs116 (fits_nar_char _) W117 0 rfl (Nat.le_of_ble_eq_true rfl)
      rw [own_narc hvc.1 hvc.2] at V_b5_117
      refine own_go (b := T117.setTop (mkF m 249 #[iv p0, iv p1, iv p2, iv p3, iv p4, rv bw, iv pn, iv vc, iv (if (p4 &&& (2 : Int32)) = (0 : Int32) then (0 : Int32) else (1 : Int32)), rv b5, .unset, .unset, .unset] [])) (fun t k => xiload X41 hx hby rfl at_246 rfl (st117 _ k)) ?_
      clear Ar40 X41 e41 E_bw_41 F_bw_coder_41 F_bw_value_41 V_vw_41 hk41 CR41 K41 N41 V_b5_41 q116 Sz116 M116 Hs116 Gs116 hin116 W117 st117
      exact own_tC hw Bd hx hby hml hown hZ X117 e117 N117 Z0 K117 hSq hk117 CR117 S_A V_A E_A S_cs E_m0 F_o0 E_s0 F_cs0 F_vs0 V_v0 E_m1 F_o1 E_s1 F_cs1 F_vs1 V_v1 S_S S_R S_f hvc.1 hvc.2 lz9 uz9 lz12 uz12 lz15 uz15 lz18 uz18 lz21 uz21 lz24 uz24 lz27 uz27 lz30 uz30 lz33 uz33 lz36 uz36 lz39 uz39 V_b5_117 new_b5 sz_b5 hcs hfv hpn
    · obtain ⟨cl118, Ar118, q118, Sz118, M118, Hs118, Gs118⟩ := id V_b5_41
      have hin118 := inb_of (j := (1 : Int32)) Sz118 ⟨by decide, by decide⟩
      obtain ⟨T119, h119, X119, e119, W119, st119⟩ := stC X41 hx hZ e41 Ar118 (j := (1 : Int32)) hin118 (g := (mkF m 248 #[iv p0, iv p1, iv p2, iv p3, iv p4, rv bw, iv pn, iv vc, iv (if (p4 &&& (2 : Int32)) = (0 : Int32) then (0 : Int32) else (1 : Int32)), rv b5, .unset, .unset, .unset] [.int vc, .int 1, .ref b5])) rfl rfl (hb hby at_248)
      have E_bw_119 := E_bw_41.wr W119
      have F_bw_coder_119 := F_bw_coder_41.other W119 (Or.inl ne_bw_b5)
      have F_bw_value_119 := F_bw_value_41.other W119 (Or.inl ne_bw_b5)
      have V_vw_119 := V_vw_41.other W119 ne_vw_b5
      have hk119 := Nat.le_trans hk41 (Keep.of_wr W119).1
      have CR119 := CR41.trans (CHr.wr W119 (Safe.arr hZ.alike Ar118 (by decide)) CR41.1)
      have K119 := K41.wr W119 (Or.inr sz_b5)
      have N119 := Fr.snoc X119 N41 new_b5
      have V_b5_119 := Arv.set Ar118 q118 Sz118 M118 Hs118 Gs118 (fits_nar_char _) W119 1 rfl (Nat.le_of_ble_eq_true rfl)
      rw [own_narc hvc.1 hvc.2] at V_b5_119
      refine own_go (b := T119.setTop (mkF m 249 #[iv p0, iv p1, iv p2, iv p3, iv p4, rv bw, iv pn, iv vc, iv (if (p4 &&& (2 : Int32)) = (0 : Int32) then (0 : Int32) else (1 : Int32)), rv b5, .unset, .unset, .unset] [])) (fun t k => xiload X41 hx hby rfl at_246 rfl (st119 _ k)) ?_
      clear Ar40 X41 e41 E_bw_41 F_bw_coder_41 F_bw_value_41 V_vw_41 hk41 CR41 K41 N41 V_b5_41 q118 Sz118 M118 Hs118 Gs118 hin118 W119 st119
      exact own_tC hw Bd hx hby hml hown hZ X119 e119 N119 Z0 K119 hSq hk119 CR119 S_A V_A E_A S_cs E_m0 F_o0 E_s0 F_cs0 F_vs0 V_v0 E_m1 F_o1 E_s1 F_cs1 F_vs1 V_v1 S_S S_R S_f lz6 uz6 hvc.1 hvc.2 lz12 uz12 lz15 uz15 lz18 uz18 lz21 uz21 lz24 uz24 lz27 uz27 lz30 uz30 lz33 uz33 lz36 uz36 lz39 uz39 V_b5_119 new_b5 sz_b5 hcs hfv hpn
    · obtain ⟨cl120, Ar120, q120, Sz120, M120, Hs120, Gs120⟩ := id V_b5_41
      have hin120 := inb_of (j := (2 : Int32)) Sz120 ⟨by decide, by decide⟩
      obtain ⟨T121, h121, X121, e121, W121, st121⟩ := stC X41 hx hZ e41 Ar120 (j := (2 : Int32)) hin120 (g := (mkF m 248 #[iv p0, iv p1, iv p2, iv p3, iv p4, rv bw, iv pn, iv vc, iv (if (p4 &&& (2 : Int32)) = (0 : Int32) then (0 : Int32) else (1 : Int32)), rv b5, .unset, .unset, .unset] [.int vc, .int 2, .ref b5])) rfl rfl (hb hby at_248)
      have E_bw_121 := E_bw_41.wr W121
      have F_bw_coder_121 := F_bw_coder_41.other W121 (Or.inl ne_bw_b5)
      have F_bw_value_121 := F_bw_value_41.other W121 (Or.inl ne_bw_b5)
      have V_vw_121 := V_vw_41.other W121 ne_vw_b5
      have hk121 := Nat.le_trans hk41 (Keep.of_wr W121).1
      have CR121 := CR41.trans (CHr.wr W121 (Safe.arr hZ.alike Ar120 (by decide)) CR41.1)
      have K121 := K41.wr W121 (Or.inr sz_b5)
      have N121 := Fr.snoc X121 N41 new_b5
      have V_b5_121 := Arv.set Ar120 q120 Sz120 M120 Hs120 Gs120 (fits_nar_char _) W121 2 rfl (Nat.le_of_ble_eq_true rfl)
      rw [own_narc hvc.1 hvc.2] at V_b5_121
      refine own_go (b := T121.setTop (mkF m 249 #[iv p0, iv p1, iv p2, iv p3, iv p4, rv bw, iv pn, iv vc, iv (if (p4 &&& (2 : Int32)) = (0 : Int32) then (0 : Int32) else (1 : Int32)), rv b5, .unset, .unset, .unset] [])) (fun t k => xiload X41 hx hby rfl at_246 rfl (st121 _ k)) ?_
      clear Ar40 X41 e41 E_bw_41 F_bw_coder_41 F_bw_value_41 V_vw_41 hk41 CR41 K41 N41 V_b5_41 q120 Sz120 M120 Hs120 Gs120 hin120 W121 st121
      exact own_tC hw Bd hx hby hml hown hZ X121 e121 N121 Z0 K121 hSq hk121 CR121 S_A V_A E_A S_cs E_m0 F_o0 E_s0 F_cs0 F_vs0 V_v0 E_m1 F_o1 E_s1 F_cs1 F_vs1 V_v1 S_S S_R S_f lz6 uz6 lz9 uz9 hvc.1 hvc.2 lz15 uz15 lz18 uz18 lz21 uz21 lz24 uz24 lz27 uz27 lz30 uz30 lz33 uz33 lz36 uz36 lz39 uz39 V_b5_121 new_b5 sz_b5 hcs hfv hpn
    · obtain ⟨cl122, Ar122, q122, Sz122, M122, Hs122, Gs122⟩ := id V_b5_41
      have hin122 := inb_of (j := (3 : Int32)) Sz122 ⟨by decide, by decide⟩
      obtain ⟨T123, h123, X123, e123, W123, st123⟩ := stC X41 hx hZ e41 Ar122 (j := (3 : Int32)) hin122 (g := (mkF m 248 #[iv p0, iv p1, iv p2, iv p3, iv p4, rv bw, iv pn, iv vc, iv (if (p4 &&& (2 : Int32)) = (0 : Int32) then (0 : Int32) else (1 : Int32)), rv b5, .unset, .unset, .unset] [.int vc, .int 3, .ref b5])) rfl rfl (hb hby at_248)
      have E_bw_123 := E_bw_41.wr W123
      have F_bw_coder_123 := F_bw_coder_41.other W123 (Or.inl ne_bw_b5)
      have F_bw_value_123 := F_bw_value_41.other W123 (Or.inl ne_bw_b5)
      have V_vw_123 := V_vw_41.other W123 ne_vw_b5
      have hk123 := Nat.le_trans hk41 (Keep.of_wr W123).1
      have CR123 := CR41.trans (CHr.wr W123 (Safe.arr hZ.alike Ar122 (by decide)) CR41.1)
      have K123 := K41.wr W123 (Or.inr sz_b5)
      have N123 := Fr.snoc X123 N41 new_b5
      have V_b5_123 := Arv.set Ar122 q122 Sz122 M122 Hs122 Gs122 (fits_nar_char _) W123 3 rfl (Nat.le_of_ble_eq_true rfl)
      rw [own_narc hvc.1 hvc.2] at V_b5_123
      refine own_go (b := T123.setTop (mkF m 249 #[iv p0, iv p1, iv p2, iv p3, iv p4, rv bw, iv pn, iv vc, iv (if (p4 &&& (2 : Int32)) = (0 : Int32) then (0 : Int32) else (1 : Int32)), rv b5, .unset, .unset, .unset] [])) (fun t k => xiload X41 hx hby rfl at_246 rfl (st123 _ k)) ?_
      clear Ar40 X41 e41 E_bw_41 F_bw_coder_41 F_bw_value_41 V_vw_41 hk41 CR41 K41 N41 V_b5_41 q122 Sz122 M122 Hs122 Gs122 hin122 W123 st123
      exact own_tC hw Bd hx hby hml hown hZ X123 e123 N123 Z0 K123 hSq hk123 CR123 S_A V_A E_A S_cs E_m0 F_o0 E_s0 F_cs0 F_vs0 V_v0 E_m1 F_o1 E_s1 F_cs1 F_vs1 V_v1 S_S S_R S_f lz6 uz6 lz9 uz9 lz12 uz12 hvc.1 hvc.2 lz18 uz18 lz21 uz21 lz24 uz24 lz27 uz27 lz30 uz30 lz33 uz33 lz36 uz36 lz39 uz39 V_b5_123 new_b5 sz_b5 hcs hfv hpn
    · obtain ⟨cl124, Ar124, q124, Sz124, M124, Hs124, Gs124⟩ := id V_b5_41
      have hin124 := inb_of (j := (4 : Int32)) Sz124 ⟨by decide, by decide⟩
      obtain ⟨T125, h125, X125, e125, W125, st125⟩ := stC X41 hx hZ e41 Ar124 (j := (4 : Int32)) hin124 (g := (mkF m 248 #[iv p0, iv p1, iv p2, iv p3, iv p4, rv bw, iv pn, iv vc, iv (if (p4 &&& (2 : Int32)) = (0 : Int32) then (0 : Int32) else (1 : Int32)), rv b5, .unset, .unset, .unset] [.int vc, .int 4, .ref b5])) rfl rfl (hb hby at_248)
      have E_bw_125 := E_bw_41.wr W125
      have F_bw_coder_125 := F_bw_coder_41.other W125 (Or.inl ne_bw_b5)
      have F_bw_value_125 := F_bw_value_41.other W125 (Or.inl ne_bw_b5)
      have V_vw_125 := V_vw_41.other W125 ne_vw_b5
      have hk125 := Nat.le_trans hk41 (Keep.of_wr W125).1
      have CR125 := CR41.trans (CHr.wr W125 (Safe.arr hZ.alike Ar124 (by decide)) CR41.1)
      have K125 := K41.wr W125 (Or.inr sz_b5)
      have N125 := Fr.snoc X125 N41 new_b5
      have V_b5_125 := Arv.set Ar124 q124 Sz124 M124 Hs124 Gs124 (fits_nar_char _) W125 4 rfl (Nat.le_of_ble_eq_true rfl)
      rw [own_narc hvc.1 hvc.2] at V_b5_125
      refine own_go (b := T125.setTop (mkF m 249 #[iv p0, iv p1, iv p2, iv p3, iv p4, rv bw, iv pn, iv vc, iv (if (p4 &&& (2 : Int32)) = (0 : Int32) then (0 : Int32) else (1 : Int32)), rv b5, .unset, .unset, .unset] [])) (fun t k => xiload X41 hx hby rfl at_246 rfl (st125 _ k)) ?_
      clear Ar40 X41 e41 E_bw_41 F_bw_coder_41 F_bw_value_41 V_vw_41 hk41 CR41 K41 N41 V_b5_41 q124 Sz124 M124 Hs124 Gs124 hin124 W125 st125
      exact own_tC hw Bd hx hby hml hown hZ X125 e125 N125 Z0 K125 hSq hk125 CR125 S_A V_A E_A S_cs E_m0 F_o0 E_s0 F_cs0 F_vs0 V_v0 E_m1 F_o1 E_s1 F_cs1 F_vs1 V_v1 S_S S_R S_f lz6 uz6 lz9 uz9 lz12 uz12 lz15 uz15 hvc.1 hvc.2 lz21 uz21 lz24 uz24 lz27 uz27 lz30 uz30 lz33 uz33 lz36 uz36 lz39 uz39 V_b5_125 new_b5 sz_b5 hcs hfv hpn
    · obtain ⟨cl126, Ar126, q126, Sz126, M126, Hs126, Gs126⟩ := id V_b5_41
      have hin126 := inb_of (j := (5 : Int32)) Sz126 ⟨by decide, by decide⟩
      obtain ⟨T127, h127, X127, e127, W127, st127⟩ := stC X41 hx hZ e41 Ar126 (j := (5 : Int32)) hin126 (g := (mkF m 248 #[iv p0, iv p1, iv p2, iv p3, iv p4, rv bw, iv pn, iv vc, iv (if (p4 &&& (2 : Int32)) = (0 : Int32) then (0 : Int32) else (1 : Int32)), rv b5, .unset, .unset, .unset] [.int vc, .int 5, .ref b5])) rfl rfl (hb hby at_248)
      have E_bw_127 := E_bw_41.wr W127
      have F_bw_coder_127 := F_bw_coder_41.other W127 (Or.inl ne_bw_b5)
      have F_bw_value_127 := F_bw_value_41.other W127 (Or.inl ne_bw_b5)
      have V_vw_127 := V_vw_41.other W127 ne_vw_b5
      have hk127 := Nat.le_trans hk41 (Keep.of_wr W127).1
      have CR127 := CR41.trans (CHr.wr W127 (Safe.arr hZ.alike Ar126 (by decide)) CR41.1)
      have K127 := K41.wr W127 (Or.inr sz_b5)
      have N127 := Fr.snoc X127 N41 new_b5
      have V_b5_127 := Arv.set Ar126 q126 Sz126 M126 Hs126 Gs126 (fits_nar_char _) W127 5 rfl (Nat.le_of_ble_eq_true rfl)
      rw [own_narc hvc.1 hvc.2] at V_b5_127
      refine own_go (b := T127.setTop (mkF m 249 #[iv p0, iv p1, iv p2, iv p3, iv p4, rv bw, iv pn, iv vc, iv (if (p4 &&& (2 : Int32)) = (0 : Int32) then (0 : Int32) else (1 : Int32)), rv b5, .unset, .unset, .unset] [])) (fun t k => xiload X41 hx hby rfl at_246 rfl (st127 _ k)) ?_
      clear Ar40 X41 e41 E_bw_41 F_bw_coder_41 F_bw_value_41 V_vw_41 hk41 CR41 K41 N41 V_b5_41 q126 Sz126 M126 Hs126 Gs126 hin126 W127 st127
      exact own_tC hw Bd hx hby hml hown hZ X127 e127 N127 Z0 K127 hSq hk127 CR127 S_A V_A E_A S_cs E_m0 F_o0 E_s0 F_cs0 F_vs0 V_v0 E_m1 F_o1 E_s1 F_cs1 F_vs1 V_v1 S_S S_R S_f lz6 uz6 lz9 uz9 lz12 uz12 lz15 uz15 lz18 uz18 hvc.1 hvc.2 lz24 uz24 lz27 uz27 lz30 uz30 lz33 uz33 lz36 uz36 lz39 uz39 V_b5_127 new_b5 sz_b5 hcs hfv hpn
    · obtain ⟨cl128, Ar128, q128, Sz128, M128, Hs128, Gs128⟩ := id V_b5_41
      have hin128 := inb_of (j := (6 : Int32)) Sz128 ⟨by decide, by decide⟩
      obtain ⟨T129, h129, X129, e129, W129, st129⟩ := stC X41 hx hZ e41 Ar128 (j := (6 : Int32)) hin128 (g := (mkF m 248 #[iv p0, iv p1, iv p2, iv p3, iv p4, rv bw, iv pn, iv vc, iv (if (p4 &&& (2 : Int32)) = (0 : Int32) then (0 : Int32) else (1 : Int32)), rv b5, .unset, .unset, .unset] [.int vc, .int 6, .ref b5])) rfl rfl (hb hby at_248)
      have E_bw_129 := E_bw_41.wr W129
      have F_bw_coder_129 := F_bw_coder_41.other W129 (Or.inl ne_bw_b5)
      have F_bw_value_129 := F_bw_value_41.other W129 (Or.inl ne_bw_b5)
      have V_vw_129 := V_vw_41.other W129 ne_vw_b5
      have hk129 := Nat.le_trans hk41 (Keep.of_wr W129).1
      have CR129 := CR41.trans (CHr.wr W129 (Safe.arr hZ.alike Ar128 (by decide)) CR41.1)
      have K129 := K41.wr W129 (Or.inr sz_b5)
      have N129 := Fr.snoc X129 N41 new_b5
      have V_b5_129 := Arv.set Ar128 q128 Sz128 M128 Hs128 Gs128 (fits_nar_char _) W129 6 rfl (Nat.le_of_ble_eq_true rfl)
      rw [own_narc hvc.1 hvc.2] at V_b5_129
      refine own_go (b := T129.setTop (mkF m 249 #[iv p0, iv p1, iv p2, iv p3, iv p4, rv bw, iv pn, iv vc, iv (if (p4 &&& (2 : Int32)) = (0 : Int32) then (0 : Int32) else (1 : Int32)), rv b5, .unset, .unset, .unset] [])) (fun t k => xiload X41 hx hby rfl at_246 rfl (st129 _ k)) ?_
      clear Ar40 X41 e41 E_bw_41 F_bw_coder_41 F_bw_value_41 V_vw_41 hk41 CR41 K41 N41 V_b5_41 q128 Sz128 M128 Hs128 Gs128 hin128 W129 st129
      exact own_tC hw Bd hx hby hml hown hZ X129 e129 N129 Z0 K129 hSq hk129 CR129 S_A V_A E_A S_cs E_m0 F_o0 E_s0 F_cs0 F_vs0 V_v0 E_m1 F_o1 E_s1 F_cs1 F_vs1 V_v1 S_S S_R S_f lz6 uz6 lz9 uz9 lz12 uz12 lz15 uz15 lz18 uz18 lz21 uz21 hvc.1 hvc.2 lz27 uz27 lz30 uz30 lz33 uz33 lz36 uz36 lz39 uz39 V_b5_129 new_b5 sz_b5 hcs hfv hpn
    · obtain ⟨cl130, Ar130, q130, Sz130, M130, Hs130, Gs130⟩ := id V_b5_41
      have hin130 := inb_of (j := (7 : Int32)) Sz130 ⟨by decide, by decide⟩
      obtain ⟨T131, h131, X131, e131, W131, st131⟩ := stC X41 hx hZ e41 Ar130 (j := (7 : Int32)) hin130 (g := (mkF m 248 #[iv p0, iv p1, iv p2, iv p3, iv p4, rv bw, iv pn, iv vc, iv (if (p4 &&& (2 : Int32)) = (0 : Int32) then (0 : Int32) else (1 : Int32)), rv b5, .unset, .unset, .unset] [.int vc, .int 7, .ref b5])) rfl rfl (hb hby at_248)
      have E_bw_131 := E_bw_41.wr W131
      have F_bw_coder_131 := F_bw_coder_41.other W131 (Or.inl ne_bw_b5)
      have F_bw_value_131 := F_bw_value_41.other W131 (Or.inl ne_bw_b5)
      have V_vw_131 := V_vw_41.other W131 ne_vw_b5
      have hk131 := Nat.le_trans hk41 (Keep.of_wr W131).1
      have CR131 := CR41.trans (CHr.wr W131 (Safe.arr hZ.alike Ar130 (by decide)) CR41.1)
      have K131 := K41.wr W131 (Or.inr sz_b5)
      have N131 := Fr.snoc X131 N41 new_b5
      have V_b5_131 := Arv.set Ar130 q130 Sz130 M130 Hs130 Gs130 (fits_nar_char _) W131 7 rfl (Nat.le_of_ble_eq_true rfl)
      rw [own_narc hvc.1 hvc.2] at V_b5_131
      refine own_go (b := T131.setTop (mkF m 249 #[iv p0, iv p1, iv p2, iv p3, iv p4, rv bw, iv pn, iv vc, iv (if (p4 &&& (2 : Int32)) = (0 : Int32) then (0 : Int32) else (1 : Int32)), rv b5, .unset, .unset, .unset] [])) (fun t k => xiload X41 hx hby rfl at_246 rfl (st131 _ k)) ?_
      clear Ar40 X41 e41 E_bw_41 F_bw_coder_41 F_bw_value_41 V_vw_41 hk41 CR41 K41 N41 V_b5_41 q130 Sz130 M130 Hs130 Gs130 hin130 W131 st131
      exact own_tC hw Bd hx hby hml hown hZ X131 e131 N131 Z0 K131 hSq hk131 CR131 S_A V_A E_A S_cs E_m0 F_o0 E_s0 F_cs0 F_vs0 V_v0 E_m1 F_o1 E_s1 F_cs1 F_vs1 V_v1 S_S S_R S_f lz6 uz6 lz9 uz9 lz12 uz12 lz15 uz15 lz18 uz18 lz21 uz21 lz24 uz24 hvc.1 hvc.2 lz30 uz30 lz33 uz33 lz36 uz36 lz39 uz39 V_b5_131 new_b5 sz_b5 hcs hfv hpn
    · obtain ⟨cl132, Ar132, q132, Sz132, M132, Hs132, Gs132⟩ := id V_b5_41
      have hin132 := inb_of (j := (8 : Int32)) Sz132 ⟨by decide, by decide⟩
      obtain ⟨T133, h133, X133, e133, W133, st133⟩ := stC X41 hx hZ e41 Ar132 (j := (8 : Int32)) hin132 (g := (mkF m 248 #[iv p0, iv p1, iv p2, iv p3, iv p4, rv bw, iv pn, iv vc, iv (if (p4 &&& (2 : Int32)) = (0 : Int32) then (0 : Int32) else (1 : Int32)), rv b5, .unset, .unset, .unset] [.int vc, .int 8, .ref b5])) rfl rfl (hb hby at_248)
      have E_bw_133 := E_bw_41.wr W133
      have F_bw_coder_133 := F_bw_coder_41.other W133 (Or.inl ne_bw_b5)
      have F_bw_value_133 := F_bw_value_41.other W133 (Or.inl ne_bw_b5)
      have V_vw_133 := V_vw_41.other W133 ne_vw_b5
      have hk133 := Nat.le_trans hk41 (Keep.of_wr W133).1
      have CR133 := CR41.trans (CHr.wr W133 (Safe.arr hZ.alike Ar132 (by decide)) CR41.1)
      have K133 := K41.wr W133 (Or.inr sz_b5)
      have N133 := Fr.snoc X133 N41 new_b5
      have V_b5_133 := Arv.set Ar132 q132 Sz132 M132 Hs132 Gs132 (fits_nar_char _) W133 8 rfl (Nat.le_of_ble_eq_true rfl)
      rw [own_narc hvc.1 hvc.2] at V_b5_133
      refine own_go (b := T133.setTop (mkF m 249 #[iv p0, iv p1, iv p2, iv p3, iv p4, rv bw, iv pn, iv vc, iv (if (p4 &&& (2 : Int32)) = (0 : Int32) then (0 : Int32) else (1 : Int32)), rv b5, .unset, .unset, .unset] [])) (fun t k => xiload X41 hx hby rfl at_246 rfl (st133 _ k)) ?_
      clear Ar40 X41 e41 E_bw_41 F_bw_coder_41 F_bw_value_41 V_vw_41 hk41 CR41 K41 N41 V_b5_41 q132 Sz132 M132 Hs132 Gs132 hin132 W133 st133
      exact own_tC hw Bd hx hby hml hown hZ X133 e133 N133 Z0 K133 hSq hk133 CR133 S_A V_A E_A S_cs E_m0 F_o0 E_s0 F_cs0 F_vs0 V_v0 E_m1 F_o1 E_s1 F_cs1 F_vs1 V_v1 S_S S_R S_f lz6 uz6 lz9 uz9 lz12 uz12 lz15 uz15 lz18 uz18 lz21 uz21 lz24 uz24 lz27 uz27 hvc.1 hvc.2 lz33 uz33 lz36 uz36 lz39 uz39 V_b5_133 new_b5 sz_b5 hcs hfv hpn
    · obtain ⟨cl134, Ar134, q134, Sz134, M134, Hs134, Gs134⟩ := id V_b5_41
      have hin134 := inb_of (j := (9 : Int32)) Sz134 ⟨by decide, by decide⟩
      obtain ⟨T135, h135, X135, e135, W135, st135⟩ := stC X41 hx hZ e41 Ar134 (j := (9 : Int32)) hin134 (g := (mkF m 248 #[iv p0, iv p1, iv p2, iv p3, iv p4, rv bw, iv pn, iv vc, iv (if (p4 &&& (2 : Int32)) = (0 : Int32) then (0 : Int32) else (1 : Int32)), rv b5, .unset, .unset, .unset] [.int vc, .int 9, .ref b5])) rfl rfl (hb hby at_248)
      have E_bw_135 := E_bw_41.wr W135
      have F_bw_coder_135 := F_bw_coder_41.other W135 (Or.inl ne_bw_b5)
      have F_bw_value_135 := F_bw_value_41.other W135 (Or.inl ne_bw_b5)
      have V_vw_135 := V_vw_41.other W135 ne_vw_b5
      have hk135 := Nat.le_trans hk41 (Keep.of_wr W135).1
      have CR135 := CR41.trans (CHr.wr W135 (Safe.arr hZ.alike Ar134 (by decide)) CR41.1)
      have K135 := K41.wr W135 (Or.inr sz_b5)
      have N135 := Fr.snoc X135 N41 new_b5
      have V_b5_135 := Arv.set Ar134 q134 Sz134 M134 Hs134 Gs134 (fits_nar_char _) W135 9 rfl (Nat.le_of_ble_eq_true rfl)
      rw [own_narc hvc.1 hvc.2] at V_b5_135
      refine own_go (b := T135.setTop (mkF m 249 #[iv p0, iv p1, iv p2, iv p3, iv p4, rv bw, iv pn, iv vc, iv (if (p4 &&& (2 : Int32)) = (0 : Int32) then (0 : Int32) else (1 : Int32)), rv b5, .unset, .unset, .unset] [])) (fun t k => xiload X41 hx hby rfl at_246 rfl (st135 _ k)) ?_
      clear Ar40 X41 e41 E_bw_41 F_bw_coder_41 F_bw_value_41 V_vw_41 hk41 CR41 K41 N41 V_b5_41 q134 Sz134 M134 Hs134 Gs134 hin134 W135 st135
      exact own_tC hw Bd hx hby hml hown hZ X135 e135 N135 Z0 K135 hSq hk135 CR135 S_A V_A E_A S_cs E_m0 F_o0 E_s0 F_cs0 F_vs0 V_v0 E_m1 F_o1 E_s1 F_cs1 F_vs1 V_v1 S_S S_R S_f lz6 uz6 lz9 uz9 lz12 uz12 lz15 uz15 lz18 uz18 lz21 uz21 lz24 uz24 lz27 uz27 lz30 uz30 hvc.1 hvc.2 lz36 uz36 lz39 uz39 V_b5_135 new_b5 sz_b5 hcs hfv hpn
    · obtain ⟨cl136, Ar136, q136, Sz136, M136, Hs136, Gs136⟩ := id V_b5_41
      have hin136 := inb_of (j := (10 : Int32)) Sz136 ⟨by decide, by decide⟩
      obtain ⟨T137, h137, X137, e137, W137, st137⟩ := stC X41 hx hZ e41 Ar136 (j := (10 : Int32)) hin136 (g := (mkF m 248 #[iv p0, iv p1, iv p2, iv p3, iv p4, rv bw, iv pn, iv vc, iv (if (p4 &&& (2 : Int32)) = (0 : Int32) then (0 : Int32) else (1 : Int32)), rv b5, .unset, .unset, .unset] [.int vc, .int 10, .ref b5])) rfl rfl (hb hby at_248)
      have E_bw_137 := E_bw_41.wr W137
      have F_bw_coder_137 := F_bw_coder_41.other W137 (Or.inl ne_bw_b5)
      have F_bw_value_137 := F_bw_value_41.other W137 (Or.inl ne_bw_b5)
      have V_vw_137 := V_vw_41.other W137 ne_vw_b5
      have hk137 := Nat.le_trans hk41 (Keep.of_wr W137).1
      have CR137 := CR41.trans (CHr.wr W137 (Safe.arr hZ.alike Ar136 (by decide)) CR41.1)
      have K137 := K41.wr W137 (Or.inr sz_b5)
      have N137 := Fr.snoc X137 N41 new_b5
      have V_b5_137 := Arv.set Ar136 q136 Sz136 M136 Hs136 Gs136 (fits_nar_char _) W137 10 rfl (Nat.le_of_ble_eq_true rfl)
      rw [own_narc hvc.1 hvc.2] at V_b5_137
      refine own_go (b := T137.setTop (mkF m 249 #[iv p0, iv p1, iv p2, iv p3, iv p4, rv bw, iv pn, iv vc, iv (if (p4 &&& (2 : Int32)) = (0 : Int32) then (0 : Int32) else (1 : Int32)), rv b5, .unset, .unset, .unset] [])) (fun t k => xiload X41 hx hby rfl at_246 rfl (st137 _ k)) ?_
      clear Ar40 X41 e41 E_bw_41 F_bw_coder_41 F_bw_value_41 V_vw_41 hk41 CR41 K41 N41 V_b5_41 q136 Sz136 M136 Hs136 Gs136 hin136 W137 st137
      exact own_tC hw Bd hx hby hml hown hZ X137 e137 N137 Z0 K137 hSq hk137 CR137 S_A V_A E_A S_cs E_m0 F_o0 E_s0 F_cs0 F_vs0 V_v0 E_m1 F_o1 E_s1 F_cs1 F_vs1 V_v1 S_S S_R S_f lz6 uz6 lz9 uz9 lz12 uz12 lz15 uz15 lz18 uz18 lz21 uz21 lz24 uz24 lz27 uz27 lz30 uz30 lz33 uz33 hvc.1 hvc.2 lz39 uz39 V_b5_137 new_b5 sz_b5 hcs hfv hpn
    · obtain ⟨cl138, Ar138, q138, Sz138, M138, Hs138, Gs138⟩ := id V_b5_41
      have hin138 := inb_of (j := (11 : Int32)) Sz138 ⟨by decide, by decide⟩
      obtain ⟨T139, h139, X139, e139, W139, st139⟩ := stC X41 hx hZ e41 Ar138 (j := (11 : Int32)) hin138 (g := (mkF m 248 #[iv p0, iv p1, iv p2, iv p3, iv p4, rv bw, iv pn, iv vc, iv (if (p4 &&& (2 : Int32)) = (0 : Int32) then (0 : Int32) else (1 : Int32)), rv b5, .unset, .unset, .unset] [.int vc, .int 11, .ref b5])) rfl rfl (hb hby at_248)
      have E_bw_139 := E_bw_41.wr W139
      have F_bw_coder_139 := F_bw_coder_41.other W139 (Or.inl ne_bw_b5)
      have F_bw_value_139 := F_bw_value_41.other W139 (Or.inl ne_bw_b5)
      have V_vw_139 := V_vw_41.other W139 ne_vw_b5
      have hk139 := Nat.le_trans hk41 (Keep.of_wr W139).1
      have CR139 := CR41.trans (CHr.wr W139 (Safe.arr hZ.alike Ar138 (by decide)) CR41.1)
      have K139 := K41.wr W139 (Or.inr sz_b5)
      have N139 := Fr.snoc X139 N41 new_b5
      have V_b5_139 := Arv.set Ar138 q138 Sz138 M138 Hs138 Gs138 (fits_nar_char _) W139 11 rfl (Nat.le_of_ble_eq_true rfl)
      rw [own_narc hvc.1 hvc.2] at V_b5_139
      refine own_go (b := T139.setTop (mkF m 249 #[iv p0, iv p1, iv p2, iv p3, iv p4, rv bw, iv pn, iv vc, iv (if (p4 &&& (2 : Int32)) = (0 : Int32) then (0 : Int32) else (1 : Int32)), rv b5, .unset, .unset, .unset] [])) (fun t k => xiload X41 hx hby rfl at_246 rfl (st139 _ k)) ?_
      clear Ar40 X41 e41 E_bw_41 F_bw_coder_41 F_bw_value_41 V_vw_41 hk41 CR41 K41 N41 V_b5_41 q138 Sz138 M138 Hs138 Gs138 hin138 W139 st139
      exact own_tC hw Bd hx hby hml hown hZ X139 e139 N139 Z0 K139 hSq hk139 CR139 S_A V_A E_A S_cs E_m0 F_o0 E_s0 F_cs0 F_vs0 V_v0 E_m1 F_o1 E_s1 F_cs1 F_vs1 V_v1 S_S S_R S_f lz6 uz6 lz9 uz9 lz12 uz12 lz15 uz15 lz18 uz18 lz21 uz21 lz24 uz24 lz27 uz27 lz30 uz30 lz33 uz33 lz36 uz36 hvc.1 hvc.2 V_b5_139 new_b5 sz_b5 hcs hfv hpn
theorem ef_own_rm0 (m : MethodId) (x0 : Int32) (x1 : Int32) (x2 : Int32) (x3 : Int32) (x4 : Int32) : entryFrame m #[.int x0, .int x1, .int x2, .int x3, .int x4] maxLocals = mkF m 0 #[iv x0, iv x1, iv x2, iv x3, iv x4, .unset, .unset, .unset, .unset, .unset, .unset, .unset, .unset] [] := by first | (simp [entryFrame, mkF, argsToLocals, Value.category, maxLocals]; done) | rfl
set_option maxRecDepth 65536 in
set_option maxHeartbeats 40000000 in
theorem own_rm0 (l : Launch) (Z : State) (a0 : Array Value) (hw : ∀ d ∈ tables_1, d.before a0 Z = true) (ws : List Jvm.Cond) (p0 : Int32) (p1 : Int32) (p2 : Int32) (p3 : Int32) (p4 : Int32) (bA m0 m1 s0 s1 v0 v1 : Addr) (kA kv0 kv1 : ClassId) (cs : Int32) (fv : Value) (h0 : Heap) (n0 : Nat) (Z0 : n0 ≤ h0.size) (S_A : Sta Z h0 "com/example/corollary/corollary/EstimateMethod" "$VALUES" "[Lcom/example/corollary/corollary/EstimateMethod;" (.ref bA)) (V_A : Arv Z h0 bA kA (.object "com/example/corollary/corollary/EstimateMethod") (2 : Int32) [.ref m0, .ref m1] .null) (E_A : Exa Z h0 bA "[Lcom/example/corollary/corollary/EstimateMethod;") (E_m0 : Exa Z h0 m0 "com/example/corollary/corollary/EstimateMethod$1") (F_o0 : Fld Z h0 m0 "com/example/corollary/corollary/EstimateMethod" "optionName" "Ljava/lang/String;" (.ref s0)) (E_s0 : Exa Z h0 s0 "java/lang/String") (F_cs0 : Fld Z h0 s0 "java/lang/String" "coder" "B" (.int 0)) (F_vs0 : Fld Z h0 s0 "java/lang/String" "value" "[B" (.ref v0)) (V_v0 : Arv Z h0 v0 kv0 .byte (10 : Int32) [.int 115, .int 101, .int 113, .int 117, .int 101, .int 110, .int 116, .int 105, .int 97, .int 108] (.int 0)) (E_m1 : Exa Z h0 m1 "com/example/corollary/corollary/EstimateMethod$2") (F_o1 : Fld Z h0 m1 "com/example/corollary/corollary/EstimateMethod" "optionName" "Ljava/lang/String;" (.ref s1)) (E_s1 : Exa Z h0 s1 "java/lang/String") (F_cs1 : Fld Z h0 s1 "java/lang/String" "coder" "B" (.int 0)) (F_vs1 : Fld Z h0 s1 "java/lang/String" "value" "[B" (.ref v1)) (V_v1 : Arv Z h0 v1 kv1 .byte (9 : Int32) [.int 114, .int 101, .int 102, .int 101, .int 114, .int 101, .int 110, .int 99, .int 101] (.int 0)) (S_cs : Sta Z h0 "java/lang/String" "COMPACT_STRINGS" "Z" (.int cs)) (hcs : ¬ cs = (0 : Int32)) (S_S : Sta Z h0 "com/example/corollary/corollary/EstimateMethod" "SEQUENTIAL" "Lcom/example/corollary/corollary/EstimateMethod;" (.ref m0)) (S_R : Sta Z h0 "com/example/corollary/corollary/EstimateMethod" "REFERENCE" "Lcom/example/corollary/corollary/EstimateMethod;" (.ref m1)) (S_f : Sta Z h0 "jdk/internal/util/Preconditions" "SIOOBE_FORMATTER" "Ljava/util/function/BiFunction;" fv) (hfv : fv.isRef = true) (hCH : CHv Z own_EL Z.vm h0) :
    MetFree l x (head1 (Jvm.Cond.code x code maxLocals ret :: ws) room_1) (fun a U => a = #[.int p0, .int p1, .int p2, .int p3, .int p4] ∧ Z = U ∧ U.heap = h0) (fun _ _ _ _ _ => True) (fun _ U o U' => ∃ v L, o = .returned v ∧ own_Q0 n0 v U'.heap L ∧ ReturnedEndW U o U' L room_1.cells room_1.slots) := by
  refine MetFree.of_bodySF (plainFor_of_name own_pn4) hisR ?_
  intro p e s m args below meth c s₁ Bd hml0 hP hK
  obtain ⟨rfl, hUZ, hh⟩ := hP
  have hZ : Z.Warmed39 s.vm := by rw [hUZ]; exact State.Warmed39.refl s
  have hx := Bd.exec
  have hby := Bd.bytes
  have hml : c.maxLocals = 13 := hml0
  have hown : s.vm.findClass "com/example/corollary/corollary/EstimateMethodNamedPinLaw" = some m.cls := findClass_of_methodNamed Bd.named
  have hnm := (name_of_methodNamed Bd.named Bd.method).1
  have X0 : Stand p l e room_1 s m #[.int p0, .int p1, .int p2, .int p3, .int p4] below meth c s₁ [] 0 0 := Stand.of_body Bd
  have e0 : s₁.heap = h0 := by rw [← hh, Bd.state]; rfl
  have N0 := Fr.nil n0
  refine own_go (b := s₁.setTop (mkF m 0 #[iv p0, iv p1, iv p2, iv p3, iv p4, .unset, .unset, .unset, .unset, .unset, .unset, .unset, .unset] [])) (fun t k => castTop (ef_own_rm0 m p0 p1 p2 p3 p4) k) ?_
  have hCH0 : CHv Z own_EL s.vm h0 := by rw [← hUZ]; exact hCH
  refine own_go (b := s₁.setTop (mkF m 3 #[iv p0, iv p1, iv p2, iv p3, iv p4, .unset, .unset, .unset, .unset, .unset, .unset, .unset, .unset] [(.int (p0 &&& (1 : Int32)))])) (fun t k => xiloadN X0 hx hby rfl at_0 rfl (xiconst X0 hx hby rfl at_1 (xiand X0 hx hby rfl at_2 rfl k))) ?_
  by_cases hc3_1 : (p0 &&& (1 : Int32)) = (0 : Int32)
  · refine own_go (b := s₁.setTop (mkF m 6 #[iv p0, iv p1, iv p2, iv p3, iv p4, .unset, .unset, .unset, .unset, .unset, .unset, .unset, .unset] [])) (fun t k => xifNo X0 hx hby rfl at_3 rfl ((if0 _ _).trans (teq hc3_1).2) k) ?_
    obtain ⟨sa2, T2, h2, kk2, sb2, kb2, X2, e2, E2, hS2, hk2_, hZ, hown, Ea2, Fc2, Fv2, Va2, la2, lb2, CRl2, hL2, hne2, st2⟩ := ldcCH (s := s) (show Stand p l e room_1 (s.setVm s.vm) m _ below meth c _ _ _ _ from X0) hx hZ hown (wd hw 0 rfl) (own_atoms hw) e0 ((State.WarmedH.refl s).since 0) (Nat.zero_le _) (own_EW hw) (List.mem_of_getElem? (i := 0) rfl) (CHr.refl hCH0).1 (vs := [.int 115, .int 101, .int 113, .int 117, .int 101, .int 110, .int 116, .int 105, .int 97, .int 108]) (z := (10 : Int32)) (by decide +kernel) (by decide) (by decide +kernel) (g := (mkF m 6 #[iv p0, iv p1, iv p2, iv p3, iv p4, .unset, .unset, .unset, .unset, .unset, .unset, .unset, .unset] [])) rfl (hb hby at_6) (n := 40) (by decide +kernel) (by decide) (by decide) (by decide)
    have K2 := (Keep.refl h0 []).ext E2
    have CR2 := (CHr.refl hCH0).trans CRl2
    refine own_go (b := T2.setTop (mkF m 17 #[iv p0, iv p1, iv p2, iv p3, iv p4, rv sa2, .unset, .unset, .unset, .unset, .unset, .unset, .unset] [.ref sa2])) (fun t k => st2 _ (xgoto X2 hx hby rfl 8 13 rfl at_8 (by decide) (by decide) (xastore X2 hx hby rfl at_13 rfl rfl (l' := #[iv p0, iv p1, iv p2, iv p3, iv p4, rv sa2, .unset, .unset, .unset, .unset, .unset, .unset, .unset]) rfl (xaload X2 hx hby rfl at_15 rfl rfl k)))) ?_
    clear E2 la2 lb2 CRl2 st2
    refine own_cv X2 hx hZ hown hml e2 (wd hw 8 rfl) (wd hw 9 rfl) (wd hw 11 rfl) (wd hw 10 rfl) (wd hw 1 rfl) (wd hw 12 rfl) Ea2 (own_rmLen l Z a0 hw [] sa2 sb2 kb2 (10 : Int32) [.int 115, .int 101, .int 113, .int 117, .int 101, .int 110, .int 116, .int 105, .int 97, .int 108] cs h2 n0 (Nat.le_trans Z0 K2.1) Ea2 Fc2 Fv2 Va2 (own_staKeep0 S_cs K2) hcs) own_pd9 (hb hby at_17) 0 [] rfl rfl ⟨rfl, rfl, rfl, rfl, rfl⟩ (by decide) ?_
    rintro T3 L3 v3 X3 hQ3
    obtain ⟨rfl, N3q, e3⟩ := hQ3
    have N3 := Fr.app N0 N3q
    refine own_go (b := T3.setTop (mkF m 28 #[iv p0, iv p1, iv p2, iv p3, iv p4, rv sa2, iv 10, .unset, .unset, .unset, .unset, .unset, .unset] [(.int ((p2 &&& (255 : Int32)).toUInt32.toUInt16.toUInt32.toInt32))])) (fun t k => xistore X3 hx hby rfl at_20 rfl (l' := #[iv p0, iv p1, iv p2, iv p3, iv p4, rv sa2, iv 10, .unset, .unset, .unset, .unset, .unset, .unset]) rfl (xiloadN X3 hx hby rfl at_22 rfl (xsipush X3 hx hby rfl at_23 (xiand X3 hx hby rfl at_26 rfl (XS.i2c X3.here hx rfl (hb hby at_27) rfl k))))) ?_
    clear X2 e2 N3q
    have hvc := own_c255 p2
    generalize ((p2 &&& (255 : Int32)).toUInt32.toUInt16.toUInt32.toInt32) = vc at hvc ⊢
    refine own_go (b := T3.setTop (mkF m 34 #[iv p0, iv p1, iv p2, iv p3, iv p4, rv sa2, iv 10, iv vc, .unset, .unset, .unset, .unset, .unset] [(.int (p4 &&& (2 : Int32)))])) (fun t k => xistore X3 hx hby rfl at_28 rfl (l' := #[iv p0, iv p1, iv p2, iv p3, iv p4, rv sa2, iv 10, iv vc, .unset, .unset, .unset, .unset, .unset]) rfl (xiload X3 hx hby rfl at_30 rfl (xiconst X3 hx hby rfl at_32 (xiand X3 hx hby rfl at_33 rfl k)))) ?_
    refine own_go (b := T3.setTop (mkF m 42 #[iv p0, iv p1, iv p2, iv p3, iv p4, rv sa2, iv 10, iv vc, .unset, .unset, .unset, .unset, .unset] [(.int (if (p4 &&& (2 : Int32)) = (0 : Int32) then (0 : Int32) else (1 : Int32)))])) (fun t k => ?_) ?_
    · by_cases hc34_4 : (p4 &&& (2 : Int32)) = (0 : Int32)
      · rw [if_pos hc34_4] at k
        refine xifYes X3 hx hby rfl 34 41 rfl at_34 rfl ((if0 _ _).trans (teq hc34_4).1) (by decide) (by decide) (xiconst X3 hx hby rfl at_41 k)
      · rw [if_neg hc34_4] at k
        refine xifNo X3 hx hby rfl at_34 rfl ((if0 _ _).trans (feq hc34_4).1) (xiconst X3 hx hby rfl at_37 (xgoto X3 hx hby rfl 38 42 rfl at_38 (by decide) (by decide) k))
    obtain ⟨T5, h5, k5, X5, e5, E5, A5, st5⟩ := newP X3 hx hZ (wd hw 21 rfl) e3 (g := (mkF m 46 #[iv p0, iv p1, iv p2, iv p3, iv p4, rv sa2, iv 10, iv vc, iv (if (p4 &&& (2 : Int32)) = (0 : Int32) then (0 : Int32) else (1 : Int32)), .unset, .unset, .unset, .unset] [.int 12])) rfl (hb hby at_46) rfl (by decide) (cap := 12) (by decide) (by decide) (by decide) (by decide)
    obtain ⟨b5, g5⟩ : ∃ z, z = h2.size := ⟨_, rfl⟩
    rw [← g5] at A5 st5
    have new_b5 : n0 ≤ b5 := Nat.le_trans (Nat.le_trans Z0 K2.1) (Nat.le_of_eq g5.symm)
    have sz_b5 : h0.size ≤ b5 := Nat.le_trans K2.1 (Nat.le_of_eq g5.symm)
    have E_sa2_5 := Ea2.ext E5
    have F_sa2_coder_5 := Fc2.ext E5
    have F_sa2_value_5 := Fv2.ext E5
    have V_sb2_5 := Va2.ext E5
    have hk5 := Nat.le_trans hk2_ E5.1
    have CR5 := CR2.trans (CHr.ext E5 CR2.1)
    have K5 := K2.ext E5
    have V_b5 : Arv Z h5 b5 k5 .char (12 : Int32) [.int 0, .int 0, .int 0, .int 0, .int 0, .int 0, .int 0, .int 0, .int 0, .int 0, .int 0, .int 0] (.int 0) := (Arv.new A5 (by decide)).pad (pad_rep [] (.int 0) 12)
    refine own_go (b := T5.setTop (mkF m 50 #[iv p0, iv p1, iv p2, iv p3, iv p4, rv sa2, iv 10, iv vc, iv (if (p4 &&& (2 : Int32)) = (0 : Int32) then (0 : Int32) else (1 : Int32)), rv b5, .unset, .unset, .unset] [])) (fun t k => xistore X3 hx hby rfl at_42 rfl (l' := #[iv p0, iv p1, iv p2, iv p3, iv p4, rv sa2, iv 10, iv vc, iv (if (p4 &&& (2 : Int32)) = (0 : Int32) then (0 : Int32) else (1 : Int32)), .unset, .unset, .unset, .unset]) rfl (xbipush X3 hx hby rfl at_44 (st5 _ (xastore X5 hx hby rfl at_48 rfl rfl (l' := #[iv p0, iv p1, iv p2, iv p3, iv p4, rv sa2, iv 10, iv vc, iv (if (p4 &&& (2 : Int32)) = (0 : Int32) then (0 : Int32) else (1 : Int32)), rv b5, .unset, .unset, .unset]) rfl k)))) ?_
    clear hk2_ Fc2 Fv2 K2 CR2 X3 e3 E5 A5 st5
    exact own_tB hw Bd hx hby hml hown hZ X5 e5 N3 Z0 K5 hS2 hk5 CR5 S_A V_A E_A S_cs E_m0 F_o0 E_s0 F_cs0 F_vs0 V_v0 E_m1 F_o1 E_s1 F_cs1 F_vs1 V_v1 S_S S_R S_f E_sa2_5 F_sa2_coder_5 F_sa2_value_5 V_sb2_5 V_b5 (nl V_A.lt sz_b5) (nl E_m0.lt sz_b5) (nl E_m1.lt sz_b5) (nl E_s0.lt sz_b5) (nl E_s1.lt sz_b5) (nl Ea2.lt (Nat.le_of_eq g5.symm)) (nl Va2.lt (Nat.le_of_eq g5.symm)) (nl V_v0.lt sz_b5) (nl V_v1.lt sz_b5) new_b5 sz_b5 hcs hfv hvc (by decide)
  · refine own_go (b := s₁.setTop (mkF m 11 #[iv p0, iv p1, iv p2, iv p3, iv p4, .unset, .unset, .unset, .unset, .unset, .unset, .unset, .unset] [])) (fun t k => xifYes X0 hx hby rfl 3 11 rfl at_3 rfl ((if0 _ _).trans (feq hc3_1).2) (by decide) (by decide) k) ?_
    obtain ⟨sa140, T140, h140, kk140, sb140, kb140, X140, e140, E140, hS140, hk140_, hZ, hown, Ea140, Fc140, Fv140, Va140, la140, lb140, CRl140, hL140, hne140, st140⟩ := ldcCH (s := s) (show Stand p l e room_1 (s.setVm s.vm) m _ below meth c _ _ _ _ from X0) hx hZ hown (wd hw 82 rfl) (own_atoms hw) e0 ((State.WarmedH.refl s).since 0) (Nat.zero_le _) (own_EW hw) (List.mem_of_getElem? (i := 1) rfl) (CHr.refl hCH0).1 (vs := [.int 114, .int 101, .int 102, .int 101, .int 114, .int 101, .int 110, .int 99, .int 101]) (z := (9 : Int32)) (by decide +kernel) (by decide) (by decide +kernel) (g := (mkF m 11 #[iv p0, iv p1, iv p2, iv p3, iv p4, .unset, .unset, .unset, .unset, .unset, .unset, .unset, .unset] [])) rfl (hb hby at_11) (n := 36) (by decide +kernel) (by decide) (by decide) (by decide)
    have K140 := (Keep.refl h0 []).ext E140
    have CR140 := (CHr.refl hCH0).trans CRl140
    refine own_go (b := T140.setTop (mkF m 17 #[iv p0, iv p1, iv p2, iv p3, iv p4, rv sa140, .unset, .unset, .unset, .unset, .unset, .unset, .unset] [.ref sa140])) (fun t k => st140 _ (xastore X140 hx hby rfl at_13 rfl rfl (l' := #[iv p0, iv p1, iv p2, iv p3, iv p4, rv sa140, .unset, .unset, .unset, .unset, .unset, .unset, .unset]) rfl (xaload X140 hx hby rfl at_15 rfl rfl k))) ?_
    clear E140 la140 lb140 CRl140 st140
    refine own_cv X140 hx hZ hown hml e140 (wd hw 8 rfl) (wd hw 9 rfl) (wd hw 11 rfl) (wd hw 10 rfl) (wd hw 1 rfl) (wd hw 12 rfl) Ea140 (own_rmLen l Z a0 hw [] sa140 sb140 kb140 (9 : Int32) [.int 114, .int 101, .int 102, .int 101, .int 114, .int 101, .int 110, .int 99, .int 101] cs h140 n0 (Nat.le_trans Z0 K140.1) Ea140 Fc140 Fv140 Va140 (own_staKeep0 S_cs K140) hcs) own_pd9 (hb hby at_17) 0 [] rfl rfl ⟨rfl, rfl, rfl, rfl, rfl⟩ (by decide) ?_
    rintro T141 L141 v141 X141 hQ141
    obtain ⟨rfl, N141q, e141⟩ := hQ141
    have N141 := Fr.app N0 N141q
    refine own_go (b := T141.setTop (mkF m 28 #[iv p0, iv p1, iv p2, iv p3, iv p4, rv sa140, iv 9, .unset, .unset, .unset, .unset, .unset, .unset] [(.int ((p2 &&& (255 : Int32)).toUInt32.toUInt16.toUInt32.toInt32))])) (fun t k => xistore X141 hx hby rfl at_20 rfl (l' := #[iv p0, iv p1, iv p2, iv p3, iv p4, rv sa140, iv 9, .unset, .unset, .unset, .unset, .unset, .unset]) rfl (xiloadN X141 hx hby rfl at_22 rfl (xsipush X141 hx hby rfl at_23 (xiand X141 hx hby rfl at_26 rfl (XS.i2c X141.here hx rfl (hb hby at_27) rfl k))))) ?_
    clear X140 e140 N141q
    have hvc := own_c255 p2
    generalize ((p2 &&& (255 : Int32)).toUInt32.toUInt16.toUInt32.toInt32) = vc at hvc ⊢
    refine own_go (b := T141.setTop (mkF m 34 #[iv p0, iv p1, iv p2, iv p3, iv p4, rv sa140, iv 9, iv vc, .unset, .unset, .unset, .unset, .unset] [(.int (p4 &&& (2 : Int32)))])) (fun t k => xistore X141 hx hby rfl at_28 rfl (l' := #[iv p0, iv p1, iv p2, iv p3, iv p4, rv sa140, iv 9, iv vc, .unset, .unset, .unset, .unset, .unset]) rfl (xiload X141 hx hby rfl at_30 rfl (xiconst X141 hx hby rfl at_32 (xiand X141 hx hby rfl at_33 rfl k)))) ?_
    refine own_go (b := T141.setTop (mkF m 42 #[iv p0, iv p1, iv p2, iv p3, iv p4, rv sa140, iv 9, iv vc, .unset, .unset, .unset, .unset, .unset] [(.int (if (p4 &&& (2 : Int32)) = (0 : Int32) then (0 : Int32) else (1 : Int32)))])) (fun t k => ?_) ?_
    · by_cases hc34_142 : (p4 &&& (2 : Int32)) = (0 : Int32)
      · rw [if_pos hc34_142] at k
        refine xifYes X141 hx hby rfl 34 41 rfl at_34 rfl ((if0 _ _).trans (teq hc34_142).1) (by decide) (by decide) (xiconst X141 hx hby rfl at_41 k)
      · rw [if_neg hc34_142] at k
        refine xifNo X141 hx hby rfl at_34 rfl ((if0 _ _).trans (feq hc34_142).1) (xiconst X141 hx hby rfl at_37 (xgoto X141 hx hby rfl 38 42 rfl at_38 (by decide) (by decide) k))
    obtain ⟨T143, h143, k143, X143, e143, E143, A143, st143⟩ := newP X141 hx hZ (wd hw 21 rfl) e141 (g := (mkF m 46 #[iv p0, iv p1, iv p2, iv p3, iv p4, rv sa140, iv 9, iv vc, iv (if (p4 &&& (2 : Int32)) = (0 : Int32) then (0 : Int32) else (1 : Int32)), .unset, .unset, .unset, .unset] [.int 12])) rfl (hb hby at_46) rfl (by decide) (cap := 12) (by decide) (by decide) (by decide) (by decide)
    obtain ⟨b143, g143⟩ : ∃ z, z = h140.size := ⟨_, rfl⟩
    rw [← g143] at A143 st143
    have new_b143 : n0 ≤ b143 := Nat.le_trans (Nat.le_trans Z0 K140.1) (Nat.le_of_eq g143.symm)
    have sz_b143 : h0.size ≤ b143 := Nat.le_trans K140.1 (Nat.le_of_eq g143.symm)
    have E_sa140_143 := Ea140.ext E143
    have F_sa140_coder_143 := Fc140.ext E143
    have F_sa140_value_143 := Fv140.ext E143
    have V_sb140_143 := Va140.ext E143
    have hk143 := Nat.le_trans hk140_ E143.1
    have CR143 := CR140.trans (CHr.ext E143 CR140.1)
    have K143 := K140.ext E143
    have V_b143 : Arv Z h143 b143 k143 .char (12 : Int32) [.int 0, .int 0, .int 0, .int 0, .int 0, .int 0, .int 0, .int 0, .int 0, .int 0, .int 0, .int 0] (.int 0) := (Arv.new A143 (by decide)).pad (pad_rep [] (.int 0) 12)
    refine own_go (b := T143.setTop (mkF m 50 #[iv p0, iv p1, iv p2, iv p3, iv p4, rv sa140, iv 9, iv vc, iv (if (p4 &&& (2 : Int32)) = (0 : Int32) then (0 : Int32) else (1 : Int32)), rv b143, .unset, .unset, .unset] [])) (fun t k => xistore X141 hx hby rfl at_42 rfl (l' := #[iv p0, iv p1, iv p2, iv p3, iv p4, rv sa140, iv 9, iv vc, iv (if (p4 &&& (2 : Int32)) = (0 : Int32) then (0 : Int32) else (1 : Int32)), .unset, .unset, .unset, .unset]) rfl (xbipush X141 hx hby rfl at_44 (st143 _ (xastore X143 hx hby rfl at_48 rfl rfl (l' := #[iv p0, iv p1, iv p2, iv p3, iv p4, rv sa140, iv 9, iv vc, iv (if (p4 &&& (2 : Int32)) = (0 : Int32) then (0 : Int32) else (1 : Int32)), rv b143, .unset, .unset, .unset]) rfl k)))) ?_
    clear hk140_ Fc140 Fv140 K140 CR140 X141 e141 E143 A143 st143
    exact own_tB hw Bd hx hby hml hown hZ (X143.more (Nat.le_refl _) (by decide : 52 ≤ 56)) e143 N141 Z0 K143 hS140 hk143 CR143 S_A V_A E_A S_cs E_m0 F_o0 E_s0 F_cs0 F_vs0 V_v0 E_m1 F_o1 E_s1 F_cs1 F_vs1 V_v1 S_S S_R S_f E_sa140_143 F_sa140_coder_143 F_sa140_value_143 V_sb140_143 V_b143 (nl V_A.lt sz_b143) (nl E_m0.lt sz_b143) (nl E_m1.lt sz_b143) (nl E_s0.lt sz_b143) (nl E_s1.lt sz_b143) (nl Ea140.lt (Nat.le_of_eq g143.symm)) (nl Va140.lt (Nat.le_of_eq g143.symm)) (nl V_v0.lt sz_b143) (nl V_v1.lt sz_b143) new_b143 sz_b143 hcs hfv hvc (by decide)
set_option maxRecDepth 65536 in
set_option maxHeartbeats 40000000 in
theorem comes_1 {Post : Tables → Env → Array Value → State → Outcome → State → Prop} (hpost : ∀ tb e args s v u, (limb_1_1.after args s (.returned v) u = true ∧ limb_1_2.after args s (.returned v) u = true ∧ True) → ReturnedEndW s (.returned v) u (Jvm.fieldLocs frame_1_writes args s ++ Jvm.arrayLocs frame_1_arrays args s ++ Jvm.staticLocs frame_1_statics s) 24 3264 → Post tb e args s (.returned v) u) :
    ArmFor flags0 classFile x code maxLocals ret World_1 tables_1 room_1 Calls_1 rest_1 Pre_1 Post := by
  intro l hfl _ _ p e ha hc hk s m args below hf hA hF happ hP
  obtain ⟨hcalls, hrest, hpre⟩ := hP
  obtain ⟨-, -, -, hnamed, -, -, -, hat⟩ := (Spec.applies_iff hf).mp happ
  obtain ⟨hg, hn⟩ := and_e (Cond.before_iff.mp (show (Jvm.Cond.and given_1 narrow_1).before args s = true from hpre))
  obtain ⟨gc0, gr0⟩ := and_e hg
  obtain ⟨gc1, gr1⟩ := and_e gr0
  obtain ⟨gc2, gr2⟩ := and_e gr1
  obtain ⟨gc3, gr3⟩ := and_e gr2
  obtain ⟨gc4, gr4⟩ := and_e gr3
  obtain ⟨w0, w1, w2, w3, w4, rfl⟩ : ∃ w0 w1 w2 w3 w4 : Value, args = #[w0, w1, w2, w3, w4] := by
    have hs : args.size = 5 := by simpa [Cond.value, given_1] using gc0
    obtain ⟨L⟩ := args
    match L, hs with
    | [w0, w1, w2, w3, w4], _ => exact ⟨w0, w1, w2, w3, w4, rfl⟩
  have hw := fun d (hd : d ∈ tables_1) => atoms_spec (ws := Jvm.Cond.code x code maxLocals ret :: tables_1) hat d (List.mem_cons_of_mem _ hd)
  obtain ⟨i0, ei0⟩ := is_v gc1
  obtain rfl : w0 = (.int i0) := Option.some.inj ei0
  obtain ⟨i1, ei1⟩ := is_v gc2
  obtain rfl : w1 = (.int i1) := Option.some.inj ei1
  obtain ⟨i2, ei2⟩ := is_v gc3
  obtain rfl : w2 = (.int i2) := Option.some.inj ei2
  obtain ⟨i3, ei3⟩ := is_v gc4
  obtain rfl : w3 = (.int i3) := Option.some.inj ei3
  obtain ⟨i4, ei4⟩ := is_v gr4
  obtain rfl : w4 = (.int i4) := Option.some.inj ei4
  have hfit : Fit s := fun {y c} hc i hi => by
    obtain ⟨ha, rfl⟩ := Array.getElem?_eq_some_iff.mp hc
    have q := List.all_eq_true.mp ((Array.all_eq_true_iff_forall_mem.mp hF) _ (Array.getElem_mem ha)) i (List.mem_range.mpr hi)
    simpa [Array.getElem?_eq_getElem hi] using q
  obtain ⟨na0, nb0⟩ := and_e hn
  obtain ⟨na1, nb1⟩ := and_e nb0
  obtain ⟨na2, nb2⟩ := and_e nb1
  obtain ⟨na3, nb3⟩ := and_e nb2
  obtain ⟨na4, nb4⟩ := and_e nb3
  obtain ⟨na5, nb5⟩ := and_e nb4
  obtain ⟨na6, nb6⟩ := and_e nb5
  obtain ⟨na7, nb7⟩ := and_e nb6
  obtain ⟨na8, nb8⟩ := and_e nb7
  obtain ⟨na9, nb9⟩ := and_e nb8
  obtain ⟨na10, nb10⟩ := and_e nb9
  obtain ⟨na11, nb11⟩ := and_e nb10
  obtain ⟨na12, nb12⟩ := and_e nb11
  obtain ⟨na13, nb13⟩ := and_e nb12
  obtain ⟨na14, nb14⟩ := and_e nb13
  obtain ⟨na15, nb15⟩ := and_e nb14
  obtain ⟨na16, nb16⟩ := and_e nb15
  obtain ⟨na17, nb17⟩ := and_e nb16
  obtain ⟨na18, nb18⟩ := and_e nb17
  obtain ⟨na19, nb19⟩ := and_e nb18
  obtain ⟨na20, nb20⟩ := and_e nb19
  obtain ⟨na21, nb21⟩ := and_e nb20
  obtain ⟨na22, nb22⟩ := and_e nb21
  obtain ⟨na23, nb23⟩ := and_e nb22
  obtain ⟨na24, nb24⟩ := and_e nb23
  obtain ⟨na25, nb25⟩ := and_e nb24
  obtain ⟨na26, nb26⟩ := and_e nb25
  obtain ⟨na27, nb27⟩ := and_e nb26
  obtain ⟨na28, nb28⟩ := and_e nb27
  obtain ⟨na29, nb29⟩ := and_e nb28
  obtain ⟨na30, nb30⟩ := and_e nb29
  obtain ⟨na31, nb31⟩ := and_e nb30
  obtain ⟨na32, nb32⟩ := and_e nb31
  obtain ⟨bA, evA⟩ := arr_v na0
  obtain ⟨cA, A_A⟩ := Arr.start evA na0
  have E_A := Exa.start evA na1
  have S_A := Sta.start evA (Or.inr ⟨(wd hw 85 rfl), (wd hw 91 rfl)⟩)
  obtain ⟨qsA, qlA⟩ := own_len evA A_A na2
  obtain ⟨m0, evm0⟩ := exa_v na3
  have E_m0 := Exa.start evm0 na3
  obtain ⟨s0, evs0⟩ := exa_v na5
  have E_s0 := Exa.start evs0 na5
  have F_o0 := Fld.start ((fld_at evm0).symm.trans evs0)
  have F_cs0 := Fld.start ((fld_at evs0).symm.trans (eqv_i (Term.int_eval 0) na6))
  obtain ⟨v0, evv0⟩ := arr_v na7
  obtain ⟨cv0, A_v0⟩ := Arr.start evv0 na7
  have F_vs0 := Fld.start ((fld_at evs0).symm.trans evv0)
  obtain ⟨qsv0, qlv0⟩ := own_len evv0 A_v0 na8
  have V_v0 : Arv s s.heap v0 cv0.cls .byte (10 : Int32) [.int 115, .int 101, .int 113, .int 117, .int 101, .int 110, .int 116, .int 105, .int 97, .int 108] (.int 0) := Arv.start hfit A_v0 qsv0 qlv0 (by decide) rfl ⟨own_elem (u := .null) (j := (0 : Int32)) evv0 A_v0 (by decide) (eqv_i (Term.int_eval 115) na15), own_elem (u := .null) (j := (1 : Int32)) evv0 A_v0 (by decide) (eqv_i (Term.int_eval 101) na16), own_elem (u := .null) (j := (2 : Int32)) evv0 A_v0 (by decide) (eqv_i (Term.int_eval 113) na17), own_elem (u := .null) (j := (3 : Int32)) evv0 A_v0 (by decide) (eqv_i (Term.int_eval 117) na18), own_elem (u := .null) (j := (4 : Int32)) evv0 A_v0 (by decide) (eqv_i (Term.int_eval 101) na19), own_elem (u := .null) (j := (5 : Int32)) evv0 A_v0 (by decide) (eqv_i (Term.int_eval 110) na20), own_elem (u := .null) (j := (6 : Int32)) evv0 A_v0 (by decide) (eqv_i (Term.int_eval 116) na21), own_elem (u := .null) (j := (7 : Int32)) evv0 A_v0 (by decide) (eqv_i (Term.int_eval 105) na22), own_elem (u := .null) (j := (8 : Int32)) evv0 A_v0 (by decide) (eqv_i (Term.int_eval 97) na23), own_elem (u := .null) (j := (9 : Int32)) evv0 A_v0 (by decide) (eqv_i (Term.int_eval 108) na24), trivial⟩
  obtain ⟨m1, evm1⟩ := exa_v na4
  have E_m1 := Exa.start evm1 na4
  obtain ⟨s1, evs1⟩ := exa_v na9
  have E_s1 := Exa.start evs1 na9
  have F_o1 := Fld.start ((fld_at evm1).symm.trans evs1)
  have F_cs1 := Fld.start ((fld_at evs1).symm.trans (eqv_i (Term.int_eval 0) na10))
  obtain ⟨v1, evv1⟩ := arr_v na11
  obtain ⟨cv1, A_v1⟩ := Arr.start evv1 na11
  have F_vs1 := Fld.start ((fld_at evs1).symm.trans evv1)
  obtain ⟨qsv1, qlv1⟩ := own_len evv1 A_v1 na12
  have V_v1 : Arv s s.heap v1 cv1.cls .byte (9 : Int32) [.int 114, .int 101, .int 102, .int 101, .int 114, .int 101, .int 110, .int 99, .int 101] (.int 0) := Arv.start hfit A_v1 qsv1 qlv1 (by decide) rfl ⟨own_elem (u := .null) (j := (0 : Int32)) evv1 A_v1 (by decide) (eqv_i (Term.int_eval 114) na25), own_elem (u := .null) (j := (1 : Int32)) evv1 A_v1 (by decide) (eqv_i (Term.int_eval 101) na26), own_elem (u := .null) (j := (2 : Int32)) evv1 A_v1 (by decide) (eqv_i (Term.int_eval 102) na27), own_elem (u := .null) (j := (3 : Int32)) evv1 A_v1 (by decide) (eqv_i (Term.int_eval 101) na28), own_elem (u := .null) (j := (4 : Int32)) evv1 A_v1 (by decide) (eqv_i (Term.int_eval 114) na29), own_elem (u := .null) (j := (5 : Int32)) evv1 A_v1 (by decide) (eqv_i (Term.int_eval 101) na30), own_elem (u := .null) (j := (6 : Int32)) evv1 A_v1 (by decide) (eqv_i (Term.int_eval 110) na31), own_elem (u := .null) (j := (7 : Int32)) evv1 A_v1 (by decide) (eqv_i (Term.int_eval 99) na32), own_elem (u := .null) (j := (8 : Int32)) evv1 A_v1 (by decide) (eqv_i (Term.int_eval 101) nb32), trivial⟩
  have V_A : Arv s s.heap bA cA.cls (.object "com/example/corollary/corollary/EstimateMethod") (2 : Int32) [.ref m0, .ref m1] .null := Arv.start hfit A_A qsA qlA (by decide) rfl ⟨own_elem (u := .null) (j := (0 : Int32)) evA A_A (by decide) evm0, own_elem (u := .null) (j := (1 : Int32)) evA A_A (by decide) evm1, trivial⟩
  have evS := own_refs evm0 na14
  have S_S := Sta.start evS (Or.inr ⟨(wd hw 85 rfl), (wd hw 110 rfl)⟩)
  have evR := own_refs evm1 na13
  have S_R := Sta.start evR (Or.inr ⟨(wd hw 85 rfl), (wd hw 108 rfl)⟩)
  obtain ⟨hsets, hown0⟩ := atoms_of _ (rest_1_c_eq ▸ (show rest_1_c.before _ s = true from hrest))
  have j1 := Cond.before_iff.mp (hsets _ (List.mem_of_getElem? (i := 1) rfl))
  have j2 := Cond.before_iff.mp (hsets _ (List.mem_of_getElem? (i := 2) rfl))
  obtain ⟨cs, evcs⟩ := is_v j1
  have S_cs := Sta.start evcs (Or.inl (hsets _ (List.mem_of_getElem? (i := 0) rfl)))
  have hcs : ¬ cs = (0 : Int32) := gotF (Cond.eq_ints evcs (Term.int_eval 0)) (not_v j2)
  obtain ⟨fv, evf, hfv⟩ := Cond.isRef_spec (hsets _ (List.mem_of_getElem? (i := 8) rfl))
  have S_f := Sta.start evf (Or.inl (hsets _ (List.mem_of_getElem? (i := 7) rfl)))
  have hC : Jvm.Lit.constsHeld consts_1 s := hcalls.1
  have hCH : CHv s own_EL s.vm s.heap := CHv.start (own_EW hw) (fun q hq => hC q hq) (hsets _ (List.mem_of_getElem? (i := 2) rfl)) (wd hw 3 rfl) (wd hw 2 rfl)
  obtain ⟨n, o, h1, h2, h3, _, L, rfl, ⟨rfl, N⟩, hq⟩ := own_rm0 l s _ hw tables_1 i0 i1 i2 i3 i4 bA m0 m1 s0 s1 v0 v1 cA.cls cv0.cls cv1.cls cs fv s.heap s.heap.size (Nat.le_refl _) S_A V_A E_A E_m0 F_o0 E_s0 F_cs0 F_vs0 V_v0 E_m1 F_o1 E_s1 F_cs1 F_vs1 V_v1 S_cs hcs S_S S_R S_f hfv hCH p e ha hc hk s m _ below hf ((Spec.applies_iff_loose hf).mp happ).1 ⟨rfl, rfl, rfl⟩ trivial
  refine ⟨n, _, h1, h2, h3, hpost _ _ _ _ _ _ ⟨Cond.after_iff.mpr rfl, Cond.after_iff.mpr (eq_i res_at (Term.int_eval (1)) rfl), trivial⟩ ⟨hq.1, hq.2.1, hq.2.2.1, (hq.2.2.2.sift fun y hy => Or.inr (N y hy)).mono (by decide) (by decide)⟩⟩
theorem main_1_1 : Claimed_1_1 := comes_1 fun _ _ _ _ _ _ h hF => ⟨h.1, hF⟩
theorem main_1_2 : Claimed_1_2 := comes_1 fun _ _ _ _ _ _ h hF => ⟨h.2.1, hF⟩
end Jvm.Pilot.@@N@@
namespace Jvm.Pilot.@@N@@
open Jvm Jvm.ClassFile Sem Op Lib Jvm.Free Jvm.Stand Jvm.Pilot.@@N@@.Jvm.D
/-! MADE BY PROGRAM (witnessworld.py) out of the Statement's table words and the real class files: 24 classes; the members and pool entries that the words name. The judged class is class 1, her method 1. -/
namespace start1
open Jvm.ClassFile
def u (s : String) : CpInfo := .utf8 (stringToUtf16 s)
/-- a pool by its gaps: so many unusable entries, then the entry; so many at the end -/
def gap : Nat → List CpInfo → List CpInfo
  | 0, r => r
  | n + 1, r => .unusable :: gap n r
def poolList (es : List (Nat × CpInfo)) (last : Nat) : List CpInfo := es.foldr (fun e r => gap e.1 (e.2 :: r)) (gap last [])
def pool (es : List (Nat × CpInfo)) (last : Nat) : Array CpInfo := ⟨poolList es last⟩
def fileOf (pool : Array CpInfo) (this : Nat) (attrs : Array Attribute := #[]) (ms : Array MethodInfo := #[]) (fl : Nat := 33) (sup : Nat := 0) (ifs : Array Nat := #[]) (fds : Array FieldInfo := #[]) : ClassFile where
  minorVersion := 0
  majorVersion := 65
  constantPool := pool
  accessFlags := fl
  thisClass := this
  superClass := sup
  interfaces := ifs
  fields := fds
  methods := ms
  attributes := attrs
def plain (name : String) (sup : Option ClassId) : Class where
  name := name
  kind := .ordinary
  loader := none
  accessFlags := 33
  super := sup
  interfaces := #[]
  cf := none
  fields := #[]
  methods := #[]
  instanceTypes := #[]
  staticTypes := #[]
  resolved := #[]
  callSites := []
  init := .initialized
  statics := none
  mirror := none

def pool0 : Array CpInfo := pool [(5, u "<init>"), (0, u "()V"), (1, .class_ 10), (1, u "java/lang/Object"), (85, u "clone"), (0, u "()Ljava/lang/Object;")] 26

def k0c0 : Code := { maxStack := 0, maxLocals := 1, code := object_method_1_code, exceptionTable := #[], attributes := #[] }
def k0m0 : Method := { name := "<init>", desc := "()V", sig := { parameters := [], returnType := none }, accessFlags := 1, code := some k0c0 }
def k0m1 : Method := { name := "clone", desc := "()Ljava/lang/Object;", sig := { parameters := [], returnType := some (.object "java/lang/Object") }, accessFlags := 260, code := none }
/-- java/lang/Object -/
def k0 : Class := { plain "java/lang/Object" none with
  accessFlags := 33
  interfaces := #[]
  cf := some (fileOf pool0 8 #[] #[{ accessFlags := 1, nameIndex := 5, descriptorIndex := 6, attributes := #[] }, { accessFlags := 260, nameIndex := 96, descriptorIndex := 97, attributes := #[] }] 33 0 #[] #[])
  fields := #[]
  methods := #[k0m0, k0m1]
  instanceTypes := #[]
  staticTypes := #[]
  resolved := Array.replicate 124 none
  statics := none }

def pool1 : Array CpInfo := pool [(2, .class_ 4), (1, u "java/lang/Object"), (0, u "<init>"), (0, u "()V"), (0, .string 8), (0, u "sequential"), (0, .string 10), (0, u "reference"), (0, .methodref 12 13), (0, .class_ 14), (0, .nameAndType 15 16), (0, u "java/lang/String"), (0, u "length"), (0, u "()I"), (0, .methodref 18 19), (0, .class_ 20), (0, .nameAndType 21 22), (0, u "com/example/corollary/corollary/EstimateMethodNamedPinLaw"), (0, u "at"), (0, u "(Ljava/lang/String;ICZ)C"), (0, .integer 2147483647), (0, .methodref 18 25), (0, .nameAndType 26 27), (0, u "take"), (0, u "([CI)Ljava/lang/String;"), (0, .methodref 12 29), (0, .nameAndType 30 31), (0, u "equals"), (0, u "(Ljava/lang/Object;)Z"), (0, .fieldref 33 34), (0, .class_ 35), (0, .nameAndType 36 37), (0, u "com/example/corollary/corollary/EstimateMethod"), (0, u "SEQUENTIAL"), (0, u "Lcom/example/corollary/corollary/EstimateMethod;"), (0, .fieldref 33 39), (0, .nameAndType 40 37), (0, u "REFERENCE"), (0, .methodref 33 42), (0, .nameAndType 43 44), (0, u "named"), (0, u "(Ljava/lang/String;)Lcom/example/corollary/corollary/EstimateMethod;"), (0, .methodref 12 46), (0, .nameAndType 47 48), (0, u "charAt"), (0, u "(I)C"), (0, .methodref 12 50), (0, .nameAndType 5 51), (0, u "([C)V"), (2, u "law"), (0, u "(IIIII)Z")] 5

def k1m0 : Method := { name := "<init>", desc := "()V", sig := { parameters := [], returnType := none }, accessFlags := 1, code := none }
def k1c1 : Code := { maxStack := 6, maxLocals := 13, code := code, exceptionTable := #[], attributes := #[] }
def k1m1 : Method := { name := "law", desc := "(IIIII)Z", sig := { parameters := [.int, .int, .int, .int, .int], returnType := some .boolean }, accessFlags := 9, code := some k1c1 }
def k1c2 : Code := { maxStack := 2, maxLocals := 5, code := method_3_code, exceptionTable := #[], attributes := #[] }
def k1m2 : Method := { name := "at", desc := "(Ljava/lang/String;ICZ)C", sig := { parameters := [(.object "java/lang/String"), .int, .char, .boolean], returnType := some .char }, accessFlags := 10, code := some k1c2 }
def k1c3 : Code := { maxStack := 7, maxLocals := 2, code := method_4_code, exceptionTable := #[], attributes := #[] }
def k1m3 : Method := { name := "take", desc := "([CI)Ljava/lang/String;", sig := { parameters := [(.array .char), .int], returnType := some (.object "java/lang/String") }, accessFlags := 10, code := some k1c3 }
/-- com/example/corollary/corollary/EstimateMethodNamedPinLaw -/
def k1 : Class := { plain "com/example/corollary/corollary/EstimateMethodNamedPinLaw" (some 0) with
  accessFlags := 49
  interfaces := #[]
  cf := some (fileOf pool1 18 #[] #[{ accessFlags := 1, nameIndex := 5, descriptorIndex := 6, attributes := #[] }, { accessFlags := 9, nameIndex := 54, descriptorIndex := 55, attributes := #[] }, { accessFlags := 10, nameIndex := 21, descriptorIndex := 22, attributes := #[] }, { accessFlags := 10, nameIndex := 26, descriptorIndex := 27, attributes := #[] }] 49 2 #[] #[])
  fields := #[]
  methods := #[k1m0, k1m1, k1m2, k1m3]
  instanceTypes := #[]
  staticTypes := #[]
  resolved := Array.replicate 61 none
  statics := none }

def pool2 : Array CpInfo := pool [(1, .class_ 2), (0, u "java/io/Serializable"), (0, .class_ 4), (0, u "java/lang/Object")] 2

/-- java/io/Serializable -/
def k2 : Class := { plain "java/io/Serializable" (some 0) with
  accessFlags := 1537
  interfaces := #[]
  cf := some (fileOf pool2 1 #[] #[] 1537 3 #[] #[])
  fields := #[]
  methods := #[]
  instanceTypes := #[]
  staticTypes := #[]
  resolved := Array.replicate 7 none
  statics := none }

def pool3 : Array CpInfo := pool [(1, .class_ 2), (0, u "java/lang/Comparable"), (0, .class_ 4), (0, u "java/lang/Object")] 7

/-- java/lang/Comparable -/
def k3 : Class := { plain "java/lang/Comparable" (some 0) with
  accessFlags := 1537
  interfaces := #[]
  cf := some (fileOf pool3 1 #[] #[] 1537 3 #[] #[])
  fields := #[]
  methods := #[]
  instanceTypes := #[]
  staticTypes := #[]
  resolved := Array.replicate 12 none
  statics := none }

def pool4 : Array CpInfo := pool [(2, .class_ 4), (1, u "java/lang/CharSequence"), (42, .class_ 48), (0, u "java/lang/CharSequence$1CodePointIterator"), (10, .class_ 60), (0, u "java/lang/CharSequence$1CharIterator"), (5, .class_ 67), (0, u "java/lang/Object")] 63

/-- java/lang/CharSequence -/
def k4 : Class := { plain "java/lang/CharSequence" (some 0) with
  accessFlags := 1537
  interfaces := #[]
  cf := some (fileOf pool4 2 #[.nestMembers #[47, 59]] #[] 1537 66 #[] #[])
  fields := #[]
  methods := #[]
  instanceTypes := #[]
  staticTypes := #[]
  resolved := Array.replicate 131 none
  statics := none }

def pool5 : Array CpInfo := pool [(1, .class_ 2), (0, u "java/lang/constant/Constable"), (0, .class_ 4), (0, u "java/lang/Object")] 6

/-- java/lang/constant/Constable -/
def k5 : Class := { plain "java/lang/constant/Constable" (some 0) with
  accessFlags := 1537
  interfaces := #[]
  cf := some (fileOf pool5 1 #[] #[] 1537 3 #[] #[])
  fields := #[]
  methods := #[]
  instanceTypes := #[]
  staticTypes := #[]
  resolved := Array.replicate 11 none
  statics := none }

def pool6 : Array CpInfo := pool [(1, .class_ 2), (0, u "java/lang/constant/ConstantDesc"), (0, .class_ 4), (0, u "java/lang/Object")] 32

/-- java/lang/constant/ConstantDesc -/
def k6 : Class := { plain "java/lang/constant/ConstantDesc" (some 0) with
  accessFlags := 1537
  interfaces := #[]
  cf := some (fileOf pool6 1 #[] #[] 1537 3 #[] #[])
  fields := #[]
  methods := #[]
  instanceTypes := #[]
  staticTypes := #[]
  resolved := Array.replicate 37 none
  statics := none }

def pool7 : Array CpInfo := pool [(1, .methodref 2 3), (0, .class_ 4), (0, .nameAndType 5 6), (0, u "java/lang/Object"), (0, u "<init>"), (0, u "()V"), (0, .string 8), (0, u ""), (0, .fieldref 10 11), (0, .class_ 12), (0, .nameAndType 13 14), (0, u "java/lang/String"), (0, u "value"), (0, u "[B"), (0, .fieldref 10 16), (0, .nameAndType 17 18), (0, u "coder"), (0, u "B"), (2, u "hash"), (0, u "I"), (2, u "hashIsZero"), (0, u "Z"), (0, .methodref 10 28), (0, .nameAndType 5 29), (0, u "([CIILjava/lang/Void;)V"), (8, .fieldref 10 39), (0, .nameAndType 40 26), (0, u "COMPACT_STRINGS"), (1, .class_ 44), (1, u "java/lang/StringUTF16"), (0, u "compress"), (1, .methodref 42 48), (0, .nameAndType 49 50), (0, u "coderFromArrayLen"), (0, u "([BI)B"), (56, .class_ 109), (1, u "java/lang/StringLatin1"), (32, u "()Z"), (34, .methodref 42 178), (0, .nameAndType 45 179), (0, u "([CII)[B"), (154, u "()I"), (0, .methodref 10 336), (0, .nameAndType 17 337), (0, u "()B"), (25, u "([BI)C"), (27, u "(II)V"), (35, u "(I)C"), (64, .methodref 10 493), (0, .nameAndType 494 142), (0, u "isLatin1"), (0, .methodref 107 496), (0, .nameAndType 497 363), (0, u "charAt"), (3, u "checkIndex"), (5, u "length"), (33, .methodref 107 542), (0, .nameAndType 543 544), (0, u "equals"), (0, u "([B[B)Z"), (28, u "(Ljava/lang/Object;)Z"), (1, .class_ 576), (0, u "java/lang/CharSequence"), (22, u "CASE_INSENSITIVE_ORDER"), (0, u "Ljava/util/Comparator;"), (409, u "([C)V"), (42, .fieldref 1054 1055), (0, .class_ 1056), (0, .nameAndType 1057 1058), (0, u "jdk/internal/util/Preconditions"), (0, u "SIOOBE_FORMATTER"), (0, u "Ljava/util/function/BiFunction;"), (0, .methodref 1054 1060), (0, .nameAndType 501 1061), (0, u "(IILjava/util/function/BiFunction;)I"), (39, u "serialPersistentFields"), (0, u "[Ljava/io/ObjectStreamField;"), (0, .class_ 1104), (0, u "java/lang/String$CaseInsensitiveComparator"), (1, .class_ 1107), (0, u "java/io/Serializable"), (0, .class_ 1109), (0, u "java/lang/Comparable"), (0, .class_ 1111), (0, u "java/lang/constant/Constable"), (0, .class_ 1113), (0, u "java/lang/constant/ConstantDesc"), (2, u "serialVersionUID"), (0, u "J"), (3, u "REPL"), (0, u "C"), (2, u "LATIN1"), (1, u "UTF16")] 323

def k7m0 : Method := { name := "<init>", desc := "()V", sig := { parameters := [], returnType := none }, accessFlags := 1, code := none }
def k7c1 : Code := { maxStack := 5, maxLocals := 2, code := jdk_42_method_3_code, exceptionTable := #[], attributes := #[] }
def k7m1 : Method := { name := "<init>", desc := "([C)V", sig := { parameters := [(.array .char)], returnType := none }, accessFlags := 1, code := some k7c1 }
def k7c2 : Code := { maxStack := 2, maxLocals := 1, code := jdk_42_method_54_code, exceptionTable := #[], attributes := #[] }
def k7m2 : Method := { name := "length", desc := "()I", sig := { parameters := [], returnType := some .int }, accessFlags := 1, code := some k7c2 }
def k7c3 : Code := { maxStack := 2, maxLocals := 2, code := jdk_42_method_56_code, exceptionTable := #[], attributes := #[] }
def k7m3 : Method := { name := "charAt", desc := "(I)C", sig := { parameters := [.int], returnType := some .char }, accessFlags := 1, code := some k7c3 }
def k7c4 : Code := { maxStack := 2, maxLocals := 3, code := jdk_42_method_66_code, exceptionTable := #[], attributes := #[] }
def k7m4 : Method := { name := "equals", desc := "(Ljava/lang/Object;)Z", sig := { parameters := [(.object "java/lang/Object")], returnType := some .boolean }, accessFlags := 1, code := some k7c4 }
def k7c5 : Code := { maxStack := 4, maxLocals := 6, code := jdk_42_method_149_code, exceptionTable := #[], attributes := #[] }
def k7m5 : Method := { name := "<init>", desc := "([CIILjava/lang/Void;)V", sig := { parameters := [(.array .char), .int, .int, (.object "java/lang/Void")], returnType := none }, accessFlags := 2, code := some k7c5 }
def k7c6 : Code := { maxStack := 1, maxLocals := 1, code := jdk_42_method_152_code, exceptionTable := #[], attributes := #[] }
def k7m6 : Method := { name := "coder", desc := "()B", sig := { parameters := [], returnType := some .byte }, accessFlags := 0, code := some k7c6 }
def k7c7 : Code := { maxStack := 1, maxLocals := 1, code := jdk_42_method_154_code, exceptionTable := #[], attributes := #[] }
def k7m7 : Method := { name := "isLatin1", desc := "()Z", sig := { parameters := [], returnType := some .boolean }, accessFlags := 0, code := some k7c7 }
def k7c8 : Code := { maxStack := 3, maxLocals := 2, code := jdk_42_method_155_code, exceptionTable := #[], attributes := #[] }
def k7m8 : Method := { name := "checkIndex", desc := "(II)V", sig := { parameters := [.int, .int], returnType := none }, accessFlags := 8, code := some k7c8 }
/-- java/lang/String -/
def k7 : Class := { plain "java/lang/String" (some 0) with
  accessFlags := 49
  interfaces := #[2, 3, 4, 5, 6]
  cf := some (fileOf pool7 10 #[.nestMembers #[1103]] #[{ accessFlags := 1, nameIndex := 5, descriptorIndex := 6, attributes := #[] }, { accessFlags := 1, nameIndex := 5, descriptorIndex := 1010, attributes := #[] }, { accessFlags := 1, nameIndex := 507, descriptorIndex := 334, attributes := #[] }, { accessFlags := 1, nameIndex := 497, descriptorIndex := 427, attributes := #[] }, { accessFlags := 1, nameIndex := 543, descriptorIndex := 573, attributes := #[] }, { accessFlags := 2, nameIndex := 5, descriptorIndex := 29, attributes := #[] }, { accessFlags := 0, nameIndex := 17, descriptorIndex := 337, attributes := #[] }, { accessFlags := 0, nameIndex := 494, descriptorIndex := 142, attributes := #[] }, { accessFlags := 8, nameIndex := 501, descriptorIndex := 391, attributes := #[] }] 49 2 #[1106, 1108, 575, 1110, 1112] #[{ accessFlags := 18, nameIndex := 13, descriptorIndex := 14, attributes := #[] }, { accessFlags := 18, nameIndex := 17, descriptorIndex := 18, attributes := #[] }, { accessFlags := 2, nameIndex := 21, descriptorIndex := 22, attributes := #[] }, { accessFlags := 2, nameIndex := 25, descriptorIndex := 26, attributes := #[] }, { accessFlags := 26, nameIndex := 1116, descriptorIndex := 1117, attributes := #[] }, { accessFlags := 24, nameIndex := 40, descriptorIndex := 26, attributes := #[] }, { accessFlags := 26, nameIndex := 1101, descriptorIndex := 1102, attributes := #[] }, { accessFlags := 26, nameIndex := 1121, descriptorIndex := 1122, attributes := #[] }, { accessFlags := 25, nameIndex := 599, descriptorIndex := 600, attributes := #[] }, { accessFlags := 24, nameIndex := 1125, descriptorIndex := 18, attributes := #[] }, { accessFlags := 24, nameIndex := 1127, descriptorIndex := 18, attributes := #[] }])
  fields := #[{ name := "value", type := (.array .byte), accessFlags := 18, slot := 0, constantValue := 0 }, { name := "coder", type := .byte, accessFlags := 18, slot := 1, constantValue := 0 }, { name := "hash", type := .int, accessFlags := 2, slot := 2, constantValue := 0 }, { name := "hashIsZero", type := .boolean, accessFlags := 2, slot := 3, constantValue := 0 }, { name := "serialVersionUID", type := .long, accessFlags := 26, slot := 0, constantValue := 0 }, { name := "COMPACT_STRINGS", type := .boolean, accessFlags := 24, slot := 1, constantValue := 0 }, { name := "serialPersistentFields", type := (.array (.object "java/io/ObjectStreamField")), accessFlags := 26, slot := 2, constantValue := 0 }, { name := "REPL", type := .char, accessFlags := 26, slot := 3, constantValue := 0 }, { name := "CASE_INSENSITIVE_ORDER", type := (.object "java/util/Comparator"), accessFlags := 25, slot := 4, constantValue := 0 }, { name := "LATIN1", type := .byte, accessFlags := 24, slot := 5, constantValue := 0 }, { name := "UTF16", type := .byte, accessFlags := 24, slot := 6, constantValue := 0 }]
  methods := #[k7m0, k7m1, k7m2, k7m3, k7m4, k7m5, k7m6, k7m7, k7m8]
  instanceTypes := #[(.array .byte), .byte, .int, .boolean]
  staticTypes := #[.long, .boolean, (.array (.object "java/io/ObjectStreamField")), .char, (.object "java/util/Comparator"), .byte, .byte]
  resolved := Array.replicate 1451 none
  statics := some 0 }

def pool8 : Array CpInfo := pool [(1, .class_ 2), (0, u "java/lang/String"), (1, .class_ 6), (1, u "java/lang/Object"), (0, u "<init>"), (0, u "()V"), (0, .methodref 1 10), (0, .nameAndType 11 12), (0, u "checkIndex"), (0, u "(II)V"), (1, .class_ 16), (1, u "java/lang/StringLatin1"), (36, u "([BI)C"), (67, u "$assertionsDisabled"), (0, u "Z"), (98, .class_ 223), (1, u "java/lang/StringLatin1$LinesSpliterator"), (28, u "charAt"), (28, u "equals"), (0, u "([B[B)Z"), (107, .class_ 391), (0, u "java/lang/StringLatin1$CharsSpliterator")] 3

def k8m0 : Method := { name := "<init>", desc := "()V", sig := { parameters := [], returnType := none }, accessFlags := 0, code := none }
def k8c1 : Code := { maxStack := 2, maxLocals := 2, code := jdk_43_method_2_code, exceptionTable := #[], attributes := #[] }
def k8m1 : Method := { name := "charAt", desc := "([BI)C", sig := { parameters := [(.array .byte), .int], returnType := some .char }, accessFlags := 9, code := some k8c1 }
def k8c2 : Code := { maxStack := 3, maxLocals := 3, code := jdk_43_method_13_code, exceptionTable := #[], attributes := #[] }
def k8m2 : Method := { name := "equals", desc := "([B[B)Z", sig := { parameters := [(.array .byte), (.array .byte)], returnType := some .boolean }, accessFlags := 9, code := some k8c2 }
/-- java/lang/StringLatin1 -/
def k8 : Class := { plain "java/lang/StringLatin1" (some 0) with
  accessFlags := 48
  interfaces := #[]
  cf := some (fileOf pool8 14 #[.nestMembers #[390, 221]] #[{ accessFlags := 0, nameIndex := 7, descriptorIndex := 8, attributes := #[] }, { accessFlags := 9, nameIndex := 252, descriptorIndex := 53, attributes := #[] }, { accessFlags := 9, nameIndex := 281, descriptorIndex := 282, attributes := #[] }] 48 4 #[] #[{ accessFlags := 4120, nameIndex := 121, descriptorIndex := 122, attributes := #[] }])
  fields := #[{ name := "$assertionsDisabled", type := .boolean, accessFlags := 4120, slot := 0, constantValue := 0 }]
  methods := #[k8m0, k8m1, k8m2]
  instanceTypes := #[]
  staticTypes := #[.boolean]
  resolved := Array.replicate 395 none
  statics := none }

def pool9 : Array CpInfo := pool [(2, .class_ 4), (1, u "java/lang/Object"), (0, u "<init>"), (0, u "()V"), (17, .class_ 26), (1, u "jdk/internal/util/Preconditions"), (6, u "checkIndex"), (21, .class_ 56), (0, u "jdk/internal/util/Preconditions$4"), (57, .class_ 115), (0, u "jdk/internal/util/Preconditions$1"), (7, u "SIOOBE_FORMATTER"), (0, u "Ljava/util/function/BiFunction;"), (0, .class_ 126), (0, u "jdk/internal/util/Preconditions$2"), (3, u "AIOOBE_FORMATTER"), (0, .class_ 132), (0, u "jdk/internal/util/Preconditions$3"), (3, u "IOOBE_FORMATTER"), (41, u "(IILjava/util/function/BiFunction;)I")] 15

def k9m0 : Method := { name := "<init>", desc := "()V", sig := { parameters := [], returnType := none }, accessFlags := 1, code := none }
def k9c1 : Code := { maxStack := 3, maxLocals := 3, code := jdk_41_method_11_code, exceptionTable := #[], attributes := #[] }
def k9m1 : Method := { name := "checkIndex", desc := "(IILjava/util/function/BiFunction;)I", sig := { parameters := [.int, .int, (.object "java/util/function/BiFunction")], returnType := some .int }, accessFlags := 9, code := some k9c1 }
/-- jdk/internal/util/Preconditions -/
def k9 : Class := { plain "jdk/internal/util/Preconditions" (some 0) with
  accessFlags := 33
  interfaces := #[]
  cf := some (fileOf pool9 24 #[.nestMembers #[55, 131, 125, 114]] #[{ accessFlags := 1, nameIndex := 5, descriptorIndex := 6, attributes := #[] }, { accessFlags := 9, nameIndex := 33, descriptorIndex := 178, attributes := #[] }] 33 2 #[] #[{ accessFlags := 25, nameIndex := 123, descriptorIndex := 124, attributes := #[] }, { accessFlags := 25, nameIndex := 130, descriptorIndex := 124, attributes := #[] }, { accessFlags := 25, nameIndex := 136, descriptorIndex := 124, attributes := #[] }])
  fields := #[{ name := "SIOOBE_FORMATTER", type := (.object "java/util/function/BiFunction"), accessFlags := 25, slot := 0, constantValue := 0 }, { name := "AIOOBE_FORMATTER", type := (.object "java/util/function/BiFunction"), accessFlags := 25, slot := 1, constantValue := 0 }, { name := "IOOBE_FORMATTER", type := (.object "java/util/function/BiFunction"), accessFlags := 25, slot := 2, constantValue := 0 }]
  methods := #[k9m0, k9m1]
  instanceTypes := #[]
  staticTypes := #[(.object "java/util/function/BiFunction"), (.object "java/util/function/BiFunction"), (.object "java/util/function/BiFunction")]
  resolved := Array.replicate 194 none
  statics := some 1 }

def pool10 : Array CpInfo := pool [(6, .class_ 8), (1, u "java/lang/Object"), (0, u "<init>"), (0, u "()V"), (1, .class_ 14), (1, u "java/lang/StringUTF16"), (31, u "$assertionsDisabled"), (0, u "Z"), (13, u "HI_BYTE_SHIFT"), (0, u "I"), (2, u "LO_BYTE_SHIFT"), (49, .methodref 12 116), (0, .nameAndType 117 118), (0, u "compress"), (0, u "([CI[BII)I"), (3, u "([CII)[B"), (138, u "coderFromArrayLen"), (0, u "([BI)B"), (106, .class_ 371), (1, u "java/lang/StringUTF16$LinesSpliterator"), (58, u "MAX_LENGTH"), (196, .class_ 628), (0, u "java/lang/StringUTF16$CodePointsSpliterator"), (0, .class_ 630), (0, u "java/lang/StringUTF16$CharsSpliterator")] 4

def k10m0 : Method := { name := "<init>", desc := "()V", sig := { parameters := [], returnType := none }, accessFlags := 0, code := none }
def k10c1 : Code := { maxStack := 2, maxLocals := 2, code := jdk_52_method_15_code, exceptionTable := #[], attributes := #[] }
def k10m1 : Method := { name := "coderFromArrayLen", desc := "([BI)B", sig := { parameters := [(.array .byte), .int], returnType := some .byte }, accessFlags := 8, code := some k10c1 }
def k10c2 : Code := { maxStack := 5, maxLocals := 6, code := jdk_52_method_16_code, exceptionTable := #[], attributes := #[] }
def k10m2 : Method := { name := "compress", desc := "([CII)[B", sig := { parameters := [(.array .char), .int, .int], returnType := some (.array .byte) }, accessFlags := 9, code := some k10c2 }
def k10c3 : Code := { maxStack := 3, maxLocals := 7, code := jdk_52_method_21_code, exceptionTable := #[], attributes := #[] }
def k10m3 : Method := { name := "compress", desc := "([CI[BII)I", sig := { parameters := [(.array .char), .int, (.array .byte), .int, .int], returnType := some .int }, accessFlags := 9, code := some k10c3 }
/-- java/lang/StringUTF16 -/
def k10 : Class := { plain "java/lang/StringUTF16" (some 0) with
  accessFlags := 48
  interfaces := #[]
  cf := some (fileOf pool10 12 #[.nestMembers #[627, 629, 369]] #[{ accessFlags := 0, nameIndex := 9, descriptorIndex := 10, attributes := #[] }, { accessFlags := 8, nameIndex := 261, descriptorIndex := 262, attributes := #[] }, { accessFlags := 9, nameIndex := 117, descriptorIndex := 122, attributes := #[] }, { accessFlags := 9, nameIndex := 117, descriptorIndex := 118, attributes := #[] }] 48 6 #[] #[{ accessFlags := 26, nameIndex := 61, descriptorIndex := 62, attributes := #[] }, { accessFlags := 26, nameIndex := 65, descriptorIndex := 62, attributes := #[] }, { accessFlags := 24, nameIndex := 430, descriptorIndex := 62, attributes := #[] }, { accessFlags := 4120, nameIndex := 46, descriptorIndex := 47, attributes := #[] }])
  fields := #[{ name := "HI_BYTE_SHIFT", type := .int, accessFlags := 26, slot := 0, constantValue := 0 }, { name := "LO_BYTE_SHIFT", type := .int, accessFlags := 26, slot := 1, constantValue := 0 }, { name := "MAX_LENGTH", type := .int, accessFlags := 24, slot := 2, constantValue := 0 }, { name := "$assertionsDisabled", type := .boolean, accessFlags := 4120, slot := 3, constantValue := 0 }]
  methods := #[k10m0, k10m1, k10m2, k10m3]
  instanceTypes := #[]
  staticTypes := #[.int, .int, .int, .boolean]
  resolved := Array.replicate 635 none
  statics := none }

def pool11 : Array CpInfo := pool [(2, .class_ 4), (1, u "java/lang/Enum"), (0, u "name"), (0, u "Ljava/lang/String;"), (2, u "ordinal"), (0, u "I"), (1, .class_ 14), (1, u "java/lang/Object"), (4, u "hash"), (86, .class_ 108), (1, u "java/lang/Enum$EnumDesc"), (2, .class_ 112), (0, u "java/lang/constant/Constable"), (0, .class_ 114), (0, u "java/lang/Comparable"), (0, .class_ 116), (0, u "java/io/Serializable")] 87

/-- java/lang/Enum -/
def k11 : Class := { plain "java/lang/Enum" (some 0) with
  accessFlags := 1057
  interfaces := #[5, 3, 2]
  cf := some (fileOf pool11 2 #[.nestMembers #[106]] #[] 1057 12 #[111, 113, 115] #[{ accessFlags := 18, nameIndex := 5, descriptorIndex := 6, attributes := #[] }, { accessFlags := 18, nameIndex := 9, descriptorIndex := 10, attributes := #[] }, { accessFlags := 2, nameIndex := 19, descriptorIndex := 10, attributes := #[] }])
  fields := #[{ name := "name", type := (.object "java/lang/String"), accessFlags := 18, slot := 0, constantValue := 0 }, { name := "ordinal", type := .int, accessFlags := 18, slot := 1, constantValue := 0 }, { name := "hash", type := .int, accessFlags := 2, slot := 2, constantValue := 0 }]
  methods := #[]
  instanceTypes := #[(.object "java/lang/String"), .int, .int]
  staticTypes := #[]
  resolved := Array.replicate 204 none
  statics := none }

def pool12 : Array CpInfo := pool [(1, .class_ 2), (0, u "com/example/corollary/corollary/EstimateMethod"), (2, u "SEQUENTIAL"), (0, u "Lcom/example/corollary/corollary/EstimateMethod;"), (2, u "REFERENCE"), (0, .fieldref 1 11), (0, .nameAndType 12 13), (0, u "$VALUES"), (0, u "[Lcom/example/corollary/corollary/EstimateMethod;"), (0, .methodref 15 16), (0, .class_ 13), (0, .nameAndType 17 18), (0, u "clone"), (0, u "()Ljava/lang/Object;"), (1, .class_ 22), (1, u "java/lang/Enum"), (6, .fieldref 1 30), (0, .nameAndType 31 32), (0, u "optionName"), (0, u "Ljava/lang/String;"), (0, .methodref 1 34), (0, .nameAndType 35 36), (0, u "values"), (0, u "()[Lcom/example/corollary/corollary/EstimateMethod;"), (0, .methodref 38 39), (0, .class_ 40), (0, .nameAndType 41 42), (0, u "java/lang/String"), (0, u "equals"), (0, u "(Ljava/lang/Object;)Z"), (8, .class_ 52), (0, u "com/example/corollary/corollary/EstimateMethod$1"), (6, .class_ 60), (0, u "com/example/corollary/corollary/EstimateMethod$2"), (9, u "DEFAULT"), (2, u "(Ljava/lang/String;)Lcom/example/corollary/corollary/EstimateMethod;"), (10, u "named")] 11

def k12c0 : Code := { maxStack := 1, maxLocals := 0, code := prog_11_method_1_code, exceptionTable := #[], attributes := #[] }
def k12m0 : Method := { name := "values", desc := "()[Lcom/example/corollary/corollary/EstimateMethod;", sig := { parameters := [], returnType := some (.array (.object "com/example/corollary/corollary/EstimateMethod")) }, accessFlags := 9, code := some k12c0 }
def k12c1 : Code := { maxStack := 2, maxLocals := 5, code := prog_11_method_6_code, exceptionTable := #[], attributes := #[] }
def k12m1 : Method := { name := "named", desc := "(Ljava/lang/String;)Lcom/example/corollary/corollary/EstimateMethod;", sig := { parameters := [(.object "java/lang/String")], returnType := some (.object "com/example/corollary/corollary/EstimateMethod") }, accessFlags := 8, code := some k12c1 }
/-- com/example/corollary/corollary/EstimateMethod -/
def k12 : Class := { plain "com/example/corollary/corollary/EstimateMethod" (some 11) with
  accessFlags := 17441
  interfaces := #[]
  cf := some (fileOf pool12 1 #[.nestMembers #[59, 51]] #[{ accessFlags := 9, nameIndex := 35, descriptorIndex := 36, attributes := #[] }, { accessFlags := 8, nameIndex := 84, descriptorIndex := 73, attributes := #[] }] 17441 20 #[] #[{ accessFlags := 16409, nameIndex := 5, descriptorIndex := 6, attributes := #[] }, { accessFlags := 16409, nameIndex := 9, descriptorIndex := 6, attributes := #[] }, { accessFlags := 24, nameIndex := 70, descriptorIndex := 6, attributes := #[] }, { accessFlags := 18, nameIndex := 31, descriptorIndex := 32, attributes := #[] }, { accessFlags := 4122, nameIndex := 12, descriptorIndex := 13, attributes := #[] }])
  fields := #[{ name := "SEQUENTIAL", type := (.object "com/example/corollary/corollary/EstimateMethod"), accessFlags := 16409, slot := 0, constantValue := 0 }, { name := "REFERENCE", type := (.object "com/example/corollary/corollary/EstimateMethod"), accessFlags := 16409, slot := 1, constantValue := 0 }, { name := "DEFAULT", type := (.object "com/example/corollary/corollary/EstimateMethod"), accessFlags := 24, slot := 2, constantValue := 0 }, { name := "optionName", type := (.object "java/lang/String"), accessFlags := 18, slot := 3, constantValue := 0 }, { name := "$VALUES", type := (.array (.object "com/example/corollary/corollary/EstimateMethod")), accessFlags := 4122, slot := 3, constantValue := 0 }]
  methods := #[k12m0, k12m1]
  instanceTypes := #[(.object "java/lang/String"), .int, .int, (.object "java/lang/String")]
  staticTypes := #[(.object "com/example/corollary/corollary/EstimateMethod"), (.object "com/example/corollary/corollary/EstimateMethod"), (.object "com/example/corollary/corollary/EstimateMethod"), (.array (.object "com/example/corollary/corollary/EstimateMethod"))]
  resolved := Array.replicate 96 none
  statics := some 2 }

def pool13 : Array CpInfo := pool [(1, .class_ 2), (0, u "java/lang/Cloneable"), (0, .class_ 4), (0, u "java/lang/Object")] 2

/-- java/lang/Cloneable -/
def k13 : Class := { plain "java/lang/Cloneable" (some 0) with
  accessFlags := 1537
  interfaces := #[]
  cf := some (fileOf pool13 1 #[] #[] 1537 3 #[] #[])
  fields := #[]
  methods := #[]
  instanceTypes := #[]
  staticTypes := #[]
  resolved := Array.replicate 7 none
  statics := none }

def pool14 : Array CpInfo := pool [(2, .class_ 4), (1, u "com/example/corollary/corollary/EstimateMethod"), (8, .class_ 14), (0, u "com/example/corollary/corollary/EstimateMethod$1")] 11

/-- com/example/corollary/corollary/EstimateMethod$1 -/
def k14 : Class := { plain "com/example/corollary/corollary/EstimateMethod$1" (some 12) with
  accessFlags := 16432
  interfaces := #[]
  cf := some (fileOf pool14 13 #[.nestHost 2] #[] 16432 2 #[] #[])
  fields := #[]
  methods := #[]
  instanceTypes := #[(.object "java/lang/String"), .int, .int, (.object "java/lang/String")]
  staticTypes := #[]
  resolved := Array.replicate 26 none
  statics := none }

def pool15 : Array CpInfo := pool [(2, .class_ 4), (1, u "com/example/corollary/corollary/EstimateMethod"), (8, .class_ 14), (0, u "com/example/corollary/corollary/EstimateMethod$2")] 11

/-- com/example/corollary/corollary/EstimateMethod$2 -/
def k15 : Class := { plain "com/example/corollary/corollary/EstimateMethod$2" (some 12) with
  accessFlags := 16432
  interfaces := #[]
  cf := some (fileOf pool15 13 #[.nestHost 2] #[] 16432 2 #[] #[])
  fields := #[]
  methods := #[]
  instanceTypes := #[(.object "java/lang/String"), .int, .int, (.object "java/lang/String")]
  staticTypes := #[]
  resolved := Array.replicate 26 none
  statics := none }

def pool16 : Array CpInfo := pool [(9, u "<init>"), (6, .class_ 18), (1, u "java/lang/Object"), (0, u "()V"), (1, .class_ 23), (1, u "jdk/internal/util/ArraysSupport"), (0, u "LOG2_ARRAY_LONG_INDEX_SCALE"), (0, u "I"), (2, u "U"), (0, u "Ljdk/internal/misc/Unsafe;"), (8, u "BIG_ENDIAN"), (0, u "Z"), (8, u "LOG2_BYTE_BIT_SIZE"), (4, u "LOG2_ARRAY_INT_INDEX_SCALE"), (54, u "JLA"), (0, u "Ljdk/internal/access/JavaLangAccess;"), (11, u "LOG2_ARRAY_BOOLEAN_INDEX_SCALE"), (9, u "LOG2_ARRAY_BYTE_INDEX_SCALE"), (5, u "LOG2_ARRAY_CHAR_INDEX_SCALE"), (5, u "LOG2_ARRAY_SHORT_INDEX_SCALE"), (18, u "LOG2_ARRAY_FLOAT_INDEX_SCALE"), (24, u "LOG2_ARRAY_DOUBLE_INDEX_SCALE"), (89, u "T_BOOLEAN"), (2, u "T_CHAR"), (1, u "T_FLOAT"), (1, u "T_DOUBLE"), (1, u "T_BYTE"), (1, u "T_SHORT"), (1, u "T_INT"), (1, u "T_LONG"), (1, u "SOFT_MAX_ARRAY_LENGTH")] 83

def k16m0 : Method := { name := "<init>", desc := "()V", sig := { parameters := [], returnType := none }, accessFlags := 2, code := none }
/-- jdk/internal/util/ArraysSupport -/
def k16 : Class := { plain "jdk/internal/util/ArraysSupport" (some 0) with
  accessFlags := 33
  interfaces := #[]
  cf := some (fileOf pool16 21 #[] #[{ accessFlags := 2, nameIndex := 9, descriptorIndex := 19, attributes := #[] }] 33 16 #[] #[{ accessFlags := 24, nameIndex := 28, descriptorIndex := 29, attributes := #[] }, { accessFlags := 26, nameIndex := 38, descriptorIndex := 39, attributes := #[] }, { accessFlags := 25, nameIndex := 121, descriptorIndex := 25, attributes := #[] }, { accessFlags := 25, nameIndex := 131, descriptorIndex := 25, attributes := #[] }, { accessFlags := 25, nameIndex := 137, descriptorIndex := 25, attributes := #[] }, { accessFlags := 25, nameIndex := 143, descriptorIndex := 25, attributes := #[] }, { accessFlags := 25, nameIndex := 53, descriptorIndex := 25, attributes := #[] }, { accessFlags := 25, nameIndex := 24, descriptorIndex := 25, attributes := #[] }, { accessFlags := 25, nameIndex := 162, descriptorIndex := 25, attributes := #[] }, { accessFlags := 25, nameIndex := 187, descriptorIndex := 25, attributes := #[] }, { accessFlags := 26, nameIndex := 48, descriptorIndex := 25, attributes := #[] }, { accessFlags := 25, nameIndex := 277, descriptorIndex := 25, attributes := #[] }, { accessFlags := 25, nameIndex := 280, descriptorIndex := 25, attributes := #[] }, { accessFlags := 25, nameIndex := 282, descriptorIndex := 25, attributes := #[] }, { accessFlags := 25, nameIndex := 284, descriptorIndex := 25, attributes := #[] }, { accessFlags := 25, nameIndex := 286, descriptorIndex := 25, attributes := #[] }, { accessFlags := 25, nameIndex := 288, descriptorIndex := 25, attributes := #[] }, { accessFlags := 25, nameIndex := 290, descriptorIndex := 25, attributes := #[] }, { accessFlags := 25, nameIndex := 292, descriptorIndex := 25, attributes := #[] }, { accessFlags := 26, nameIndex := 108, descriptorIndex := 109, attributes := #[] }, { accessFlags := 25, nameIndex := 294, descriptorIndex := 25, attributes := #[] }])
  fields := #[{ name := "U", type := (.object "jdk/internal/misc/Unsafe"), accessFlags := 24, slot := 0, constantValue := 0 }, { name := "BIG_ENDIAN", type := .boolean, accessFlags := 26, slot := 1, constantValue := 0 }, { name := "LOG2_ARRAY_BOOLEAN_INDEX_SCALE", type := .int, accessFlags := 25, slot := 2, constantValue := 0 }, { name := "LOG2_ARRAY_BYTE_INDEX_SCALE", type := .int, accessFlags := 25, slot := 3, constantValue := 0 }, { name := "LOG2_ARRAY_CHAR_INDEX_SCALE", type := .int, accessFlags := 25, slot := 4, constantValue := 0 }, { name := "LOG2_ARRAY_SHORT_INDEX_SCALE", type := .int, accessFlags := 25, slot := 5, constantValue := 0 }, { name := "LOG2_ARRAY_INT_INDEX_SCALE", type := .int, accessFlags := 25, slot := 6, constantValue := 0 }, { name := "LOG2_ARRAY_LONG_INDEX_SCALE", type := .int, accessFlags := 25, slot := 7, constantValue := 0 }, { name := "LOG2_ARRAY_FLOAT_INDEX_SCALE", type := .int, accessFlags := 25, slot := 8, constantValue := 0 }, { name := "LOG2_ARRAY_DOUBLE_INDEX_SCALE", type := .int, accessFlags := 25, slot := 9, constantValue := 0 }, { name := "LOG2_BYTE_BIT_SIZE", type := .int, accessFlags := 26, slot := 10, constantValue := 0 }, { name := "T_BOOLEAN", type := .int, accessFlags := 25, slot := 11, constantValue := 0 }, { name := "T_CHAR", type := .int, accessFlags := 25, slot := 12, constantValue := 0 }, { name := "T_FLOAT", type := .int, accessFlags := 25, slot := 13, constantValue := 0 }, { name := "T_DOUBLE", type := .int, accessFlags := 25, slot := 14, constantValue := 0 }, { name := "T_BYTE", type := .int, accessFlags := 25, slot := 15, constantValue := 0 }, { name := "T_SHORT", type := .int, accessFlags := 25, slot := 16, constantValue := 0 }, { name := "T_INT", type := .int, accessFlags := 25, slot := 17, constantValue := 0 }, { name := "T_LONG", type := .int, accessFlags := 25, slot := 18, constantValue := 0 }, { name := "JLA", type := (.object "jdk/internal/access/JavaLangAccess"), accessFlags := 26, slot := 19, constantValue := 0 }, { name := "SOFT_MAX_ARRAY_LENGTH", type := .int, accessFlags := 25, slot := 20, constantValue := 0 }]
  methods := #[k16m0]
  instanceTypes := #[]
  staticTypes := #[(.object "jdk/internal/misc/Unsafe"), .boolean, .int, .int, .int, .int, .int, .int, .int, .int, .int, .int, .int, .int, .int, .int, .int, .int, .int, (.object "jdk/internal/access/JavaLangAccess"), .int]
  resolved := Array.replicate 378 none
  statics := none }

/-- the primitive byte -/
def k17 : Class := { plain "byte" none with kind := .primitive 'B', accessFlags := 0x411 }
/-- [B -/
def k18 : Class := { plain "[B" (some 0) with kind := .array 17 .byte, interfaces := #[13, 2], accessFlags := 1041 }

/-- the primitive char -/
def k19 : Class := { plain "char" none with kind := .primitive 'C', accessFlags := 0x411 }
/-- [C -/
def k20 : Class := { plain "[C" (some 0) with kind := .array 19 .char, interfaces := #[13, 2], accessFlags := 1041 }

/-- the primitive int -/
def k21 : Class := { plain "int" none with kind := .primitive 'I', accessFlags := 0x411 }
/-- [I -/
def k22 : Class := { plain "[I" (some 0) with kind := .array 21 .int, interfaces := #[13, 2], accessFlags := 1041 }

/-- [Lcom/example/corollary/corollary/EstimateMethod; -/
def k23 : Class := { plain "[Lcom/example/corollary/corollary/EstimateMethod;" (some 0) with kind := .array 12 (.object "com/example/corollary/corollary/EstimateMethod"), interfaces := #[13, 2], accessFlags := 1041 }

def heap : Heap := #[{ cls := 7, slots := #[.long 0, .int 1, .null, .int 0, .null, .int 0, .int 0], vm := .statics 7 },
  { cls := 9, slots := #[.null, .null, .null], vm := .statics 9 },
  { cls := 12, slots := #[.ref 4, .ref 5, .null, .ref 3], vm := .statics 12 },
  { cls := 23, slots := #[.ref 4, .ref 5], vm := .none },
  { cls := 14, slots := #[.null, .int 0, .int 0, .ref 6], vm := .none },
  { cls := 15, slots := #[.null, .int 1, .int 0, .ref 7], vm := .none },
  { cls := 7, slots := #[.ref 8, .int 0, .int 0, .int 0], vm := .none },
  { cls := 7, slots := #[.ref 9, .int 0, .int 0, .int 0], vm := .none },
  { cls := 18, slots := #[.int 115, .int 101, .int 113, .int 117, .int 101, .int 110, .int 116, .int 105, .int 97, .int 108], vm := .none },
  { cls := 18, slots := #[.int 114, .int 101, .int 102, .int 101, .int 114, .int 101, .int 110, .int 99, .int 101], vm := .none }]
def classes : Array Class := #[k0, k1, k2, k3, k4, k5, k6, k7, k8, k9, k10, k11, k12, k13, k14, k15, k16, k17, k18, k19, k20, k21, k22, k23]
def interned : List (Array UInt16 × Addr) := []
def slotsUsed : Nat := 51
def theMethod : MethodId := ⟨1, 1⟩
def args0 : Array Value := #[.int 5, .int 3, .int 65, .int 0, .int 1]
def aboutOver (below : List Frame) : State where
  vm := { classes := classes, interned := interned.toArray }
  heap := heap
  slotsUsed := slotsUsed
  threads := #[{ frames := .invoking theMethod args0 :: below }]
def below0 : List Frame := [.native { method := ⟨0, 0⟩, args := #[] }]
def about1 : State := aboutOver below0
def p0 : Program := .bare "" "" ""
def e0 : Env := launch0.env 0 0 0
theorem w_frames : about1.frames = Frame.invoking theMethod args0 :: below0 := rfl
set_option maxRecDepth 65536 in
theorem w_args : argsFit about1.vm theMethod args0 = true := by decide +kernel
set_option maxRecDepth 65536 in
theorem w_heap : heapFits about1 = true := by decide +kernel
set_option maxRecDepth 65536 in
theorem w_runnable : about1.curStatus? = some .runnable := by decide +kernel
set_option maxRecDepth 65536 in
theorem w_alone : about1.alone = true := by decide +kernel
set_option maxRecDepth 65536 in
theorem w_named : about1.methodNamed? x = some theMethod := by decide +kernel
set_option maxRecDepth 65536 in
theorem w_hears : about1.hears theMethod below0 = true := by decide +kernel
set_option maxRecDepth 65536 in
theorem w_ripe : about1.ripe theMethod args0 below0 = true := by decide +kernel
theorem w_running : about1.status = .running := rfl
set_option maxRecDepth 65536 in
theorem w_room : about1.hasRoom e0.platform room_1 = true :=
  launch0.hasRoom_least _ room_1 (by decide +kernel) (by decide +kernel) (by decide +kernel) (by decide +kernel) (by decide +kernel) (by decide +kernel)
theorem allAtoms_all (ts : List Jvm.Cond) (a : Array Jvm.Value) (st : Jvm.State) : (allAtoms ts).before a st = ts.all (fun c => c.before a st) := by
  induction ts with
  | nil => rfl
  | cons c t ih =>
    show (Jvm.Cond.and c (allAtoms t)).before a st = _
    rw [Jvm.Cond.before_and, ih, List.all_cons]
def words1 : List Jvm.Cond := Jvm.Cond.code x code maxLocals ret :: tables_1
/-- a 'code' word, met by the world's own term for the bytes: nothing is compared byte by byte -/
theorem code_word {y : MethodName} {bytes : ByteArray} {mx : Nat} {rt : Option FieldType} {a : Array Value} {s : State} {m : MethodId} {meth : Method} {c : Code} (h1 : s.methodNamed? y = some m) (h2 : s.vm.method? m = some meth) (h3 : meth.code = some c) (h4 : c.code = bytes)
    (h5 : (c.maxLocals == mx && c.exceptionTable.isEmpty && decide (c.maxStack ≤ mostOperands) && decide (meth.sig.returnType = rt) && !meth.locks && decide (parseMethodDescriptor y.desc = some meth.sig)) = true) : (Jvm.Cond.code y bytes mx rt).before a s = true := by
  simp only [Bool.and_eq_true, beq_iff_eq, Bool.not_eq_true', decide_eq_true_eq] at h5
  obtain ⟨⟨⟨⟨⟨g1, g2⟩, g3⟩, g4⟩, g5⟩, g6⟩ := h5
  simp [Cond.before, Cond.holds, Cond.value, h1, h2, h3, h4, g1, g2, g3, g4, g5, g6]
def isCode : Jvm.Cond → Bool
  | .code _ _ _ _ => true
  | _ => false
theorem all_split {L : List Jvm.Cond} {P : Jvm.Cond → Bool} (h1 : L.all (fun c => isCode c || P c) = true) (h2 : ∀ c ∈ L.filter isCode, P c = true) : L.all P = true := by
  refine List.all_eq_true.mpr fun c hc => ?_
  have h := List.all_eq_true.mp h1 c hc
  rcases Bool.eq_false_or_eq_true (isCode c) with hi | hi
  · exact h2 c (List.mem_filter.mpr ⟨hc, hi⟩)
  · simpa [hi] using h
set_option maxRecDepth 65536 in
theorem w_c0 : (Jvm.Cond.code x code maxLocals ret).before args0 about1 = true := code_word (m := ⟨1, 1⟩) (meth := k1m1) (c := k1c1) (by decide +kernel) rfl rfl rfl (by decide +kernel)
set_option maxRecDepth 65536 in
theorem w_c1 : (Jvm.Cond.code ({ cls := "java/lang/String", name := "length", desc := "()I" } : Jvm.MethodName) jdk_42_method_54_code (1 : Nat) (Option.some Jvm.ClassFile.FieldType.int)).before args0 about1 = true := code_word (m := ⟨7, 2⟩) (meth := k7m2) (c := k7c2) (by decide +kernel) rfl rfl rfl (by decide +kernel)
set_option maxRecDepth 65536 in
theorem w_c2 : (Jvm.Cond.code ({ cls := "java/lang/String", name := "coder", desc := "()B" } : Jvm.MethodName) jdk_42_method_152_code (1 : Nat) (Option.some Jvm.ClassFile.FieldType.byte)).before args0 about1 = true := code_word (m := ⟨7, 6⟩) (meth := k7m6) (c := k7c6) (by decide +kernel) rfl rfl rfl (by decide +kernel)
set_option maxRecDepth 65536 in
theorem w_c3 : (Jvm.Cond.code ({ cls := "com/example/corollary/corollary/EstimateMethodNamedPinLaw", name := "at", desc := "(Ljava/lang/String;ICZ)C" } : Jvm.MethodName) method_3_code (5 : Nat) (Option.some Jvm.ClassFile.FieldType.char)).before args0 about1 = true := code_word (m := ⟨1, 2⟩) (meth := k1m2) (c := k1c2) (by decide +kernel) rfl rfl rfl (by decide +kernel)
set_option maxRecDepth 65536 in
theorem w_c4 : (Jvm.Cond.code ({ cls := "java/lang/String", name := "charAt", desc := "(I)C" } : Jvm.MethodName) jdk_42_method_56_code (2 : Nat) (Option.some Jvm.ClassFile.FieldType.char)).before args0 about1 = true := code_word (m := ⟨7, 3⟩) (meth := k7m3) (c := k7c3) (by decide +kernel) rfl rfl rfl (by decide +kernel)
set_option maxRecDepth 65536 in
theorem w_c5 : (Jvm.Cond.code ({ cls := "java/lang/String", name := "isLatin1", desc := "()Z" } : Jvm.MethodName) jdk_42_method_154_code (1 : Nat) (Option.some Jvm.ClassFile.FieldType.boolean)).before args0 about1 = true := code_word (m := ⟨7, 7⟩) (meth := k7m7) (c := k7c7) (by decide +kernel) rfl rfl rfl (by decide +kernel)
set_option maxRecDepth 65536 in
theorem w_c6 : (Jvm.Cond.code ({ cls := "java/lang/StringLatin1", name := "charAt", desc := "([BI)C" } : Jvm.MethodName) jdk_43_method_2_code (2 : Nat) (Option.some Jvm.ClassFile.FieldType.char)).before args0 about1 = true := code_word (m := ⟨8, 1⟩) (meth := k8m1) (c := k8c1) (by decide +kernel) rfl rfl rfl (by decide +kernel)
set_option maxRecDepth 65536 in
theorem w_c7 : (Jvm.Cond.code ({ cls := "java/lang/String", name := "checkIndex", desc := "(II)V" } : Jvm.MethodName) jdk_42_method_155_code (2 : Nat) (Option.none : Option Jvm.ClassFile.FieldType)).before args0 about1 = true := code_word (m := ⟨7, 8⟩) (meth := k7m8) (c := k7c8) (by decide +kernel) rfl rfl rfl (by decide +kernel)
set_option maxRecDepth 65536 in
theorem w_c8 : (Jvm.Cond.code ({ cls := "jdk/internal/util/Preconditions", name := "checkIndex", desc := "(IILjava/util/function/BiFunction;)I" } : Jvm.MethodName) jdk_41_method_11_code (3 : Nat) (Option.some Jvm.ClassFile.FieldType.int)).before args0 about1 = true := code_word (m := ⟨9, 1⟩) (meth := k9m1) (c := k9c1) (by decide +kernel) rfl rfl rfl (by decide +kernel)
set_option maxRecDepth 65536 in
theorem w_c9 : (Jvm.Cond.code ({ cls := "com/example/corollary/corollary/EstimateMethodNamedPinLaw", name := "take", desc := "([CI)Ljava/lang/String;" } : Jvm.MethodName) method_4_code (2 : Nat) (Option.some (Jvm.ClassFile.FieldType.object "java/lang/String"))).before args0 about1 = true := code_word (m := ⟨1, 3⟩) (meth := k1m3) (c := k1c3) (by decide +kernel) rfl rfl rfl (by decide +kernel)
set_option maxRecDepth 65536 in
theorem w_c10 : (Jvm.Cond.code ({ cls := "java/lang/String", name := "<init>", desc := "([C)V" } : Jvm.MethodName) jdk_42_method_3_code (2 : Nat) (Option.none : Option Jvm.ClassFile.FieldType)).before args0 about1 = true := code_word (m := ⟨7, 1⟩) (meth := k7m1) (c := k7c1) (by decide +kernel) rfl rfl rfl (by decide +kernel)
set_option maxRecDepth 65536 in
theorem w_c11 : (Jvm.Cond.code ({ cls := "java/lang/String", name := "<init>", desc := "([CIILjava/lang/Void;)V" } : Jvm.MethodName) jdk_42_method_149_code (6 : Nat) (Option.none : Option Jvm.ClassFile.FieldType)).before args0 about1 = true := code_word (m := ⟨7, 5⟩) (meth := k7m5) (c := k7c5) (by decide +kernel) rfl rfl rfl (by decide +kernel)
set_option maxRecDepth 65536 in
theorem w_c12 : (Jvm.Cond.code ({ cls := "java/lang/Object", name := "<init>", desc := "()V" } : Jvm.MethodName) object_method_1_code (1 : Nat) (Option.none : Option Jvm.ClassFile.FieldType)).before args0 about1 = true := code_word (m := ⟨0, 0⟩) (meth := k0m0) (c := k0c0) (by decide +kernel) rfl rfl rfl (by decide +kernel)
set_option maxRecDepth 65536 in
theorem w_c13 : (Jvm.Cond.code ({ cls := "java/lang/StringUTF16", name := "compress", desc := "([CII)[B" } : Jvm.MethodName) jdk_52_method_16_code (6 : Nat) (Option.some (Jvm.ClassFile.FieldType.array Jvm.ClassFile.FieldType.byte))).before args0 about1 = true := code_word (m := ⟨10, 2⟩) (meth := k10m2) (c := k10c2) (by decide +kernel) rfl rfl rfl (by decide +kernel)
set_option maxRecDepth 65536 in
theorem w_c14 : (Jvm.Cond.code ({ cls := "java/lang/StringUTF16", name := "compress", desc := "([CI[BII)I" } : Jvm.MethodName) jdk_52_method_21_code (7 : Nat) (Option.some Jvm.ClassFile.FieldType.int)).before args0 about1 = true := code_word (m := ⟨10, 3⟩) (meth := k10m3) (c := k10c3) (by decide +kernel) rfl rfl rfl (by decide +kernel)
set_option maxRecDepth 65536 in
theorem w_c15 : (Jvm.Cond.code ({ cls := "java/lang/StringUTF16", name := "coderFromArrayLen", desc := "([BI)B" } : Jvm.MethodName) jdk_52_method_15_code (2 : Nat) (Option.some Jvm.ClassFile.FieldType.byte)).before args0 about1 = true := code_word (m := ⟨10, 1⟩) (meth := k10m1) (c := k10c1) (by decide +kernel) rfl rfl rfl (by decide +kernel)
set_option maxRecDepth 65536 in
theorem w_c16 : (Jvm.Cond.code ({ cls := "java/lang/String", name := "equals", desc := "(Ljava/lang/Object;)Z" } : Jvm.MethodName) jdk_42_method_66_code (3 : Nat) (Option.some Jvm.ClassFile.FieldType.boolean)).before args0 about1 = true := code_word (m := ⟨7, 4⟩) (meth := k7m4) (c := k7c4) (by decide +kernel) rfl rfl rfl (by decide +kernel)
set_option maxRecDepth 65536 in
theorem w_c17 : (Jvm.Cond.code ({ cls := "java/lang/StringLatin1", name := "equals", desc := "([B[B)Z" } : Jvm.MethodName) jdk_43_method_13_code (3 : Nat) (Option.some Jvm.ClassFile.FieldType.boolean)).before args0 about1 = true := code_word (m := ⟨8, 2⟩) (meth := k8m2) (c := k8c2) (by decide +kernel) rfl rfl rfl (by decide +kernel)
set_option maxRecDepth 65536 in
theorem w_c18 : (Jvm.Cond.code ({ cls := "com/example/corollary/corollary/EstimateMethod", name := "named", desc := "(Ljava/lang/String;)Lcom/example/corollary/corollary/EstimateMethod;" } : Jvm.MethodName) prog_11_method_6_code (5 : Nat) (Option.some (Jvm.ClassFile.FieldType.object "com/example/corollary/corollary/EstimateMethod"))).before args0 about1 = true := code_word (m := ⟨12, 1⟩) (meth := k12m1) (c := k12c1) (by decide +kernel) rfl rfl rfl (by decide +kernel)
set_option maxRecDepth 65536 in
theorem w_c19 : (Jvm.Cond.code ({ cls := "com/example/corollary/corollary/EstimateMethod", name := "values", desc := "()[Lcom/example/corollary/corollary/EstimateMethod;" } : Jvm.MethodName) prog_11_method_1_code (0 : Nat) (Option.some (Jvm.ClassFile.FieldType.array (Jvm.ClassFile.FieldType.object "com/example/corollary/corollary/EstimateMethod")))).before args0 about1 = true := code_word (m := ⟨12, 0⟩) (meth := k12m0) (c := k12c0) (by decide +kernel) rfl rfl rfl (by decide +kernel)
def codes1 : List Jvm.Cond := [Jvm.Cond.code x code maxLocals ret, Jvm.Cond.code ({ cls := "java/lang/String", name := "length", desc := "()I" } : Jvm.MethodName) jdk_42_method_54_code (1 : Nat) (Option.some Jvm.ClassFile.FieldType.int), Jvm.Cond.code ({ cls := "java/lang/String", name := "coder", desc := "()B" } : Jvm.MethodName) jdk_42_method_152_code (1 : Nat) (Option.some Jvm.ClassFile.FieldType.byte), Jvm.Cond.code ({ cls := "com/example/corollary/corollary/EstimateMethodNamedPinLaw", name := "at", desc := "(Ljava/lang/String;ICZ)C" } : Jvm.MethodName) method_3_code (5 : Nat) (Option.some Jvm.ClassFile.FieldType.char), Jvm.Cond.code ({ cls := "java/lang/String", name := "charAt", desc := "(I)C" } : Jvm.MethodName) jdk_42_method_56_code (2 : Nat) (Option.some Jvm.ClassFile.FieldType.char), Jvm.Cond.code ({ cls := "java/lang/String", name := "isLatin1", desc := "()Z" } : Jvm.MethodName) jdk_42_method_154_code (1 : Nat) (Option.some Jvm.ClassFile.FieldType.boolean), Jvm.Cond.code ({ cls := "java/lang/StringLatin1", name := "charAt", desc := "([BI)C" } : Jvm.MethodName) jdk_43_method_2_code (2 : Nat) (Option.some Jvm.ClassFile.FieldType.char), Jvm.Cond.code ({ cls := "java/lang/String", name := "checkIndex", desc := "(II)V" } : Jvm.MethodName) jdk_42_method_155_code (2 : Nat) (Option.none : Option Jvm.ClassFile.FieldType), Jvm.Cond.code ({ cls := "jdk/internal/util/Preconditions", name := "checkIndex", desc := "(IILjava/util/function/BiFunction;)I" } : Jvm.MethodName) jdk_41_method_11_code (3 : Nat) (Option.some Jvm.ClassFile.FieldType.int), Jvm.Cond.code ({ cls := "com/example/corollary/corollary/EstimateMethodNamedPinLaw", name := "take", desc := "([CI)Ljava/lang/String;" } : Jvm.MethodName) method_4_code (2 : Nat) (Option.some (Jvm.ClassFile.FieldType.object "java/lang/String")), Jvm.Cond.code ({ cls := "java/lang/String", name := "<init>", desc := "([C)V" } : Jvm.MethodName) jdk_42_method_3_code (2 : Nat) (Option.none : Option Jvm.ClassFile.FieldType), Jvm.Cond.code ({ cls := "java/lang/String", name := "<init>", desc := "([CIILjava/lang/Void;)V" } : Jvm.MethodName) jdk_42_method_149_code (6 : Nat) (Option.none : Option Jvm.ClassFile.FieldType), Jvm.Cond.code ({ cls := "java/lang/Object", name := "<init>", desc := "()V" } : Jvm.MethodName) object_method_1_code (1 : Nat) (Option.none : Option Jvm.ClassFile.FieldType), Jvm.Cond.code ({ cls := "java/lang/StringUTF16", name := "compress", desc := "([CII)[B" } : Jvm.MethodName) jdk_52_method_16_code (6 : Nat) (Option.some (Jvm.ClassFile.FieldType.array Jvm.ClassFile.FieldType.byte)), Jvm.Cond.code ({ cls := "java/lang/StringUTF16", name := "compress", desc := "([CI[BII)I" } : Jvm.MethodName) jdk_52_method_21_code (7 : Nat) (Option.some Jvm.ClassFile.FieldType.int), Jvm.Cond.code ({ cls := "java/lang/StringUTF16", name := "coderFromArrayLen", desc := "([BI)B" } : Jvm.MethodName) jdk_52_method_15_code (2 : Nat) (Option.some Jvm.ClassFile.FieldType.byte), Jvm.Cond.code ({ cls := "java/lang/String", name := "equals", desc := "(Ljava/lang/Object;)Z" } : Jvm.MethodName) jdk_42_method_66_code (3 : Nat) (Option.some Jvm.ClassFile.FieldType.boolean), Jvm.Cond.code ({ cls := "java/lang/StringLatin1", name := "equals", desc := "([B[B)Z" } : Jvm.MethodName) jdk_43_method_13_code (3 : Nat) (Option.some Jvm.ClassFile.FieldType.boolean), Jvm.Cond.code ({ cls := "com/example/corollary/corollary/EstimateMethod", name := "named", desc := "(Ljava/lang/String;)Lcom/example/corollary/corollary/EstimateMethod;" } : Jvm.MethodName) prog_11_method_6_code (5 : Nat) (Option.some (Jvm.ClassFile.FieldType.object "com/example/corollary/corollary/EstimateMethod")), Jvm.Cond.code ({ cls := "com/example/corollary/corollary/EstimateMethod", name := "values", desc := "()[Lcom/example/corollary/corollary/EstimateMethod;" } : Jvm.MethodName) prog_11_method_1_code (0 : Nat) (Option.some (Jvm.ClassFile.FieldType.array (Jvm.ClassFile.FieldType.object "com/example/corollary/corollary/EstimateMethod")))]
set_option maxRecDepth 65536 in
theorem codes_eq : words1.filter isCode = codes1 := rfl
theorem w_codes : ∀ c ∈ words1.filter isCode, c.before args0 about1 = true := by
  rw [codes_eq]
  intro c hc
  simp only [codes1, List.mem_cons, List.not_mem_nil, or_false] at hc
  rcases hc with rfl | rfl | rfl | rfl | rfl | rfl | rfl | rfl | rfl | rfl | rfl | rfl | rfl | rfl | rfl | rfl | rfl | rfl | rfl | rfl
  · exact w_c0
  · exact w_c1
  · exact w_c2
  · exact w_c3
  · exact w_c4
  · exact w_c5
  · exact w_c6
  · exact w_c7
  · exact w_c8
  · exact w_c9
  · exact w_c10
  · exact w_c11
  · exact w_c12
  · exact w_c13
  · exact w_c14
  · exact w_c15
  · exact w_c16
  · exact w_c17
  · exact w_c18
  · exact w_c19
set_option maxRecDepth 65536 in
theorem w_t1 : (words1.take 24).all (fun c => isCode c || c.before args0 about1) = true := by decide +kernel
set_option maxRecDepth 65536 in
theorem w_t2 : ((words1.drop 24).take 24).all (fun c => isCode c || c.before args0 about1) = true := by decide +kernel
set_option maxRecDepth 65536 in
theorem w_t3 : (((words1.drop 24).drop 24).take 24).all (fun c => isCode c || c.before args0 about1) = true := by decide +kernel
set_option maxRecDepth 65536 in
theorem w_t4 : ((((words1.drop 24).drop 24).drop 24).take 24).all (fun c => isCode c || c.before args0 about1) = true := by decide +kernel
set_option maxRecDepth 65536 in
theorem w_t5 : ((((words1.drop 24).drop 24).drop 24).drop 24).all (fun c => isCode c || c.before args0 about1) = true := by decide +kernel
theorem w_tables : (allAtoms (Jvm.Cond.code x code maxLocals ret :: tables_1)).before args0 about1 = true := by
  rw [allAtoms_all]
  show words1.all (fun c => c.before args0 about1) = true
  refine all_split ?_ w_codes
  rw [← List.take_append_drop 24 words1, List.all_append, w_t1, ← List.take_append_drop 24 (words1.drop 24), List.all_append, w_t2, ← List.take_append_drop 24 ((words1.drop 24).drop 24), List.all_append, w_t3, ← List.take_append_drop 24 (((words1.drop 24).drop 24).drop 24), List.all_append, w_t4, w_t5]
  rfl
set_option maxRecDepth 65536 in
theorem w_rest : rest_1_c.before args0 about1 = true := by decide +kernel
set_option maxRecDepth 65536 in
theorem w_case : (Jvm.Cond.and given_1 narrow_1).before args0 about1 = true := by decide +kernel
set_option maxRecDepth 65536 in
theorem w_consts : constsHeld consts_1 about1 := Jvm.Lit.constsHeldB_iff.mp (by decide +kernel)
theorem w_applies : (headSpec (Jvm.Cond.code x code maxLocals ret :: tables_1) room_1).applies x e0.platform about1 = true :=
  (Spec.applies_iff w_frames).mpr ⟨w_running, w_runnable, w_alone, w_named, w_hears, w_ripe, w_room, w_tables⟩
theorem atStart : AtStart classFile x code maxLocals ret World_1 tables_1 room_1 Calls_1 rest_1 Pre_1 launch0 p0 e0 about1 theMethod args0 below0 :=
  ⟨lists_1, trivial, launch0.admits_env _ _ _, launch0.least_env, fairChoices_fair.cas, fairChoices_fair.clock, w_frames, w_args, w_heap, w_applies, ⟨w_consts, trivial⟩, w_rest, w_case⟩
end start1
theorem witness_1 : WitnessClaimed_1 := ⟨start1.p0, start1.e0, start1.about1, start1.theMethod, start1.args0, start1.below0, start1.atStart⟩
end Jvm.Pilot.@@N@@
