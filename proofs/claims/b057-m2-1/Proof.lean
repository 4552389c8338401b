import JvmDerived
import JvmDerived.Pilot.@@N@@Statement
import JvmDerived.Pilot.@@N@@Code
set_option linter.unusedVariables false
set_option linter.unusedSimpArgs false
@@BLOCK:NumsL.lean.txt@@
namespace Jvm.RoadKit
open Sem ClassFile Op Lib Jvm.Stand Jvm.Free Jvm.LawKit
section New
variable {p : Program} {l : Launch} {e : Env} {R : Room} {s : State} {m : MethodId} {args : Array Value} {below : List Frame} {meth : Method} {c : Code} {T : State} {locs : List Loc} {cells slots : Nat}
theorem retI (X : Stand p l e R s m args below meth c T locs cells slots) (hx : p.tables.exec = Jvm.exec) {pc : Nat} {Ls : Array Slot} {z : Int32} {rest : List Value} (hret : meth.sig.returnType = some .int) (hd : decode c.code pc = .ok (.ireturn, 1)) {fs : List Frame}
    (hl : ∀ (f : JFrame) (acts : List Action), f.method = m → f.locked = none → f.entered = [] → (doReturn e (T.setTop f) acts (some (.int z))).1 = T.setFrames fs) : Steps p.tables e below (T.setTop (mkF m pc Ls (.int z :: rest))) (T.setFrames fs) := by
  have hm' : T.vm.method? m = some meth := X.method'
  have hn : narrow .int (.int z) = .int z := rfl
  show Steps p.tables e below (T.setTop { method := m, pc := pc, locals := Ls, stack := _ :: rest, locked := none }) _
  jvm_step X.here [X.here.top, hx, hd, hm', hret, hn]
  first | (intro acts; rw [hl _ acts rfl rfl rfl]) | rw [hl _ _ rfl rfl rfl]
  exact Steps.refl _
end New
end Jvm.RoadKit
namespace Jvm.Pilot.@@N@@
open Jvm Jvm.ClassFile Sem Op Lib Jvm.Free Jvm.Stand Jvm.LawKit Jvm.RoadKit Bundle Jvm.Pilot.@@N@@.Jvm.D
/-- a step ahead of a run that ends -/
theorem own_go {p : Program} {e : Env} {below : List Frame} {P : State → Outcome → Prop} {a b : State} (h : ∀ t, Steps p.tables e below b t → Steps p.tables e below a t) (k : ∃ s₂ o, Steps p.tables e below b s₂ ∧ P s₂ o) : ∃ s₂ o, Steps p.tables e below a s₂ ∧ P s₂ o := by
  obtain ⟨t, o, h1, h2⟩ := k; exact ⟨t, o, h t h1, h2⟩
section Steps
variable {p : Program} {l : Launch} {e : Env} {R : Room} {s : State} {m : MethodId} {args : Array Value} {below : List Frame} {meth : Method} {c : Code} {T target : State} {locs : List Loc} {cells slots : Nat} {g : JFrame} {B : ByteArray}
abbrev xaconstNull (X : Stand p l e R s m args below meth c T locs cells slots) (hx : p.tables.exec = Jvm.exec) (hby : c.code = B) (hg : g.method = m) (hd : decode B g.pc = .ok (.aconst_null, 1)) := Jvm.Free.XS.aconstNull (e := e) (target := target) X.here hx hg (hb hby hd)
abbrev xaload (X : Stand p l e R s m args below meth c T locs cells slots) (hx : p.tables.exec = Jvm.exec) (hby : c.code = B) (hg : g.method = m) {k : Nat} {v : Value} (hd : decode B g.pc = .ok (.aload k, 2)) := Jvm.Free.XS.aload (e := e) (target := target) (k := k) (v := v) X.here hx hg (hb hby hd)
abbrev xaloadN (X : Stand p l e R s m args below meth c T locs cells slots) (hx : p.tables.exec = Jvm.exec) (hby : c.code = B) (hg : g.method = m) {k : Fin 4} {v : Value} (hd : decode B g.pc = .ok (.aload_n k, 1)) := Jvm.Free.XS.aloadN (e := e) (target := target) (k := k) (v := v) X.here hx hg (hb hby hd)
abbrev xastore (X : Stand p l e R s m args below meth c T locs cells slots) (hx : p.tables.exec = Jvm.exec) (hby : c.code = B) (hg : g.method = m) {k : Nat} {x : Value} {rest : List Value} {l' : Array Slot} (hd : decode B g.pc = .ok (.astore k, 2)) := Jvm.Free.XS.astore (e := e) (target := target) (k := k) (x := x) (rest := rest) (l' := l') X.here hx hg (hb hby hd)
abbrev xastoreN (X : Stand p l e R s m args below meth c T locs cells slots) (hx : p.tables.exec = Jvm.exec) (hby : c.code = B) (hg : g.method = m) {k : Fin 4} {x : Value} {rest : List Value} {l' : Array Slot} (hd : decode B g.pc = .ok (.astore_n k, 1)) := Jvm.Free.XS.astoreN (e := e) (target := target) (k := k) (x := x) (rest := rest) (l' := l') X.here hx hg (hb hby hd)
abbrev xbipush (X : Stand p l e R s m args below meth c T locs cells slots) (hx : p.tables.exec = Jvm.exec) (hby : c.code = B) (hg : g.method = m) {i : Int} (hd : decode B g.pc = .ok (.bipush i, 2)) := Jvm.Free.XS.bipush (e := e) (target := target) (i := i) X.here hx hg (hb hby hd)
abbrev xdup (X : Stand p l e R s m args below meth c T locs cells slots) (hx : p.tables.exec = Jvm.exec) (hby : c.code = B) (hg : g.method = m) {x : Value} {rest : List Value} (hd : decode B g.pc = .ok (.dup, 1)) := Jvm.Free.XS.dup (e := e) (target := target) (x := x) (rest := rest) X.here hx hg (hb hby hd)
abbrev xgoto (X : Stand p l e R s m args below meth c T locs cells slots) (hx : p.tables.exec = Jvm.exec) (hby : c.code = B) (hg : g.method = m) {o : Int} (pc0 pc' : Nat) (hpc : g.pc = pc0) (hd : decode B g.pc = .ok (.goto o, 3)) := Jvm.Free.XS.goto (e := e) (target := target) (o := o) (pc0 := pc0) (pc' := pc') X.here hx hg hpc (hb hby hd)
abbrev xiadd (X : Stand p l e R s m args below meth c T locs cells slots) (hx : p.tables.exec = Jvm.exec) (hby : c.code = B) (hg : g.method = m) {x y : Int32} {rest : List Value} (hd : decode B g.pc = .ok (.iadd, 1)) := Jvm.Free.XS.iadd (e := e) (target := target) (x := x) (y := y) (rest := rest) X.here hx hg (hb hby hd)
abbrev xiand (X : Stand p l e R s m args below meth c T locs cells slots) (hx : p.tables.exec = Jvm.exec) (hby : c.code = B) (hg : g.method = m) {x y : Int32} {rest : List Value} (hd : decode B g.pc = .ok (.iand, 1)) := Jvm.Free.XS.iand (e := e) (target := target) (x := x) (y := y) (rest := rest) X.here hx hg (hb hby hd)
abbrev xicmpNo (X : Stand p l e R s m args below meth c T locs cells slots) (hx : p.tables.exec = Jvm.exec) (hby : c.code = B) (hg : g.method = m) {cd : ClassFile.Cond} {o : Int} {x y : Int32} {rest : List Value} (hd : decode B g.pc = .ok (.if_icmp cd o, 3)) := Jvm.Free.XS.icmpNo (e := e) (target := target) (cd := cd) (o := o) (x := x) (y := y) (rest := rest) X.here hx hg (hb hby hd)
abbrev xicmpYes (X : Stand p l e R s m args below meth c T locs cells slots) (hx : p.tables.exec = Jvm.exec) (hby : c.code = B) (hg : g.method = m) {cd : ClassFile.Cond} {x y : Int32} {rest : List Value} {o : Int} (pc0 pc' : Nat) (hpc : g.pc = pc0) (hd : decode B g.pc = .ok (.if_icmp cd o, 3)) := Jvm.Free.XS.icmpYes (e := e) (target := target) (cd := cd) (x := x) (y := y) (rest := rest) (o := o) (pc0 := pc0) (pc' := pc') X.here hx hg hpc (hb hby hd)
abbrev xiconst (X : Stand p l e R s m args below meth c T locs cells slots) (hx : p.tables.exec = Jvm.exec) (hby : c.code = B) (hg : g.method = m) {i : Int} (hd : decode B g.pc = .ok (.iconst i, 1)) := Jvm.Free.XS.iconst (e := e) (target := target) (i := i) X.here hx hg (hb hby hd)
abbrev xifNo (X : Stand p l e R s m args below meth c T locs cells slots) (hx : p.tables.exec = Jvm.exec) (hby : c.code = B) (hg : g.method = m) {cd : ClassFile.Cond} {o : Int} {x : Int32} {rest : List Value} (hd : decode B g.pc = .ok (.ifCond cd o, 3)) := Jvm.Free.XS.ifNo (e := e) (target := target) (cd := cd) (o := o) (x := x) (rest := rest) X.here hx hg (hb hby hd)
abbrev xifYes (X : Stand p l e R s m args below meth c T locs cells slots) (hx : p.tables.exec = Jvm.exec) (hby : c.code = B) (hg : g.method = m) {cd : ClassFile.Cond} {x : Int32} {rest : List Value} {o : Int} (pc0 pc' : Nat) (hpc : g.pc = pc0) (hd : decode B g.pc = .ok (.ifCond cd o, 3)) := Jvm.Free.XS.ifYes (e := e) (target := target) (cd := cd) (x := x) (rest := rest) (o := o) (pc0 := pc0) (pc' := pc') X.here hx hg hpc (hb hby hd)
abbrev xiinc (X : Stand p l e R s m args below meth c T locs cells slots) (hx : p.tables.exec = Jvm.exec) (hby : c.code = B) (hg : g.method = m) {k : Nat} {cst : Int} {x : Int32} {l' : Array Slot} (hd : decode B g.pc = .ok (.iinc k cst, 3)) := Jvm.Free.XS.iinc (e := e) (target := target) (k := k) (cst := cst) (x := x) (l' := l') X.here hx hg (hb hby hd)
abbrev xiload (X : Stand p l e R s m args below meth c T locs cells slots) (hx : p.tables.exec = Jvm.exec) (hby : c.code = B) (hg : g.method = m) {k : Nat} {v : Int32} (hd : decode B g.pc = .ok (.iload k, 2)) := Jvm.Free.XS.iload (e := e) (target := target) (k := k) (v := v) X.here hx hg (hb hby hd)
abbrev xiloadN (X : Stand p l e R s m args below meth c T locs cells slots) (hx : p.tables.exec = Jvm.exec) (hby : c.code = B) (hg : g.method = m) {k : Fin 4} {v : Int32} (hd : decode B g.pc = .ok (.iload_n k, 1)) := Jvm.Free.XS.iloadN (e := e) (target := target) (k := k) (v := v) X.here hx hg (hb hby hd)
abbrev ximul (X : Stand p l e R s m args below meth c T locs cells slots) (hx : p.tables.exec = Jvm.exec) (hby : c.code = B) (hg : g.method = m) {x y : Int32} {rest : List Value} (hd : decode B g.pc = .ok (.imul, 1)) := Jvm.Free.XS.imul (e := e) (target := target) (x := x) (y := y) (rest := rest) X.here hx hg (hb hby hd)
abbrev xirem (X : Stand p l e R s m args below meth c T locs cells slots) (hx : p.tables.exec = Jvm.exec) (hby : c.code = B) (hg : g.method = m) {x y : Int32} {rest : List Value} (hd : decode B g.pc = .ok (.irem, 1)) := Jvm.Free.XS.irem (e := e) (target := target) (x := x) (y := y) (rest := rest) X.here hx hg (hb hby hd)
abbrev xistore (X : Stand p l e R s m args below meth c T locs cells slots) (hx : p.tables.exec = Jvm.exec) (hby : c.code = B) (hg : g.method = m) {k : Nat} {x : Int32} {rest : List Value} {l' : Array Slot} (hd : decode B g.pc = .ok (.istore k, 2)) := Jvm.Free.XS.istore (e := e) (target := target) (k := k) (x := x) (rest := rest) (l' := l') X.here hx hg (hb hby hd)
abbrev xistoreN (X : Stand p l e R s m args below meth c T locs cells slots) (hx : p.tables.exec = Jvm.exec) (hby : c.code = B) (hg : g.method = m) {k : Fin 4} {x : Int32} {rest : List Value} {l' : Array Slot} (hd : decode B g.pc = .ok (.istore_n k, 1)) := Jvm.Free.XS.istoreN (e := e) (target := target) (k := k) (x := x) (rest := rest) (l' := l') X.here hx hg (hb hby hd)
abbrev xisub (X : Stand p l e R s m args below meth c T locs cells slots) (hx : p.tables.exec = Jvm.exec) (hby : c.code = B) (hg : g.method = m) {x y : Int32} {rest : List Value} (hd : decode B g.pc = .ok (.isub, 1)) := Jvm.Free.XS.isub (e := e) (target := target) (x := x) (y := y) (rest := rest) X.here hx hg (hb hby hd)
abbrev xsipush (X : Stand p l e R s m args below meth c T locs cells slots) (hx : p.tables.exec = Jvm.exec) (hby : c.code = B) (hg : g.method = m) {i : Int} (hd : decode B g.pc = .ok (.sipush i, 3)) := Jvm.Free.XS.sipush (e := e) (target := target) (i := i) X.here hx hg (hb hby hd)
end Steps
abbrev y0N : MethodName := ⟨"com/example/rollcall/rollcall/users/CaselessIndex", "asciiCaseless", "(Ljava/lang/String;)Ljava/lang/String;"⟩
abbrev y5N : MethodName := ⟨"com/example/rollcall/rollcall/users/CaselessIndexAsciiHashPinLaw", "bad", "([BIII)Z"⟩
abbrev y6N : MethodName := ⟨"com/example/rollcall/rollcall/users/CaselessIndexAsciiHashPinLaw", "put", "([C[BII)V"⟩
abbrev y8N : MethodName := ⟨"java/lang/String", "<init>", "([C)V"⟩
abbrev y9N : MethodName := ⟨"java/lang/String", "<init>", "([CIILjava/lang/Void;)V"⟩
abbrev y11N : MethodName := ⟨"java/lang/String", "checkIndex", "(II)V"⟩
theorem own_in {T : State} {h : Heap} {a : Addr} {c : Cell} (e : T.heap = h) (q : h[a]? = some c) : T.heap[a]? = some c := by rw [e]; exact q
theorem nNl {a : Addr} : a ∉ ([] : List Addr) := List.not_mem_nil
theorem nl {a n b : Nat} (h : a < n) (h2 : n ≤ b) : a ≠ b := Nat.ne_of_lt (Nat.lt_of_lt_of_le h h2)
theorem wd {Z : State} {a0 : Array Value} (hw : ∀ d ∈ tables_1, d.before a0 Z = true) (i : Nat) {d : Jvm.Cond} (h : tables_1[i]? = some d) : d.before a0 Z = true := hw d (List.mem_of_getElem? h)
theorem nv {r : Option FieldType} {t : FieldType} {v : Option Value} (h : r = some t) : r = none → v = none := fun q => by rw [h] at q; cases q
theorem retA {p : Program} {l : Launch} {e : Env} {R : Room} {s : State} {m : MethodId} {args : Array Value} {below : List Frame} {meth : Method} {c : Code} {T : State} {locs : List Loc} {cells slots : Nat} (X : Stand p l e R s m args below meth c T locs cells slots) (hx : p.tables.exec = Jvm.exec) {pc : Nat} {Ls : Array Slot} {w : Value} {t : FieldType} {rest : List Value} (hret : meth.sig.returnType = some t) (hd : decode c.code pc = .ok (.areturn, 1)) {fs : List Frame} (hl : ∀ (f : JFrame) (acts : List Action), f.method = m → f.locked = none → f.entered = [] → (doReturn e (T.setTop f) acts (some w)).1 = T.setFrames fs) (hn : narrow t w = w := by rfl) (ht : t.isReference = true := by rfl) (hw : w.isRef = true := by rfl) : Steps p.tables e below (T.setTop (mkF m pc Ls (w :: rest))) (T.setFrames fs) := retOut X hx hret hn (Or.inr (Or.inr (Or.inr (Or.inr ⟨rfl, ht, hw⟩)))) hd hl
theorem retL {p : Program} {l : Launch} {e : Env} {R : Room} {s : State} {m : MethodId} {args : Array Value} {below : List Frame} {meth : Method} {c : Code} {T : State} {locs : List Loc} {cells slots : Nat} (X : Stand p l e R s m args below meth c T locs cells slots) (hx : p.tables.exec = Jvm.exec) {pc : Nat} {Ls : Array Slot} {z : Int64} {rest : List Value} (hret : meth.sig.returnType = some .long) (hd : decode c.code pc = .ok (.lreturn, 1)) {fs : List Frame} (hl : ∀ (f : JFrame) (acts : List Action), f.method = m → f.locked = none → f.entered = [] → (doReturn e (T.setTop f) acts (some (.long z))).1 = T.setFrames fs) : Steps p.tables e below (T.setTop (mkF m pc Ls (.long z :: rest))) (T.setFrames fs) := retOut X hx hret rfl (Or.inr (Or.inl ⟨rfl, rfl, _, rfl⟩)) hd hl
theorem retD {p : Program} {l : Launch} {e : Env} {R : Room} {s : State} {m : MethodId} {args : Array Value} {below : List Frame} {meth : Method} {c : Code} {T : State} {locs : List Loc} {cells slots : Nat} (X : Stand p l e R s m args below meth c T locs cells slots) (hx : p.tables.exec = Jvm.exec) {pc : Nat} {Ls : Array Slot} {z : UInt64} {rest : List Value} (hret : meth.sig.returnType = some .double) (hd : decode c.code pc = .ok (.dreturn, 1)) {fs : List Frame} (hl : ∀ (f : JFrame) (acts : List Action), f.method = m → f.locked = none → f.entered = [] → (doReturn e (T.setTop f) acts (some (.double z))).1 = T.setFrames fs) : Steps p.tables e below (T.setTop (mkF m pc Ls (.double z :: rest))) (T.setFrames fs) := retOut X hx hret rfl (Or.inr (Or.inr (Or.inl ⟨rfl, rfl, _, rfl⟩))) hd hl
theorem own_ret {p : Program} {l : Launch} {e : Env} {R : Room} {s : State} {m : MethodId} {args : Array Value} {below : List Frame} {meth : Method} {c : Code} {T a : State} {locs : List Loc} {cells slots kc ks : Nat} {h : Heap} {Q : Option Value → Heap → List Loc → Prop} {v : Option Value} (X : Stand p l e R s m args below meth c T locs cells slots) (eT : T.heap = h) (hlk : meth.locks = false) (hv : meth.sig.returnType = none → v = none) (hst : ∀ fs, (∀ (f : JFrame) (acts : List Action), f.method = m → f.locked = none → f.entered = [] → (doReturn e (T.setTop f) acts v).1 = T.setFrames fs) → Steps p.tables e below a (T.setFrames fs)) (hQ : Q v h locs) (hcs : cells ≤ kc ∧ slots ≤ ks) : ∃ s₂ o, Steps p.tables e below a s₂ ∧ s₂.status = .running ∧ Ended s₂ below o ∧ ∃ v L, o = .returned v ∧ Q v s₂.heap L ∧ FrameEnd s o s₂ L kc ks := by
  obtain ⟨fs, hr, hrun, hended, hW, hsame⟩ := X.leave (v := v) hv hlk
  refine ⟨_, _, hst fs hr, hrun, hended, v, locs, rfl, ?_, ⟨_, rfl⟩, hW, hsame.mono hcs.1 hcs.2⟩
  show Q v T.heap locs
  rw [eT]
  exact hQ
abbrev own_M (l : Launch) (Z : State) (y : MethodName) (B : ByteArray) (ml : Nat) (rt : Option FieldType) (ws : List Jvm.Cond) (rm : Room) (as' : Array Value) (h0 : Heap) (Q : Option Value → Heap → List Loc → Prop) : Prop := MetFree l y (head1 (Jvm.Cond.code y B ml rt :: ws) rm) (fun a U => a = as' ∧ Z.Warmed39 U.vm ∧ U.heap = h0) (fun _ _ _ _ _ => True) (fun _ U o U' => ∃ v L, o = .returned v ∧ Q v U'.heap L ∧ FrameEnd U o U' L rm.cells rm.slots)
theorem own_begin {l : Launch} {Z : State} {y : MethodName} {B : ByteArray} {ml : Nat} {rt : Option FieldType} {ws : List Jvm.Cond} {rm : Room} {as' : Array Value} {h0 : Heap} {n0 : Nat} {Q : Option Value → Heap → List Loc → Prop} {f0 : JFrame} (hp : plainFor y = true) (hf : ∀ m, entryFrame m as' ml = { f0 with method := m })
    (body : ∀ p e s m below meth c s₁, BodyLoose p l y (head1 (Jvm.Cond.code y B ml rt :: ws) rm) B ml rt e s m as' below meth c s₁ → Z.Warmed39 s.vm → p.tables.exec = Jvm.exec → c.code = B → c.maxLocals = ml → s.vm.findClass y.cls = some m.cls → meth.name = y.name → Stand p l e rm s m as' below meth c s₁ [] 0 0 → s₁.heap = h0 → Fr n0 [] → ∃ s₂ o, Steps p.tables e below (s₁.setTop { f0 with method := m }) s₂ ∧ s₂.status = .running ∧ Ended s₂ below o ∧ ∃ v L, o = .returned v ∧ Q v s₂.heap L ∧ FrameEnd s o s₂ L rm.cells rm.slots) : own_M l Z y B ml rt ws rm as' h0 Q := by
  refine MetFree.of_bodySF hp hisR ?_
  intro p e s m args below meth c s₁ Bd hml hP hK
  obtain ⟨rfl, hZ, hh⟩ := hP
  have e0 : s₁.heap = h0 := by rw [← hh, Bd.state]; rfl
  obtain ⟨s₂, o, h1, h2⟩ := body p e s m below meth c s₁ Bd hZ Bd.exec Bd.bytes hml (findClass_of_methodNamed Bd.named) (name_of_methodNamed Bd.named Bd.method).1 (Stand.of_body Bd) e0 (Fr.nil n0)
  exact ⟨s₂, o, castTop (hf m) h1, h2⟩
section Calls
variable {p : Program} {l : Launch} {e : Env} {R rm : Room} {s : State} {m : MethodId} {args : Array Value} {below : List Frame} {meth : Method} {c : Code} {T : State} {locs : List Loc} {cells slots : Nat} {Z : State} {a0 as' : Array Value} {h : Heap} {P : State → Outcome → Prop} {own : String} {index : Nat} {y : MethodName} {bytes : ByteArray} {maxL ml : Nat} {ret : Option FieldType} {Q : Option Value → Heap → List Loc → Prop} {g : JFrame} {ps : List FieldType} {rt : Option FieldType}
theorem own_cs (X : Stand p l e R s m args below meth c T locs cells slots) (hx : p.tables.exec = Jvm.exec) (hZ : Z.Warmed39 s.vm) (hown : s.vm.findClass own = some m.cls) (hml : c.maxLocals = ml) (eT : T.heap = h) (wl : (Jvm.Cond.methodLink own index y).before a0 Z = true) (wst : (Jvm.Cond.static y).before a0 Z = true) (wi : (Jvm.Cond.initialized y.cls).before a0 Z = true) (wc : (Jvm.Cond.code y bytes maxL ret).before a0 Z = true)
    (hM : MetFree l y (head1 [Jvm.Cond.code y bytes maxL ret] rm) (fun a U => a = as' ∧ Z.Warmed39 U.vm ∧ U.heap = h) (fun _ _ _ _ _ => True) (fun _ U o U' => ∃ v L, o = .returned v ∧ Q v U'.heap L ∧ FrameEnd U o U' L rm.cells rm.slots)) (hpd : parseMethodDescriptor y.desc = some ⟨ps, rt⟩) (hd : decode c.code g.pc = .ok (.invokestatic index, 3)) (W : Nat) (rest : List Value) (hs : g.stack = as'.toList.reverse ++ rest) (hr : g.method = m ∧ g.locals.size = ml ∧ as'.toList.length = ps.length ∧ g.monitorRoom = 0 ∧ (rest.map fun v => v.category).sum = W) (hq : (y.cls ≠ "java/lang/invoke/MethodHandle" ∧ y.cls ≠ "java/lang/invoke/VarHandle") ∧ rm.frames + 1 ≤ R.frames ∧ W + (maxL + 11) + rm.locals ≤ R.locals ∧ cells + rm.cells ≤ R.cells ∧ slots + rm.slots ≤ R.slots)
    (k : ∀ T' L' v, Stand p l e R s m args below meth c T' (locs ++ L') (cells + rm.cells) (slots + rm.slots) → Q v T'.heap L' → ∃ s₂ o, Steps p.tables e below (T'.setTop { g with pc := g.pc + 3, stack := v.toList ++ rest }) s₂ ∧ P s₂ o) : ∃ s₂ o, Steps p.tables e below (T.setTop g) s₂ ∧ P s₂ o := by
  obtain ⟨hg, hsz, hn, hm0, hW⟩ := hr
  obtain ⟨hy, hf, hl, hc, hsl⟩ := hq
  obtain ⟨v, vm₁, ⟨B, L1, c1, n1⟩, -, X', ⟨L, hQ, e1, e2, e3⟩, st⟩ := Jvm.LawKit.callS X hx hown (mvT hZ wl) (mvT hZ wst) (mvT hZ wi) (mvT hZ wc) hy (backOf (W := W) hM hZ wc wi hf hl) hg (hsz.trans hml.symm) (argsL := as'.toList) (rest := rest) (lenOf hpd hn) hs (by rw [hm0, hW]; exact Nat.le_of_eq (Nat.zero_add W)) hd (fun _ _ => ⟨rfl, eT, hc, hsl⟩)
  dsimp only [Pt.U, Pt.locs, Pt.cells, Pt.slots] at X' hQ e1 e2 e3 st
  subst e1 e2 e3
  obtain ⟨s₂, o, h1, h2⟩ := k B L v X' hQ
  exact ⟨s₂, o, st _ h1, h2⟩
theorem own_cv {C : String} {b : Addr} {aL : List Value} (X : Stand p l e R s m args below meth c T locs cells slots) (hx : p.tables.exec = Jvm.exec) (hZ : Z.Warmed39 s.vm) (hown : s.vm.findClass own = some m.cls) (hml : c.maxLocals = ml) (eT : T.heap = h) (wl : (Jvm.Cond.methodLink own index y).before a0 Z = true) (wdc : (Jvm.Cond.declares y).before a0 Z = true) (wse : (Jvm.Cond.selects C y y).before a0 Z = true) (win : (Jvm.Cond.instanceMethod y).before a0 Z = true) (wi : (Jvm.Cond.initialized y.cls).before a0 Z = true) (wc : (Jvm.Cond.code y bytes maxL ret).before a0 Z = true) (E : Exa Z h b C)
    (hM : MetFree l y (head1 [Jvm.Cond.code y bytes maxL ret] rm) (fun a U => a = as' ∧ Z.Warmed39 U.vm ∧ U.heap = h) (fun _ _ _ _ _ => True) (fun _ U o U' => ∃ v L, o = .returned v ∧ Q v U'.heap L ∧ FrameEnd U o U' L rm.cells rm.slots)) (hpd : parseMethodDescriptor y.desc = some ⟨ps, rt⟩) (hd : decode c.code g.pc = .ok (.invokevirtual index, 3)) (W : Nat) (rest : List Value) (ha : as' = (.ref b :: aL).toArray) (hs : g.stack = aL.reverse ++ .ref b :: rest) (hr : g.method = m ∧ g.locals.size = ml ∧ aL.length = ps.length ∧ g.monitorRoom = 0 ∧ (rest.map fun v => v.category).sum = W) (hq : (y.cls ≠ "java/lang/invoke/MethodHandle" ∧ y.cls ≠ "java/lang/invoke/VarHandle") ∧ rm.frames + 1 ≤ R.frames ∧ W + (maxL + 11) + rm.locals ≤ R.locals ∧ cells + rm.cells ≤ R.cells ∧ slots + rm.slots ≤ R.slots)
    (k : ∀ T' L' v, Stand p l e R s m args below meth c T' (locs ++ L') (cells + rm.cells) (slots + rm.slots) → Q v T'.heap L' → ∃ s₂ o, Steps p.tables e below (T'.setTop { g with pc := g.pc + 3, stack := v.toList ++ rest }) s₂ ∧ P s₂ o) : ∃ s₂ o, Steps p.tables e below (T.setTop g) s₂ ∧ P s₂ o := by
  obtain ⟨hg, hsz, hn, hm0, hW⟩ := hr
  obtain ⟨hy, hf, hl, hc, hsl⟩ := hq
  subst ha
  obtain ⟨cq, kq, qa, qb, qc⟩ := isOf hZ eT E
  obtain ⟨v, vm₁, ⟨B, L1, c1, n1⟩, -, X', ⟨L, hQ, e1, e2, e3⟩, st⟩ := X.virtualBack hx (z := y) hown (mvT hZ wl) (mvT hZ wdc) (notFace_of_selects (args := #[]) (mvT hZ wse)) (mvT hZ wse) (mvT hZ win) hy (backOf (W := W) hM hZ wc wi hf hl) qa qc hg (hsz.trans hml.symm) (Steps.refl _) (argsL := aL) (rest := rest) (lenOf hpd hn) hs (by rw [hm0, hW]; exact Nat.le_of_eq (Nat.zero_add W)) hd (fun _ _ => ⟨rfl, eT, hc, hsl⟩)
  dsimp only [Pt.U, Pt.locs, Pt.cells, Pt.slots] at X' hQ e1 e2 e3 st
  subst e1 e2 e3
  obtain ⟨s₂, o, h1, h2⟩ := k B L v X' hQ
  exact ⟨s₂, o, st.trans h1, h2⟩
theorem own_ci {b : Addr} {aL : List Value} (X : Stand p l e R s m args below meth c T locs cells slots) (hx : p.tables.exec = Jvm.exec) (hZ : Z.Warmed39 s.vm) (hown : s.vm.findClass own = some m.cls) (hml : c.maxLocals = ml) (eT : T.heap = h) (wl : (Jvm.Cond.methodLink own index y).before a0 Z = true) (win : (Jvm.Cond.instanceMethod y).before a0 Z = true) (wi : (Jvm.Cond.initialized y.cls).before a0 Z = true) (wc : (Jvm.Cond.code y bytes maxL none).before a0 Z = true)
    (hM : MetFree l y (head1 [Jvm.Cond.code y bytes maxL none] rm) (fun a U => a = as' ∧ Z.Warmed39 U.vm ∧ U.heap = h) (fun _ _ _ _ _ => True) (fun _ U o U' => ∃ v L, o = .returned v ∧ Q v U'.heap L ∧ FrameEnd U o U' L rm.cells rm.slots)) (hpd : parseMethodDescriptor y.desc = some ⟨ps, rt⟩) (hd : decode c.code g.pc = .ok (.invokespecial index, 3)) (W : Nat) (rest : List Value) (ha : as' = (.ref b :: aL).toArray) (hs : g.stack = aL.reverse ++ .ref b :: rest) (hr : g.method = m ∧ g.locals.size = ml ∧ aL.length = ps.length ∧ g.monitorRoom = 0 ∧ (rest.map fun v => v.category).sum = W) (hq : (y.cls ≠ "java/lang/invoke/MethodHandle" ∧ y.cls ≠ "java/lang/invoke/VarHandle") ∧ rm.frames + 1 ≤ R.frames ∧ W + (maxL + 11) + rm.locals ≤ R.locals ∧ cells + rm.cells ≤ R.cells ∧ slots + rm.slots ≤ R.slots) (hy1 : y.name = "<init>")
    (k : ∀ T' L' v, Stand p l e R s m args below meth c T' (locs ++ L') (cells + rm.cells) (slots + rm.slots) → Q v T'.heap L' → ∃ s₂ o, Steps p.tables e below (T'.setTop { g with pc := g.pc + 3, stack := v.toList ++ rest }) s₂ ∧ P s₂ o) : ∃ s₂ o, Steps p.tables e below (T.setTop g) s₂ ∧ P s₂ o := by
  obtain ⟨hg, hsz, hn, hm0, hW⟩ := hr
  obtain ⟨hy, hf, hl, hc, hsl⟩ := hq
  subst ha
  obtain ⟨v, vm₁, ⟨B, L1, c1, n1⟩, -, X', ⟨L, hQ, e1, e2, e3⟩, st⟩ := X.specialBack hx hy1 hown (mvT hZ wl) (mvT hZ win) (mvT hZ wc) hy (backOf (W := W) hM hZ wc wi hf hl) hg (hsz.trans hml.symm) (Steps.refl _) (argsL := aL) (rest := rest) (lenOf hpd hn) hs (by rw [hm0, hW]; exact Nat.le_of_eq (Nat.zero_add W)) hd (fun _ _ => ⟨rfl, eT, hc, hsl⟩)
  dsimp only [Pt.U, Pt.locs, Pt.cells, Pt.slots] at X' hQ e1 e2 e3 st
  subst e1 e2 e3
  obtain ⟨s₂, o, h1, h2⟩ := k B L v X' hQ
  exact ⟨s₂, o, st.trans h1, h2⟩
end Calls
theorem own_rem (x y : Int32) : (x - (x / y) * y).toInt = x.toInt.tmod y.toInt := by
  have a := (x % y).toInt_lt; have b := (x % y).le_toInt
  rw [Int32.toInt_mod] at a b
  rw [Int32.toInt_sub, Int32.toInt_mul, Int32.toInt_div, ← Int.sub_bmod_bmod, ← Int.bmod_mul_bmod]
  simp only [Int.bmod_bmod, Int.bmod_mul_bmod, Int.sub_bmod_bmod]
  have h : x.toInt - x.toInt.tdiv y.toInt * y.toInt = x.toInt.tmod y.toInt := by
    have := Int.mul_tdiv_add_tmod x.toInt y.toInt
    rw [Int.mul_comm]; omega
  rw [h]
  exact Int.bmod_eq_of_le (by omega) (by omega)
/-- x % k for 0 <= x and a small k > 0 -/
theorem own_rem_pos {x y : Int32} (hx : 0 ≤ x.toInt) : (x - (x / y) * y).toInt = x.toInt % y.toInt := by rw [own_rem, Int.tmod_eq_emod_of_nonneg hx]
theorem own_mask31 (x : Int32) : 0 ≤ (x &&& (2147483647 : Int32)).toInt := by
  have e1 : (x &&& (2147483647 : Int32)).toInt = x.toInt % 2 ^ 31 := Jvm.Kit.i32_mask x 2147483647 (k := 31) (by decide) (by decide)
  rw [e1]; exact Int.emod_nonneg _ (by decide)
def own_b (x : Int32) : Int32 := nar .byte (x.toInt8.toInt32)
theorem own_u16 (u : UInt16) : (u.toUInt32.toInt32).toInt = u.toNat := by
  have hu := u.toNat_lt
  have hm : (u.toUInt32.toInt32).toBitVec.toNat = u.toNat := by
    show u.toUInt32.toNat = _
    simp
  show (u.toUInt32.toInt32).toBitVec.toInt = _
  rw [BitVec.toInt_eq_toNat_cond, hm, if_pos (by omega)]
theorem own_bnd {x : Int32} (l : ¬ x < (0 : Int32)) (u : ¬ (255 : Int32) < x) : 0 ≤ x.toInt ∧ x.toInt ≤ 255 := by
  have e1 : (0 : Int32).toInt = 0 := by decide
  have e2 : (255 : Int32).toInt = 255 := by decide
  rw [Int32.lt_iff_toInt_lt] at l u
  omega
theorem own_bnd' {x : Int32} (h : 0 ≤ x.toInt ∧ x.toInt ≤ 255) : ¬ x < (0 : Int32) ∧ ¬ (255 : Int32) < x := by
  have e1 : (0 : Int32).toInt = 0 := by decide
  have e2 : (255 : Int32).toInt = 255 := by decide
  rw [Int32.lt_iff_toInt_lt, Int32.lt_iff_toInt_lt]
  omega
theorem own_narc {x : Int32} (l : ¬ x < (0 : Int32)) (u : ¬ (255 : Int32) < x) : nar .char x = x := by
  have hb := own_bnd l u
  have hx : x.toInt = if 2 * x.toBitVec.toNat < 2 ^ 32 then (x.toBitVec.toNat : Int) else (x.toBitVec.toNat : Int) - ((2 ^ 32 : Nat) : Int) := BitVec.toInt_eq_toNat_cond x.toBitVec
  have hlt : x.toBitVec.toNat < 2 ^ 32 := x.toBitVec.isLt
  have hn : x.toInt = (x.toBitVec.toNat : Int) := by
    rw [hx]
    split
    · rfl
    · rename_i q
      rw [if_neg q] at hx
      omega
  rw [← Int32.toInt_inj]
  show (x.toUInt32.toUInt16.toUInt32.toInt32).toInt = _
  rw [own_u16]
  have h2 : x.toUInt32.toUInt16.toNat = x.toBitVec.toNat % 2 ^ 16 := by
    rw [UInt32.toNat_toUInt16]
    rfl
  rw [h2, hn]
  omega
theorem own_i8 (x : Int32) : (x.toInt8.toInt32).toInt = x.toInt.bmod 256 := by
  rw [Int8.toInt_toInt32, Int32.toInt_toInt8]
theorem own_bmod (a : Int) : (a.bmod 256).bmod 256 = a.bmod 256 ∧ a.bmod 256 % 256 = a % 256 ∧ a.bmod 256 ≤ 127 := by
  simp only [Int.bmod_def]
  split <;> (refine ⟨?_, ?_, ?_⟩) <;> (try split) <;> omega
theorem own_b255 {x : Int32} (l : ¬ x < (0 : Int32)) (u : ¬ (255 : Int32) < x) : (own_b x &&& (255 : Int32)) = x := by
  have hb := own_bnd l u
  have e1 : (own_b x &&& (255 : Int32)).toInt = (own_b x).toInt % 2 ^ 8 := Jvm.Kit.i32_mask (own_b x) 255 (k := 8) (by decide) (by decide)
  have e2 : (own_b x).toInt = x.toInt.bmod 256 := by
    show ((x.toInt8.toInt32).toInt8.toInt32).toInt = _
    rw [own_i8, own_i8]
    exact (own_bmod _).1
  have e3 := (own_bmod x.toInt).2.1
  rw [← Int32.toInt_inj, e1, e2]
  omega
def own_ch (w : Int32) : Int32 := nar .char ((w &&& (255 : Int32)).toUInt32.toUInt16.toUInt32.toInt32)
theorem own_infl {x : Int32} (l : ¬ x < (0 : Int32)) (u : ¬ (255 : Int32) < x) : nar .char ((own_b x &&& (255 : Int32)).toUInt32.toUInt16.toUInt32.toInt32) = x := by
  rw [own_b255 l u]
  have h : x.toUInt32.toUInt16.toUInt32.toInt32 = x := own_narc l u
  rw [h]
  exact h
theorem own_chb {x : Int32} (l : ¬ x < (0 : Int32)) (u : ¬ (255 : Int32) < x) : nar .char (own_ch (own_b x)) = x := by
  rw [show own_ch (own_b x) = x from own_infl l u]
  exact own_narc l u
theorem own_u255 {x : Int32} (u : ¬ (127 : Int32) < x) : ¬ (255 : Int32) < x := by
  have e1 : (127 : Int32).toInt = 127 := by decide
  have e2 : (255 : Int32).toInt = 255 := by decide
  rw [Int32.lt_iff_toInt_lt] at u ⊢
  omega
theorem own_s128 {x : Int32} (u : ¬ (127 : Int32) < x) : x < (128 : Int32) := by
  have e1 : (127 : Int32).toInt = 127 := by decide
  have e2 : (128 : Int32).toInt = 128 := by decide
  rw [Int32.lt_iff_toInt_lt] at u ⊢
  omega
theorem own_by (x : Int32) : ¬ (127 : Int32) < nar .byte x := by
  have e1 : (127 : Int32).toInt = 127 := by decide
  have h : (nar .byte x).toInt = x.toInt.bmod 256 := own_i8 x
  have h2 := (own_bmod x.toInt).2.2
  rw [Int32.lt_iff_toInt_lt, h, e1]
  omega
def own_up (x : Int32) : Prop := ¬ x < (65 : Int32) ∧ ¬ (90 : Int32) < x
def own_lo (x : Int32) : Int32 := if x < (65 : Int32) then x else if (90 : Int32) < x then x else x + (32 : Int32)
theorem own_lo1 {x : Int32} (h : x < (65 : Int32)) : own_lo x = x := by rw [own_lo, if_pos h]
theorem own_lo2 {x : Int32} (h : ¬ x < (65 : Int32)) (h2 : (90 : Int32) < x) : own_lo x = x := by rw [own_lo, if_neg h, if_pos h2]
theorem own_lo3 {x : Int32} (h : ¬ x < (65 : Int32)) (h2 : ¬ (90 : Int32) < x) : own_lo x = (x + (32 : Int32)) := by rw [own_lo, if_neg h, if_neg h2]
theorem own_lon {x : Int32} (h : ¬ own_up x) : own_lo x = x := by
  by_cases h1 : x < (65 : Int32)
  · exact own_lo1 h1
  · by_cases h2 : (90 : Int32) < x
    · exact own_lo2 h1 h2
    · exact absurd ⟨h1, h2⟩ h
theorem own_upb {x : Int32} (h : own_up x) : (x + (32 : Int32)).toInt = x.toInt + 32 ∧ 65 ≤ x.toInt ∧ x.toInt ≤ 90 := by
  obtain ⟨h1, h2⟩ := h
  have e1 : (65 : Int32).toInt = 65 := by decide
  have e2 : (90 : Int32).toInt = 90 := by decide
  have e3 : (32 : Int32).toInt = 32 := by decide
  rw [Int32.lt_iff_toInt_lt] at h1 h2
  refine ⟨?_, by omega, by omega⟩
  rw [Int32.toInt_add, e3]
  exact Int.bmod_eq_of_le (by omega) (by omega)
theorem own_lor {x : Int32} (l : ¬ x < (0 : Int32)) (u : ¬ (127 : Int32) < x) : ¬ own_lo x < (0 : Int32) ∧ ¬ (255 : Int32) < own_lo x := by
  by_cases h : own_up x
  · rw [own_lo3 h.1 h.2]
    have q := own_upb h
    exact own_bnd' (by omega)
  · rw [own_lon h]
    exact ⟨l, own_u255 u⟩
theorem own_los {x : Int32} (h : own_up x) : nar .char ((x + (32 : Int32)).toUInt32.toUInt16.toUInt32.toInt32) = own_lo x := by
  have q := own_upb h
  have b := own_bnd' (x := x + (32 : Int32)) (by omega)
  have e : (x + (32 : Int32)).toUInt32.toUInt16.toUInt32.toInt32 = x + (32 : Int32) := own_narc b.1 b.2
  rw [own_lo3 h.1 h.2, e]
  exact e
def own_c (y : Int32) : Int32 := if y < (0 : Int32) then (0 : Int32) else nar .char (y.toUInt32.toUInt16.toUInt32.toInt32)
theorem own_cp {y : Int32} (h : y < (0 : Int32)) : own_c y = (0 : Int32) := by rw [own_c, if_pos h]
theorem own_cn {y : Int32} (h : ¬ y < (0 : Int32)) : own_c y = nar .char (y.toUInt32.toUInt16.toUInt32.toInt32) := by rw [own_c, if_neg h]
theorem own_cy {y : Int32} (h : ¬ y < (0 : Int32)) (u : ¬ (127 : Int32) < y) : own_c y = y := by
  have e : y.toUInt32.toUInt16.toUInt32.toInt32 = y := own_narc h (own_u255 u)
  rw [own_cn h, e]
  exact e
theorem own_cr {y : Int32} (u : ¬ (127 : Int32) < y) : ¬ own_c y < (0 : Int32) ∧ ¬ (127 : Int32) < own_c y := by
  by_cases h : y < (0 : Int32)
  · rw [own_cp h]
    decide
  · rw [own_cy h u]
    exact ⟨h, u⟩
def own_bad (y : Int32) : Int32 := if y < (0 : Int32) then (1 : Int32) else (0 : Int32)
theorem own_badp {y : Int32} (h : y < (0 : Int32)) : ¬ own_bad y = (0 : Int32) := by rw [own_bad, if_pos h]; decide
theorem own_badn {y : Int32} (h : ¬ y < (0 : Int32)) : own_bad y = (0 : Int32) := by rw [own_bad, if_neg h]
theorem own_zadd (x : Int32) : (0 : Int32) + x = x := Int32.zero_add x
theorem own_fldSame {Z : State} {h : Heap} {a : Addr} {C n d : String} {v w : Value} (F : Fld Z h a C n d v) (G : Fld Z h a C n d w) : v = w := by
  obtain ⟨c1, f1, k1, i1, g1, p1, p2, -, -, -, -, p7⟩ := F
  obtain ⟨c2, f2, k2, i2, g2, q1, q2, -, -, -, -, q7⟩ := G
  cases p1.symm.trans q1
  cases p2.symm.trans q2
  exact Option.some.inj (p7.symm.trans q7)
theorem own_neNull {Z : State} {h : Heap} {a b c : Addr} {C n d : String} (F : Fld Z h b C n d .null) (G : Fld Z h a C n d (.ref c)) : a ≠ b := fun e => by
  subst e
  cases own_fldSame F G
theorem own_safeNull {Z : State} {EL : List (String × Nat)} {vm : Vm} {h : Heap} {x : Addr} (hal : Z.vm.Alike vm) (E : Exa Z h x "java/lang/String") (N : Fld Z h x "java/lang/String" "value" "[B" .null) : Safe Z EL vm h x := fun B => by
  obtain ⟨cell, k, e1, e2, e3, -, -⟩ := E
  have nm : ∀ {n : String} {c : ClassId}, vm.findClass n = some c → c = cell.cls → n = "java/lang/String" := fun {n c} f e => by
    subst e
    rw [hal.findClass] at f
    obtain ⟨k1, q1, q2⟩ := Vm.findClass_spec f
    obtain ⟨k2, q3, q4⟩ := Vm.findClass_spec e2
    cases q1.symm.trans q3
    exact q2.symm.trans q4
  obtain ⟨p, -, u, a, -, q, -, F, rfl | rfl⟩ := B
  · obtain ⟨cS, ⟨⟨s1, -, -, ⟨cv, kv, iv, s4, -⟩, -, -, -, s8, -⟩, -, -⟩, -⟩ := F
    obtain ⟨c1, f1, k1, i1, g1, p1, p2, -, -, -, -, p7⟩ := N
    cases (show h[q.sa]? = some q.sC from s1).symm.trans p1
    obtain ⟨kv', z4⟩ := ff_back (U := Wst Z vm h) hal s4
    cases z4.symm.trans p2
    cases p7.symm.trans s8
  · cases (show h[q.sd]? = some q.SA from F.hd).symm.trans e1
    obtain ⟨cS, -, -, f, -⟩ := F
    exact absurd (nm f rfl) (by decide)
theorem own_staKeepV {Z : State} {h h' : Heap} {C n d : String} {w : Value} {a : Addr} {k : ClassId} {ty : FieldType} {z : Int32} {vs : List Value} {dv : Value} (F : Sta Z h C n d w) (A : Arv Z h a k ty z vs dv) (Kp : Keep h h' [a]) : Sta Z h' C n d w := by
  obtain ⟨cf, i, k, f, st, cell, h1, h2, h3, h4, h5, h6, h7⟩ := F
  refine ⟨cf, i, k, f, st, cell, h1, h2, h3, h4, Kp.2.1 st cell h5 ?_, h6, h7⟩
  intro q
  cases List.mem_singleton.mp q
  obtain ⟨c2, ⟨e1, ⟨e2, -⟩, -⟩, -⟩ := A
  cases h5.symm.trans e1
  generalize cell.vm = V at h6 e2
  cases V <;> first | exact absurd rfl (e2 _) | cases h6
theorem own_newB {p : Program} {l : Launch} {e : Env} {R : Room} {s : State} {m : MethodId} {args : Array Value} {below : List Frame} {meth : Method} {c : Code} {T : State} {locs : List Loc} {cells slots : Nat} {Z : State} {a0 : Array Value} {h : Heap}
    (X : Stand p l e R s m args below meth c T locs cells slots) (hx : p.tables.exec = Jvm.exec) (hZ : Z.Warmed39 s.vm) (w : (Cond.arrayClass .byte).before a0 Z = true) (eT : T.heap = h) {g : JFrame} (hg : g.method = m) (hd : decode c.code g.pc = .ok (.newarray .byte, 2)) {n : Int32} {rest : List Value} (hs : g.stack = .int n :: rest)
    (hn : ¬ n < 0) {cap : Nat} (hcap : n.toNatClampNeg ≤ cap) (hb : cap * 8 ≤ 536870912) (hc : cells + 1 ≤ R.cells) (hl : slots + cap ≤ R.slots) :
    ∃ T' h' cA, Stand p l e R s m args below meth c T' locs (cells + 1) (slots + cap) ∧ T'.heap = h' ∧ Ext h h' ∧ Arr Z h' h.size (newA cA .byte n) .byte ∧ Z.vm.findClass "[B" = some cA ∧
      ∀ target, Steps p.tables e below (T'.setTop { g with pc := g.pc + 2, stack := .ref h.size :: rest }) target → Steps p.tables e below (T.setTop g) target := by
  have small : n.toNatClampNeg * componentBytes (newarray.typeOf .byte) ≤ 536870912 := by
    have one : componentBytes (newarray.typeOf .byte) = 1 := by decide
    rw [one]
    omega
  obtain ⟨cA, kA, comp, nameA, clsA, kindA, Y, go⟩ := X.newarrayPrim hx (atype := .byte) (mvA hZ w) hg hd hs hn small hc (by omega)
  have nameZ : Z.vm.findClass "[B" = some cA := (hZ.alike.findClass "[B" none).symm.trans nameA
  have arr : Z.isArrayOf (newA cA .byte n) .byte := by
    obtain ⟨kZ, a1, -⟩ := Vm.findClass_spec nameZ
    obtain ⟨kS, a2, a3⟩ := hZ.alike.2.2 cA kZ a1
    have same : kA = kS := Option.some.inj (clsA.symm.trans a2)
    rw [same, a3] at kindA
    refine ⟨?_, kZ, a1, comp, kindA⟩
    intro k q
    cases q
  have grown : Ext T.heap (T.heap.push (newA cA .byte n)) := ext_of fun a ha => by rw [Array.getElem?_push, if_neg (Nat.ne_of_lt ha)]
  have there : (T.heap.push (newA cA .byte n))[T.heap.size]? = some (newA cA .byte n) := by simp
  subst eT
  exact ⟨_, _, cA, Y.more (Nat.le_refl _) (by omega), rfl, grown, ⟨there, arr, (by intro q; cases q)⟩, nameZ, go⟩
theorem own_exaB {Z : State} {h : Heap} {a : Addr} {k : ClassId} {z : Int32} {vs : List Value} {dv : Value} (A : Arv Z h a k .byte z vs dv) (f : Z.vm.findClass "[B" = some k) : Exa Z h a "[B" := by
  obtain ⟨c, ⟨h1, ⟨h2, K, hk, comp, hkind⟩, -⟩, rfl, -⟩ := A
  refine ⟨c, K, h1, f, hk, ?_, fun q => by rw [hkind] at q; cases q⟩
  generalize c.vm = V at h2
  cases V <;> first | rfl | exact absurd rfl (h2 _)
def own_bd (i f n y : Int32) : Int32 := if i < f then (0 : Int32) else if i < (f + n) then (if y < (0 : Int32) then (1 : Int32) else (0 : Int32)) else (0 : Int32)
theorem own_bdz {i f n y : Int32} (h1 : ¬ i < f) (h2 : i < (f + n)) (h : own_bd i f n y = (0 : Int32)) : ¬ y < (0 : Int32) := fun q => by
  rw [own_bd, if_neg h1, if_pos h2, if_pos q] at h
  exact absurd h (by decide)
theorem own_bdn {i f n y : Int32} (h : ¬ own_bd i f n y = (0 : Int32)) : ¬ i < f ∧ i < (f + n) ∧ y < (0 : Int32) := by
  by_cases h1 : i < f
  · exact absurd (by rw [own_bd, if_pos h1]) h
  · by_cases h2 : i < (f + n)
    · by_cases h3 : y < (0 : Int32)
      · exact ⟨h1, h2, h3⟩
      · exact absurd (by rw [own_bd, if_neg h1, if_pos h2, if_neg h3]) h
    · exact absurd (by rw [own_bd, if_neg h1, if_neg h2]) h
theorem own_modm1 (x : Int32) : ((x &&& (255 : Int32)) - ((x &&& (255 : Int32)) / (1 : Int32)) * (1 : Int32)) = (0 : Int32) := by
  have e1 : (x &&& (255 : Int32)).toInt = x.toInt % 2 ^ 8 := Jvm.Kit.i32_mask x 255 (k := 8) (by decide) (by decide)
  have h1 : 0 ≤ (x &&& (255 : Int32)).toInt := by rw [e1]; exact Int.emod_nonneg _ (by decide)
  have e0 : (1 : Int32).toInt = 1 := rfl
  have h2 := own_rem_pos (y := (1 : Int32)) h1
  rw [e0] at h2
  have l0 : (0 : Int32).toInt = 0 := rfl
  simp only [← Int32.toInt_inj, h2, l0]
  omega
theorem own_modm2 (x : Int32) : ((x &&& (255 : Int32)) - ((x &&& (255 : Int32)) / (2 : Int32)) * (2 : Int32)) = (0 : Int32) ∨ ((x &&& (255 : Int32)) - ((x &&& (255 : Int32)) / (2 : Int32)) * (2 : Int32)) = (1 : Int32) := by
  have e1 : (x &&& (255 : Int32)).toInt = x.toInt % 2 ^ 8 := Jvm.Kit.i32_mask x 255 (k := 8) (by decide) (by decide)
  have h1 : 0 ≤ (x &&& (255 : Int32)).toInt := by rw [e1]; exact Int.emod_nonneg _ (by decide)
  have e0 : (2 : Int32).toInt = 2 := rfl
  have h2 := own_rem_pos (y := (2 : Int32)) h1
  rw [e0] at h2
  have l0 : (0 : Int32).toInt = 0 := rfl
  have l1 : (1 : Int32).toInt = 1 := rfl
  simp only [← Int32.toInt_inj, h2, l0, l1]
  omega
theorem own_modm3 (x : Int32) : ((x &&& (255 : Int32)) - ((x &&& (255 : Int32)) / (3 : Int32)) * (3 : Int32)) = (0 : Int32) ∨ ((x &&& (255 : Int32)) - ((x &&& (255 : Int32)) / (3 : Int32)) * (3 : Int32)) = (1 : Int32) ∨ ((x &&& (255 : Int32)) - ((x &&& (255 : Int32)) / (3 : Int32)) * (3 : Int32)) = (2 : Int32) := by
  have e1 : (x &&& (255 : Int32)).toInt = x.toInt % 2 ^ 8 := Jvm.Kit.i32_mask x 255 (k := 8) (by decide) (by decide)
  have h1 : 0 ≤ (x &&& (255 : Int32)).toInt := by rw [e1]; exact Int.emod_nonneg _ (by decide)
  have e0 : (3 : Int32).toInt = 3 := rfl
  have h2 := own_rem_pos (y := (3 : Int32)) h1
  rw [e0] at h2
  have l0 : (0 : Int32).toInt = 0 := rfl
  have l1 : (1 : Int32).toInt = 1 := rfl
  have l2 : (2 : Int32).toInt = 2 := rfl
  simp only [← Int32.toInt_inj, h2, l0, l1, l2]
  omega
theorem own_modm4 (x : Int32) : ((x &&& (255 : Int32)) - ((x &&& (255 : Int32)) / (4 : Int32)) * (4 : Int32)) = (0 : Int32) ∨ ((x &&& (255 : Int32)) - ((x &&& (255 : Int32)) / (4 : Int32)) * (4 : Int32)) = (1 : Int32) ∨ ((x &&& (255 : Int32)) - ((x &&& (255 : Int32)) / (4 : Int32)) * (4 : Int32)) = (2 : Int32) ∨ ((x &&& (255 : Int32)) - ((x &&& (255 : Int32)) / (4 : Int32)) * (4 : Int32)) = (3 : Int32) := by
  have e1 : (x &&& (255 : Int32)).toInt = x.toInt % 2 ^ 8 := Jvm.Kit.i32_mask x 255 (k := 8) (by decide) (by decide)
  have h1 : 0 ≤ (x &&& (255 : Int32)).toInt := by rw [e1]; exact Int.emod_nonneg _ (by decide)
  have e0 : (4 : Int32).toInt = 4 := rfl
  have h2 := own_rem_pos (y := (4 : Int32)) h1
  rw [e0] at h2
  have l0 : (0 : Int32).toInt = 0 := rfl
  have l1 : (1 : Int32).toInt = 1 := rfl
  have l2 : (2 : Int32).toInt = 2 := rfl
  have l3 : (3 : Int32).toInt = 3 := rfl
  simp only [← Int32.toInt_inj, h2, l0, l1, l2, l3]
  omega
theorem own_modm5 (x : Int32) : ((x &&& (255 : Int32)) - ((x &&& (255 : Int32)) / (5 : Int32)) * (5 : Int32)) = (0 : Int32) ∨ ((x &&& (255 : Int32)) - ((x &&& (255 : Int32)) / (5 : Int32)) * (5 : Int32)) = (1 : Int32) ∨ ((x &&& (255 : Int32)) - ((x &&& (255 : Int32)) / (5 : Int32)) * (5 : Int32)) = (2 : Int32) ∨ ((x &&& (255 : Int32)) - ((x &&& (255 : Int32)) / (5 : Int32)) * (5 : Int32)) = (3 : Int32) ∨ ((x &&& (255 : Int32)) - ((x &&& (255 : Int32)) / (5 : Int32)) * (5 : Int32)) = (4 : Int32) := by
  have e1 : (x &&& (255 : Int32)).toInt = x.toInt % 2 ^ 8 := Jvm.Kit.i32_mask x 255 (k := 8) (by decide) (by decide)
  have h1 : 0 ≤ (x &&& (255 : Int32)).toInt := by rw [e1]; exact Int.emod_nonneg _ (by decide)
  have e0 : (5 : Int32).toInt = 5 := rfl
  have h2 := own_rem_pos (y := (5 : Int32)) h1
  rw [e0] at h2
  have l0 : (0 : Int32).toInt = 0 := rfl
  have l1 : (1 : Int32).toInt = 1 := rfl
  have l2 : (2 : Int32).toInt = 2 := rfl
  have l3 : (3 : Int32).toInt = 3 := rfl
  have l4 : (4 : Int32).toInt = 4 := rfl
  simp only [← Int32.toInt_inj, h2, l0, l1, l2, l3, l4]
  omega
theorem own_modm6 (x : Int32) : ((x &&& (255 : Int32)) - ((x &&& (255 : Int32)) / (6 : Int32)) * (6 : Int32)) = (0 : Int32) ∨ ((x &&& (255 : Int32)) - ((x &&& (255 : Int32)) / (6 : Int32)) * (6 : Int32)) = (1 : Int32) ∨ ((x &&& (255 : Int32)) - ((x &&& (255 : Int32)) / (6 : Int32)) * (6 : Int32)) = (2 : Int32) ∨ ((x &&& (255 : Int32)) - ((x &&& (255 : Int32)) / (6 : Int32)) * (6 : Int32)) = (3 : Int32) ∨ ((x &&& (255 : Int32)) - ((x &&& (255 : Int32)) / (6 : Int32)) * (6 : Int32)) = (4 : Int32) ∨ ((x &&& (255 : Int32)) - ((x &&& (255 : Int32)) / (6 : Int32)) * (6 : Int32)) = (5 : Int32) := by
  have e1 : (x &&& (255 : Int32)).toInt = x.toInt % 2 ^ 8 := Jvm.Kit.i32_mask x 255 (k := 8) (by decide) (by decide)
  have h1 : 0 ≤ (x &&& (255 : Int32)).toInt := by rw [e1]; exact Int.emod_nonneg _ (by decide)
  have e0 : (6 : Int32).toInt = 6 := rfl
  have h2 := own_rem_pos (y := (6 : Int32)) h1
  rw [e0] at h2
  have l0 : (0 : Int32).toInt = 0 := rfl
  have l1 : (1 : Int32).toInt = 1 := rfl
  have l2 : (2 : Int32).toInt = 2 := rfl
  have l3 : (3 : Int32).toInt = 3 := rfl
  have l4 : (4 : Int32).toInt = 4 := rfl
  have l5 : (5 : Int32).toInt = 5 := rfl
  simp only [← Int32.toInt_inj, h2, l0, l1, l2, l3, l4, l5]
  omega
theorem own_modm7 (x : Int32) : ((x &&& (255 : Int32)) - ((x &&& (255 : Int32)) / (7 : Int32)) * (7 : Int32)) = (0 : Int32) ∨ ((x &&& (255 : Int32)) - ((x &&& (255 : Int32)) / (7 : Int32)) * (7 : Int32)) = (1 : Int32) ∨ ((x &&& (255 : Int32)) - ((x &&& (255 : Int32)) / (7 : Int32)) * (7 : Int32)) = (2 : Int32) ∨ ((x &&& (255 : Int32)) - ((x &&& (255 : Int32)) / (7 : Int32)) * (7 : Int32)) = (3 : Int32) ∨ ((x &&& (255 : Int32)) - ((x &&& (255 : Int32)) / (7 : Int32)) * (7 : Int32)) = (4 : Int32) ∨ ((x &&& (255 : Int32)) - ((x &&& (255 : Int32)) / (7 : Int32)) * (7 : Int32)) = (5 : Int32) ∨ ((x &&& (255 : Int32)) - ((x &&& (255 : Int32)) / (7 : Int32)) * (7 : Int32)) = (6 : Int32) := by
  have e1 : (x &&& (255 : Int32)).toInt = x.toInt % 2 ^ 8 := Jvm.Kit.i32_mask x 255 (k := 8) (by decide) (by decide)
  have h1 : 0 ≤ (x &&& (255 : Int32)).toInt := by rw [e1]; exact Int.emod_nonneg _ (by decide)
  have e0 : (7 : Int32).toInt = 7 := rfl
  have h2 := own_rem_pos (y := (7 : Int32)) h1
  rw [e0] at h2
  have l0 : (0 : Int32).toInt = 0 := rfl
  have l1 : (1 : Int32).toInt = 1 := rfl
  have l2 : (2 : Int32).toInt = 2 := rfl
  have l3 : (3 : Int32).toInt = 3 := rfl
  have l4 : (4 : Int32).toInt = 4 := rfl
  have l5 : (5 : Int32).toInt = 5 := rfl
  have l6 : (6 : Int32).toInt = 6 := rfl
  simp only [← Int32.toInt_inj, h2, l0, l1, l2, l3, l4, l5, l6]
  omega
theorem own_shr0 (z : Int32) : (z >>> ((0 : Int32) &&& 31)) = z := by
  have h : ((0 : Int32) &&& 31) = 0 := by decide
  rw [h]
  simp
theorem own_cf0 (z : Int32) : nar .byte (((((z - z).toUInt32 >>> ((31 : Int32) &&& 31).toUInt32).toInt32).toInt8.toInt32)) = (0 : Int32) := by
  have h : z - z = 0 := Int32.sub_self z
  rw [h]
  decide
theorem own_capN {z : Int32} (N : Nat) (J : Int32) (e : J.toInt = N) (h : ¬ J < z) : z.toNatClampNeg ≤ N := by
  rw [Int32.lt_iff_toInt_lt] at h
  simp only [Int32.toNatClampNeg]
  omega
theorem own_ltn {z j : Int32} (h : ¬ j < z) : z.toNatClampNeg ≤ j.toNatClampNeg := by
  rw [Int32.lt_iff_toInt_lt] at h
  simp only [Int32.toNatClampNeg]
  omega
theorem own_tk {α : Type} {l l' : List α} {i k : Nat} {d : α} (q : l'.take i = l.take i) (h : k < i) : l'.getD k d = l.getD k d := by
  have e : (l'.take i).getD k d = (l.take i).getD k d := by rw [q]
  simpa [List.getD_eq_getElem?_getD, List.getElem?_take, h] using e
theorem own_cut {Z : State} {h : Heap} {a : Addr} {k : ClassId} {ty : FieldType} {z j : Int32} {vs vs' : List Value} {dv : Value} (F : Arv Z h a k ty z vs dv) (i : Nat) (hj : j.toNatClampNeg = i) (hz : ¬ j < z) (q : vs'.take i = vs.take i) : Arv Z h a k ty z vs' dv := by
  obtain ⟨c, A, r1, r2, r3, H, G⟩ := F
  have e : ∀ x, x < c.slots.size → vs'.getD x dv = vs.getD x dv := fun x hx => own_tk q (by have := own_ltn hz; rw [r2] at hx; omega)
  exact ⟨c, A, r1, r2, r3, fun x hx => by rw [e x hx]; exact H x hx, fun x hx => by rw [e x hx]; exact G x hx⟩
theorem own_pz {z : Int32} (h : (0 : Int32) < z) : ¬ z = (0 : Int32) := fun e => by rw [e] at h; exact absurd h (by decide)
theorem own_e0 {z : Int32} (e : z = (0 : Int32)) : ¬ (0 : Int32) < z := by rw [e]; decide
theorem own_e1 {z : Int32} (e : z = (1 : Int32)) : (0 : Int32) < z ∧ ¬ (1 : Int32) < z := by rw [e]; decide
theorem own_miss {x : Int32} (h0 : ¬ x = (0 : Int32)) (h1 : ¬ x = (1 : Int32)) : Array.find? (fun z => z.1 == x.toInt) (#[(0, 26), (1, 30)] : Array (Int × Int)) = none := by
  have e (n : Int32) (h : ¬ x = n) : ¬ n.toInt = x.toInt := fun q => h (Int32.toInt_inj.mp q.symm)
  have e0 : ¬ (0 : Int) = x.toInt := e 0 h0
  have e1 : ¬ (1 : Int) = x.toInt := e 1 h1
  rw [Array.find?_eq_none]
  intro z hz
  simp only [List.mem_toArray, List.mem_cons, List.not_mem_nil, or_false] at hz
  rcases hz with rfl | rfl <;> simp only [beq_iff_eq] <;> assumption
theorem own_staKeep {Z : State} {h h' : Heap} {C n d K : String} {w : Value} {a : Addr} (F : Sta Z h C n d w) (E : Exa Z h a K) (Kp : Keep h h' [a]) : Sta Z h' C n d w := by
  obtain ⟨cf, i, k, f, st, cell, h1, h2, h3, h4, h5, h6, h7⟩ := F
  refine ⟨cf, i, k, f, st, cell, h1, h2, h3, h4, Kp.2.1 st cell h5 ?_, h6, h7⟩
  intro q
  cases List.mem_singleton.mp q
  obtain ⟨c2, k2, e1, -, -, e4, -⟩ := E
  cases h5.symm.trans e1
  rw [h6] at e4
  cases e4
theorem own_staKeep0 {Z : State} {h h' : Heap} {C n d : String} {w : Value} (F : Sta Z h C n d w) (Kp : Keep h h' []) : Sta Z h' C n d w := by
  obtain ⟨cf, i, k, f, st, cell, h1, h2, h3, h4, h5, h6, h7⟩ := F
  exact ⟨cf, i, k, f, st, cell, h1, h2, h3, h4, Kp.2.1 st cell h5 List.not_mem_nil, h6, h7⟩
theorem own_nin {a b c : Addr} (h1 : a ≠ b) (h2 : a ≠ c) : a ∉ [b, c] := by
  intro q
  simp only [List.mem_cons, List.not_mem_nil, or_false] at q
  exact q.elim h1 h2
theorem own_in2 {a b c : Addr} (q : a ∈ [b, c]) : a = b ∨ a = c := by
  simpa only [List.mem_cons, List.not_mem_nil, or_false] using q
theorem own_selPriv {s : State} {args : Array Value} {y z : MethodName} (hcls : z.cls = y.cls) (hi : (Cond.instanceMethod y).before args s = true) (hpriv : s.PrivateAt y) (hz : (Cond.selects z.cls z z).before args s = true) (hy : y.cls ≠ "java/lang/invoke/MethodHandle" ∧ y.cls ≠ "java/lang/invoke/VarHandle") : (Cond.selects y.cls y y).before args s = true := by
  obtain ⟨c2, r2, m2, z1, -, z3, -, kP, hkP, hkPi⟩ := Cond.selects_spec hz
  have hcz := findClass_of_methodNamed z3
  rw [hcls] at hcz
  exact selects_self_of_private hcz hkP hkPi hpriv hi hy
theorem ef_1_1 (m : MethodId) (a0 : Value) (h0 : a0.category = 1) : entryFrame m #[a0] 1 = mkF m 0 #[.val a0] [] := by simp [entryFrame, mkF, argsToLocals, h0]
theorem ef_1_2 (m : MethodId) (a0 : Value) (h0 : a0.category = 1) : entryFrame m #[a0] 2 = mkF m 0 #[.val a0, .unset] [] := by simp [entryFrame, mkF, argsToLocals, h0]
theorem ef_1_4 (m : MethodId) (a0 : Value) (h0 : a0.category = 1) : entryFrame m #[a0] 4 = mkF m 0 #[.val a0, .unset, .unset, .unset] [] := by simp [entryFrame, mkF, argsToLocals, h0]
theorem ef_1_5 (m : MethodId) (a0 : Value) (h0 : a0.category = 1) : entryFrame m #[a0] 5 = mkF m 0 #[.val a0, .unset, .unset, .unset, .unset] [] := by simp [entryFrame, mkF, argsToLocals, h0]
theorem ef_11_2 (m : MethodId) (a0 a1 : Value) (h0 : a0.category = 1) (h1 : a1.category = 1) : entryFrame m #[a0, a1] 2 = mkF m 0 #[.val a0, .val a1] [] := by simp [entryFrame, mkF, argsToLocals, h0, h1]
theorem ef_111_3 (m : MethodId) (a0 a1 a2 : Value) (h0 : a0.category = 1) (h1 : a1.category = 1) (h2 : a2.category = 1) : entryFrame m #[a0, a1, a2] 3 = mkF m 0 #[.val a0, .val a1, .val a2] [] := by simp [entryFrame, mkF, argsToLocals, h0, h1, h2]
theorem ef_111_6 (m : MethodId) (a0 a1 a2 : Value) (h0 : a0.category = 1) (h1 : a1.category = 1) (h2 : a2.category = 1) : entryFrame m #[a0, a1, a2] 6 = mkF m 0 #[.val a0, .val a1, .val a2, .unset, .unset, .unset] [] := by simp [entryFrame, mkF, argsToLocals, h0, h1, h2]
theorem ef_1111_4 (m : MethodId) (a0 a1 a2 a3 : Value) (h0 : a0.category = 1) (h1 : a1.category = 1) (h2 : a2.category = 1) (h3 : a3.category = 1) : entryFrame m #[a0, a1, a2, a3] 4 = mkF m 0 #[.val a0, .val a1, .val a2, .val a3] [] := by simp [entryFrame, mkF, argsToLocals, h0, h1, h2, h3]
theorem ef_1111_6 (m : MethodId) (a0 a1 a2 a3 : Value) (h0 : a0.category = 1) (h1 : a1.category = 1) (h2 : a2.category = 1) (h3 : a3.category = 1) : entryFrame m #[a0, a1, a2, a3] 6 = mkF m 0 #[.val a0, .val a1, .val a2, .val a3, .unset, .unset] [] := by simp [entryFrame, mkF, argsToLocals, h0, h1, h2, h3]
theorem ef_11111_5 (m : MethodId) (a0 a1 a2 a3 a4 : Value) (h0 : a0.category = 1) (h1 : a1.category = 1) (h2 : a2.category = 1) (h3 : a3.category = 1) (h4 : a4.category = 1) : entryFrame m #[a0, a1, a2, a3, a4] 5 = mkF m 0 #[.val a0, .val a1, .val a2, .val a3, .val a4] [] := by simp [entryFrame, mkF, argsToLocals, h0, h1, h2, h3, h4]
theorem ef_11111_6 (m : MethodId) (a0 a1 a2 a3 a4 : Value) (h0 : a0.category = 1) (h1 : a1.category = 1) (h2 : a2.category = 1) (h3 : a3.category = 1) (h4 : a4.category = 1) : entryFrame m #[a0, a1, a2, a3, a4] 6 = mkF m 0 #[.val a0, .val a1, .val a2, .val a3, .val a4, .unset] [] := by simp [entryFrame, mkF, argsToLocals, h0, h1, h2, h3, h4]
theorem ef_11111_7 (m : MethodId) (a0 a1 a2 a3 a4 : Value) (h0 : a0.category = 1) (h1 : a1.category = 1) (h2 : a2.category = 1) (h3 : a3.category = 1) (h4 : a4.category = 1) : entryFrame m #[a0, a1, a2, a3, a4] 7 = mkF m 0 #[.val a0, .val a1, .val a2, .val a3, .val a4, .unset, .unset] [] := by simp [entryFrame, mkF, argsToLocals, h0, h1, h2, h3, h4]
theorem own_pd0 : parseMethodDescriptor "()B" = some ⟨[], some .byte⟩ := by decide +kernel
theorem own_pd1 : parseMethodDescriptor "(IILjava/util/function/BiFunction;)I" = some ⟨[.int, .int, (.object "java/util/function/BiFunction")], some .int⟩ := by decide +kernel
theorem own_pd2 : parseMethodDescriptor "([CI[BII)I" = some ⟨[(.array .char), .int, (.array .byte), .int, .int], some .int⟩ := by decide +kernel
theorem own_pd3 : parseMethodDescriptor "([CII)[B" = some ⟨[(.array .char), .int, .int], some (.array .byte)⟩ := by decide +kernel
theorem own_pd4 : parseMethodDescriptor "([BI)B" = some ⟨[(.array .byte), .int], some .byte⟩ := by decide +kernel
theorem own_pd5 : parseMethodDescriptor "([CIILjava/lang/Void;)V" = some ⟨[(.array .char), .int, .int, (.object "java/lang/Void")], none⟩ := by decide +kernel
theorem own_pd6 : parseMethodDescriptor "(II)V" = some ⟨[.int, .int], none⟩ := by decide +kernel
theorem own_pd7 : parseMethodDescriptor "()Z" = some ⟨[], some .boolean⟩ := by decide +kernel
theorem own_pd8 : parseMethodDescriptor "([BI)C" = some ⟨[(.array .byte), .int], some .char⟩ := by decide +kernel
theorem own_pd9 : parseMethodDescriptor "([BI[CII)V" = some ⟨[(.array .byte), .int, (.array .char), .int, .int], none⟩ := by decide +kernel
theorem own_pd10 : parseMethodDescriptor "([B)[C" = some ⟨[(.array .byte)], some (.array .char)⟩ := by decide +kernel
theorem own_pd11 : parseMethodDescriptor "()I" = some ⟨[], some .int⟩ := by decide +kernel
theorem own_pd12 : parseMethodDescriptor "(I)C" = some ⟨[.int], some .char⟩ := by decide +kernel
theorem own_pd13 : parseMethodDescriptor "()[C" = some ⟨[], some (.array .char)⟩ := by decide +kernel
theorem own_pd14 : parseMethodDescriptor "([C)V" = some ⟨[(.array .char)], none⟩ := by decide +kernel
theorem own_pd15 : parseMethodDescriptor "(Ljava/lang/String;)Ljava/lang/String;" = some ⟨[(.object "java/lang/String")], some (.object "java/lang/String")⟩ := by decide +kernel
theorem own_pd16 : parseMethodDescriptor "(I[BII)I" = some ⟨[.int, (.array .byte), .int, .int], some .int⟩ := by decide +kernel
theorem own_pd17 : parseMethodDescriptor "(Ljava/lang/Object;IIII)I" = some ⟨[(.object "java/lang/Object"), .int, .int, .int, .int], some .int⟩ := by decide +kernel
theorem own_pd18 : parseMethodDescriptor "([B)I" = some ⟨[(.array .byte)], some .int⟩ := by decide +kernel
theorem own_pd19 : parseMethodDescriptor "(I)I" = some ⟨[.int], some .int⟩ := by decide +kernel
theorem own_pd20 : parseMethodDescriptor "([BIII)Z" = some ⟨[(.array .byte), .int, .int, .int], some .boolean⟩ := by decide +kernel
theorem own_pd21 : parseMethodDescriptor "(I)[C" = some ⟨[.int], some (.array .char)⟩ := by decide +kernel
theorem own_pd22 : parseMethodDescriptor "([C[BII)V" = some ⟨[(.array .char), (.array .byte), .int, .int], none⟩ := by decide +kernel
theorem own_pd23 : parseMethodDescriptor "([BII)J" = some ⟨[(.array .byte), .int, .int], some .long⟩ := by decide +kernel
theorem own_pd24 : parseMethodDescriptor "(Ljava/lang/String;)I" = some ⟨[(.object "java/lang/String")], some .int⟩ := by decide +kernel
theorem own_pn0 : plainName "java/lang/String" = true := by first | (simp [plainName, overriddenIn]; done) | decide +kernel
theorem own_pn1 : plainName "jdk/internal/util/Preconditions" = true := by first | (simp [plainName, overriddenIn]; done) | decide +kernel
theorem own_pn2 : plainName "java/lang/StringUTF16" = true := by first | (simp [plainName, overriddenIn]; done) | decide +kernel
theorem own_pn3 : plainName "java/lang/StringLatin1" = true := by first | (simp [plainName, overriddenIn]; done) | decide +kernel
theorem own_pn4 : plainName "com/example/rollcall/rollcall/users/CaselessIndex" = true := by first | (simp [plainName, overriddenIn]; done) | decide +kernel
theorem own_pn5 : plainName "jdk/internal/util/ArraysSupport" = true := by first | (simp [plainName, overriddenIn]; done) | decide +kernel
theorem own_pn6 : plainName "com/example/rollcall/rollcall/users/CaselessIndexAsciiHashPinLaw" = true := by first | (simp [plainName, overriddenIn]; done) | decide +kernel
theorem own_atoms {Z : State} {a0 : Array Value} (hw : ∀ d ∈ tables_1, d.before a0 Z = true) : ∀ a ∈ Bundle.stringAtoms, a.before a0 Z = true := by
  intro d hd
  simp only [Bundle.stringAtoms, Bundle.sN, List.mem_cons, List.not_mem_nil, or_false] at hd
  rcases hd with rfl | rfl | rfl | rfl | rfl | rfl | rfl
  · exact (wd hw 15 rfl)
  · exact (wd hw 14 rfl)
  · exact (wd hw 1 rfl)
  · exact (wd hw 27 rfl)
  · exact (wd hw 28 rfl)
  · exact (wd hw 29 rfl)
  · exact (wd hw 30 rfl)
def own_EL : List (String × Nat) := [("java/lang/String", 7)]
theorem own_EW {Z : State} {a0 : Array Value} (hw : ∀ d ∈ tables_1, d.before a0 Z = true) : EW Z a0 own_EL := EW.cons (wd hw 26 rfl) (by decide +kernel) EW.nil
def own_QN (h0 : Heap) (n0 : Nat) (v : Option Value) (h : Heap) (L : List Loc) : Prop := v = none ∧ Fr n0 L ∧ h = h0
def own_QI (r : Int32) (h0 : Heap) (n0 : Nat) (v : Option Value) (h : Heap) (L : List Loc) : Prop := v = some (.int r) ∧ Fr n0 L ∧ h = h0
def own_QV (r : Value) (h0 : Heap) (n0 : Nat) (v : Option Value) (h : Heap) (L : List Loc) : Prop := v = some r ∧ Fr n0 L ∧ h = h0
def own_QJ (r : Int64) (h0 : Heap) (n0 : Nat) (v : Option Value) (h : Heap) (L : List Loc) : Prop := v = some (.long r) ∧ Fr n0 L ∧ h = h0
theorem d_B0_0 : decode jdk_42_method_152_code 0 = .ok (.getstatic 38, 3) := by decide +kernel
theorem d_B0_3 : decode jdk_42_method_152_code 3 = .ok (.ifCond .eq 10, 3) := by decide +kernel
theorem d_B0_6 : decode jdk_42_method_152_code 6 = .ok (.aload_n 0, 1) := by decide +kernel
theorem d_B0_7 : decode jdk_42_method_152_code 7 = .ok (.getfield 15, 3) := by decide +kernel
theorem d_B0_10 : decode jdk_42_method_152_code 10 = .ok (.goto 4, 3) := by decide +kernel
theorem d_B0_14 : decode jdk_42_method_152_code 14 = .ok (.ireturn, 1) := by decide +kernel
set_option maxRecDepth 65536 in
set_option maxHeartbeats 40000000 in
theorem own_rmCod (l : Launch) (Z : State) (a0 : Array Value) (hw : ∀ d ∈ tables_1, d.before a0 Z = true) (ws : List Jvm.Cond) (b0 : Addr) (cs : Int32) (h0 : Heap) (n0 : Nat) (Z0 : n0 ≤ h0.size) (F_c : Fld Z h0 b0 "java/lang/String" "coder" "B" (.int 0)) (S_cs : Sta Z h0 "java/lang/String" "COMPACT_STRINGS" "Z" (.int cs)) (hcs : ¬ cs = (0 : Int32)) : own_M l Z (⟨"java/lang/String", "coder", "()B"⟩ : MethodName) jdk_42_method_152_code 1 (some .byte) ws ({ frames := 0, cells := 0, slots := 0, locals := 0 } : Room) #[.ref b0] h0 (own_QI (0 : Int32) h0 n0) := by
  refine own_begin (n0 := n0) (f0 := mkF ⟨0, 0⟩ 0 #[rv b0] []) (plainFor_of_name own_pn0) (fun m => ef_1_1 m _ rfl) ?_
  intro p e s m below meth c s₁ Bd hZ hx hby hml hown hnm X0 e0 N0
  obtain ⟨T1, X1, e1, st1⟩ := getS2 X0 hx hZ hown (host := "") (Or.inl (wd hw 59 rfl)) Via.refl e0 S_cs (g := (mkF m 0 #[rv b0] [])) rfl (hb hby d_B0_0)
  obtain ⟨T2, X2, e2, st2⟩ := getF X1 hx hZ hown (host := "") (Or.inl (wd hw 32 rfl)) Via.refl e1 F_c (g := (mkF m 7 #[rv b0] [.ref b0])) rfl rfl (hb hby d_B0_7)
  exact own_ret (v := some (.int 0)) X2 e2 Bd.notSynchronized (nv Bd.returns) (fun fs hr => st1 _ (xifNo X1 hx hby rfl d_B0_3 rfl ((if0 _ _).trans (feq (hcs : ¬ (cs = (0 : Int32)))).1) (xaloadN X1 hx hby rfl d_B0_6 rfl rfl (st2 _ (xgoto X2 hx hby rfl 10 14 rfl d_B0_10 (by decide) (by decide) (retN X2 hx (t := .byte) Bd.returns (by simp) (hb hby d_B0_14) hr)))))) ⟨rfl, N0, rfl⟩ (by decide)
theorem d_B1_0 : decode jdk_42_method_154_code 0 = .ok (.getstatic 38, 3) := by decide +kernel
theorem d_B1_3 : decode jdk_42_method_154_code 3 = .ok (.ifCond .eq 14, 3) := by decide +kernel
theorem d_B1_6 : decode jdk_42_method_154_code 6 = .ok (.aload_n 0, 1) := by decide +kernel
theorem d_B1_7 : decode jdk_42_method_154_code 7 = .ok (.getfield 15, 3) := by decide +kernel
theorem d_B1_10 : decode jdk_42_method_154_code 10 = .ok (.ifCond .ne 7, 3) := by decide +kernel
theorem d_B1_13 : decode jdk_42_method_154_code 13 = .ok (.iconst 1, 1) := by decide +kernel
theorem d_B1_14 : decode jdk_42_method_154_code 14 = .ok (.goto 4, 3) := by decide +kernel
theorem d_B1_18 : decode jdk_42_method_154_code 18 = .ok (.ireturn, 1) := by decide +kernel
set_option maxRecDepth 65536 in
set_option maxHeartbeats 40000000 in
theorem own_rmIl (l : Launch) (Z : State) (a0 : Array Value) (hw : ∀ d ∈ tables_1, d.before a0 Z = true) (ws : List Jvm.Cond) (b0 : Addr) (cs : Int32) (h0 : Heap) (n0 : Nat) (Z0 : n0 ≤ h0.size) (F_c : Fld Z h0 b0 "java/lang/String" "coder" "B" (.int 0)) (S_cs : Sta Z h0 "java/lang/String" "COMPACT_STRINGS" "Z" (.int cs)) (hcs : ¬ cs = (0 : Int32)) : own_M l Z (⟨"java/lang/String", "isLatin1", "()Z"⟩ : MethodName) jdk_42_method_154_code 1 (some .boolean) ws ({ frames := 0, cells := 0, slots := 0, locals := 0 } : Room) #[.ref b0] h0 (own_QI (1 : Int32) h0 n0) := by
  refine own_begin (n0 := n0) (f0 := mkF ⟨0, 0⟩ 0 #[rv b0] []) (plainFor_of_name own_pn0) (fun m => ef_1_1 m _ rfl) ?_
  intro p e s m below meth c s₁ Bd hZ hx hby hml hown hnm X0 e0 N0
  obtain ⟨T1, X1, e1, st1⟩ := getS2 X0 hx hZ hown (host := "") (Or.inl (wd hw 59 rfl)) Via.refl e0 S_cs (g := (mkF m 0 #[rv b0] [])) rfl (hb hby d_B1_0)
  obtain ⟨T2, X2, e2, st2⟩ := getF X1 hx hZ hown (host := "") (Or.inl (wd hw 32 rfl)) Via.refl e1 F_c (g := (mkF m 7 #[rv b0] [.ref b0])) rfl rfl (hb hby d_B1_7)
  exact own_ret (v := some (.int 1)) X2 e2 Bd.notSynchronized (nv Bd.returns) (fun fs hr => st1 _ (xifNo X1 hx hby rfl d_B1_3 rfl ((if0 _ _).trans (feq (hcs : ¬ (cs = (0 : Int32)))).1) (xaloadN X1 hx hby rfl d_B1_6 rfl rfl (st2 _ (xifNo X2 hx hby rfl d_B1_10 rfl ((if0 _ _).trans (teq ((by decide) : (0 : Int32) = (0 : Int32))).2) (xiconst X2 hx hby rfl d_B1_13 (show Steps p.tables e below (T2.setTop (mkF m 14 #[rv b0] [.int 1])) _ from xgoto X2 hx hby rfl 14 18 rfl d_B1_14 (by decide) (by decide) (retN X2 hx (t := .boolean) Bd.returns (by simp) (hb hby d_B1_18) hr)))))))) ⟨rfl, N0, rfl⟩ (by decide)
theorem d_B2_0 : decode jdk_42_method_54_code 0 = .ok (.aload_n 0, 1) := by decide +kernel
theorem d_B2_1 : decode jdk_42_method_54_code 1 = .ok (.getfield 9, 3) := by decide +kernel
theorem d_B2_4 : decode jdk_42_method_54_code 4 = .ok (.arraylength, 1) := by decide +kernel
theorem d_B2_5 : decode jdk_42_method_54_code 5 = .ok (.aload_n 0, 1) := by decide +kernel
theorem d_B2_6 : decode jdk_42_method_54_code 6 = .ok (.invokevirtual 335, 3) := by decide +kernel
theorem d_B2_9 : decode jdk_42_method_54_code 9 = .ok (.ishr, 1) := by decide +kernel
theorem d_B2_10 : decode jdk_42_method_54_code 10 = .ok (.ireturn, 1) := by decide +kernel
set_option maxRecDepth 65536 in
set_option maxHeartbeats 40000000 in
theorem own_rmLen (l : Launch) (Z : State) (a0 : Array Value) (hw : ∀ d ∈ tables_1, d.before a0 Z = true) (ws : List Jvm.Cond) (b0 : Addr) (v0 : Addr) (kv : ClassId) (z : Int32) (vs : List Value) (cs : Int32) (h0 : Heap) (n0 : Nat) (Z0 : n0 ≤ h0.size) (E_b0 : Exa Z h0 b0 "java/lang/String") (F_cb0 : Fld Z h0 b0 "java/lang/String" "coder" "B" (.int 0)) (F_vb0 : Fld Z h0 b0 "java/lang/String" "value" "[B" (.ref v0)) (V_v0 : Arv Z h0 v0 kv .byte z vs (.int 0)) (S_cs : Sta Z h0 "java/lang/String" "COMPACT_STRINGS" "Z" (.int cs)) (hcs : ¬ cs = (0 : Int32)) : own_M l Z (⟨"java/lang/String", "length", "()I"⟩ : MethodName) jdk_42_method_54_code 1 (some .int) ws ({ frames := 1, cells := 0, slots := 0, locals := 13 } : Room) #[.ref b0] h0 (own_QI z h0 n0) := by
  refine own_begin (n0 := n0) (f0 := mkF ⟨0, 0⟩ 0 #[rv b0] []) (plainFor_of_name own_pn0) (fun m => ef_1_1 m _ rfl) ?_
  intro p e s m below meth c s₁ Bd hZ hx hby hml hown hnm X0 e0 N0
  obtain ⟨T1, X1, e1, st1⟩ := getF X0 hx hZ hown (host := "") (Or.inl (wd hw 31 rfl)) Via.refl e0 F_vb0 (g := (mkF m 1 #[rv b0] [.ref b0])) rfl rfl (hb hby d_B2_1)
  obtain ⟨cl2, Ar2, -, Sz2, M2, -, -⟩ := id V_v0
  refine own_go (b := T1.setTop (mkF m 6 #[rv b0] [.ref b0, .int z])) (fun t k => ?_) ?_
  · refine xaloadN X0 hx hby rfl d_B2_0 rfl rfl (st1 _ (X1.arraylength hx (own_in e1 Ar2.1) (State.isArrayOf_alike hZ.alike Ar2.2.1) (g := (mkF m 4 #[rv b0] [.ref v0])) rfl rfl (hb hby d_B2_4) _ ?_))
    rw [len_of Sz2 M2]
    refine xaloadN X1 hx hby rfl d_B2_5 rfl rfl k
  refine own_cv X1 hx hZ hown hml e1 (wd hw 54 rfl) (wd hw 55 rfl) (wd hw 57 rfl) (wd hw 56 rfl) (wd hw 15 rfl) (wd hw 58 rfl) E_b0 (own_rmCod l Z a0 hw [] b0 cs h0 n0 Z0 F_cb0 S_cs hcs) own_pd0 (hb hby d_B2_6) 1 [.int z] rfl rfl ⟨rfl, rfl, rfl, rfl, rfl⟩ (by decide) ?_
  rintro T3 L3 v3 X3 hQ3
  obtain ⟨rfl, N3q, e3⟩ := hQ3
  have N3 := Fr.app N0 N3q
  exact own_ret (v := some (.int (z >>> ((0 : Int32) &&& 31)))) X3 e3 Bd.notSynchronized (nv Bd.returns) (fun fs hr => XS.ishr X3.here hx rfl (hb hby d_B2_9) rfl (retI X3 hx Bd.returns (hb hby d_B2_10) hr)) ⟨congrArg (fun q => some (Value.int q)) (own_shr0 z), N3, rfl⟩ (by decide)
theorem d_B3_0 : decode jdk_41_method_11_code 0 = .ok (.iload_n 0, 1) := by decide +kernel
theorem d_B3_1 : decode jdk_41_method_11_code 1 = .ok (.ifCond .lt 8, 3) := by decide +kernel
theorem d_B3_4 : decode jdk_41_method_11_code 4 = .ok (.iload_n 0, 1) := by decide +kernel
theorem d_B3_5 : decode jdk_41_method_11_code 5 = .ok (.iload_n 1, 1) := by decide +kernel
theorem d_B3_6 : decode jdk_41_method_11_code 6 = .ok (.if_icmp .lt 10, 3) := by decide +kernel
theorem d_B3_16 : decode jdk_41_method_11_code 16 = .ok (.iload_n 0, 1) := by decide +kernel
theorem d_B3_17 : decode jdk_41_method_11_code 17 = .ok (.ireturn, 1) := by decide +kernel
set_option maxRecDepth 65536 in
set_option maxHeartbeats 40000000 in
theorem own_rmPcN (l : Launch) (Z : State) (a0 : Array Value) (hw : ∀ d ∈ tables_1, d.before a0 Z = true) (ws : List Jvm.Cond) (p0 : Int32) (p1 : Int32) (h0 : Heap) (n0 : Nat) (Z0 : n0 ≤ h0.size) (h1 : ¬ p0 < (0 : Int32)) (h2 : p0 < p1) : own_M l Z (⟨"jdk/internal/util/Preconditions", "checkIndex", "(IILjava/util/function/BiFunction;)I"⟩ : MethodName) jdk_41_method_11_code 3 (some .int) ws ({ frames := 0, cells := 0, slots := 0, locals := 0 } : Room) #[.int p0, .int p1, .null] h0 (own_QI p0 h0 n0) := by
  refine own_begin (n0 := n0) (f0 := mkF ⟨0, 0⟩ 0 #[iv p0, iv p1, .val .null] []) (plainFor_of_name own_pn1) (fun m => ef_111_3 m _ _ _ rfl rfl rfl) ?_
  intro p e s m below meth c s₁ Bd hZ hx hby hml hown hnm X0 e0 N0
  exact own_ret (v := some (.int p0)) X0 e0 Bd.notSynchronized (nv Bd.returns) (fun fs hr => xiloadN X0 hx hby rfl d_B3_0 rfl (xifNo X0 hx hby rfl d_B3_1 rfl ((if0 _ _).trans (flt (h1 : ¬ (p0 < (0 : Int32)))).1) (xiloadN X0 hx hby rfl d_B3_4 rfl (xiloadN X0 hx hby rfl d_B3_5 rfl (xicmpYes X0 hx hby rfl 6 16 rfl d_B3_6 rfl (tlt (h2 : p0 < p1)).1 (by decide) (by decide) (xiloadN X0 hx hby rfl d_B3_16 rfl (retI X0 hx Bd.returns (hb hby d_B3_17) hr))))))) ⟨rfl, N0, rfl⟩ (by decide)
set_option maxRecDepth 65536 in
set_option maxHeartbeats 40000000 in
theorem own_rmPcR (l : Launch) (Z : State) (a0 : Array Value) (hw : ∀ d ∈ tables_1, d.before a0 Z = true) (ws : List Jvm.Cond) (p0 : Int32) (p1 : Int32) (b2 : Addr) (h0 : Heap) (n0 : Nat) (Z0 : n0 ≤ h0.size) (h1 : ¬ p0 < (0 : Int32)) (h2 : p0 < p1) : own_M l Z (⟨"jdk/internal/util/Preconditions", "checkIndex", "(IILjava/util/function/BiFunction;)I"⟩ : MethodName) jdk_41_method_11_code 3 (some .int) ws ({ frames := 0, cells := 0, slots := 0, locals := 0 } : Room) #[.int p0, .int p1, .ref b2] h0 (own_QI p0 h0 n0) := by
  refine own_begin (n0 := n0) (f0 := mkF ⟨0, 0⟩ 0 #[iv p0, iv p1, rv b2] []) (plainFor_of_name own_pn1) (fun m => ef_111_3 m _ _ _ rfl rfl rfl) ?_
  intro p e s m below meth c s₁ Bd hZ hx hby hml hown hnm X0 e0 N0
  exact own_ret (v := some (.int p0)) X0 e0 Bd.notSynchronized (nv Bd.returns) (fun fs hr => xiloadN X0 hx hby rfl d_B3_0 rfl (xifNo X0 hx hby rfl d_B3_1 rfl ((if0 _ _).trans (flt (h1 : ¬ (p0 < (0 : Int32)))).1) (xiloadN X0 hx hby rfl d_B3_4 rfl (xiloadN X0 hx hby rfl d_B3_5 rfl (xicmpYes X0 hx hby rfl 6 16 rfl d_B3_6 rfl (tlt (h2 : p0 < p1)).1 (by decide) (by decide) (xiloadN X0 hx hby rfl d_B3_16 rfl (retI X0 hx Bd.returns (hb hby d_B3_17) hr))))))) ⟨rfl, N0, rfl⟩ (by decide)
theorem d_B4_0 : decode jdk_42_method_155_code 0 = .ok (.iload_n 0, 1) := by decide +kernel
theorem d_B4_1 : decode jdk_42_method_155_code 1 = .ok (.iload_n 1, 1) := by decide +kernel
theorem d_B4_2 : decode jdk_42_method_155_code 2 = .ok (.getstatic 1053, 3) := by decide +kernel
theorem d_B4_5 : decode jdk_42_method_155_code 5 = .ok (.invokestatic 1059, 3) := by decide +kernel
theorem d_B4_8 : decode jdk_42_method_155_code 8 = .ok (.pop, 1) := by decide +kernel
theorem d_B4_9 : decode jdk_42_method_155_code 9 = .ok (.return_, 1) := by decide +kernel
set_option maxRecDepth 65536 in
set_option maxHeartbeats 40000000 in
theorem own_rmCiN (l : Launch) (Z : State) (a0 : Array Value) (hw : ∀ d ∈ tables_1, d.before a0 Z = true) (ws : List Jvm.Cond) (p0 : Int32) (p1 : Int32) (h0 : Heap) (n0 : Nat) (Z0 : n0 ≤ h0.size) (h1 : ¬ p0 < (0 : Int32)) (h2 : p0 < p1) (S_f : Sta Z h0 "jdk/internal/util/Preconditions" "SIOOBE_FORMATTER" "Ljava/util/function/BiFunction;" .null) : own_M l Z y11N jdk_42_method_155_code 2 none ws ({ frames := 1, cells := 0, slots := 0, locals := 14 } : Room) #[.int p0, .int p1] h0 (own_QN h0 n0) := by
  refine own_begin (n0 := n0) (f0 := mkF ⟨0, 0⟩ 0 #[iv p0, iv p1] []) (plainFor_of_name own_pn0) (fun m => ef_11_2 m _ _ rfl rfl) ?_
  intro p e s m below meth c s₁ Bd hZ hx hby hml hown hnm X0 e0 N0
  obtain ⟨T1, X1, e1, st1⟩ := getS2 X0 hx hZ hown (host := "") (Or.inl (wd hw 103 rfl)) Via.refl e0 S_f (g := (mkF m 2 #[iv p0, iv p1] [.int p1, .int p0])) rfl (hb hby d_B4_2)
  refine own_go (b := T1.setTop (mkF m 5 #[iv p0, iv p1] [.null, .int p1, .int p0])) (fun t k => xiloadN X0 hx hby rfl d_B4_0 rfl (xiloadN X0 hx hby rfl d_B4_1 rfl (st1 _ k))) ?_
  refine own_cs X1 hx hZ hown hml e1 (wd hw 105 rfl) (wd hw 106 rfl) (wd hw 104 rfl) (wd hw 107 rfl) (own_rmPcN l Z a0 hw [] p0 p1 h0 n0 Z0 h1 h2) own_pd1 (hb hby d_B4_5) 0 [] rfl ⟨rfl, rfl, rfl, rfl, rfl⟩ (by decide) ?_
  rintro T2 L2 v2 X2 hQ2
  obtain ⟨rfl, N2q, e2⟩ := hQ2
  have N2 := Fr.app N0 N2q
  exact own_ret (v := none) X2 e2 Bd.notSynchronized (fun _ => rfl) (fun fs hr => XS.pop X2.here hx rfl (hb hby d_B4_8) rfl rfl (X2.returnOut hx Bd.returns (hb hby d_B4_9) hr)) ⟨rfl, N2, rfl⟩ (by decide)
set_option maxRecDepth 65536 in
set_option maxHeartbeats 40000000 in
theorem own_rmCiR (l : Launch) (Z : State) (a0 : Array Value) (hw : ∀ d ∈ tables_1, d.before a0 Z = true) (ws : List Jvm.Cond) (p0 : Int32) (p1 : Int32) (bf : Addr) (h0 : Heap) (n0 : Nat) (Z0 : n0 ≤ h0.size) (h1 : ¬ p0 < (0 : Int32)) (h2 : p0 < p1) (S_f : Sta Z h0 "jdk/internal/util/Preconditions" "SIOOBE_FORMATTER" "Ljava/util/function/BiFunction;" (.ref bf)) : own_M l Z y11N jdk_42_method_155_code 2 none ws ({ frames := 1, cells := 0, slots := 0, locals := 14 } : Room) #[.int p0, .int p1] h0 (own_QN h0 n0) := by
  refine own_begin (n0 := n0) (f0 := mkF ⟨0, 0⟩ 0 #[iv p0, iv p1] []) (plainFor_of_name own_pn0) (fun m => ef_11_2 m _ _ rfl rfl) ?_
  intro p e s m below meth c s₁ Bd hZ hx hby hml hown hnm X0 e0 N0
  obtain ⟨T1, X1, e1, st1⟩ := getS2 X0 hx hZ hown (host := "") (Or.inl (wd hw 103 rfl)) Via.refl e0 S_f (g := (mkF m 2 #[iv p0, iv p1] [.int p1, .int p0])) rfl (hb hby d_B4_2)
  refine own_go (b := T1.setTop (mkF m 5 #[iv p0, iv p1] [.ref bf, .int p1, .int p0])) (fun t k => xiloadN X0 hx hby rfl d_B4_0 rfl (xiloadN X0 hx hby rfl d_B4_1 rfl (st1 _ k))) ?_
  refine own_cs X1 hx hZ hown hml e1 (wd hw 105 rfl) (wd hw 106 rfl) (wd hw 104 rfl) (wd hw 107 rfl) (own_rmPcR l Z a0 hw [] p0 p1 bf h0 n0 Z0 h1 h2) own_pd1 (hb hby d_B4_5) 0 [] rfl ⟨rfl, rfl, rfl, rfl, rfl⟩ (by decide) ?_
  rintro T2 L2 v2 X2 hQ2
  obtain ⟨rfl, N2q, e2⟩ := hQ2
  have N2 := Fr.app N0 N2q
  exact own_ret (v := none) X2 e2 Bd.notSynchronized (fun _ => rfl) (fun fs hr => XS.pop X2.here hx rfl (hb hby d_B4_8) rfl rfl (X2.returnOut hx Bd.returns (hb hby d_B4_9) hr)) ⟨rfl, N2, rfl⟩ (by decide)
theorem own_rmCi (l : Launch) (Z : State) (a0 : Array Value) (hw : ∀ d ∈ tables_1, d.before a0 Z = true) (ws : List Jvm.Cond) (p0 p1 : Int32) (fv : Value) (h0 : Heap) (n0 : Nat) (Z0 : n0 ≤ h0.size) (h1 : ¬ p0 < (0 : Int32)) (h2 : p0 < p1) (S_f : Sta Z h0 "jdk/internal/util/Preconditions" "SIOOBE_FORMATTER" "Ljava/util/function/BiFunction;" fv) (hfv : fv.isRef = true) : own_M l Z y11N jdk_42_method_155_code 2 none ws ({ frames := 1, cells := 0, slots := 0, locals := 14 } : Room) #[.int p0, .int p1] h0 (own_QN h0 n0) := by
  rcases ref_cases hfv with rfl | ⟨f, rfl⟩
  · exact own_rmCiN l Z a0 hw ws p0 p1 h0 n0 Z0 h1 h2 S_f
  · exact own_rmCiR l Z a0 hw ws p0 p1 f h0 n0 Z0 h1 h2 S_f
def own_Q5 (Z : State) (b : Addr) (k : ClassId) (n : Int32) (vs : List Value) (h0 : Heap) (n0 : Nat) (v : Option Value) (h : Heap) (L : List Loc) : Prop := v = some (.int n) ∧ Fr n0 L ∧ Keep h0 h [b] ∧ Arv Z h b k .byte n vs (.int 0)
def own_Q3 (Z : State) (n : Int32) (vs : List Value) (h0 : Heap) (n0 : Nat) (v : Option Value) (h : Heap) (L : List Loc) : Prop := ∃ (r : Addr) (k : ClassId), v = some (.ref r) ∧ Fr n0 L ∧ Keep h0 h [] ∧ Arv Z h r k .byte n vs (.int 0) ∧ Exa Z h r "[B" ∧ h0.size ≤ r
def own_Q4 (Z : State) (b : Addr) (n : Int32) (vs : List Value) (h0 : Heap) (n0 : Nat) (v : Option Value) (h : Heap) (L : List Loc) : Prop := ∃ (r : Addr) (k : ClassId), v = none ∧ Fr n0 L ∧ Keep h0 h [b] ∧ Fld Z h b "java/lang/String" "value" "[B" (.ref r) ∧ Fld Z h b "java/lang/String" "coder" "B" (.int 0) ∧ Fld Z h b "java/lang/String" "hash" "I" (.int 0) ∧ Fld Z h b "java/lang/String" "hashIsZero" "Z" (.int 0) ∧ Arv Z h r k .byte n vs (.int 0) ∧ Exa Z h r "[B"
def own_Q40 (Z : State) (b : Addr) (n : Int32) (vs : List Value) (h0 : Heap) (n0 : Nat) (v : Option Value) (h : Heap) (L : List Loc) : Prop := ∃ (r : Addr) (k : ClassId), v = none ∧ Fr n0 L ∧ Keep h0 h [b] ∧ Fld Z h b "java/lang/String" "value" "[B" (.ref r) ∧ Fld Z h b "java/lang/String" "coder" "B" (.int 0) ∧ Fld Z h b "java/lang/String" "hash" "I" (.int 0) ∧ Fld Z h b "java/lang/String" "hashIsZero" "Z" (.int 0) ∧ Arv Z h r k .byte n vs (.int 0)
theorem d_B5_0 : decode jdk_52_method_21_code 0 = .ok (.iconst 0, 1) := by decide +kernel
theorem d_B5_1 : decode jdk_52_method_21_code 1 = .ok (.istore 5, 2) := by decide +kernel
theorem d_B5_3 : decode jdk_52_method_21_code 3 = .ok (.iload 5, 2) := by decide +kernel
theorem d_B5_5 : decode jdk_52_method_21_code 5 = .ok (.iload 4, 2) := by decide +kernel
theorem d_B5_7 : decode jdk_52_method_21_code 7 = .ok (.if_icmp .ge 37, 3) := by decide +kernel
theorem d_B5_10 : decode jdk_52_method_21_code 10 = .ok (.aload_n 0, 1) := by decide +kernel
theorem d_B5_11 : decode jdk_52_method_21_code 11 = .ok (.iload_n 1, 1) := by decide +kernel
theorem d_B5_12 : decode jdk_52_method_21_code 12 = .ok (.caload, 1) := by decide +kernel
theorem d_B5_13 : decode jdk_52_method_21_code 13 = .ok (.istore 6, 2) := by decide +kernel
theorem d_B5_15 : decode jdk_52_method_21_code 15 = .ok (.iload 6, 2) := by decide +kernel
theorem d_B5_17 : decode jdk_52_method_21_code 17 = .ok (.sipush 255, 3) := by decide +kernel
theorem d_B5_20 : decode jdk_52_method_21_code 20 = .ok (.if_icmp .le 6, 3) := by decide +kernel
theorem d_B5_26 : decode jdk_52_method_21_code 26 = .ok (.aload_n 2, 1) := by decide +kernel
theorem d_B5_27 : decode jdk_52_method_21_code 27 = .ok (.iload_n 3, 1) := by decide +kernel
theorem d_B5_28 : decode jdk_52_method_21_code 28 = .ok (.iload 6, 2) := by decide +kernel
theorem d_B5_30 : decode jdk_52_method_21_code 30 = .ok (.i2b, 1) := by decide +kernel
theorem d_B5_31 : decode jdk_52_method_21_code 31 = .ok (.bastore, 1) := by decide +kernel
theorem d_B5_32 : decode jdk_52_method_21_code 32 = .ok (.iinc 1 1, 3) := by decide +kernel
theorem d_B5_35 : decode jdk_52_method_21_code 35 = .ok (.iinc 3 1, 3) := by decide +kernel
theorem d_B5_38 : decode jdk_52_method_21_code 38 = .ok (.iinc 5 1, 3) := by decide +kernel
theorem d_B5_41 : decode jdk_52_method_21_code 41 = .ok (.goto (-38), 3) := by decide +kernel
theorem d_B5_44 : decode jdk_52_method_21_code 44 = .ok (.iload 4, 2) := by decide +kernel
theorem d_B5_46 : decode jdk_52_method_21_code 46 = .ok (.ireturn, 1) := by decide +kernel
set_option maxRecDepth 65536 in
set_option maxHeartbeats 40000000 in
theorem own_rmC5 (l : Launch) (Z : State) (a0 : Array Value) (hw : ∀ d ∈ tables_1, d.before a0 Z = true) (ws : List Jvm.Cond) (b0 : Addr) (b2 : Addr) (z : Int32) (kc kb : ClassId) (x0 x1 x2 x3 x4 x5 : Int32) (h0 : Heap) (n0 : Nat) (Z0 : n0 ≤ h0.size) (V_b0 : Arv Z h0 b0 kc .char z [.int x0, .int x1, .int x2, .int x3, .int x4, .int x5] (.int 0)) (V_b2 : Arv Z h0 b2 kb .byte z [.int 0, .int 0, .int 0, .int 0, .int 0, .int 0] (.int 0)) (hne : b0 ≠ b2) (g_2 : n0 ≤ b2) (h0z : ¬ z < (0 : Int32)) (hNz : ¬ (6 : Int32) < z) (l_x0 : ¬ x0 < (0 : Int32)) (u_x0 : ¬ (255 : Int32) < x0) (l_x1 : ¬ x1 < (0 : Int32)) (u_x1 : ¬ (255 : Int32) < x1) (l_x2 : ¬ x2 < (0 : Int32)) (u_x2 : ¬ (255 : Int32) < x2) (l_x3 : ¬ x3 < (0 : Int32)) (u_x3 : ¬ (255 : Int32) < x3) (l_x4 : ¬ x4 < (0 : Int32)) (u_x4 : ¬ (255 : Int32) < x4) (l_x5 : ¬ x5 < (0 : Int32)) (u_x5 : ¬ (255 : Int32) < x5) : own_M l Z (⟨"java/lang/StringUTF16", "compress", "([CI[BII)I"⟩ : MethodName) jdk_52_method_21_code 7 (some .int) ws ({ frames := 0, cells := 0, slots := 0, locals := 0 } : Room) #[.ref b0, .int 0, .ref b2, .int 0, .int z] h0 (own_Q5 Z b2 kb z [(.int (own_b x0)), (.int (own_b x1)), (.int (own_b x2)), (.int (own_b x3)), (.int (own_b x4)), (.int (own_b x5))] h0 n0) := by
  refine own_begin (n0 := n0) (f0 := mkF ⟨0, 0⟩ 0 #[rv b0, iv 0, rv b2, iv 0, iv z, .unset, .unset] []) (plainFor_of_name own_pn2) (fun m => ef_11111_7 m _ _ _ _ _ rfl rfl rfl rfl rfl) ?_
  intro p e s m below meth c s₁ Bd hZ hx hby hml hown hnm X0 e0 N0
  refine own_go (b := s₁.setTop (mkF m 7 #[rv b0, iv 0, rv b2, iv 0, iv z, iv 0, .unset] [.int z, .int 0])) (fun t k => xiconst X0 hx hby rfl d_B5_0 (xistore X0 hx hby rfl d_B5_1 rfl (l' := #[rv b0, iv 0, rv b2, iv 0, iv z, iv 0, .unset]) rfl (xiload X0 hx hby rfl d_B5_3 rfl (xiload X0 hx hby rfl d_B5_5 rfl k)))) ?_
  by_cases hc7_1 : (0 : Int32) < z
  · obtain ⟨cl2, Ar2, -, Sz2, M2, Hs2, Gs2⟩ := id V_b0
    have hin2 := inb_of (j := (0 : Int32)) Sz2 ⟨by decide, hc7_1⟩
    obtain ⟨cl3, Ar3, q3, Sz3, M3, Hs3, Gs3⟩ := id V_b2
    have hin3 := inb_of (j := (0 : Int32)) Sz3 ⟨by decide, hc7_1⟩
    obtain ⟨T4, h4, X4, e4, W4, st4⟩ := stB X0 hx hZ e0 Ar3 (j := (0 : Int32)) hin3 (g := (mkF m 31 #[rv b0, iv 0, rv b2, iv 0, iv z, iv 0, iv x0] [(.int (x0.toInt8.toInt32)), .int 0, .ref b2])) rfl rfl (hb hby d_B5_31)
    have V_b0_4 := V_b0.other W4 hne
    have K4 := (Keep.refl h0 [b2]).wr W4 (Or.inl (List.mem_of_getElem? (i := 0) rfl))
    have N4 := Fr.snoc X4 N0 g_2
    have V_b2_4 := Arv.set Ar3 q3 Sz3 M3 Hs3 Gs3 (fits_nar_byte _) W4 0 rfl (Nat.le_of_ble_eq_true rfl)
    refine own_go (b := T4.setTop (mkF m 7 #[rv b0, iv 1, rv b2, iv 1, iv z, iv 1, iv x0] [.int z, .int 1])) (fun t k => xicmpNo X0 hx hby rfl d_B5_7 rfl (tlt hc7_1).2.1 (xaloadN X0 hx hby rfl d_B5_10 rfl rfl (xiloadN X0 hx hby rfl d_B5_11 rfl (X0.caload hx (j := (0 : Int32)) (v := (.int x0)) (own_in e0 Ar2.1) (State.isArrayOf_alike hZ.alike Ar2.2.1) Ar2.2.2 hin2 (Has.at Hs2 hin2 rfl) (g := (mkF m 12 #[rv b0, iv 0, rv b2, iv 0, iv z, iv 0, .unset] [.int 0, .ref b0])) rfl rfl (hb hby d_B5_12) _ (xistore X0 hx hby rfl d_B5_13 rfl (l' := #[rv b0, iv 0, rv b2, iv 0, iv z, iv 0, iv x0]) rfl (xiload X0 hx hby rfl d_B5_15 rfl (show Steps p.tables e below (s₁.setTop (mkF m 17 #[rv b0, iv 0, rv b2, iv 0, iv z, iv 0, iv x0] [.int x0])) _ from xsipush X0 hx hby rfl d_B5_17 (xicmpYes X0 hx hby rfl 20 26 rfl d_B5_20 rfl (flt (u_x0 : ¬ ((255 : Int32) < x0))).2.2.2 (by decide) (by decide) (xaloadN X0 hx hby rfl d_B5_26 rfl rfl (xiloadN X0 hx hby rfl d_B5_27 rfl (xiload X0 hx hby rfl d_B5_28 rfl (XS.i2b X0.here hx rfl (hb hby d_B5_30) rfl (show Steps p.tables e below (s₁.setTop (mkF m 31 #[rv b0, iv 0, rv b2, iv 0, iv z, iv 0, iv x0] [(.int (x0.toInt8.toInt32)), .int 0, .ref b2])) _ from st4 _ (xiinc X4 hx hby rfl d_B5_32 rfl (l' := #[rv b0, iv 1, rv b2, iv 0, iv z, iv 0, iv x0]) rfl (xiinc X4 hx hby rfl d_B5_35 rfl (l' := #[rv b0, iv 1, rv b2, iv 1, iv z, iv 0, iv x0]) rfl (xiinc X4 hx hby rfl d_B5_38 rfl (l' := #[rv b0, iv 1, rv b2, iv 1, iv z, iv 1, iv x0]) rfl (xgoto X4 hx hby rfl 41 3 rfl d_B5_41 (by decide) (by decide) (xiload X4 hx hby rfl d_B5_3 rfl (show Steps p.tables e below (T4.setTop (mkF m 5 #[rv b0, iv 1, rv b2, iv 1, iv z, iv 1, iv x0] [.int 1])) _ from xiload X4 hx hby rfl d_B5_5 rfl k))))))))))))))))))) ?_
    clear V_b0 V_b2 Ar2 Sz2 M2 Hs2 Gs2 hin2 q3 Sz3 M3 Hs3 Gs3 hin3 W4 st4
    by_cases hc7_5 : (1 : Int32) < z
    · obtain ⟨cl6, Ar6, -, Sz6, M6, Hs6, Gs6⟩ := id V_b0_4
      have hin6 := inb_of (j := (1 : Int32)) Sz6 ⟨by decide, hc7_5⟩
      obtain ⟨cl7, Ar7, q7, Sz7, M7, Hs7, Gs7⟩ := id V_b2_4
      have hin7 := inb_of (j := (1 : Int32)) Sz7 ⟨by decide, hc7_5⟩
      obtain ⟨T8, h8, X8, e8, W8, st8⟩ := stB X4 hx hZ e4 Ar7 (j := (1 : Int32)) hin7 (g := (mkF m 31 #[rv b0, iv 1, rv b2, iv 1, iv z, iv 1, iv x1] [(.int (x1.toInt8.toInt32)), .int 1, .ref b2])) rfl rfl (hb hby d_B5_31)
      have V_b0_8 := V_b0_4.other W8 hne
      have K8 := K4.wr W8 (Or.inl (List.mem_of_getElem? (i := 0) rfl))
      have N8 := Fr.snoc X8 N4 g_2
      have V_b2_8 := Arv.set Ar7 q7 Sz7 M7 Hs7 Gs7 (fits_nar_byte _) W8 1 rfl (Nat.le_of_ble_eq_true rfl)
      refine own_go (b := T8.setTop (mkF m 7 #[rv b0, iv 2, rv b2, iv 2, iv z, iv 2, iv x1] [.int z, .int 2])) (fun t k => xicmpNo X4 hx hby rfl d_B5_7 rfl (tlt hc7_5).2.1 (xaloadN X4 hx hby rfl d_B5_10 rfl rfl (xiloadN X4 hx hby rfl d_B5_11 rfl (X4.caload hx (j := (1 : Int32)) (v := (.int x1)) (own_in e4 Ar6.1) (State.isArrayOf_alike hZ.alike Ar6.2.1) Ar6.2.2 hin6 (Has.at Hs6 hin6 rfl) (g := (mkF m 12 #[rv b0, iv 1, rv b2, iv 1, iv z, iv 1, iv x0] [.int 1, .ref b0])) rfl rfl (hb hby d_B5_12) _ (xistore X4 hx hby rfl d_B5_13 rfl (l' := #[rv b0, iv 1, rv b2, iv 1, iv z, iv 1, iv x1]) rfl (xiload X4 hx hby rfl d_B5_15 rfl (show Steps p.tables e below (T4.setTop (mkF m 17 #[rv b0, iv 1, rv b2, iv 1, iv z, iv 1, iv x1] [.int x1])) _ from xsipush X4 hx hby rfl d_B5_17 (xicmpYes X4 hx hby rfl 20 26 rfl d_B5_20 rfl (flt (u_x1 : ¬ ((255 : Int32) < x1))).2.2.2 (by decide) (by decide) (xaloadN X4 hx hby rfl d_B5_26 rfl rfl (xiloadN X4 hx hby rfl d_B5_27 rfl (xiload X4 hx hby rfl d_B5_28 rfl (XS.i2b X4.here hx rfl (hb hby d_B5_30) rfl (show Steps p.tables e below (T4.setTop (mkF m 31 #[rv b0, iv 1, rv b2, iv 1, iv z, iv 1, iv x1] [(.int (x1.toInt8.toInt32)), .int 1, .ref b2])) _ from st8 _ (xiinc X8 hx hby rfl d_B5_32 rfl (l' := #[rv b0, iv 2, rv b2, iv 1, iv z, iv 1, iv x1]) rfl (xiinc X8 hx hby rfl d_B5_35 rfl (l' := #[rv b0, iv 2, rv b2, iv 2, iv z, iv 1, iv x1]) rfl (xiinc X8 hx hby rfl d_B5_38 rfl (l' := #[rv b0, iv 2, rv b2, iv 2, iv z, iv 2, iv x1]) rfl (xgoto X8 hx hby rfl 41 3 rfl d_B5_41 (by decide) (by decide) (xiload X8 hx hby rfl d_B5_3 rfl (show Steps p.tables e below (T8.setTop (mkF m 5 #[rv b0, iv 2, rv b2, iv 2, iv z, iv 2, iv x1] [.int 2])) _ from xiload X8 hx hby rfl d_B5_5 rfl k))))))))))))))))))) ?_
      clear Ar3 X4 e4 V_b0_4 K4 N4 V_b2_4 Ar6 Sz6 M6 Hs6 Gs6 hin6 q7 Sz7 M7 Hs7 Gs7 hin7 W8 st8
      by_cases hc7_9 : (2 : Int32) < z
      · obtain ⟨cl10, Ar10, -, Sz10, M10, Hs10, Gs10⟩ := id V_b0_8
        have hin10 := inb_of (j := (2 : Int32)) Sz10 ⟨by decide, hc7_9⟩
        obtain ⟨cl11, Ar11, q11, Sz11, M11, Hs11, Gs11⟩ := id V_b2_8
        have hin11 := inb_of (j := (2 : Int32)) Sz11 ⟨by decide, hc7_9⟩
        obtain ⟨T12, h12, X12, e12, W12, st12⟩ := stB X8 hx hZ e8 Ar11 (j := (2 : Int32)) hin11 (g := (mkF m 31 #[rv b0, iv 2, rv b2, iv 2, iv z, iv 2, iv x2] [(.int (x2.toInt8.toInt32)), .int 2, .ref b2])) rfl rfl (hb hby d_B5_31)
        have V_b0_12 := V_b0_8.other W12 hne
        have K12 := K8.wr W12 (Or.inl (List.mem_of_getElem? (i := 0) rfl))
        have N12 := Fr.snoc X12 N8 g_2
        have V_b2_12 := Arv.set Ar11 q11 Sz11 M11 Hs11 Gs11 (fits_nar_byte _) W12 2 rfl (Nat.le_of_ble_eq_true rfl)
        refine own_go (b := T12.setTop (mkF m 7 #[rv b0, iv 3, rv b2, iv 3, iv z, iv 3, iv x2] [.int z, .int 3])) (fun t k => xicmpNo X8 hx hby rfl d_B5_7 rfl (tlt hc7_9).2.1 (xaloadN X8 hx hby rfl d_B5_10 rfl rfl (xiloadN X8 hx hby rfl d_B5_11 rfl (X8.caload hx (j := (2 : Int32)) (v := (.int x2)) (own_in e8 Ar10.1) (State.isArrayOf_alike hZ.alike Ar10.2.1) Ar10.2.2 hin10 (Has.at Hs10 hin10 rfl) (g := (mkF m 12 #[rv b0, iv 2, rv b2, iv 2, iv z, iv 2, iv x1] [.int 2, .ref b0])) rfl rfl (hb hby d_B5_12) _ (xistore X8 hx hby rfl d_B5_13 rfl (l' := #[rv b0, iv 2, rv b2, iv 2, iv z, iv 2, iv x2]) rfl (xiload X8 hx hby rfl d_B5_15 rfl (show Steps p.tables e below (T8.setTop (mkF m 17 #[rv b0, iv 2, rv b2, iv 2, iv z, iv 2, iv x2] [.int x2])) _ from xsipush X8 hx hby rfl d_B5_17 (xicmpYes X8 hx hby rfl 20 26 rfl d_B5_20 rfl (flt (u_x2 : ¬ ((255 : Int32) < x2))).2.2.2 (by decide) (by decide) (xaloadN X8 hx hby rfl d_B5_26 rfl rfl (xiloadN X8 hx hby rfl d_B5_27 rfl (xiload X8 hx hby rfl d_B5_28 rfl (XS.i2b X8.here hx rfl (hb hby d_B5_30) rfl (show Steps p.tables e below (T8.setTop (mkF m 31 #[rv b0, iv 2, rv b2, iv 2, iv z, iv 2, iv x2] [(.int (x2.toInt8.toInt32)), .int 2, .ref b2])) _ from st12 _ (xiinc X12 hx hby rfl d_B5_32 rfl (l' := #[rv b0, iv 3, rv b2, iv 2, iv z, iv 2, iv x2]) rfl (xiinc X12 hx hby rfl d_B5_35 rfl (l' := #[rv b0, iv 3, rv b2, iv 3, iv z, iv 2, iv x2]) rfl (xiinc X12 hx hby rfl d_B5_38 rfl (l' := #[rv b0, iv 3, rv b2, iv 3, iv z, iv 3, iv x2]) rfl (xgoto X12 hx hby rfl 41 3 rfl d_B5_41 (by decide) (by decide) (xiload X12 hx hby rfl d_B5_3 rfl (show Steps p.tables e below (T12.setTop (mkF m 5 #[rv b0, iv 3, rv b2, iv 3, iv z, iv 3, iv x2] [.int 3])) _ from xiload X12 hx hby rfl d_B5_5 rfl k))))))))))))))))))) ?_
        clear Ar7 X8 e8 V_b0_8 K8 N8 V_b2_8 Ar10 Sz10 M10 Hs10 Gs10 hin10 q11 Sz11 M11 Hs11 Gs11 hin11 W12 st12
        by_cases hc7_13 : (3 : Int32) < z
        · obtain ⟨cl14, Ar14, -, Sz14, M14, Hs14, Gs14⟩ := id V_b0_12
          have hin14 := inb_of (j := (3 : Int32)) Sz14 ⟨by decide, hc7_13⟩
          obtain ⟨cl15, Ar15, q15, Sz15, M15, Hs15, Gs15⟩ := id V_b2_12
          have hin15 := inb_of (j := (3 : Int32)) Sz15 ⟨by decide, hc7_13⟩
          obtain ⟨T16, h16, X16, e16, W16, st16⟩ := stB X12 hx hZ e12 Ar15 (j := (3 : Int32)) hin15 (g := (mkF m 31 #[rv b0, iv 3, rv b2, iv 3, iv z, iv 3, iv x3] [(.int (x3.toInt8.toInt32)), .int 3, .ref b2])) rfl rfl (hb hby d_B5_31)
          have V_b0_16 := V_b0_12.other W16 hne
          have K16 := K12.wr W16 (Or.inl (List.mem_of_getElem? (i := 0) rfl))
          have N16 := Fr.snoc X16 N12 g_2
          have V_b2_16 := Arv.set Ar15 q15 Sz15 M15 Hs15 Gs15 (fits_nar_byte _) W16 3 rfl (Nat.le_of_ble_eq_true rfl)
          refine own_go (b := T16.setTop (mkF m 7 #[rv b0, iv 4, rv b2, iv 4, iv z, iv 4, iv x3] [.int z, .int 4])) (fun t k => xicmpNo X12 hx hby rfl d_B5_7 rfl (tlt hc7_13).2.1 (xaloadN X12 hx hby rfl d_B5_10 rfl rfl (xiloadN X12 hx hby rfl d_B5_11 rfl (X12.caload hx (j := (3 : Int32)) (v := (.int x3)) (own_in e12 Ar14.1) (State.isArrayOf_alike hZ.alike Ar14.2.1) Ar14.2.2 hin14 (Has.at Hs14 hin14 rfl) (g := (mkF m 12 #[rv b0, iv 3, rv b2, iv 3, iv z, iv 3, iv x2] [.int 3, .ref b0])) rfl rfl (hb hby d_B5_12) _ (xistore X12 hx hby rfl d_B5_13 rfl (l' := #[rv b0, iv 3, rv b2, iv 3, iv z, iv 3, iv x3]) rfl (xiload X12 hx hby rfl d_B5_15 rfl (show Steps p.tables e below (T12.setTop (mkF m 17 #[rv b0, iv 3, rv b2, iv 3, iv z, iv 3, iv x3] [.int x3])) _ from xsipush X12 hx hby rfl d_B5_17 (xicmpYes X12 hx hby rfl 20 26 rfl d_B5_20 rfl (flt (u_x3 : ¬ ((255 : Int32) < x3))).2.2.2 (by decide) (by decide) (xaloadN X12 hx hby rfl d_B5_26 rfl rfl (xiloadN X12 hx hby rfl d_B5_27 rfl (xiload X12 hx hby rfl d_B5_28 rfl (XS.i2b X12.here hx rfl (hb hby d_B5_30) rfl (show Steps p.tables e below (T12.setTop (mkF m 31 #[rv b0, iv 3, rv b2, iv 3, iv z, iv 3, iv x3] [(.int (x3.toInt8.toInt32)), .int 3, .ref b2])) _ from st16 _ (xiinc X16 hx hby rfl d_B5_32 rfl (l' := #[rv b0, iv 4, rv b2, iv 3, iv z, iv 3, iv x3]) rfl (xiinc X16 hx hby rfl d_B5_35 rfl (l' := #[rv b0, iv 4, rv b2, iv 4, iv z, iv 3, iv x3]) rfl (xiinc X16 hx hby rfl d_B5_38 rfl (l' := #[rv b0, iv 4, rv b2, iv 4, iv z, iv 4, iv x3]) rfl (xgoto X16 hx hby rfl 41 3 rfl d_B5_41 (by decide) (by decide) (xiload X16 hx hby rfl d_B5_3 rfl (show Steps p.tables e below (T16.setTop (mkF m 5 #[rv b0, iv 4, rv b2, iv 4, iv z, iv 4, iv x3] [.int 4])) _ from xiload X16 hx hby rfl d_B5_5 rfl k))))))))))))))))))) ?_
          clear Ar11 X12 e12 V_b0_12 K12 N12 V_b2_12 Ar14 Sz14 M14 Hs14 Gs14 hin14 q15 Sz15 M15 Hs15 Gs15 hin15 W16 st16
          by_cases hc7_17 : (4 : Int32) < z
          · obtain ⟨cl18, Ar18, -, Sz18, M18, Hs18, Gs18⟩ := id V_b0_16
            have hin18 := inb_of (j := (4 : Int32)) Sz18 ⟨by decide, hc7_17⟩
            obtain ⟨cl19, Ar19, q19, Sz19, M19, Hs19, Gs19⟩ := id V_b2_16
            have hin19 := inb_of (j := (4 : Int32)) Sz19 ⟨by decide, hc7_17⟩
            obtain ⟨T20, h20, X20, e20, W20, st20⟩ := stB X16 hx hZ e16 Ar19 (j := (4 : Int32)) hin19 (g := (mkF m 31 #[rv b0, iv 4, rv b2, iv 4, iv z, iv 4, iv x4] [(.int (x4.toInt8.toInt32)), .int 4, .ref b2])) rfl rfl (hb hby d_B5_31)
            have V_b0_20 := V_b0_16.other W20 hne
            have K20 := K16.wr W20 (Or.inl (List.mem_of_getElem? (i := 0) rfl))
            have N20 := Fr.snoc X20 N16 g_2
            have V_b2_20 := Arv.set Ar19 q19 Sz19 M19 Hs19 Gs19 (fits_nar_byte _) W20 4 rfl (Nat.le_of_ble_eq_true rfl)
            refine own_go (b := T20.setTop (mkF m 7 #[rv b0, iv 5, rv b2, iv 5, iv z, iv 5, iv x4] [.int z, .int 5])) (fun t k => xicmpNo X16 hx hby rfl d_B5_7 rfl (tlt hc7_17).2.1 (xaloadN X16 hx hby rfl d_B5_10 rfl rfl (xiloadN X16 hx hby rfl d_B5_11 rfl (X16.caload hx (j := (4 : Int32)) (v := (.int x4)) (own_in e16 Ar18.1) (State.isArrayOf_alike hZ.alike Ar18.2.1) Ar18.2.2 hin18 (Has.at Hs18 hin18 rfl) (g := (mkF m 12 #[rv b0, iv 4, rv b2, iv 4, iv z, iv 4, iv x3] [.int 4, .ref b0])) rfl rfl (hb hby d_B5_12) _ (xistore X16 hx hby rfl d_B5_13 rfl (l' := #[rv b0, iv 4, rv b2, iv 4, iv z, iv 4, iv x4]) rfl (xiload X16 hx hby rfl d_B5_15 rfl (show Steps p.tables e below (T16.setTop (mkF m 17 #[rv b0, iv 4, rv b2, iv 4, iv z, iv 4, iv x4] [.int x4])) _ from xsipush X16 hx hby rfl d_B5_17 (xicmpYes X16 hx hby rfl 20 26 rfl d_B5_20 rfl (flt (u_x4 : ¬ ((255 : Int32) < x4))).2.2.2 (by decide) (by decide) (xaloadN X16 hx hby rfl d_B5_26 rfl rfl (xiloadN X16 hx hby rfl d_B5_27 rfl (xiload X16 hx hby rfl d_B5_28 rfl (XS.i2b X16.here hx rfl (hb hby d_B5_30) rfl (show Steps p.tables e below (T16.setTop (mkF m 31 #[rv b0, iv 4, rv b2, iv 4, iv z, iv 4, iv x4] [(.int (x4.toInt8.toInt32)), .int 4, .ref b2])) _ from st20 _ (xiinc X20 hx hby rfl d_B5_32 rfl (l' := #[rv b0, iv 5, rv b2, iv 4, iv z, iv 4, iv x4]) rfl (xiinc X20 hx hby rfl d_B5_35 rfl (l' := #[rv b0, iv 5, rv b2, iv 5, iv z, iv 4, iv x4]) rfl (xiinc X20 hx hby rfl d_B5_38 rfl (l' := #[rv b0, iv 5, rv b2, iv 5, iv z, iv 5, iv x4]) rfl (xgoto X20 hx hby rfl 41 3 rfl d_B5_41 (by decide) (by decide) (xiload X20 hx hby rfl d_B5_3 rfl (show Steps p.tables e below (T20.setTop (mkF m 5 #[rv b0, iv 5, rv b2, iv 5, iv z, iv 5, iv x4] [.int 5])) _ from xiload X20 hx hby rfl d_B5_5 rfl k))))))))))))))))))) ?_
            clear Ar15 X16 e16 V_b0_16 K16 N16 V_b2_16 Ar18 Sz18 M18 Hs18 Gs18 hin18 q19 Sz19 M19 Hs19 Gs19 hin19 W20 st20
            by_cases hc7_21 : (5 : Int32) < z
            · obtain ⟨cl22, Ar22, -, Sz22, M22, Hs22, Gs22⟩ := id V_b0_20
              have hin22 := inb_of (j := (5 : Int32)) Sz22 ⟨by decide, hc7_21⟩
              obtain ⟨cl23, Ar23, q23, Sz23, M23, Hs23, Gs23⟩ := id V_b2_20
              have hin23 := inb_of (j := (5 : Int32)) Sz23 ⟨by decide, hc7_21⟩
              obtain ⟨T24, h24, X24, e24, W24, st24⟩ := stB X20 hx hZ e20 Ar23 (j := (5 : Int32)) hin23 (g := (mkF m 31 #[rv b0, iv 5, rv b2, iv 5, iv z, iv 5, iv x5] [(.int (x5.toInt8.toInt32)), .int 5, .ref b2])) rfl rfl (hb hby d_B5_31)
              have V_b0_24 := V_b0_20.other W24 hne
              have K24 := K20.wr W24 (Or.inl (List.mem_of_getElem? (i := 0) rfl))
              have N24 := Fr.snoc X24 N20 g_2
              have V_b2_24 := Arv.set Ar23 q23 Sz23 M23 Hs23 Gs23 (fits_nar_byte _) W24 5 rfl (Nat.le_of_ble_eq_true rfl)
              exact own_ret (v := some (.int z)) X24 e24 Bd.notSynchronized (nv Bd.returns) (fun fs hr => xicmpNo X20 hx hby rfl d_B5_7 rfl (tlt hc7_21).2.1 (xaloadN X20 hx hby rfl d_B5_10 rfl rfl (xiloadN X20 hx hby rfl d_B5_11 rfl (X20.caload hx (j := (5 : Int32)) (v := (.int x5)) (own_in e20 Ar22.1) (State.isArrayOf_alike hZ.alike Ar22.2.1) Ar22.2.2 hin22 (Has.at Hs22 hin22 rfl) (g := (mkF m 12 #[rv b0, iv 5, rv b2, iv 5, iv z, iv 5, iv x4] [.int 5, .ref b0])) rfl rfl (hb hby d_B5_12) _ (xistore X20 hx hby rfl d_B5_13 rfl (l' := #[rv b0, iv 5, rv b2, iv 5, iv z, iv 5, iv x5]) rfl (xiload X20 hx hby rfl d_B5_15 rfl (show Steps p.tables e below (T20.setTop (mkF m 17 #[rv b0, iv 5, rv b2, iv 5, iv z, iv 5, iv x5] [.int x5])) _ from xsipush X20 hx hby rfl d_B5_17 (xicmpYes X20 hx hby rfl 20 26 rfl d_B5_20 rfl (flt (u_x5 : ¬ ((255 : Int32) < x5))).2.2.2 (by decide) (by decide) (xaloadN X20 hx hby rfl d_B5_26 rfl rfl (xiloadN X20 hx hby rfl d_B5_27 rfl (xiload X20 hx hby rfl d_B5_28 rfl (XS.i2b X20.here hx rfl (hb hby d_B5_30) rfl (show Steps p.tables e below (T20.setTop (mkF m 31 #[rv b0, iv 5, rv b2, iv 5, iv z, iv 5, iv x5] [(.int (x5.toInt8.toInt32)), .int 5, .ref b2])) _ from st24 _ (xiinc X24 hx hby rfl d_B5_32 rfl (l' := #[rv b0, iv 6, rv b2, iv 5, iv z, iv 5, iv x5]) rfl (xiinc X24 hx hby rfl d_B5_35 rfl (l' := #[rv b0, iv 6, rv b2, iv 6, iv z, iv 5, iv x5]) rfl (xiinc X24 hx hby rfl d_B5_38 rfl (l' := #[rv b0, iv 6, rv b2, iv 6, iv z, iv 6, iv x5]) rfl (xgoto X24 hx hby rfl 41 3 rfl d_B5_41 (by decide) (by decide) (xiload X24 hx hby rfl d_B5_3 rfl (show Steps p.tables e below (T24.setTop (mkF m 5 #[rv b0, iv 6, rv b2, iv 6, iv z, iv 6, iv x5] [.int 6])) _ from xiload X24 hx hby rfl d_B5_5 rfl (xicmpYes X24 hx hby rfl 7 44 rfl d_B5_7 rfl (flt (hNz : ¬ ((6 : Int32) < z))).2.1 (by decide) (by decide) (xiload X24 hx hby rfl d_B5_44 rfl (retI X24 hx Bd.returns (hb hby d_B5_46) hr)))))))))))))))))))))) ⟨rfl, N24, K24, own_cut (j := (6 : Int32)) V_b2_24 6 rfl hNz (by simp only [List.set_cons_zero, List.set_cons_succ, List.take_succ_cons, List.take_zero] <;> rfl)⟩ (by decide)
            · exact own_ret (v := some (.int z)) X20 e20 Bd.notSynchronized (nv Bd.returns) (fun fs hr => xicmpYes X20 hx hby rfl 7 44 rfl d_B5_7 rfl (flt hc7_21).2.1 (by decide) (by decide) (xiload X20 hx hby rfl d_B5_44 rfl (retI X20 hx Bd.returns (hb hby d_B5_46) hr))) ⟨rfl, N20, K20, own_cut (j := (5 : Int32)) V_b2_20 5 rfl hc7_21 (by simp only [List.set_cons_zero, List.set_cons_succ, List.take_succ_cons, List.take_zero] <;> rfl)⟩ (by decide)
          · exact own_ret (v := some (.int z)) X16 e16 Bd.notSynchronized (nv Bd.returns) (fun fs hr => xicmpYes X16 hx hby rfl 7 44 rfl d_B5_7 rfl (flt hc7_17).2.1 (by decide) (by decide) (xiload X16 hx hby rfl d_B5_44 rfl (retI X16 hx Bd.returns (hb hby d_B5_46) hr))) ⟨rfl, N16, K16, own_cut (j := (4 : Int32)) V_b2_16 4 rfl hc7_17 (by simp only [List.set_cons_zero, List.set_cons_succ, List.take_succ_cons, List.take_zero] <;> rfl)⟩ (by decide)
        · exact own_ret (v := some (.int z)) X12 e12 Bd.notSynchronized (nv Bd.returns) (fun fs hr => xicmpYes X12 hx hby rfl 7 44 rfl d_B5_7 rfl (flt hc7_13).2.1 (by decide) (by decide) (xiload X12 hx hby rfl d_B5_44 rfl (retI X12 hx Bd.returns (hb hby d_B5_46) hr))) ⟨rfl, N12, K12, own_cut (j := (3 : Int32)) V_b2_12 3 rfl hc7_13 (by simp only [List.set_cons_zero, List.set_cons_succ, List.take_succ_cons, List.take_zero] <;> rfl)⟩ (by decide)
      · exact own_ret (v := some (.int z)) X8 e8 Bd.notSynchronized (nv Bd.returns) (fun fs hr => xicmpYes X8 hx hby rfl 7 44 rfl d_B5_7 rfl (flt hc7_9).2.1 (by decide) (by decide) (xiload X8 hx hby rfl d_B5_44 rfl (retI X8 hx Bd.returns (hb hby d_B5_46) hr))) ⟨rfl, N8, K8, own_cut (j := (2 : Int32)) V_b2_8 2 rfl hc7_9 (by simp only [List.set_cons_zero, List.set_cons_succ, List.take_succ_cons, List.take_zero] <;> rfl)⟩ (by decide)
    · exact own_ret (v := some (.int z)) X4 e4 Bd.notSynchronized (nv Bd.returns) (fun fs hr => xicmpYes X4 hx hby rfl 7 44 rfl d_B5_7 rfl (flt hc7_5).2.1 (by decide) (by decide) (xiload X4 hx hby rfl d_B5_44 rfl (retI X4 hx Bd.returns (hb hby d_B5_46) hr))) ⟨rfl, N4, K4, own_cut (j := (1 : Int32)) V_b2_4 1 rfl hc7_5 (by simp only [List.set_cons_zero, List.set_cons_succ, List.take_succ_cons, List.take_zero] <;> rfl)⟩ (by decide)
  · exact own_ret (v := some (.int z)) X0 e0 Bd.notSynchronized (nv Bd.returns) (fun fs hr => xicmpYes X0 hx hby rfl 7 44 rfl d_B5_7 rfl (flt hc7_1).2.1 (by decide) (by decide) (xiload X0 hx hby rfl d_B5_44 rfl (retI X0 hx Bd.returns (hb hby d_B5_46) hr))) ⟨rfl, N0, (Keep.refl h0 [b2]), own_cut (j := (0 : Int32)) V_b2 0 rfl hc7_1 (by simp only [List.set_cons_zero, List.set_cons_succ, List.take_succ_cons, List.take_zero] <;> rfl)⟩ (by decide)
theorem d_B6_0 : decode jdk_52_method_16_code 0 = .ok (.iload_n 2, 1) := by decide +kernel
theorem d_B6_1 : decode jdk_52_method_16_code 1 = .ok (.newarray .byte, 2) := by decide +kernel
theorem d_B6_3 : decode jdk_52_method_16_code 3 = .ok (.astore_n 3, 1) := by decide +kernel
theorem d_B6_4 : decode jdk_52_method_16_code 4 = .ok (.aload_n 0, 1) := by decide +kernel
theorem d_B6_5 : decode jdk_52_method_16_code 5 = .ok (.iload_n 1, 1) := by decide +kernel
theorem d_B6_6 : decode jdk_52_method_16_code 6 = .ok (.aload_n 3, 1) := by decide +kernel
theorem d_B6_7 : decode jdk_52_method_16_code 7 = .ok (.iconst 0, 1) := by decide +kernel
theorem d_B6_8 : decode jdk_52_method_16_code 8 = .ok (.iload_n 2, 1) := by decide +kernel
theorem d_B6_9 : decode jdk_52_method_16_code 9 = .ok (.invokestatic 115, 3) := by decide +kernel
theorem d_B6_12 : decode jdk_52_method_16_code 12 = .ok (.istore 4, 2) := by decide +kernel
theorem d_B6_14 : decode jdk_52_method_16_code 14 = .ok (.iload 4, 2) := by decide +kernel
theorem d_B6_16 : decode jdk_52_method_16_code 16 = .ok (.iload_n 2, 1) := by decide +kernel
theorem d_B6_17 : decode jdk_52_method_16_code 17 = .ok (.if_icmp .eq 40, 3) := by decide +kernel
theorem d_B6_57 : decode jdk_52_method_16_code 57 = .ok (.aload_n 3, 1) := by decide +kernel
theorem d_B6_58 : decode jdk_52_method_16_code 58 = .ok (.areturn, 1) := by decide +kernel
set_option maxRecDepth 65536 in
set_option maxHeartbeats 40000000 in
theorem own_rmC3 (l : Launch) (Z : State) (a0 : Array Value) (hw : ∀ d ∈ tables_1, d.before a0 Z = true) (ws : List Jvm.Cond) (b0 : Addr) (z : Int32) (kc : ClassId) (x0 x1 x2 x3 x4 x5 : Int32) (h0 : Heap) (n0 : Nat) (Z0 : n0 ≤ h0.size) (V_b0 : Arv Z h0 b0 kc .char z [.int x0, .int x1, .int x2, .int x3, .int x4, .int x5] (.int 0)) (h0z : ¬ z < (0 : Int32)) (hNz : ¬ (6 : Int32) < z) (l_x0 : ¬ x0 < (0 : Int32)) (u_x0 : ¬ (255 : Int32) < x0) (l_x1 : ¬ x1 < (0 : Int32)) (u_x1 : ¬ (255 : Int32) < x1) (l_x2 : ¬ x2 < (0 : Int32)) (u_x2 : ¬ (255 : Int32) < x2) (l_x3 : ¬ x3 < (0 : Int32)) (u_x3 : ¬ (255 : Int32) < x3) (l_x4 : ¬ x4 < (0 : Int32)) (u_x4 : ¬ (255 : Int32) < x4) (l_x5 : ¬ x5 < (0 : Int32)) (u_x5 : ¬ (255 : Int32) < x5) : own_M l Z (⟨"java/lang/StringUTF16", "compress", "([CII)[B"⟩ : MethodName) jdk_52_method_16_code 6 (some (.array .byte)) ws ({ frames := 1, cells := 1, slots := 6, locals := 18 } : Room) #[.ref b0, .int 0, .int z] h0 (own_Q3 Z z [(.int (own_b x0)), (.int (own_b x1)), (.int (own_b x2)), (.int (own_b x3)), (.int (own_b x4)), (.int (own_b x5))] h0 n0) := by
  refine own_begin (n0 := n0) (f0 := mkF ⟨0, 0⟩ 0 #[rv b0, iv 0, iv z, .unset, .unset, .unset] []) (plainFor_of_name own_pn2) (fun m => ef_111_6 m _ _ _ rfl rfl rfl) ?_
  intro p e s m below meth c s₁ Bd hZ hx hby hml hown hnm X0 e0 N0
  obtain ⟨T1, h1, k1, X1, e1, E1, A1, fB1, st1⟩ := own_newB X0 hx hZ (wd hw 1 rfl) e0 (g := (mkF m 1 #[rv b0, iv 0, iv z, .unset, .unset, .unset] [.int z])) rfl (hb hby d_B6_1) rfl h0z (cap := 6) (own_capN 6 (6 : Int32) (by decide) hNz) (by decide) (by decide) (by decide)
  obtain ⟨b1, g1⟩ : ∃ z, z = h0.size := ⟨_, rfl⟩
  rw [← g1] at A1 st1
  have new_b1 : n0 ≤ b1 := Nat.le_trans Z0 (Nat.le_of_eq g1.symm)
  have sz_b1 : h0.size ≤ b1 := Nat.le_trans (Keep.refl h0 []).1 (Nat.le_of_eq g1.symm)
  have K1 := (Keep.refl h0 []).ext E1
  have V_b1 : Arv Z h1 b1 k1 .byte z [.int 0, .int 0, .int 0, .int 0, .int 0, .int 0] (.int 0) := (Arv.new A1 h0z).pad (pad_rep [] (.int 0) 6)
  refine own_go (b := T1.setTop (mkF m 9 #[rv b0, iv 0, iv z, rv b1, .unset, .unset] [.int z, .int 0, .ref b1, .int 0, .ref b0])) (fun t k => xiloadN X0 hx hby rfl d_B6_0 rfl (st1 _ (xastoreN X1 hx hby rfl d_B6_3 rfl rfl (l' := #[rv b0, iv 0, iv z, rv b1, .unset, .unset]) rfl (xaloadN X1 hx hby rfl d_B6_4 rfl rfl (xiloadN X1 hx hby rfl d_B6_5 rfl (xaloadN X1 hx hby rfl d_B6_6 rfl rfl (show Steps p.tables e below (T1.setTop (mkF m 7 #[rv b0, iv 0, iv z, rv b1, .unset, .unset] [.ref b1, .int 0, .ref b0])) _ from xiconst X1 hx hby rfl d_B6_7 (xiloadN X1 hx hby rfl d_B6_8 rfl k)))))))) ?_
  refine own_cs X1 hx hZ hown hml e1 (wd hw 86 rfl) (wd hw 87 rfl) (wd hw 84 rfl) (wd hw 88 rfl) (own_rmC5 l Z a0 hw [] b0 b1 z kc k1 x0 x1 x2 x3 x4 x5 h1 n0 (Nat.le_trans Z0 K1.1) (V_b0.keep K1 nNl) V_b1 (nl V_b0.lt sz_b1) new_b1 h0z hNz l_x0 u_x0 l_x1 u_x1 l_x2 u_x2 l_x3 u_x3 l_x4 u_x4 l_x5 u_x5) own_pd2 (hb hby d_B6_9) 0 [] rfl ⟨rfl, rfl, rfl, rfl, rfl⟩ (by decide) ?_
  rintro T2 L2 v2 X2 hQ2
  obtain ⟨rfl, N2q, K2q, B2⟩ := hQ2
  have N2 := Fr.app N0 N2q
  have K2 := K1.trans K2q (fun x hx => by cases List.mem_singleton.mp hx; exact Or.inr sz_b1)
  exact own_ret (v := some (.ref b1)) X2 rfl Bd.notSynchronized (nv Bd.returns) (fun fs hr => xistore X2 hx hby rfl d_B6_12 rfl (l' := #[rv b0, iv 0, iv z, rv b1, iv z, .unset]) rfl (xiload X2 hx hby rfl d_B6_14 rfl (xiloadN X2 hx hby rfl d_B6_16 rfl (xicmpYes X2 hx hby rfl 17 57 rfl d_B6_17 rfl (teq (rfl : z = z)).1 (by decide) (by decide) (xaloadN X2 hx hby rfl d_B6_57 rfl rfl (retA X2 hx Bd.returns (hb hby d_B6_58) hr)))))) ⟨_, _, rfl, N2, K2, B2, own_exaB B2 fB1, sz_b1⟩ (by decide)
theorem d_B7_0 : decode jdk_52_method_15_code 0 = .ok (.iload_n 1, 1) := by decide +kernel
theorem d_B7_1 : decode jdk_52_method_15_code 1 = .ok (.aload_n 0, 1) := by decide +kernel
theorem d_B7_2 : decode jdk_52_method_15_code 2 = .ok (.arraylength, 1) := by decide +kernel
theorem d_B7_3 : decode jdk_52_method_15_code 3 = .ok (.isub, 1) := by decide +kernel
theorem d_B7_4 : decode jdk_52_method_15_code 4 = .ok (.bipush 31, 2) := by decide +kernel
theorem d_B7_6 : decode jdk_52_method_15_code 6 = .ok (.iushr, 1) := by decide +kernel
theorem d_B7_7 : decode jdk_52_method_15_code 7 = .ok (.i2b, 1) := by decide +kernel
theorem d_B7_8 : decode jdk_52_method_15_code 8 = .ok (.ireturn, 1) := by decide +kernel
set_option maxRecDepth 65536 in
set_option maxHeartbeats 40000000 in
theorem own_rmCf (l : Launch) (Z : State) (a0 : Array Value) (hw : ∀ d ∈ tables_1, d.before a0 Z = true) (ws : List Jvm.Cond) (b0 : Addr) (z : Int32) (kb : ClassId) (vs : List Value) (h0 : Heap) (n0 : Nat) (Z0 : n0 ≤ h0.size) (V_b0 : Arv Z h0 b0 kb .byte z vs (.int 0)) : own_M l Z (⟨"java/lang/StringUTF16", "coderFromArrayLen", "([BI)B"⟩ : MethodName) jdk_52_method_15_code 2 (some .byte) ws ({ frames := 0, cells := 0, slots := 0, locals := 0 } : Room) #[.ref b0, .int z] h0 (own_QI (0 : Int32) h0 n0) := by
  refine own_begin (n0 := n0) (f0 := mkF ⟨0, 0⟩ 0 #[rv b0, iv z] []) (plainFor_of_name own_pn2) (fun m => ef_11_2 m _ _ rfl rfl) ?_
  intro p e s m below meth c s₁ Bd hZ hx hby hml hown hnm X0 e0 N0
  obtain ⟨cl1, Ar1, -, Sz1, M1, -, -⟩ := id V_b0
  refine own_ret (v := some (.int (nar .byte ((((z - z).toUInt32 >>> ((31 : Int32) &&& 31).toUInt32).toInt32).toInt8.toInt32)))) X0 e0 Bd.notSynchronized (nv Bd.returns) (fun fs hr => ?_) ⟨congrArg (fun q => some (Value.int q)) (own_cf0 z), N0, rfl⟩ (by decide)
  refine xiloadN X0 hx hby rfl d_B7_0 rfl (xaloadN X0 hx hby rfl d_B7_1 rfl rfl (X0.arraylength hx (own_in e0 Ar1.1) (State.isArrayOf_alike hZ.alike Ar1.2.1) (g := (mkF m 2 #[rv b0, iv z] [.ref b0, .int z])) rfl rfl (hb hby d_B7_2) _ ?_))
  rw [len_of Sz1 M1]
  refine xisub X0 hx hby rfl d_B7_3 rfl (xbipush X0 hx hby rfl d_B7_4 (show Steps p.tables e below (s₁.setTop (mkF m 6 #[rv b0, iv z] [.int 31, (.int (z - z))])) _ from XS.iushr X0.here hx rfl (hb hby d_B7_6) rfl (XS.i2b X0.here hx rfl (hb hby d_B7_7) rfl (retN X0 hx (t := .byte) Bd.returns (by simp) (hb hby d_B7_8) hr))))
theorem d_B8_0 : decode jdk_42_method_149_code 0 = .ok (.aload_n 0, 1) := by decide +kernel
theorem d_B8_1 : decode jdk_42_method_149_code 1 = .ok (.invokespecial 1, 3) := by decide +kernel
theorem d_B8_4 : decode jdk_42_method_149_code 4 = .ok (.iload_n 3, 1) := by decide +kernel
theorem d_B8_5 : decode jdk_42_method_149_code 5 = .ok (.ifCond .ne 22, 3) := by decide +kernel
theorem d_B8_27 : decode jdk_42_method_149_code 27 = .ok (.getstatic 38, 3) := by decide +kernel
theorem d_B8_30 : decode jdk_42_method_149_code 30 = .ok (.ifCond .eq 28, 3) := by decide +kernel
theorem d_B8_33 : decode jdk_42_method_149_code 33 = .ok (.aload_n 1, 1) := by decide +kernel
theorem d_B8_34 : decode jdk_42_method_149_code 34 = .ok (.iload_n 2, 1) := by decide +kernel
theorem d_B8_35 : decode jdk_42_method_149_code 35 = .ok (.iload_n 3, 1) := by decide +kernel
theorem d_B8_36 : decode jdk_42_method_149_code 36 = .ok (.invokestatic 177, 3) := by decide +kernel
theorem d_B8_39 : decode jdk_42_method_149_code 39 = .ok (.astore 5, 2) := by decide +kernel
theorem d_B8_41 : decode jdk_42_method_149_code 41 = .ok (.aload_n 0, 1) := by decide +kernel
theorem d_B8_42 : decode jdk_42_method_149_code 42 = .ok (.aload 5, 2) := by decide +kernel
theorem d_B8_44 : decode jdk_42_method_149_code 44 = .ok (.iload_n 3, 1) := by decide +kernel
theorem d_B8_45 : decode jdk_42_method_149_code 45 = .ok (.invokestatic 47, 3) := by decide +kernel
theorem d_B8_48 : decode jdk_42_method_149_code 48 = .ok (.putfield 15, 3) := by decide +kernel
theorem d_B8_51 : decode jdk_42_method_149_code 51 = .ok (.aload_n 0, 1) := by decide +kernel
theorem d_B8_52 : decode jdk_42_method_149_code 52 = .ok (.aload 5, 2) := by decide +kernel
theorem d_B8_54 : decode jdk_42_method_149_code 54 = .ok (.putfield 9, 3) := by decide +kernel
theorem d_B8_57 : decode jdk_42_method_149_code 57 = .ok (.return_, 1) := by decide +kernel
set_option maxRecDepth 65536 in
set_option maxHeartbeats 40000000 in
theorem own_rmI4 (l : Launch) (Z : State) (a0 : Array Value) (hw : ∀ d ∈ tables_1, d.before a0 Z = true) (ws : List Jvm.Cond) (b0 : Addr) (b1 : Addr) (z : Int32) (kc : ClassId) (cs : Int32) (x0 x1 x2 x3 x4 x5 : Int32) (h0 : Heap) (n0 : Nat) (Z0 : n0 ≤ h0.size) (E_0 : Exa Z h0 b0 "java/lang/String") (F_v : Fld Z h0 b0 "java/lang/String" "value" "[B" .null) (F_c : Fld Z h0 b0 "java/lang/String" "coder" "B" (.int 0)) (F_h : Fld Z h0 b0 "java/lang/String" "hash" "I" (.int 0)) (F_z : Fld Z h0 b0 "java/lang/String" "hashIsZero" "Z" (.int 0)) (g_0 : n0 ≤ b0) (V_b1 : Arv Z h0 b1 kc .char z [.int x0, .int x1, .int x2, .int x3, .int x4, .int x5] (.int 0)) (S_cs : Sta Z h0 "java/lang/String" "COMPACT_STRINGS" "Z" (.int cs)) (hcs : ¬ cs = (0 : Int32)) (h0z : ¬ z < (0 : Int32)) (hNz : ¬ (6 : Int32) < z) (l_x0 : ¬ x0 < (0 : Int32)) (u_x0 : ¬ (255 : Int32) < x0) (l_x1 : ¬ x1 < (0 : Int32)) (u_x1 : ¬ (255 : Int32) < x1) (l_x2 : ¬ x2 < (0 : Int32)) (u_x2 : ¬ (255 : Int32) < x2) (l_x3 : ¬ x3 < (0 : Int32)) (u_x3 : ¬ (255 : Int32) < x3) (l_x4 : ¬ x4 < (0 : Int32)) (u_x4 : ¬ (255 : Int32) < x4) (l_x5 : ¬ x5 < (0 : Int32)) (u_x5 : ¬ (255 : Int32) < x5) (h01 : b1 ≠ b0) (hz0 : ¬ z = (0 : Int32)) : own_M l Z y9N jdk_42_method_149_code 6 none ws ({ frames := 2, cells := 1, slots := 6, locals := 35 } : Room) #[.ref b0, .ref b1, .int 0, .int z, .null] h0 (own_Q4 Z b0 z [(.int (own_b x0)), (.int (own_b x1)), (.int (own_b x2)), (.int (own_b x3)), (.int (own_b x4)), (.int (own_b x5))] h0 n0) := by
  refine own_begin (n0 := n0) (f0 := mkF ⟨0, 0⟩ 0 #[rv b0, rv b1, iv 0, iv z, .val .null, .unset] []) (plainFor_of_name own_pn0) (fun m => ef_11111_6 m _ _ _ _ _ rfl rfl rfl rfl rfl) ?_
  intro p e s m below meth c s₁ Bd hZ hx hby hml hown hnm X0 e0 N0
  refine own_go (b := s₁.setTop (mkF m 1 #[rv b0, rv b1, iv 0, iv z, .val .null, .unset] [.ref b0])) (fun t k => xaloadN X0 hx hby rfl d_B8_0 rfl rfl k) ?_
  obtain ⟨T1, X1, e1, st1⟩ := initO X0 hx hZ hown (wd hw 23 rfl) (wd hw 24 rfl) (wd hw 25 rfl) e0 (g := (mkF m 1 #[rv b0, rv b1, iv 0, iv z, .val .null, .unset] [.ref b0])) rfl (by rw [hml]; rfl) rfl (hb hby d_B8_1) (by decide) (W := 0) (by show 2 * 0 + _ ≤ _; exact Nat.le_of_eq rfl) (by decide)
  obtain ⟨T2, X2, e2, st2⟩ := getS2 X1 hx hZ hown (host := "") (Or.inl (wd hw 59 rfl)) Via.refl e1 S_cs (g := (mkF m 27 #[rv b0, rv b1, iv 0, iv z, .val .null, .unset] [])) rfl (hb hby d_B8_27)
  refine own_go (b := T2.setTop (mkF m 36 #[rv b0, rv b1, iv 0, iv z, .val .null, .unset] [.int z, .int 0, .ref b1])) (fun t k => st1 _ (xiloadN X1 hx hby rfl d_B8_4 rfl (xifYes X1 hx hby rfl 5 27 rfl d_B8_5 rfl ((if0 _ _).trans (feq (hz0 : ¬ (z = (0 : Int32)))).2) (by decide) (by decide) (st2 _ (xifNo X2 hx hby rfl d_B8_30 rfl ((if0 _ _).trans (feq (hcs : ¬ (cs = (0 : Int32)))).1) (xaloadN X2 hx hby rfl d_B8_33 rfl rfl (show Steps p.tables e below (T2.setTop (mkF m 34 #[rv b0, rv b1, iv 0, iv z, .val .null, .unset] [.ref b1])) _ from xiloadN X2 hx hby rfl d_B8_34 rfl (xiloadN X2 hx hby rfl d_B8_35 rfl k)))))))) ?_
  refine own_cs X2 hx hZ hown hml e2 (wd hw 82 rfl) (wd hw 83 rfl) (wd hw 84 rfl) (wd hw 85 rfl) (own_rmC3 l Z a0 hw [] b1 z kc x0 x1 x2 x3 x4 x5 h0 n0 Z0 V_b1 h0z hNz l_x0 u_x0 l_x1 u_x1 l_x2 u_x2 l_x3 u_x3 l_x4 u_x4 l_x5 u_x5) own_pd3 (hb hby d_B8_36) 0 [] rfl ⟨rfl, rfl, rfl, rfl, rfl⟩ (by decide) ?_
  rintro T3 L3 v3 X3 hQ3
  obtain ⟨bc3, kb3, rfl, N3q, K3q, B3_0, B3_1, B3_2⟩ := hQ3
  have E_b0_3 := E_0.keep K3q
  have F_b0_value_3 := F_v.keep K3q List.not_mem_nil
  have F_b0_coder_3 := F_c.keep K3q List.not_mem_nil
  have F_b0_hash_3 := F_h.keep K3q List.not_mem_nil
  have F_b0_hashIsZero_3 := F_z.keep K3q List.not_mem_nil
  have V_b1_3 := V_b1.keep K3q List.not_mem_nil
  have S_String_COMPACT_STRINGS_3 := own_staKeep0 S_cs K3q
  have N3 := Fr.app N0 N3q
  have K3 := (Keep.refl h0 [b0]).trans K3q (fun x hx => nomatch hx)
  refine own_go (b := T3.setTop (mkF m 45 #[rv b0, rv b1, iv 0, iv z, .val .null, rv bc3] [.int z, .ref bc3, .ref b0])) (fun t k => xastore X3 hx hby rfl d_B8_39 rfl rfl (l' := #[rv b0, rv b1, iv 0, iv z, .val .null, rv bc3]) rfl (xaloadN X3 hx hby rfl d_B8_41 rfl rfl (xaload X3 hx hby rfl d_B8_42 rfl rfl (xiloadN X3 hx hby rfl d_B8_44 rfl k)))) ?_
  refine own_cs X3 hx hZ hown hml rfl (wd hw 89 rfl) (wd hw 90 rfl) (wd hw 84 rfl) (wd hw 91 rfl) (own_rmCf l Z a0 hw [] bc3 z kb3 _ T3.heap n0 (Nat.le_trans Z0 K3.1) B3_0) own_pd4 (hb hby d_B8_45) 1 [.ref b0] rfl ⟨rfl, rfl, rfl, rfl, rfl⟩ (by decide) ?_
  rintro T4 L4 v4 X4 hQ4
  obtain ⟨rfl, N4q, e4⟩ := hQ4
  have N4 := Fr.app N3 N4q
  obtain ⟨T5, h5, X5, e5, W5, st5⟩ := putFN X4 hx hZ hown (wd hw 32 rfl) Via.refl e4 F_b0_coder_3 E_b0_3 (Or.inr ⟨(wd hw 28 rfl), rfl, hnm⟩) (wd hw 14 rfl) (ty := .byte) (v' := (.int (nar .byte (0 : Int32)))) (by decide) rfl (fits_nar_byte _) (g := (mkF m 48 #[rv b0, rv b1, iv 0, iv z, .val .null, rv bc3] [.int 0, .ref b0])) rfl rfl (hb hby d_B8_48)
  have E_b0_5 := E_b0_3.wr W5
  have F_b0_value_5 := F_b0_value_3.other W5 (Or.inr (slot_ne (Or.inr (wd hw 27 rfl)) (Or.inr (wd hw 28 rfl)) (by decide) (t := (.array .byte)) (t' := .byte) (by decide) (by decide)))
  have F_b0_hash_5 := F_b0_hash_3.other W5 (Or.inr (slot_ne (Or.inl (wd hw 69 rfl)) (Or.inr (wd hw 28 rfl)) (by decide) (t := .int) (t' := .byte) (by decide) (by decide)))
  have F_b0_hashIsZero_5 := F_b0_hashIsZero_3.other W5 (Or.inr (slot_ne (Or.inl (wd hw 71 rfl)) (Or.inr (wd hw 28 rfl)) (by decide) (t := .boolean) (t' := .byte) (by decide) (by decide)))
  have V_b1_5 := V_b1_3.other W5 h01
  have S_String_COMPACT_STRINGS_5 := S_String_COMPACT_STRINGS_3.wr W5
  have V_bc3_5 := B3_0.other W5 (Ne.symm (nl E_0.lt B3_2))
  have E_bc3_5 := B3_1.wr W5
  have K5 := K3.wr W5 (Or.inl (List.mem_of_getElem? (i := 0) rfl))
  have N5 := Fr.snoc X5 N4 g_0
  have F_b0_coder_5 := F_b0_coder_3.same W5
  obtain ⟨T6, h6, X6, e6, W6, st6⟩ := putF X5 hx hZ hown (host := "") (Or.inl (wd hw 31 rfl)) Via.refl e5 F_b0_value_5 E_b0_5 (Or.inr ⟨(wd hw 27 rfl), rfl, hnm⟩) (wd hw 14 rfl) (ty := (.array .byte)) (by decide) rfl rfl (g := (mkF m 54 #[rv b0, rv b1, iv 0, iv z, .val .null, rv bc3] [.ref bc3, .ref b0])) rfl rfl (hb hby d_B8_54)
  have E_b0_6 := E_b0_5.wr W6
  have F_b0_hash_6 := F_b0_hash_5.other W6 (Or.inr (slot_ne (Or.inl (wd hw 69 rfl)) (Or.inr (wd hw 27 rfl)) (by decide) (t := .int) (t' := (.array .byte)) (by decide) (by decide)))
  have F_b0_hashIsZero_6 := F_b0_hashIsZero_5.other W6 (Or.inr (slot_ne (Or.inl (wd hw 71 rfl)) (Or.inr (wd hw 27 rfl)) (by decide) (t := .boolean) (t' := (.array .byte)) (by decide) (by decide)))
  have V_b1_6 := V_b1_5.other W6 h01
  have S_String_COMPACT_STRINGS_6 := S_String_COMPACT_STRINGS_5.wr W6
  have V_bc3_6 := V_bc3_5.other W6 (Ne.symm (nl E_0.lt B3_2))
  have E_bc3_6 := E_bc3_5.wr W6
  have F_b0_coder_6 := F_b0_coder_5.other W6 (Or.inr (slot_ne (Or.inr (wd hw 28 rfl)) (Or.inr (wd hw 27 rfl)) (by decide) (t := .byte) (t' := (.array .byte)) (by decide) (by decide)))
  have K6 := K5.wr W6 (Or.inl (List.mem_of_getElem? (i := 0) rfl))
  have N6 := Fr.snoc X6 N5 g_0
  have F_b0_value_6 := F_b0_value_5.same W6
  exact own_ret (v := none) X6 e6 Bd.notSynchronized (fun _ => rfl) (fun fs hr => st5 _ (xaloadN X5 hx hby rfl d_B8_51 rfl rfl (xaload X5 hx hby rfl d_B8_52 rfl rfl (st6 _ (X6.returnOut hx Bd.returns (hb hby d_B8_57) hr))))) ⟨_, _, rfl, N6, K6, F_b0_value_6, F_b0_coder_6, F_b0_hash_6, F_b0_hashIsZero_6, V_bc3_6, E_bc3_6⟩ (by decide)
theorem d_B9_0 : decode jdk_42_method_3_code 0 = .ok (.aload_n 0, 1) := by decide +kernel
theorem d_B9_1 : decode jdk_42_method_3_code 1 = .ok (.aload_n 1, 1) := by decide +kernel
theorem d_B9_2 : decode jdk_42_method_3_code 2 = .ok (.iconst 0, 1) := by decide +kernel
theorem d_B9_3 : decode jdk_42_method_3_code 3 = .ok (.aload_n 1, 1) := by decide +kernel
theorem d_B9_4 : decode jdk_42_method_3_code 4 = .ok (.arraylength, 1) := by decide +kernel
theorem d_B9_5 : decode jdk_42_method_3_code 5 = .ok (.aconst_null, 1) := by decide +kernel
theorem d_B9_6 : decode jdk_42_method_3_code 6 = .ok (.invokespecial 27, 3) := by decide +kernel
theorem d_B9_9 : decode jdk_42_method_3_code 9 = .ok (.return_, 1) := by decide +kernel
set_option maxRecDepth 65536 in
set_option maxHeartbeats 40000000 in
theorem own_rmI1 (l : Launch) (Z : State) (a0 : Array Value) (hw : ∀ d ∈ tables_1, d.before a0 Z = true) (ws : List Jvm.Cond) (b0 : Addr) (b1 : Addr) (kc : ClassId) (z cs : Int32) (x0 x1 x2 x3 x4 x5 : Int32) (h0 : Heap) (n0 : Nat) (Z0 : n0 ≤ h0.size) (E_0 : Exa Z h0 b0 "java/lang/String") (F_v : Fld Z h0 b0 "java/lang/String" "value" "[B" .null) (F_c : Fld Z h0 b0 "java/lang/String" "coder" "B" (.int 0)) (F_h : Fld Z h0 b0 "java/lang/String" "hash" "I" (.int 0)) (F_z : Fld Z h0 b0 "java/lang/String" "hashIsZero" "Z" (.int 0)) (g_0 : n0 ≤ b0) (V_b1 : Arv Z h0 b1 kc .char z [.int x0, .int x1, .int x2, .int x3, .int x4, .int x5] (.int 0)) (S_cs : Sta Z h0 "java/lang/String" "COMPACT_STRINGS" "Z" (.int cs)) (hcs : ¬ cs = (0 : Int32)) (h0z : ¬ z < (0 : Int32)) (hNz : ¬ (6 : Int32) < z) (l_x0 : ¬ x0 < (0 : Int32)) (u_x0 : ¬ (255 : Int32) < x0) (l_x1 : ¬ x1 < (0 : Int32)) (u_x1 : ¬ (255 : Int32) < x1) (l_x2 : ¬ x2 < (0 : Int32)) (u_x2 : ¬ (255 : Int32) < x2) (l_x3 : ¬ x3 < (0 : Int32)) (u_x3 : ¬ (255 : Int32) < x3) (l_x4 : ¬ x4 < (0 : Int32)) (u_x4 : ¬ (255 : Int32) < x4) (l_x5 : ¬ x5 < (0 : Int32)) (u_x5 : ¬ (255 : Int32) < x5) (h01 : b1 ≠ b0) (hz0 : ¬ z = (0 : Int32)) : own_M l Z y8N jdk_42_method_3_code 2 none ws ({ frames := 3, cells := 1, slots := 6, locals := 52 } : Room) #[.ref b0, .ref b1] h0 (own_Q4 Z b0 z [(.int (own_b x0)), (.int (own_b x1)), (.int (own_b x2)), (.int (own_b x3)), (.int (own_b x4)), (.int (own_b x5))] h0 n0) := by
  refine own_begin (n0 := n0) (f0 := mkF ⟨0, 0⟩ 0 #[rv b0, rv b1] []) (plainFor_of_name own_pn0) (fun m => ef_11_2 m _ _ rfl rfl) ?_
  intro p e s m below meth c s₁ Bd hZ hx hby hml hown hnm X0 e0 N0
  obtain ⟨cl1, Ar1, -, Sz1, M1, -, -⟩ := id V_b1
  refine own_go (b := s₁.setTop (mkF m 6 #[rv b0, rv b1] [.null, .int z, .int 0, .ref b1, .ref b0])) (fun t k => ?_) ?_
  · refine xaloadN X0 hx hby rfl d_B9_0 rfl rfl (xaloadN X0 hx hby rfl d_B9_1 rfl rfl (xiconst X0 hx hby rfl d_B9_2 (xaloadN X0 hx hby rfl d_B9_3 rfl rfl (X0.arraylength hx (own_in e0 Ar1.1) (State.isArrayOf_alike hZ.alike Ar1.2.1) (g := (mkF m 4 #[rv b0, rv b1] [.ref b1, .int 0, .ref b1, .ref b0])) rfl rfl (hb hby d_B9_4) _ ?_))))
    rw [len_of Sz1 M1]
    refine xaconstNull X0 hx hby rfl d_B9_5 k
  refine own_ci X0 hx hZ hown hml e0 (wd hw 19 rfl) (wd hw 20 rfl) (wd hw 15 rfl) (wd hw 22 rfl) (own_rmI4 l Z a0 hw [] b0 b1 z kc cs x0 x1 x2 x3 x4 x5 h0 n0 Z0 E_0 F_v F_c F_h F_z g_0 V_b1 S_cs hcs h0z hNz l_x0 u_x0 l_x1 u_x1 l_x2 u_x2 l_x3 u_x3 l_x4 u_x4 l_x5 u_x5 h01 hz0) own_pd5 (hb hby d_B9_6) 0 [] rfl rfl ⟨rfl, rfl, rfl, rfl, rfl⟩ (by decide) rfl ?_
  rintro T2 L2 v2 X2 hQ2
  obtain ⟨bq2, kq2, rfl, N2q, K2q, B2_0, B2_1, B2_2, B2_3, B2_4, B2_5⟩ := hQ2
  have E_b0_2 := E_0.keep K2q
  have V_b1_2 := V_b1.keep K2q (fun q => h01 (List.mem_singleton.mp q))
  have S_String_COMPACT_STRINGS_2 := own_staKeep S_cs E_0 K2q
  have N2 := Fr.app N0 N2q
  have K2 := (Keep.refl h0 [b0]).trans K2q (fun x hx => by cases List.mem_singleton.mp hx; exact Or.inl (List.mem_of_getElem? (i := 0) rfl))
  exact own_ret (v := none) X2 rfl Bd.notSynchronized (fun _ => rfl) (fun fs hr => (X2.returnOut hx Bd.returns (hb hby d_B9_9) hr)) ⟨_, _, rfl, N2, K2, B2_0, B2_1, B2_2, B2_3, B2_4, B2_5⟩ (by decide)
theorem d_B8_8 : decode jdk_42_method_149_code 8 = .ok (.aload_n 0, 1) := by decide +kernel
theorem d_B8_9 : decode jdk_42_method_149_code 9 = .ok (.ldc 7, 2) := by decide +kernel
theorem d_B8_11 : decode jdk_42_method_149_code 11 = .ok (.getfield 9, 3) := by decide +kernel
theorem d_B8_14 : decode jdk_42_method_149_code 14 = .ok (.putfield 9, 3) := by decide +kernel
theorem d_B8_17 : decode jdk_42_method_149_code 17 = .ok (.aload_n 0, 1) := by decide +kernel
theorem d_B8_18 : decode jdk_42_method_149_code 18 = .ok (.ldc 7, 2) := by decide +kernel
theorem d_B8_20 : decode jdk_42_method_149_code 20 = .ok (.getfield 15, 3) := by decide +kernel
theorem d_B8_23 : decode jdk_42_method_149_code 23 = .ok (.putfield 15, 3) := by decide +kernel
theorem d_B8_26 : decode jdk_42_method_149_code 26 = .ok (.return_, 1) := by decide +kernel
theorem ef_own_rmI4_0 (m : MethodId) (x0 : Addr) (x1 : Addr) : entryFrame m #[.ref x0, .ref x1, .int 0, .int 0, .null] 6 = mkF m 0 #[rv x0, rv x1, iv 0, iv 0, .val .null, .unset] [] := by first | (simp [entryFrame, mkF, argsToLocals, Value.category]; done) | rfl
set_option maxRecDepth 65536 in
set_option maxHeartbeats 40000000 in
theorem own_rmI4_0 (l : Launch) (Z : State) (a0 : Array Value) (hw : ∀ d ∈ tables_1, d.before a0 Z = true) (ws : List Jvm.Cond) (b0 : Addr) (b1 : Addr) (h0 : Heap) (n0 : Nat) (Z0 : n0 ≤ h0.size) (E_0 : Exa Z h0 b0 "java/lang/String") (F_v : Fld Z h0 b0 "java/lang/String" "value" "[B" .null) (F_c : Fld Z h0 b0 "java/lang/String" "coder" "B" (.int 0)) (F_h : Fld Z h0 b0 "java/lang/String" "hash" "I" (.int 0)) (F_z : Fld Z h0 b0 "java/lang/String" "hashIsZero" "Z" (.int 0)) (g_0 : n0 ≤ b0) :
    MetFree l y9N (head1 (Jvm.Cond.code y9N jdk_42_method_149_code 6 none :: ws) ({ frames := 1, cells := 2, slots := 4, locals := 12 } : Room)) (fun a U => a = #[.ref b0, .ref b1, .int 0, .int 0, .null] ∧ Z.Warmed39 U.vm ∧ U.heap = h0 ∧ CHv Z own_EL U.vm h0) (fun _ _ _ _ _ => True) (fun _ U o U' => ∃ v L, o = .returned v ∧ own_Q40 Z b0 (0 : Int32) [] h0 n0 v U'.heap L ∧ CHr Z own_EL U.vm U.heap U'.vm U'.heap ∧ ReturnedEndW U o U' L ({ frames := 1, cells := 2, slots := 4, locals := 12 } : Room).cells ({ frames := 1, cells := 2, slots := 4, locals := 12 } : Room).slots) := by
  refine MetFree.of_bodySF (plainFor_of_name own_pn0) hisR ?_
  intro p e s m args below meth c s₁ Bd hml0 hP hK
  obtain ⟨rfl, hZ, hh, hCH0⟩ := hP
  have hx := Bd.exec
  have hby := Bd.bytes
  have hml : c.maxLocals = 6 := hml0
  have hown : s.vm.findClass "java/lang/String" = some m.cls := findClass_of_methodNamed Bd.named
  have hnm := (name_of_methodNamed Bd.named Bd.method).1
  have X0 : Stand p l e ({ frames := 1, cells := 2, slots := 4, locals := 12 } : Room) s m #[.ref b0, .ref b1, .int 0, .int 0, .null] below meth c s₁ [] 0 0 := Stand.of_body Bd
  have e0 : s₁.heap = h0 := by rw [← hh, Bd.state]; rfl
  have N0 := Fr.nil n0
  refine own_go (b := s₁.setTop (mkF m 0 #[rv b0, rv b1, iv 0, iv 0, .val .null, .unset] [])) (fun t k => castTop (ef_own_rmI4_0 m b0 b1) k) ?_
  refine own_go (b := s₁.setTop (mkF m 1 #[rv b0, rv b1, iv 0, iv 0, .val .null, .unset] [.ref b0])) (fun t k => xaloadN X0 hx hby rfl d_B8_0 rfl rfl k) ?_
  obtain ⟨T1, X1, e1, st1⟩ := initO X0 hx hZ hown (wd hw 23 rfl) (wd hw 24 rfl) (wd hw 25 rfl) e0 (g := (mkF m 1 #[rv b0, rv b1, iv 0, iv 0, .val .null, .unset] [.ref b0])) rfl (by rw [hml]; rfl) rfl (hb hby d_B8_1) (by decide) (W := 0) (by show 2 * 0 + _ ≤ _; exact Nat.le_of_eq rfl) (by decide)
  refine own_go (b := T1.setTop (mkF m 9 #[rv b0, rv b1, iv 0, iv 0, .val .null, .unset] [.ref b0])) (fun t k => st1 _ (xiloadN X1 hx hby rfl d_B8_4 rfl (xifNo X1 hx hby rfl d_B8_5 rfl ((if0 _ _).trans (teq ((by decide) : (0 : Int32) = (0 : Int32))).2) (xaloadN X1 hx hby rfl d_B8_8 rfl rfl k)))) ?_
  obtain ⟨sa2, T2, h2, kk2, sb2, kb2, X2, e2, E2, hS2, hk2_, hZ, hown, Ea2, Fc2, Fv2, Va2, la2, lb2, CRl2, hL2, hne2, st2⟩ := ldcCH (s := s) (show Stand p l e _ (s.setVm s.vm) m _ below meth c _ _ _ _ from X1) hx hZ hown (wd hw 26 rfl) (own_atoms hw) e1 ((State.WarmedH.refl s).since 0) (Nat.zero_le _) (own_EW hw) (List.mem_of_getElem? (i := 0) rfl) (CHr.refl hCH0).1 (vs := []) (z := (0 : Int32)) (by decide +kernel) (by decide) (by decide +kernel) (g := (mkF m 9 #[rv b0, rv b1, iv 0, iv 0, .val .null, .unset] [.ref b0])) rfl (hb hby d_B8_9) (n := 0) (by decide +kernel) (by decide) (by decide) (by decide)
  have E_b0_2 := E_0.ext E2
  have F_b0_value_2 := F_v.ext E2
  have F_b0_coder_2 := F_c.ext E2
  have F_b0_hash_2 := F_h.ext E2
  have F_b0_hashIsZero_2 := F_z.ext E2
  have K2 := (Keep.refl h0 [b0]).ext E2
  have CR2 := (CHr.refl hCH0).trans CRl2
  have nxa := own_neNull F_b0_value_2 Fv2
  obtain ⟨_, Arx, _⟩ := id Va2
  have nxb := ne_arr E_b0_2 (wd hw 14 rfl) Arx
  have Sf0 := own_safeNull (EL := own_EL) hZ.alike E_b0_2 F_b0_value_2
  obtain ⟨T3, X3, e3, st3⟩ := getF X2 hx hZ hown (host := "") (Or.inl (wd hw 31 rfl)) Via.refl e2 Fv2 (g := (mkF m 11 #[rv b0, rv b1, iv 0, iv 0, .val .null, .unset] [.ref sa2, .ref b0])) rfl rfl (hb hby d_B8_11)
  obtain ⟨T4, h4, X4, e4, W4, st4⟩ := putF X3 hx hZ hown (host := "") (Or.inl (wd hw 31 rfl)) Via.refl e3 F_b0_value_2 E_b0_2 (Or.inr ⟨(wd hw 27 rfl), rfl, hnm⟩) (wd hw 14 rfl) (ty := (.array .byte)) (by decide) rfl rfl (g := (mkF m 14 #[rv b0, rv b1, iv 0, iv 0, .val .null, .unset] [.ref sb2, .ref b0])) rfl rfl (hb hby d_B8_14)
  have E_b0_4 := E_b0_2.wr W4
  have F_b0_coder_4 := F_b0_coder_2.other W4 (Or.inr (slot_ne (Or.inr (wd hw 28 rfl)) (Or.inr (wd hw 27 rfl)) (by decide) (t := .byte) (t' := (.array .byte)) (by decide) (by decide)))
  have F_b0_hash_4 := F_b0_hash_2.other W4 (Or.inr (slot_ne (Or.inl (wd hw 69 rfl)) (Or.inr (wd hw 27 rfl)) (by decide) (t := .int) (t' := (.array .byte)) (by decide) (by decide)))
  have F_b0_hashIsZero_4 := F_b0_hashIsZero_2.other W4 (Or.inr (slot_ne (Or.inl (wd hw 71 rfl)) (Or.inr (wd hw 27 rfl)) (by decide) (t := .boolean) (t' := (.array .byte)) (by decide) (by decide)))
  have E_sa2_4 := Ea2.wr W4
  have F_sa2_coder_4 := Fc2.other W4 (Or.inl nxa)
  have F_sa2_value_4 := Fv2.other W4 (Or.inl nxa)
  have V_sb2_4 := Va2.other W4 (Ne.symm nxb)
  have hk4 := Nat.le_trans hk2_ (Keep.of_wr W4).1
  have CR4 := CR2.trans (CHr.wr W4 Sf0 CR2.1)
  have K4 := K2.wr W4 (Or.inl (List.mem_of_getElem? (i := 0) rfl))
  have N4 := Fr.snoc X4 N0 g_0
  have F_b0_value_4 := F_b0_value_2.same W4
  have Sf1 := Safe.wr W4 Sf0 CR2.1 Sf0
  refine own_go (b := T4.setTop (mkF m 18 #[rv b0, rv b1, iv 0, iv 0, .val .null, .unset] [.ref b0])) (fun t k => st2 _ (st3 _ (st4 _ (xaloadN X4 hx hby rfl d_B8_17 rfl rfl k)))) ?_
  obtain ⟨T5, X5, e5, st5⟩ := getF X4 hx hZ hown (host := "") (Or.inl (wd hw 32 rfl)) Via.refl e4 F_sa2_coder_4 (g := (mkF m 20 #[rv b0, rv b1, iv 0, iv 0, .val .null, .unset] [.ref sa2, .ref b0])) rfl rfl (hb hby d_B8_20)
  obtain ⟨T6, h6, X6, e6, W6, st6⟩ := putFN X5 hx hZ hown (wd hw 32 rfl) Via.refl e5 F_b0_coder_4 E_b0_4 (Or.inr ⟨(wd hw 28 rfl), rfl, hnm⟩) (wd hw 14 rfl) (ty := .byte) (v' := (.int (nar .byte (0 : Int32)))) (by decide) rfl (fits_nar_byte _) (g := (mkF m 23 #[rv b0, rv b1, iv 0, iv 0, .val .null, .unset] [.int 0, .ref b0])) rfl rfl (hb hby d_B8_23)
  have E_b0_6 := E_b0_4.wr W6
  have F_b0_hash_6 := F_b0_hash_4.other W6 (Or.inr (slot_ne (Or.inl (wd hw 69 rfl)) (Or.inr (wd hw 28 rfl)) (by decide) (t := .int) (t' := .byte) (by decide) (by decide)))
  have F_b0_hashIsZero_6 := F_b0_hashIsZero_4.other W6 (Or.inr (slot_ne (Or.inl (wd hw 71 rfl)) (Or.inr (wd hw 28 rfl)) (by decide) (t := .boolean) (t' := .byte) (by decide) (by decide)))
  have E_sa2_6 := E_sa2_4.wr W6
  have F_sa2_coder_6 := F_sa2_coder_4.other W6 (Or.inl nxa)
  have F_sa2_value_6 := F_sa2_value_4.other W6 (Or.inl nxa)
  have V_sb2_6 := V_sb2_4.other W6 (Ne.symm nxb)
  have F_b0_value_6 := F_b0_value_4.other W6 (Or.inr (slot_ne (Or.inr (wd hw 27 rfl)) (Or.inr (wd hw 28 rfl)) (by decide) (t := (.array .byte)) (t' := .byte) (by decide) (by decide)))
  have hk6 := Nat.le_trans hk4 (Keep.of_wr W6).1
  have CR6 := CR4.trans (CHr.wr W6 Sf1 CR4.1)
  have K6 := K4.wr W6 (Or.inl (List.mem_of_getElem? (i := 0) rfl))
  have N6 := Fr.snoc X6 N4 g_0
  have F_b0_coder_6 := F_b0_coder_4.same W6
  obtain ⟨fs, hr, hrun, hended, hRE⟩ := Jvm.Stand.leaveW (s := s) X6 hS2 (by show _ ≤ T6.heap.size; rw [e6]; exact hk6) (v := none) (fun _ => rfl)
  refine ⟨_, _, ?_, hrun, hended, _, _, rfl, ?_, ?_, hRE.1, hRE.2.1, hRE.2.2.1, hRE.2.2.2.mono (by decide) (by decide)⟩
  · refine ldcAgain (s := s) X4 hx hZ hown (wd hw 26 rfl) hL2 (g := (mkF m 18 #[rv b0, rv b1, iv 0, iv 0, .val .null, .unset] [.ref b0])) rfl (hb hby d_B8_18) _ (st5 _ (st6 _ (X6.returnOut hx Bd.returns (hb hby d_B8_26) hr)))
  · show own_Q40 Z b0 (0 : Int32) [] h0 n0 _ T6.heap _
    rw [e6]
    exact ⟨_, _, rfl, N6, K6, F_b0_value_6, F_b0_coder_6, F_b0_hash_6, F_b0_hashIsZero_6, V_sb2_6⟩
  · show CHr Z own_EL s.vm s.heap T6.vm T6.heap
    rw [hh, e6]
    exact CR6.trans (CHv.at (s := s) X6 hZ (own_EW hw) CR6.1)
theorem ef_own_rmI1_0 (m : MethodId) (x0 : Addr) (x1 : Addr) : entryFrame m #[.ref x0, .ref x1] 2 = mkF m 0 #[rv x0, rv x1] [] := by first | (simp [entryFrame, mkF, argsToLocals, Value.category]; done) | rfl
set_option maxRecDepth 65536 in
set_option maxHeartbeats 40000000 in
theorem own_rmI1_0 (l : Launch) (Z : State) (a0 : Array Value) (hw : ∀ d ∈ tables_1, d.before a0 Z = true) (ws : List Jvm.Cond) (b0 : Addr) (b1 : Addr) (kc : ClassId) (vs : List Value) (h0 : Heap) (n0 : Nat) (Z0 : n0 ≤ h0.size) (E_0 : Exa Z h0 b0 "java/lang/String") (F_v : Fld Z h0 b0 "java/lang/String" "value" "[B" .null) (F_c : Fld Z h0 b0 "java/lang/String" "coder" "B" (.int 0)) (F_h : Fld Z h0 b0 "java/lang/String" "hash" "I" (.int 0)) (F_z : Fld Z h0 b0 "java/lang/String" "hashIsZero" "Z" (.int 0)) (g_0 : n0 ≤ b0) (V_b1 : Arv Z h0 b1 kc .char (0 : Int32) vs (.int 0)) :
    MetFree l y8N (head1 (Jvm.Cond.code y8N jdk_42_method_3_code 2 none :: ws) ({ frames := 2, cells := 2, slots := 4, locals := 29 } : Room)) (fun a U => a = #[.ref b0, .ref b1] ∧ Z.Warmed39 U.vm ∧ U.heap = h0 ∧ CHv Z own_EL U.vm h0) (fun _ _ _ _ _ => True) (fun _ U o U' => ∃ v L, o = .returned v ∧ own_Q40 Z b0 (0 : Int32) [] h0 n0 v U'.heap L ∧ CHr Z own_EL U.vm U.heap U'.vm U'.heap ∧ ReturnedEndW U o U' L ({ frames := 2, cells := 2, slots := 4, locals := 29 } : Room).cells ({ frames := 2, cells := 2, slots := 4, locals := 29 } : Room).slots) := by
  refine MetFree.of_bodySF (plainFor_of_name own_pn0) hisR ?_
  intro p e s m args below meth c s₁ Bd hml0 hP hK
  obtain ⟨rfl, hZ, hh, hCH0⟩ := hP
  have hx := Bd.exec
  have hby := Bd.bytes
  have hml : c.maxLocals = 2 := hml0
  have hown : s.vm.findClass "java/lang/String" = some m.cls := findClass_of_methodNamed Bd.named
  have hnm := (name_of_methodNamed Bd.named Bd.method).1
  have X0 : Stand p l e ({ frames := 2, cells := 2, slots := 4, locals := 29 } : Room) s m #[.ref b0, .ref b1] below meth c s₁ [] 0 0 := Stand.of_body Bd
  have e0 : s₁.heap = h0 := by rw [← hh, Bd.state]; rfl
  have N0 := Fr.nil n0
  refine own_go (b := s₁.setTop (mkF m 0 #[rv b0, rv b1] [])) (fun t k => castTop (ef_own_rmI1_0 m b0 b1) k) ?_
  obtain ⟨cl1, Ar1, -, Sz1, M1, -, -⟩ := id V_b1
  refine own_go (b := s₁.setTop (mkF m 6 #[rv b0, rv b1] [.null, .int 0, .int 0, .ref b1, .ref b0])) (fun t k => ?_) ?_
  · refine xaloadN X0 hx hby rfl d_B9_0 rfl rfl (xaloadN X0 hx hby rfl d_B9_1 rfl rfl (xiconst X0 hx hby rfl d_B9_2 (xaloadN X0 hx hby rfl d_B9_3 rfl rfl (X0.arraylength hx (own_in e0 Ar1.1) (State.isArrayOf_alike hZ.alike Ar1.2.1) (g := (mkF m 4 #[rv b0, rv b1] [.ref b1, .int 0, .ref b1, .ref b0])) rfl rfl (hb hby d_B9_4) _ ?_))))
    rw [len_of Sz1 M1]
    refine xaconstNull X0 hx hby rfl d_B9_5 k
  obtain ⟨_, _, ⟨T2, L2, k2, n2⟩, -, X2, hS2x, hk2x, ⟨Lc2, hQ2, l2, y2, z2, CRq2⟩, st2⟩ := Jvm.Stand.specialBackS (show Stand p l e _ (s.setVm s.vm) m _ below meth c _ _ _ _ from X0) hx (y := y9N) rfl hown (mvT hZ (wd hw 19 rfl)) (mvT hZ (wd hw 20 rfl)) (mvT hZ (wd hw 22 rfl)) (by decide) (backOfSH (W := 0) (own_rmI4_0 l Z a0 hw [] b0 b1 h0 n0 Z0 E_0 F_v F_c F_h F_z g_0) hZ (wd hw 22 rfl) (wd hw 15 rfl) (by decide) (by decide) (own_EW hw) (CHr.refl hCH0).1) (g := (mkF m 6 #[rv b0, rv b1] [.null, .int 0, .int 0, .ref b1, .ref b0])) rfl (by rw [hml]; rfl) (Steps.refl _) (a := b0) (argsL := [.ref b1, .int 0, .int 0, .null]) (rest := []) (lenOf own_pd5 rfl) rfl (by show 2 * 0 + _ ≤ _; exact Nat.le_of_eq rfl) (hb hby d_B9_6) (fun _ _ => ⟨rfl, e0, (by decide : 0 + 2 ≤ _), (by decide : 0 + 4 ≤ _)⟩)
  dsimp only [Pt.U, Pt.locs, Pt.cells, Pt.slots] at X2 l2 y2 z2 st2 hQ2 hS2x hk2x CRq2
  subst l2 y2 z2
  have hS2 : s.Since T2.vm T2.heap.size := ((State.WarmedH.refl s).since 0).trans hS2x (Nat.le_trans (Nat.zero_le _) hk2x)
  have X2 : Stand p l e _ (s.setVm T2.vm) m _ below meth c T2 _ _ _ := X2
  have hZ : Z.Warmed39 (s.setVm T2.vm).vm := State.Warmed39.trans (t := s.setVm s.vm) hZ hS2x.1
  have hown : (s.setVm T2.vm).vm.findClass "java/lang/String" = some m.cls := by show T2.vm.findClass _ = _; rw [hS2x.1.alike.findClass]; exact hown
  have CR2 := (CHr.refl hCH0).trans CRq2
  obtain ⟨bq2, kq2, rfl, N2q, K2q, B2_0, B2_1, B2_2, B2_3, B2_4⟩ := hQ2
  have E_b0_2 := E_0.keep K2q
  have N2 := Fr.app N0 N2q
  have K2 := (Keep.refl h0 [b0]).trans K2q (fun x hx => by cases List.mem_singleton.mp hx; exact Or.inl (List.mem_of_getElem? (i := 0) rfl))
  have hk2w : T2.heap.size ≤ T2.heap.size := Nat.le_refl _
  obtain ⟨fs, hr, hrun, hended, hRE⟩ := Jvm.Stand.leaveW (s := s) X2 hS2 (by show _ ≤ T2.heap.size; exact hk2w) (v := none) (fun _ => rfl)
  refine ⟨_, _, ?_, hrun, hended, _, _, rfl, ?_, ?_, hRE.1, hRE.2.1, hRE.2.2.1, hRE.2.2.2.mono (by decide) (by decide)⟩
  · refine st2.trans (X2.returnOut hx Bd.returns (hb hby d_B9_9) hr)
  · show own_Q40 Z b0 (0 : Int32) [] h0 n0 _ T2.heap _
    exact ⟨_, _, rfl, N2, K2, B2_0, B2_1, B2_2, B2_3, B2_4⟩
  · show CHr Z own_EL s.vm s.heap T2.vm T2.heap
    rw [hh]
    exact CR2.trans (CHv.at (s := s) X2 hZ (own_EW hw) CR2.1)
def own_QK (Z : State) (n : Int32) (vs : List Value) (h0 : Heap) (n0 : Nat) (v : Option Value) (h : Heap) (L : List Loc) : Prop := ∃ (b r : Addr) (k : ClassId), v = some (.ref b) ∧ Fr n0 L ∧ Keep h0 h [] ∧ Exa Z h b "java/lang/String" ∧ Fld Z h b "java/lang/String" "coder" "B" (.int 0) ∧ Fld Z h b "java/lang/String" "value" "[B" (.ref r) ∧ Fld Z h b "java/lang/String" "hash" "I" (.int 0) ∧ Fld Z h b "java/lang/String" "hashIsZero" "Z" (.int 0) ∧ Arv Z h r k .byte n vs (.int 0) ∧ n0 ≤ b ∧ Exa Z h r "[B"
def own_QK0 (Z : State) (n : Int32) (vs : List Value) (h0 : Heap) (n0 : Nat) (v : Option Value) (h : Heap) (L : List Loc) : Prop := ∃ (b r : Addr) (k : ClassId), v = some (.ref b) ∧ Fr n0 L ∧ Keep h0 h [] ∧ Exa Z h b "java/lang/String" ∧ Fld Z h b "java/lang/String" "coder" "B" (.int 0) ∧ Fld Z h b "java/lang/String" "value" "[B" (.ref r) ∧ Fld Z h b "java/lang/String" "hash" "I" (.int 0) ∧ Fld Z h b "java/lang/String" "hashIsZero" "Z" (.int 0) ∧ Arv Z h r k .byte n vs (.int 0) ∧ n0 ≤ b
def own_QC (Z : State) (n : Int32) (vs : List Value) (h0 : Heap) (n0 : Nat) (v : Option Value) (h : Heap) (L : List Loc) : Prop := ∃ (r : Addr) (k : ClassId), v = some (.ref r) ∧ Fr n0 L ∧ Keep h0 h [] ∧ Arv Z h r k .char n vs (.int 0) ∧ h0.size ≤ r
def own_QP (Z : State) (b : Addr) (k : ClassId) (n : Int32) (vs : List Value) (h0 : Heap) (n0 : Nat) (v : Option Value) (h : Heap) (L : List Loc) : Prop := v = none ∧ Fr n0 L ∧ Keep h0 h [b] ∧ Arv Z h b k .char n vs (.int 0)
theorem d_B10_0 : decode jdk_43_method_2_code 0 = .ok (.iload_n 1, 1) := by decide +kernel
theorem d_B10_1 : decode jdk_43_method_2_code 1 = .ok (.aload_n 0, 1) := by decide +kernel
theorem d_B10_2 : decode jdk_43_method_2_code 2 = .ok (.arraylength, 1) := by decide +kernel
theorem d_B10_3 : decode jdk_43_method_2_code 3 = .ok (.invokestatic 9, 3) := by decide +kernel
theorem d_B10_6 : decode jdk_43_method_2_code 6 = .ok (.aload_n 0, 1) := by decide +kernel
theorem d_B10_7 : decode jdk_43_method_2_code 7 = .ok (.iload_n 1, 1) := by decide +kernel
theorem d_B10_8 : decode jdk_43_method_2_code 8 = .ok (.baload, 1) := by decide +kernel
theorem d_B10_9 : decode jdk_43_method_2_code 9 = .ok (.sipush 255, 3) := by decide +kernel
theorem d_B10_12 : decode jdk_43_method_2_code 12 = .ok (.iand, 1) := by decide +kernel
theorem d_B10_13 : decode jdk_43_method_2_code 13 = .ok (.i2c, 1) := by decide +kernel
theorem d_B10_14 : decode jdk_43_method_2_code 14 = .ok (.ireturn, 1) := by decide +kernel
set_option maxRecDepth 65536 in
set_option maxHeartbeats 40000000 in
theorem own_rmLc (l : Launch) (Z : State) (a0 : Array Value) (hw : ∀ d ∈ tables_1, d.before a0 Z = true) (ws : List Jvm.Cond) (b0 : Addr) (p1 : Int32) (kv : ClassId) (z : Int32) (vs : List Value) (w0 : Int32) (fv : Value) (h0 : Heap) (n0 : Nat) (Z0 : n0 ≤ h0.size) (V_b0 : Arv Z h0 b0 kv .byte z vs (.int 0)) (h1 : ¬ p1 < (0 : Int32)) (h2 : p1 < z) (hv : List.getD vs (p1).toNatClampNeg (.int 0) = .int w0) (S_f : Sta Z h0 "jdk/internal/util/Preconditions" "SIOOBE_FORMATTER" "Ljava/util/function/BiFunction;" fv) (hfv : fv.isRef = true) : own_M l Z (⟨"java/lang/StringLatin1", "charAt", "([BI)C"⟩ : MethodName) jdk_43_method_2_code 2 (some .char) ws ({ frames := 2, cells := 0, slots := 0, locals := 27 } : Room) #[.ref b0, .int p1] h0 (own_QI (own_ch w0) h0 n0) := by
  refine own_begin (n0 := n0) (f0 := mkF ⟨0, 0⟩ 0 #[rv b0, iv p1] []) (plainFor_of_name own_pn3) (fun m => ef_11_2 m _ _ rfl rfl) ?_
  intro p e s m below meth c s₁ Bd hZ hx hby hml hown hnm X0 e0 N0
  obtain ⟨cl1, Ar1, -, Sz1, M1, -, -⟩ := id V_b0
  refine own_go (b := s₁.setTop (mkF m 3 #[rv b0, iv p1] [.int z, .int p1])) (fun t k => ?_) ?_
  · refine xiloadN X0 hx hby rfl d_B10_0 rfl (xaloadN X0 hx hby rfl d_B10_1 rfl rfl (X0.arraylength hx (own_in e0 Ar1.1) (State.isArrayOf_alike hZ.alike Ar1.2.1) (g := (mkF m 2 #[rv b0, iv p1] [.ref b0, .int p1])) rfl rfl (hb hby d_B10_2) _ ?_))
    rw [len_of Sz1 M1]
    exact k
  refine own_cs X0 hx hZ hown hml e0 (wd hw 100 rfl) (wd hw 101 rfl) (wd hw 15 rfl) (wd hw 102 rfl) (own_rmCi l Z a0 hw [] p1 z fv h0 n0 Z0 h1 h2 S_f hfv) own_pd6 (hb hby d_B10_3) 0 [] rfl ⟨rfl, rfl, rfl, rfl, rfl⟩ (by decide) ?_
  rintro T2 L2 v2 X2 hQ2
  obtain ⟨rfl, N2q, e2⟩ := hQ2
  have N2 := Fr.app N0 N2q
  obtain ⟨cl3, Ar3, -, Sz3, M3, Hs3, Gs3⟩ := id V_b0
  have hin3 := inb_of (j := p1) Sz3 ⟨h1, h2⟩
  have hat3 := Has.at Hs3 hin3 hv
  exact own_ret (v := some (.int (nar .char ((w0 &&& (255 : Int32)).toUInt32.toUInt16.toUInt32.toInt32)))) X2 e2 Bd.notSynchronized (nv Bd.returns) (fun fs hr => xaloadN X2 hx hby rfl d_B10_6 rfl rfl (xiloadN X2 hx hby rfl d_B10_7 rfl (X2.baloadBytes hx (j := p1) (v := (.int w0)) (own_in e2 Ar3.1) (State.isArrayOf_alike hZ.alike Ar3.2.1) Ar3.2.2 hin3 hat3 (g := (mkF m 8 #[rv b0, iv p1] [.int p1, .ref b0])) rfl rfl (hb hby d_B10_8) _ (xsipush X2 hx hby rfl d_B10_9 (show Steps p.tables e below (T2.setTop (mkF m 12 #[rv b0, iv p1] [.int 255, .int w0])) _ from xiand X2 hx hby rfl d_B10_12 rfl (XS.i2c X2.here hx rfl (hb hby d_B10_13) rfl (retN X2 hx (t := .char) Bd.returns (by simp) (hb hby d_B10_14) hr))))))) ⟨rfl, N2, rfl⟩ (by decide)
theorem d_B11_0 : decode jdk_42_method_56_code 0 = .ok (.aload_n 0, 1) := by decide +kernel
theorem d_B11_1 : decode jdk_42_method_56_code 1 = .ok (.invokevirtual 492, 3) := by decide +kernel
theorem d_B11_4 : decode jdk_42_method_56_code 4 = .ok (.ifCond .eq 12, 3) := by decide +kernel
theorem d_B11_7 : decode jdk_42_method_56_code 7 = .ok (.aload_n 0, 1) := by decide +kernel
theorem d_B11_8 : decode jdk_42_method_56_code 8 = .ok (.getfield 9, 3) := by decide +kernel
theorem d_B11_11 : decode jdk_42_method_56_code 11 = .ok (.iload_n 1, 1) := by decide +kernel
theorem d_B11_12 : decode jdk_42_method_56_code 12 = .ok (.invokestatic 495, 3) := by decide +kernel
theorem d_B11_15 : decode jdk_42_method_56_code 15 = .ok (.ireturn, 1) := by decide +kernel
set_option maxRecDepth 65536 in
set_option maxHeartbeats 40000000 in
theorem own_rmCh (l : Launch) (Z : State) (a0 : Array Value) (hw : ∀ d ∈ tables_1, d.before a0 Z = true) (ws : List Jvm.Cond) (b0 : Addr) (p1 : Int32) (v0 : Addr) (kv : ClassId) (z : Int32) (vs : List Value) (x0 cs : Int32) (fv : Value) (h0 : Heap) (n0 : Nat) (Z0 : n0 ≤ h0.size) (E_b0 : Exa Z h0 b0 "java/lang/String") (F_cb0 : Fld Z h0 b0 "java/lang/String" "coder" "B" (.int 0)) (F_vb0 : Fld Z h0 b0 "java/lang/String" "value" "[B" (.ref v0)) (V_v0 : Arv Z h0 v0 kv .byte z vs (.int 0)) (S_cs : Sta Z h0 "java/lang/String" "COMPACT_STRINGS" "Z" (.int cs)) (hcs : ¬ cs = (0 : Int32)) (h1 : ¬ p1 < (0 : Int32)) (h2 : p1 < z) (hv : List.getD vs (p1).toNatClampNeg (.int 0) = .int (own_b x0)) (S_f : Sta Z h0 "jdk/internal/util/Preconditions" "SIOOBE_FORMATTER" "Ljava/util/function/BiFunction;" fv) (hfv : fv.isRef = true) (l_x0 : ¬ x0 < (0 : Int32)) (u_x0 : ¬ (255 : Int32) < x0) : own_M l Z (⟨"java/lang/String", "charAt", "(I)C"⟩ : MethodName) jdk_42_method_56_code 2 (some .char) ws ({ frames := 3, cells := 0, slots := 0, locals := 40 } : Room) #[.ref b0, .int p1] h0 (own_QI x0 h0 n0) := by
  refine own_begin (n0 := n0) (f0 := mkF ⟨0, 0⟩ 0 #[rv b0, iv p1] []) (plainFor_of_name own_pn0) (fun m => ef_11_2 m _ _ rfl rfl) ?_
  intro p e s m below meth c s₁ Bd hZ hx hby hml hown hnm X0 e0 N0
  refine own_go (b := s₁.setTop (mkF m 1 #[rv b0, iv p1] [.ref b0])) (fun t k => xaloadN X0 hx hby rfl d_B11_0 rfl rfl k) ?_
  refine own_cv X0 hx hZ hown hml e0 (wd hw 72 rfl) (wd hw 73 rfl) (wd hw 75 rfl) (wd hw 74 rfl) (wd hw 15 rfl) (wd hw 76 rfl) E_b0 (own_rmIl l Z a0 hw [] b0 cs h0 n0 Z0 F_cb0 S_cs hcs) own_pd7 (hb hby d_B11_1) 0 [] rfl rfl ⟨rfl, rfl, rfl, rfl, rfl⟩ (by decide) ?_
  rintro T1 L1 v1 X1 hQ1
  obtain ⟨rfl, N1q, e1⟩ := hQ1
  have N1 := Fr.app N0 N1q
  obtain ⟨T2, X2, e2, st2⟩ := getF X1 hx hZ hown (host := "") (Or.inl (wd hw 31 rfl)) Via.refl e1 F_vb0 (g := (mkF m 8 #[rv b0, iv p1] [.ref b0])) rfl rfl (hb hby d_B11_8)
  refine own_go (b := T2.setTop (mkF m 12 #[rv b0, iv p1] [.int p1, .ref v0])) (fun t k => xifNo X1 hx hby rfl d_B11_4 rfl ((if0 _ _).trans (feq ((by decide) : ¬ ((1 : Int32) = (0 : Int32)))).1) (xaloadN X1 hx hby rfl d_B11_7 rfl rfl (st2 _ (xiloadN X2 hx hby rfl d_B11_11 rfl k)))) ?_
  refine own_cs X2 hx hZ hown hml e2 (wd hw 97 rfl) (wd hw 98 rfl) (wd hw 79 rfl) (wd hw 99 rfl) (own_rmLc l Z a0 hw [] v0 p1 kv z vs (own_b x0) fv h0 n0 Z0 V_v0 h1 h2 hv S_f hfv) own_pd8 (hb hby d_B11_12) 0 [] rfl ⟨rfl, rfl, rfl, rfl, rfl⟩ (by decide) ?_
  rintro T3 L3 v3 X3 hQ3
  obtain ⟨rfl, N3q, e3⟩ := hQ3
  have N3 := Fr.app N1 N3q
  exact own_ret (v := some (.int (nar .char (own_ch (own_b x0))))) X3 e3 Bd.notSynchronized (nv Bd.returns) (fun fs hr => (retN X3 hx (t := .char) Bd.returns (by simp) (hb hby d_B11_15) hr)) ⟨congrArg (fun z => some (Value.int z)) (own_chb l_x0 u_x0), N3, rfl⟩ (by decide)
theorem d_B12_0 : decode jdk_43_method_49_code 0 = .ok (.iconst 0, 1) := by decide +kernel
theorem d_B12_1 : decode jdk_43_method_49_code 1 = .ok (.istore 5, 2) := by decide +kernel
theorem d_B12_3 : decode jdk_43_method_49_code 3 = .ok (.iload 5, 2) := by decide +kernel
theorem d_B12_5 : decode jdk_43_method_49_code 5 = .ok (.iload 4, 2) := by decide +kernel
theorem d_B12_7 : decode jdk_43_method_49_code 7 = .ok (.if_icmp .ge 26, 3) := by decide +kernel
theorem d_B12_10 : decode jdk_43_method_49_code 10 = .ok (.aload_n 2, 1) := by decide +kernel
theorem d_B12_11 : decode jdk_43_method_49_code 11 = .ok (.iload_n 3, 1) := by decide +kernel
theorem d_B12_12 : decode jdk_43_method_49_code 12 = .ok (.iinc 3 1, 3) := by decide +kernel
theorem d_B12_15 : decode jdk_43_method_49_code 15 = .ok (.aload_n 0, 1) := by decide +kernel
theorem d_B12_16 : decode jdk_43_method_49_code 16 = .ok (.iload_n 1, 1) := by decide +kernel
theorem d_B12_17 : decode jdk_43_method_49_code 17 = .ok (.iinc 1 1, 3) := by decide +kernel
theorem d_B12_20 : decode jdk_43_method_49_code 20 = .ok (.baload, 1) := by decide +kernel
theorem d_B12_21 : decode jdk_43_method_49_code 21 = .ok (.sipush 255, 3) := by decide +kernel
theorem d_B12_24 : decode jdk_43_method_49_code 24 = .ok (.iand, 1) := by decide +kernel
theorem d_B12_25 : decode jdk_43_method_49_code 25 = .ok (.i2c, 1) := by decide +kernel
theorem d_B12_26 : decode jdk_43_method_49_code 26 = .ok (.castore, 1) := by decide +kernel
theorem d_B12_27 : decode jdk_43_method_49_code 27 = .ok (.iinc 5 1, 3) := by decide +kernel
theorem d_B12_30 : decode jdk_43_method_49_code 30 = .ok (.goto (-27), 3) := by decide +kernel
theorem d_B12_33 : decode jdk_43_method_49_code 33 = .ok (.return_, 1) := by decide +kernel
set_option maxRecDepth 65536 in
set_option maxHeartbeats 40000000 in
theorem own_rmIn (l : Launch) (Z : State) (a0 : Array Value) (hw : ∀ d ∈ tables_1, d.before a0 Z = true) (ws : List Jvm.Cond) (b0 : Addr) (b2 : Addr) (z : Int32) (kb kc : ClassId) (x0 x1 x2 x3 x4 x5 : Int32) (h0 : Heap) (n0 : Nat) (Z0 : n0 ≤ h0.size) (V_b0 : Arv Z h0 b0 kb .byte z [(.int (own_b x0)), (.int (own_b x1)), (.int (own_b x2)), (.int (own_b x3)), (.int (own_b x4)), (.int (own_b x5))] (.int 0)) (V_b2 : Arv Z h0 b2 kc .char z [.int 0, .int 0, .int 0, .int 0, .int 0, .int 0] (.int 0)) (hne : b0 ≠ b2) (g_2 : n0 ≤ b2) (h0z : ¬ z < (0 : Int32)) (hNz : ¬ (6 : Int32) < z) (l_x0 : ¬ x0 < (0 : Int32)) (u_x0 : ¬ (255 : Int32) < x0) (l_x1 : ¬ x1 < (0 : Int32)) (u_x1 : ¬ (255 : Int32) < x1) (l_x2 : ¬ x2 < (0 : Int32)) (u_x2 : ¬ (255 : Int32) < x2) (l_x3 : ¬ x3 < (0 : Int32)) (u_x3 : ¬ (255 : Int32) < x3) (l_x4 : ¬ x4 < (0 : Int32)) (u_x4 : ¬ (255 : Int32) < x4) (l_x5 : ¬ x5 < (0 : Int32)) (u_x5 : ¬ (255 : Int32) < x5) : own_M l Z (⟨"java/lang/StringLatin1", "inflate", "([BI[CII)V"⟩ : MethodName) jdk_43_method_49_code 6 none ws ({ frames := 0, cells := 0, slots := 0, locals := 0 } : Room) #[.ref b0, .int 0, .ref b2, .int 0, .int z] h0 (own_QP Z b2 kc z [.int x0, .int x1, .int x2, .int x3, .int x4, .int x5] h0 n0) := by
  refine own_begin (n0 := n0) (f0 := mkF ⟨0, 0⟩ 0 #[rv b0, iv 0, rv b2, iv 0, iv z, .unset] []) (plainFor_of_name own_pn3) (fun m => ef_11111_6 m _ _ _ _ _ rfl rfl rfl rfl rfl) ?_
  intro p e s m below meth c s₁ Bd hZ hx hby hml hown hnm X0 e0 N0
  refine own_go (b := s₁.setTop (mkF m 7 #[rv b0, iv 0, rv b2, iv 0, iv z, iv 0] [.int z, .int 0])) (fun t k => xiconst X0 hx hby rfl d_B12_0 (xistore X0 hx hby rfl d_B12_1 rfl (l' := #[rv b0, iv 0, rv b2, iv 0, iv z, iv 0]) rfl (xiload X0 hx hby rfl d_B12_3 rfl (xiload X0 hx hby rfl d_B12_5 rfl k)))) ?_
  by_cases hc7_1 : (0 : Int32) < z
  · obtain ⟨cl2, Ar2, -, Sz2, M2, Hs2, Gs2⟩ := id V_b0
    have hin2 := inb_of (j := (0 : Int32)) Sz2 ⟨by decide, hc7_1⟩
    obtain ⟨cl3, Ar3, q3, Sz3, M3, Hs3, Gs3⟩ := id V_b2
    have hin3 := inb_of (j := (0 : Int32)) Sz3 ⟨by decide, hc7_1⟩
    obtain ⟨T4, h4, X4, e4, W4, st4⟩ := stC X0 hx hZ e0 Ar3 (j := (0 : Int32)) hin3 (g := (mkF m 26 #[rv b0, iv 1, rv b2, iv 1, iv z, iv 0] [(.int (((own_b x0) &&& (255 : Int32)).toUInt32.toUInt16.toUInt32.toInt32)), .int 0, .ref b2])) rfl rfl (hb hby d_B12_26)
    have V_b0_4 := V_b0.other W4 hne
    have K4 := (Keep.refl h0 [b2]).wr W4 (Or.inl (List.mem_of_getElem? (i := 0) rfl))
    have N4 := Fr.snoc X4 N0 g_2
    have V_b2_4 := Arv.set Ar3 q3 Sz3 M3 Hs3 Gs3 (fits_nar_char _) W4 0 rfl (Nat.le_of_ble_eq_true rfl)
    rw [own_infl l_x0 u_x0] at V_b2_4
    refine own_go (b := T4.setTop (mkF m 7 #[rv b0, iv 1, rv b2, iv 1, iv z, iv 1] [.int z, .int 1])) (fun t k => xicmpNo X0 hx hby rfl d_B12_7 rfl (tlt hc7_1).2.1 (xaloadN X0 hx hby rfl d_B12_10 rfl rfl (xiloadN X0 hx hby rfl d_B12_11 rfl (xiinc X0 hx hby rfl d_B12_12 rfl (l' := #[rv b0, iv 0, rv b2, iv 1, iv z, iv 0]) rfl (xaloadN X0 hx hby rfl d_B12_15 rfl rfl (xiloadN X0 hx hby rfl d_B12_16 rfl (show Steps p.tables e below (s₁.setTop (mkF m 17 #[rv b0, iv 0, rv b2, iv 1, iv z, iv 0] [.int 0, .ref b0, .int 0, .ref b2])) _ from xiinc X0 hx hby rfl d_B12_17 rfl (l' := #[rv b0, iv 1, rv b2, iv 1, iv z, iv 0]) rfl (X0.baloadBytes hx (j := (0 : Int32)) (v := (.int (own_b x0))) (own_in e0 Ar2.1) (State.isArrayOf_alike hZ.alike Ar2.2.1) Ar2.2.2 hin2 (Has.at Hs2 hin2 rfl) (g := (mkF m 20 #[rv b0, iv 1, rv b2, iv 1, iv z, iv 0] [.int 0, .ref b0, .int 0, .ref b2])) rfl rfl (hb hby d_B12_20) _ (xsipush X0 hx hby rfl d_B12_21 (show Steps p.tables e below (s₁.setTop (mkF m 24 #[rv b0, iv 1, rv b2, iv 1, iv z, iv 0] [.int 255, (.int (own_b x0)), .int 0, .ref b2])) _ from xiand X0 hx hby rfl d_B12_24 rfl (XS.i2c X0.here hx rfl (hb hby d_B12_25) rfl (st4 _ (xiinc X4 hx hby rfl d_B12_27 rfl (l' := #[rv b0, iv 1, rv b2, iv 1, iv z, iv 1]) rfl (xgoto X4 hx hby rfl 30 3 rfl d_B12_30 (by decide) (by decide) (xiload X4 hx hby rfl d_B12_3 rfl (show Steps p.tables e below (T4.setTop (mkF m 5 #[rv b0, iv 1, rv b2, iv 1, iv z, iv 1] [.int 1])) _ from xiload X4 hx hby rfl d_B12_5 rfl k)))))))))))))))) ?_
    clear V_b0 V_b2 Ar2 Sz2 M2 Hs2 Gs2 hin2 q3 Sz3 M3 Hs3 Gs3 hin3 W4 st4
    by_cases hc7_5 : (1 : Int32) < z
    · obtain ⟨cl6, Ar6, -, Sz6, M6, Hs6, Gs6⟩ := id V_b0_4
      have hin6 := inb_of (j := (1 : Int32)) Sz6 ⟨by decide, hc7_5⟩
      obtain ⟨cl7, Ar7, q7, Sz7, M7, Hs7, Gs7⟩ := id V_b2_4
      have hin7 := inb_of (j := (1 : Int32)) Sz7 ⟨by decide, hc7_5⟩
      obtain ⟨T8, h8, X8, e8, W8, st8⟩ := stC X4 hx hZ e4 Ar7 (j := (1 : Int32)) hin7 (g := (mkF m 26 #[rv b0, iv 2, rv b2, iv 2, iv z, iv 1] [(.int (((own_b x1) &&& (255 : Int32)).toUInt32.toUInt16.toUInt32.toInt32)), .int 1, .ref b2])) rfl rfl (hb hby d_B12_26)
      have V_b0_8 := V_b0_4.other W8 hne
      have K8 := K4.wr W8 (Or.inl (List.mem_of_getElem? (i := 0) rfl))
      have N8 := Fr.snoc X8 N4 g_2
      have V_b2_8 := Arv.set Ar7 q7 Sz7 M7 Hs7 Gs7 (fits_nar_char _) W8 1 rfl (Nat.le_of_ble_eq_true rfl)
      rw [own_infl l_x1 u_x1] at V_b2_8
      refine own_go (b := T8.setTop (mkF m 7 #[rv b0, iv 2, rv b2, iv 2, iv z, iv 2] [.int z, .int 2])) (fun t k => xicmpNo X4 hx hby rfl d_B12_7 rfl (tlt hc7_5).2.1 (xaloadN X4 hx hby rfl d_B12_10 rfl rfl (xiloadN X4 hx hby rfl d_B12_11 rfl (xiinc X4 hx hby rfl d_B12_12 rfl (l' := #[rv b0, iv 1, rv b2, iv 2, iv z, iv 1]) rfl (xaloadN X4 hx hby rfl d_B12_15 rfl rfl (xiloadN X4 hx hby rfl d_B12_16 rfl (show Steps p.tables e below (T4.setTop (mkF m 17 #[rv b0, iv 1, rv b2, iv 2, iv z, iv 1] [.int 1, .ref b0, .int 1, .ref b2])) _ from xiinc X4 hx hby rfl d_B12_17 rfl (l' := #[rv b0, iv 2, rv b2, iv 2, iv z, iv 1]) rfl (X4.baloadBytes hx (j := (1 : Int32)) (v := (.int (own_b x1))) (own_in e4 Ar6.1) (State.isArrayOf_alike hZ.alike Ar6.2.1) Ar6.2.2 hin6 (Has.at Hs6 hin6 rfl) (g := (mkF m 20 #[rv b0, iv 2, rv b2, iv 2, iv z, iv 1] [.int 1, .ref b0, .int 1, .ref b2])) rfl rfl (hb hby d_B12_20) _ (xsipush X4 hx hby rfl d_B12_21 (show Steps p.tables e below (T4.setTop (mkF m 24 #[rv b0, iv 2, rv b2, iv 2, iv z, iv 1] [.int 255, (.int (own_b x1)), .int 1, .ref b2])) _ from xiand X4 hx hby rfl d_B12_24 rfl (XS.i2c X4.here hx rfl (hb hby d_B12_25) rfl (st8 _ (xiinc X8 hx hby rfl d_B12_27 rfl (l' := #[rv b0, iv 2, rv b2, iv 2, iv z, iv 2]) rfl (xgoto X8 hx hby rfl 30 3 rfl d_B12_30 (by decide) (by decide) (xiload X8 hx hby rfl d_B12_3 rfl (show Steps p.tables e below (T8.setTop (mkF m 5 #[rv b0, iv 2, rv b2, iv 2, iv z, iv 2] [.int 2])) _ from xiload X8 hx hby rfl d_B12_5 rfl k)))))))))))))))) ?_
      clear Ar3 X4 e4 V_b0_4 K4 N4 V_b2_4 Ar6 Sz6 M6 Hs6 Gs6 hin6 q7 Sz7 M7 Hs7 Gs7 hin7 W8 st8
      by_cases hc7_9 : (2 : Int32) < z
      · obtain ⟨cl10, Ar10, -, Sz10, M10, Hs10, Gs10⟩ := id V_b0_8
        have hin10 := inb_of (j := (2 : Int32)) Sz10 ⟨by decide, hc7_9⟩
        obtain ⟨cl11, Ar11, q11, Sz11, M11, Hs11, Gs11⟩ := id V_b2_8
        have hin11 := inb_of (j := (2 : Int32)) Sz11 ⟨by decide, hc7_9⟩
        obtain ⟨T12, h12, X12, e12, W12, st12⟩ := stC X8 hx hZ e8 Ar11 (j := (2 : Int32)) hin11 (g := (mkF m 26 #[rv b0, iv 3, rv b2, iv 3, iv z, iv 2] [(.int (((own_b x2) &&& (255 : Int32)).toUInt32.toUInt16.toUInt32.toInt32)), .int 2, .ref b2])) rfl rfl (hb hby d_B12_26)
        have V_b0_12 := V_b0_8.other W12 hne
        have K12 := K8.wr W12 (Or.inl (List.mem_of_getElem? (i := 0) rfl))
        have N12 := Fr.snoc X12 N8 g_2
        have V_b2_12 := Arv.set Ar11 q11 Sz11 M11 Hs11 Gs11 (fits_nar_char _) W12 2 rfl (Nat.le_of_ble_eq_true rfl)
        rw [own_infl l_x2 u_x2] at V_b2_12
        refine own_go (b := T12.setTop (mkF m 7 #[rv b0, iv 3, rv b2, iv 3, iv z, iv 3] [.int z, .int 3])) (fun t k => xicmpNo X8 hx hby rfl d_B12_7 rfl (tlt hc7_9).2.1 (xaloadN X8 hx hby rfl d_B12_10 rfl rfl (xiloadN X8 hx hby rfl d_B12_11 rfl (xiinc X8 hx hby rfl d_B12_12 rfl (l' := #[rv b0, iv 2, rv b2, iv 3, iv z, iv 2]) rfl (xaloadN X8 hx hby rfl d_B12_15 rfl rfl (xiloadN X8 hx hby rfl d_B12_16 rfl (show Steps p.tables e below (T8.setTop (mkF m 17 #[rv b0, iv 2, rv b2, iv 3, iv z, iv 2] [.int 2, .ref b0, .int 2, .ref b2])) _ from xiinc X8 hx hby rfl d_B12_17 rfl (l' := #[rv b0, iv 3, rv b2, iv 3, iv z, iv 2]) rfl (X8.baloadBytes hx (j := (2 : Int32)) (v := (.int (own_b x2))) (own_in e8 Ar10.1) (State.isArrayOf_alike hZ.alike Ar10.2.1) Ar10.2.2 hin10 (Has.at Hs10 hin10 rfl) (g := (mkF m 20 #[rv b0, iv 3, rv b2, iv 3, iv z, iv 2] [.int 2, .ref b0, .int 2, .ref b2])) rfl rfl (hb hby d_B12_20) _ (xsipush X8 hx hby rfl d_B12_21 (show Steps p.tables e below (T8.setTop (mkF m 24 #[rv b0, iv 3, rv b2, iv 3, iv z, iv 2] [.int 255, (.int (own_b x2)), .int 2, .ref b2])) _ from xiand X8 hx hby rfl d_B12_24 rfl (XS.i2c X8.here hx rfl (hb hby d_B12_25) rfl (st12 _ (xiinc X12 hx hby rfl d_B12_27 rfl (l' := #[rv b0, iv 3, rv b2, iv 3, iv z, iv 3]) rfl (xgoto X12 hx hby rfl 30 3 rfl d_B12_30 (by decide) (by decide) (xiload X12 hx hby rfl d_B12_3 rfl (show Steps p.tables e below (T12.setTop (mkF m 5 #[rv b0, iv 3, rv b2, iv 3, iv z, iv 3] [.int 3])) _ from xiload X12 hx hby rfl d_B12_5 rfl k)))))))))))))))) ?_
        clear Ar7 X8 e8 V_b0_8 K8 N8 V_b2_8 Ar10 Sz10 M10 Hs10 Gs10 hin10 q11 Sz11 M11 Hs11 Gs11 hin11 W12 st12
        by_cases hc7_13 : (3 : Int32) < z
        · obtain ⟨cl14, Ar14, -, Sz14, M14, Hs14, Gs14⟩ := id V_b0_12
          have hin14 := inb_of (j := (3 : Int32)) Sz14 ⟨by decide, hc7_13⟩
          obtain ⟨cl15, Ar15, q15, Sz15, M15, Hs15, Gs15⟩ := id V_b2_12
          have hin15 := inb_of (j := (3 : Int32)) Sz15 ⟨by decide, hc7_13⟩
          obtain ⟨T16, h16, X16, e16, W16, st16⟩ := stC X12 hx hZ e12 Ar15 (j := (3 : Int32)) hin15 (g := (mkF m 26 #[rv b0, iv 4, rv b2, iv 4, iv z, iv 3] [(.int (((own_b x3) &&& (255 : Int32)).toUInt32.toUInt16.toUInt32.toInt32)), .int 3, .ref b2])) rfl rfl (hb hby d_B12_26)
          have V_b0_16 := V_b0_12.other W16 hne
          have K16 := K12.wr W16 (Or.inl (List.mem_of_getElem? (i := 0) rfl))
          have N16 := Fr.snoc X16 N12 g_2
          have V_b2_16 := Arv.set Ar15 q15 Sz15 M15 Hs15 Gs15 (fits_nar_char _) W16 3 rfl (Nat.le_of_ble_eq_true rfl)
          rw [own_infl l_x3 u_x3] at V_b2_16
          refine own_go (b := T16.setTop (mkF m 7 #[rv b0, iv 4, rv b2, iv 4, iv z, iv 4] [.int z, .int 4])) (fun t k => xicmpNo X12 hx hby rfl d_B12_7 rfl (tlt hc7_13).2.1 (xaloadN X12 hx hby rfl d_B12_10 rfl rfl (xiloadN X12 hx hby rfl d_B12_11 rfl (xiinc X12 hx hby rfl d_B12_12 rfl (l' := #[rv b0, iv 3, rv b2, iv 4, iv z, iv 3]) rfl (xaloadN X12 hx hby rfl d_B12_15 rfl rfl (xiloadN X12 hx hby rfl d_B12_16 rfl (show Steps p.tables e below (T12.setTop (mkF m 17 #[rv b0, iv 3, rv b2, iv 4, iv z, iv 3] [.int 3, .ref b0, .int 3, .ref b2])) _ from xiinc X12 hx hby rfl d_B12_17 rfl (l' := #[rv b0, iv 4, rv b2, iv 4, iv z, iv 3]) rfl (X12.baloadBytes hx (j := (3 : Int32)) (v := (.int (own_b x3))) (own_in e12 Ar14.1) (State.isArrayOf_alike hZ.alike Ar14.2.1) Ar14.2.2 hin14 (Has.at Hs14 hin14 rfl) (g := (mkF m 20 #[rv b0, iv 4, rv b2, iv 4, iv z, iv 3] [.int 3, .ref b0, .int 3, .ref b2])) rfl rfl (hb hby d_B12_20) _ (xsipush X12 hx hby rfl d_B12_21 (show Steps p.tables e below (T12.setTop (mkF m 24 #[rv b0, iv 4, rv b2, iv 4, iv z, iv 3] [.int 255, (.int (own_b x3)), .int 3, .ref b2])) _ from xiand X12 hx hby rfl d_B12_24 rfl (XS.i2c X12.here hx rfl (hb hby d_B12_25) rfl (st16 _ (xiinc X16 hx hby rfl d_B12_27 rfl (l' := #[rv b0, iv 4, rv b2, iv 4, iv z, iv 4]) rfl (xgoto X16 hx hby rfl 30 3 rfl d_B12_30 (by decide) (by decide) (xiload X16 hx hby rfl d_B12_3 rfl (show Steps p.tables e below (T16.setTop (mkF m 5 #[rv b0, iv 4, rv b2, iv 4, iv z, iv 4] [.int 4])) _ from xiload X16 hx hby rfl d_B12_5 rfl k)))))))))))))))) ?_
          clear Ar11 X12 e12 V_b0_12 K12 N12 V_b2_12 Ar14 Sz14 M14 Hs14 Gs14 hin14 q15 Sz15 M15 Hs15 Gs15 hin15 W16 st16
          by_cases hc7_17 : (4 : Int32) < z
          · obtain ⟨cl18, Ar18, -, Sz18, M18, Hs18, Gs18⟩ := id V_b0_16
            have hin18 := inb_of (j := (4 : Int32)) Sz18 ⟨by decide, hc7_17⟩
            obtain ⟨cl19, Ar19, q19, Sz19, M19, Hs19, Gs19⟩ := id V_b2_16
            have hin19 := inb_of (j := (4 : Int32)) Sz19 ⟨by decide, hc7_17⟩
            obtain ⟨T20, h20, X20, e20, W20, st20⟩ := stC X16 hx hZ e16 Ar19 (j := (4 : Int32)) hin19 (g := (mkF m 26 #[rv b0, iv 5, rv b2, iv 5, iv z, iv 4] [(.int (((own_b x4) &&& (255 : Int32)).toUInt32.toUInt16.toUInt32.toInt32)), .int 4, .ref b2])) rfl rfl (hb hby d_B12_26)
            have V_b0_20 := V_b0_16.other W20 hne
            have K20 := K16.wr W20 (Or.inl (List.mem_of_getElem? (i := 0) rfl))
            have N20 := Fr.snoc X20 N16 g_2
            have V_b2_20 := Arv.set Ar19 q19 Sz19 M19 Hs19 Gs19 (fits_nar_char _) W20 4 rfl (Nat.le_of_ble_eq_true rfl)
            rw [own_infl l_x4 u_x4] at V_b2_20
            refine own_go (b := T20.setTop (mkF m 7 #[rv b0, iv 5, rv b2, iv 5, iv z, iv 5] [.int z, .int 5])) (fun t k => xicmpNo X16 hx hby rfl d_B12_7 rfl (tlt hc7_17).2.1 (xaloadN X16 hx hby rfl d_B12_10 rfl rfl (xiloadN X16 hx hby rfl d_B12_11 rfl (xiinc X16 hx hby rfl d_B12_12 rfl (l' := #[rv b0, iv 4, rv b2, iv 5, iv z, iv 4]) rfl (xaloadN X16 hx hby rfl d_B12_15 rfl rfl (xiloadN X16 hx hby rfl d_B12_16 rfl (show Steps p.tables e below (T16.setTop (mkF m 17 #[rv b0, iv 4, rv b2, iv 5, iv z, iv 4] [.int 4, .ref b0, .int 4, .ref b2])) _ from xiinc X16 hx hby rfl d_B12_17 rfl (l' := #[rv b0, iv 5, rv b2, iv 5, iv z, iv 4]) rfl (X16.baloadBytes hx (j := (4 : Int32)) (v := (.int (own_b x4))) (own_in e16 Ar18.1) (State.isArrayOf_alike hZ.alike Ar18.2.1) Ar18.2.2 hin18 (Has.at Hs18 hin18 rfl) (g := (mkF m 20 #[rv b0, iv 5, rv b2, iv 5, iv z, iv 4] [.int 4, .ref b0, .int 4, .ref b2])) rfl rfl (hb hby d_B12_20) _ (xsipush X16 hx hby rfl d_B12_21 (show Steps p.tables e below (T16.setTop (mkF m 24 #[rv b0, iv 5, rv b2, iv 5, iv z, iv 4] [.int 255, (.int (own_b x4)), .int 4, .ref b2])) _ from xiand X16 hx hby rfl d_B12_24 rfl (XS.i2c X16.here hx rfl (hb hby d_B12_25) rfl (st20 _ (xiinc X20 hx hby rfl d_B12_27 rfl (l' := #[rv b0, iv 5, rv b2, iv 5, iv z, iv 5]) rfl (xgoto X20 hx hby rfl 30 3 rfl d_B12_30 (by decide) (by decide) (xiload X20 hx hby rfl d_B12_3 rfl (show Steps p.tables e below (T20.setTop (mkF m 5 #[rv b0, iv 5, rv b2, iv 5, iv z, iv 5] [.int 5])) _ from xiload X20 hx hby rfl d_B12_5 rfl k)))))))))))))))) ?_
            clear Ar15 X16 e16 V_b0_16 K16 N16 V_b2_16 Ar18 Sz18 M18 Hs18 Gs18 hin18 q19 Sz19 M19 Hs19 Gs19 hin19 W20 st20
            by_cases hc7_21 : (5 : Int32) < z
            · obtain ⟨cl22, Ar22, -, Sz22, M22, Hs22, Gs22⟩ := id V_b0_20
              have hin22 := inb_of (j := (5 : Int32)) Sz22 ⟨by decide, hc7_21⟩
              obtain ⟨cl23, Ar23, q23, Sz23, M23, Hs23, Gs23⟩ := id V_b2_20
              have hin23 := inb_of (j := (5 : Int32)) Sz23 ⟨by decide, hc7_21⟩
              obtain ⟨T24, h24, X24, e24, W24, st24⟩ := stC X20 hx hZ e20 Ar23 (j := (5 : Int32)) hin23 (g := (mkF m 26 #[rv b0, iv 6, rv b2, iv 6, iv z, iv 5] [(.int (((own_b x5) &&& (255 : Int32)).toUInt32.toUInt16.toUInt32.toInt32)), .int 5, .ref b2])) rfl rfl (hb hby d_B12_26)
              have V_b0_24 := V_b0_20.other W24 hne
              have K24 := K20.wr W24 (Or.inl (List.mem_of_getElem? (i := 0) rfl))
              have N24 := Fr.snoc X24 N20 g_2
              have V_b2_24 := Arv.set Ar23 q23 Sz23 M23 Hs23 Gs23 (fits_nar_char _) W24 5 rfl (Nat.le_of_ble_eq_true rfl)
              rw [own_infl l_x5 u_x5] at V_b2_24
              exact own_ret (v := none) X24 e24 Bd.notSynchronized (fun _ => rfl) (fun fs hr => xicmpNo X20 hx hby rfl d_B12_7 rfl (tlt hc7_21).2.1 (xaloadN X20 hx hby rfl d_B12_10 rfl rfl (xiloadN X20 hx hby rfl d_B12_11 rfl (xiinc X20 hx hby rfl d_B12_12 rfl (l' := #[rv b0, iv 5, rv b2, iv 6, iv z, iv 5]) rfl (xaloadN X20 hx hby rfl d_B12_15 rfl rfl (xiloadN X20 hx hby rfl d_B12_16 rfl (show Steps p.tables e below (T20.setTop (mkF m 17 #[rv b0, iv 5, rv b2, iv 6, iv z, iv 5] [.int 5, .ref b0, .int 5, .ref b2])) _ from xiinc X20 hx hby rfl d_B12_17 rfl (l' := #[rv b0, iv 6, rv b2, iv 6, iv z, iv 5]) rfl (X20.baloadBytes hx (j := (5 : Int32)) (v := (.int (own_b x5))) (own_in e20 Ar22.1) (State.isArrayOf_alike hZ.alike Ar22.2.1) Ar22.2.2 hin22 (Has.at Hs22 hin22 rfl) (g := (mkF m 20 #[rv b0, iv 6, rv b2, iv 6, iv z, iv 5] [.int 5, .ref b0, .int 5, .ref b2])) rfl rfl (hb hby d_B12_20) _ (xsipush X20 hx hby rfl d_B12_21 (show Steps p.tables e below (T20.setTop (mkF m 24 #[rv b0, iv 6, rv b2, iv 6, iv z, iv 5] [.int 255, (.int (own_b x5)), .int 5, .ref b2])) _ from xiand X20 hx hby rfl d_B12_24 rfl (XS.i2c X20.here hx rfl (hb hby d_B12_25) rfl (st24 _ (xiinc X24 hx hby rfl d_B12_27 rfl (l' := #[rv b0, iv 6, rv b2, iv 6, iv z, iv 6]) rfl (xgoto X24 hx hby rfl 30 3 rfl d_B12_30 (by decide) (by decide) (xiload X24 hx hby rfl d_B12_3 rfl (show Steps p.tables e below (T24.setTop (mkF m 5 #[rv b0, iv 6, rv b2, iv 6, iv z, iv 6] [.int 6])) _ from xiload X24 hx hby rfl d_B12_5 rfl (xicmpYes X24 hx hby rfl 7 33 rfl d_B12_7 rfl (flt (hNz : ¬ ((6 : Int32) < z))).2.1 (by decide) (by decide) (X24.returnOut hx Bd.returns (hb hby d_B12_33) hr)))))))))))))))))) ⟨rfl, N24, K24, own_cut (j := (6 : Int32)) V_b2_24 6 rfl hNz (by simp only [List.set_cons_zero, List.set_cons_succ, List.take_succ_cons, List.take_zero] <;> rfl)⟩ (by decide)
            · exact own_ret (v := none) X20 e20 Bd.notSynchronized (fun _ => rfl) (fun fs hr => xicmpYes X20 hx hby rfl 7 33 rfl d_B12_7 rfl (flt hc7_21).2.1 (by decide) (by decide) (X20.returnOut hx Bd.returns (hb hby d_B12_33) hr)) ⟨rfl, N20, K20, own_cut (j := (5 : Int32)) V_b2_20 5 rfl hc7_21 (by simp only [List.set_cons_zero, List.set_cons_succ, List.take_succ_cons, List.take_zero] <;> rfl)⟩ (by decide)
          · exact own_ret (v := none) X16 e16 Bd.notSynchronized (fun _ => rfl) (fun fs hr => xicmpYes X16 hx hby rfl 7 33 rfl d_B12_7 rfl (flt hc7_17).2.1 (by decide) (by decide) (X16.returnOut hx Bd.returns (hb hby d_B12_33) hr)) ⟨rfl, N16, K16, own_cut (j := (4 : Int32)) V_b2_16 4 rfl hc7_17 (by simp only [List.set_cons_zero, List.set_cons_succ, List.take_succ_cons, List.take_zero] <;> rfl)⟩ (by decide)
        · exact own_ret (v := none) X12 e12 Bd.notSynchronized (fun _ => rfl) (fun fs hr => xicmpYes X12 hx hby rfl 7 33 rfl d_B12_7 rfl (flt hc7_13).2.1 (by decide) (by decide) (X12.returnOut hx Bd.returns (hb hby d_B12_33) hr)) ⟨rfl, N12, K12, own_cut (j := (3 : Int32)) V_b2_12 3 rfl hc7_13 (by simp only [List.set_cons_zero, List.set_cons_succ, List.take_succ_cons, List.take_zero] <;> rfl)⟩ (by decide)
      · exact own_ret (v := none) X8 e8 Bd.notSynchronized (fun _ => rfl) (fun fs hr => xicmpYes X8 hx hby rfl 7 33 rfl d_B12_7 rfl (flt hc7_9).2.1 (by decide) (by decide) (X8.returnOut hx Bd.returns (hb hby d_B12_33) hr)) ⟨rfl, N8, K8, own_cut (j := (2 : Int32)) V_b2_8 2 rfl hc7_9 (by simp only [List.set_cons_zero, List.set_cons_succ, List.take_succ_cons, List.take_zero] <;> rfl)⟩ (by decide)
    · exact own_ret (v := none) X4 e4 Bd.notSynchronized (fun _ => rfl) (fun fs hr => xicmpYes X4 hx hby rfl 7 33 rfl d_B12_7 rfl (flt hc7_5).2.1 (by decide) (by decide) (X4.returnOut hx Bd.returns (hb hby d_B12_33) hr)) ⟨rfl, N4, K4, own_cut (j := (1 : Int32)) V_b2_4 1 rfl hc7_5 (by simp only [List.set_cons_zero, List.set_cons_succ, List.take_succ_cons, List.take_zero] <;> rfl)⟩ (by decide)
  · exact own_ret (v := none) X0 e0 Bd.notSynchronized (fun _ => rfl) (fun fs hr => xicmpYes X0 hx hby rfl 7 33 rfl d_B12_7 rfl (flt hc7_1).2.1 (by decide) (by decide) (X0.returnOut hx Bd.returns (hb hby d_B12_33) hr)) ⟨rfl, N0, (Keep.refl h0 [b2]), own_cut (j := (0 : Int32)) V_b2 0 rfl hc7_1 (by simp only [List.set_cons_zero, List.set_cons_succ, List.take_succ_cons, List.take_zero] <;> rfl)⟩ (by decide)
theorem d_B13_0 : decode jdk_43_method_9_code 0 = .ok (.aload_n 0, 1) := by decide +kernel
theorem d_B13_1 : decode jdk_43_method_9_code 1 = .ok (.arraylength, 1) := by decide +kernel
theorem d_B13_2 : decode jdk_43_method_9_code 2 = .ok (.newarray .char, 2) := by decide +kernel
theorem d_B13_4 : decode jdk_43_method_9_code 4 = .ok (.astore_n 1, 1) := by decide +kernel
theorem d_B13_5 : decode jdk_43_method_9_code 5 = .ok (.aload_n 0, 1) := by decide +kernel
theorem d_B13_6 : decode jdk_43_method_9_code 6 = .ok (.iconst 0, 1) := by decide +kernel
theorem d_B13_7 : decode jdk_43_method_9_code 7 = .ok (.aload_n 1, 1) := by decide +kernel
theorem d_B13_8 : decode jdk_43_method_9_code 8 = .ok (.iconst 0, 1) := by decide +kernel
theorem d_B13_9 : decode jdk_43_method_9_code 9 = .ok (.aload_n 0, 1) := by decide +kernel
theorem d_B13_10 : decode jdk_43_method_9_code 10 = .ok (.arraylength, 1) := by decide +kernel
theorem d_B13_11 : decode jdk_43_method_9_code 11 = .ok (.invokestatic 13, 3) := by decide +kernel
theorem d_B13_14 : decode jdk_43_method_9_code 14 = .ok (.aload_n 1, 1) := by decide +kernel
theorem d_B13_15 : decode jdk_43_method_9_code 15 = .ok (.areturn, 1) := by decide +kernel
set_option maxRecDepth 65536 in
set_option maxHeartbeats 40000000 in
theorem own_rmTc (l : Launch) (Z : State) (a0 : Array Value) (hw : ∀ d ∈ tables_1, d.before a0 Z = true) (ws : List Jvm.Cond) (b0 : Addr) (kb : ClassId) (z : Int32) (x0 x1 x2 x3 x4 x5 : Int32) (h0 : Heap) (n0 : Nat) (Z0 : n0 ≤ h0.size) (V_b0 : Arv Z h0 b0 kb .byte z [(.int (own_b x0)), (.int (own_b x1)), (.int (own_b x2)), (.int (own_b x3)), (.int (own_b x4)), (.int (own_b x5))] (.int 0)) (h0z : ¬ z < (0 : Int32)) (hNz : ¬ (6 : Int32) < z) (l_x0 : ¬ x0 < (0 : Int32)) (u_x0 : ¬ (255 : Int32) < x0) (l_x1 : ¬ x1 < (0 : Int32)) (u_x1 : ¬ (255 : Int32) < x1) (l_x2 : ¬ x2 < (0 : Int32)) (u_x2 : ¬ (255 : Int32) < x2) (l_x3 : ¬ x3 < (0 : Int32)) (u_x3 : ¬ (255 : Int32) < x3) (l_x4 : ¬ x4 < (0 : Int32)) (u_x4 : ¬ (255 : Int32) < x4) (l_x5 : ¬ x5 < (0 : Int32)) (u_x5 : ¬ (255 : Int32) < x5) : own_M l Z (⟨"java/lang/StringLatin1", "toChars", "([B)[C"⟩ : MethodName) jdk_43_method_9_code 2 (some (.array .char)) ws ({ frames := 1, cells := 1, slots := 6, locals := 17 } : Room) #[.ref b0] h0 (own_QC Z z [.int x0, .int x1, .int x2, .int x3, .int x4, .int x5] h0 n0) := by
  refine own_begin (n0 := n0) (f0 := mkF ⟨0, 0⟩ 0 #[rv b0, .unset] []) (plainFor_of_name own_pn3) (fun m => ef_1_2 m _ rfl) ?_
  intro p e s m below meth c s₁ Bd hZ hx hby hml hown hnm X0 e0 N0
  obtain ⟨cl1, Ar1, -, Sz1, M1, -, -⟩ := id V_b0
  obtain ⟨T2, h2, k2, X2, e2, E2, A2, st2⟩ := newP X0 hx hZ (wd hw 9 rfl) e0 (g := (mkF m 2 #[rv b0, .unset] [.int z])) rfl (hb hby d_B13_2) rfl h0z (cap := 6) (own_capN 6 (6 : Int32) (by decide) hNz) (by decide) (by decide) (by decide)
  obtain ⟨b2, g2⟩ : ∃ z, z = h0.size := ⟨_, rfl⟩
  rw [← g2] at A2 st2
  have new_b2 : n0 ≤ b2 := Nat.le_trans Z0 (Nat.le_of_eq g2.symm)
  have sz_b2 : h0.size ≤ b2 := Nat.le_trans (Keep.refl h0 []).1 (Nat.le_of_eq g2.symm)
  have K2 := (Keep.refl h0 []).ext E2
  have V_b2 : Arv Z h2 b2 k2 .char z [.int 0, .int 0, .int 0, .int 0, .int 0, .int 0] (.int 0) := (Arv.new A2 h0z).pad (pad_rep [] (.int 0) 6)
  obtain ⟨cl3, Ar3, -, Sz3, M3, -, -⟩ := id (V_b0.keep K2 nNl)
  refine own_go (b := T2.setTop (mkF m 11 #[rv b0, rv b2] [.int z, .int 0, .ref b2, .int 0, .ref b0])) (fun t k => ?_) ?_
  · refine xaloadN X0 hx hby rfl d_B13_0 rfl rfl (X0.arraylength hx (own_in e0 Ar1.1) (State.isArrayOf_alike hZ.alike Ar1.2.1) (g := (mkF m 1 #[rv b0, .unset] [.ref b0])) rfl rfl (hb hby d_B13_1) _ ?_)
    rw [len_of Sz1 M1]
    refine st2 _ (xastoreN X2 hx hby rfl d_B13_4 rfl rfl (l' := #[rv b0, rv b2]) rfl (xaloadN X2 hx hby rfl d_B13_5 rfl rfl (xiconst X2 hx hby rfl d_B13_6 (xaloadN X2 hx hby rfl d_B13_7 rfl rfl (xiconst X2 hx hby rfl d_B13_8 (show Steps p.tables e below (T2.setTop (mkF m 9 #[rv b0, rv b2] [.int 0, .ref b2, .int 0, .ref b0])) _ from xaloadN X2 hx hby rfl d_B13_9 rfl rfl (X2.arraylength hx (own_in e2 Ar3.1) (State.isArrayOf_alike hZ.alike Ar3.2.1) (g := (mkF m 10 #[rv b0, rv b2] [.ref b0, .int 0, .ref b2, .int 0, .ref b0])) rfl rfl (hb hby d_B13_10) _ ?_)))))))
    rw [len_of Sz3 M3]
    exact k
  refine own_cs X2 hx hZ hown hml e2 (wd hw 125 rfl) (wd hw 126 rfl) (wd hw 79 rfl) (wd hw 127 rfl) (own_rmIn l Z a0 hw [] b0 b2 z kb k2 x0 x1 x2 x3 x4 x5 h2 n0 (Nat.le_trans Z0 K2.1) (V_b0.keep K2 nNl) V_b2 (nl V_b0.lt sz_b2) new_b2 h0z hNz l_x0 u_x0 l_x1 u_x1 l_x2 u_x2 l_x3 u_x3 l_x4 u_x4 l_x5 u_x5) own_pd9 (hb hby d_B13_11) 0 [] rfl ⟨rfl, rfl, rfl, rfl, rfl⟩ (by decide) ?_
  rintro T4 L4 v4 X4 hQ4
  obtain ⟨rfl, N4q, K4q, B4_0⟩ := hQ4
  have N4 := Fr.app N0 N4q
  have K4 := K2.trans K4q (fun x hx => by cases List.mem_singleton.mp hx; exact Or.inr sz_b2)
  exact own_ret (v := some (.ref b2)) X4 rfl Bd.notSynchronized (nv Bd.returns) (fun fs hr => xaloadN X4 hx hby rfl d_B13_14 rfl rfl (retA X4 hx Bd.returns (hb hby d_B13_15) hr)) ⟨_, _, rfl, N4, K4, B4_0, sz_b2⟩ (by decide)
theorem d_B14_0 : decode jdk_42_method_129_code 0 = .ok (.aload_n 0, 1) := by decide +kernel
theorem d_B14_1 : decode jdk_42_method_129_code 1 = .ok (.invokevirtual 492, 3) := by decide +kernel
theorem d_B14_4 : decode jdk_42_method_129_code 4 = .ok (.ifCond .eq 13, 3) := by decide +kernel
theorem d_B14_7 : decode jdk_42_method_129_code 7 = .ok (.aload_n 0, 1) := by decide +kernel
theorem d_B14_8 : decode jdk_42_method_129_code 8 = .ok (.getfield 9, 3) := by decide +kernel
theorem d_B14_11 : decode jdk_42_method_129_code 11 = .ok (.invokestatic 299, 3) := by decide +kernel
theorem d_B14_14 : decode jdk_42_method_129_code 14 = .ok (.goto 10, 3) := by decide +kernel
theorem d_B14_24 : decode jdk_42_method_129_code 24 = .ok (.areturn, 1) := by decide +kernel
set_option maxRecDepth 65536 in
set_option maxHeartbeats 40000000 in
theorem own_rmTa (l : Launch) (Z : State) (a0 : Array Value) (hw : ∀ d ∈ tables_1, d.before a0 Z = true) (ws : List Jvm.Cond) (b0 : Addr) (v0 : Addr) (kv : ClassId) (z cs : Int32) (x0 x1 x2 x3 x4 x5 : Int32) (h0 : Heap) (n0 : Nat) (Z0 : n0 ≤ h0.size) (E_b0 : Exa Z h0 b0 "java/lang/String") (F_cb0 : Fld Z h0 b0 "java/lang/String" "coder" "B" (.int 0)) (F_vb0 : Fld Z h0 b0 "java/lang/String" "value" "[B" (.ref v0)) (V_v0 : Arv Z h0 v0 kv .byte z [(.int (own_b x0)), (.int (own_b x1)), (.int (own_b x2)), (.int (own_b x3)), (.int (own_b x4)), (.int (own_b x5))] (.int 0)) (S_cs : Sta Z h0 "java/lang/String" "COMPACT_STRINGS" "Z" (.int cs)) (hcs : ¬ cs = (0 : Int32)) (h0z : ¬ z < (0 : Int32)) (hNz : ¬ (6 : Int32) < z) (l_x0 : ¬ x0 < (0 : Int32)) (u_x0 : ¬ (255 : Int32) < x0) (l_x1 : ¬ x1 < (0 : Int32)) (u_x1 : ¬ (255 : Int32) < x1) (l_x2 : ¬ x2 < (0 : Int32)) (u_x2 : ¬ (255 : Int32) < x2) (l_x3 : ¬ x3 < (0 : Int32)) (u_x3 : ¬ (255 : Int32) < x3) (l_x4 : ¬ x4 < (0 : Int32)) (u_x4 : ¬ (255 : Int32) < x4) (l_x5 : ¬ x5 < (0 : Int32)) (u_x5 : ¬ (255 : Int32) < x5) : own_M l Z (⟨"java/lang/String", "toCharArray", "()[C"⟩ : MethodName) jdk_42_method_129_code 1 (some (.array .char)) ws ({ frames := 2, cells := 1, slots := 6, locals := 30 } : Room) #[.ref b0] h0 (own_QC Z z [.int x0, .int x1, .int x2, .int x3, .int x4, .int x5] h0 n0) := by
  refine own_begin (n0 := n0) (f0 := mkF ⟨0, 0⟩ 0 #[rv b0] []) (plainFor_of_name own_pn0) (fun m => ef_1_1 m _ rfl) ?_
  intro p e s m below meth c s₁ Bd hZ hx hby hml hown hnm X0 e0 N0
  refine own_go (b := s₁.setTop (mkF m 1 #[rv b0] [.ref b0])) (fun t k => xaloadN X0 hx hby rfl d_B14_0 rfl rfl k) ?_
  refine own_cv X0 hx hZ hown hml e0 (wd hw 72 rfl) (wd hw 73 rfl) (wd hw 75 rfl) (wd hw 74 rfl) (wd hw 15 rfl) (wd hw 76 rfl) E_b0 (own_rmIl l Z a0 hw [] b0 cs h0 n0 Z0 F_cb0 S_cs hcs) own_pd7 (hb hby d_B14_1) 0 [] rfl rfl ⟨rfl, rfl, rfl, rfl, rfl⟩ (by decide) ?_
  rintro T1 L1 v1 X1 hQ1
  obtain ⟨rfl, N1q, e1⟩ := hQ1
  have N1 := Fr.app N0 N1q
  obtain ⟨T2, X2, e2, st2⟩ := getF X1 hx hZ hown (host := "") (Or.inl (wd hw 31 rfl)) Via.refl e1 F_vb0 (g := (mkF m 8 #[rv b0] [.ref b0])) rfl rfl (hb hby d_B14_8)
  refine own_go (b := T2.setTop (mkF m 11 #[rv b0] [.ref v0])) (fun t k => xifNo X1 hx hby rfl d_B14_4 rfl ((if0 _ _).trans (feq ((by decide) : ¬ ((1 : Int32) = (0 : Int32)))).1) (xaloadN X1 hx hby rfl d_B14_7 rfl rfl (st2 _ k))) ?_
  refine own_cs X2 hx hZ hown hml e2 (wd hw 122 rfl) (wd hw 123 rfl) (wd hw 79 rfl) (wd hw 124 rfl) (own_rmTc l Z a0 hw [] v0 kv z x0 x1 x2 x3 x4 x5 h0 n0 Z0 V_v0 h0z hNz l_x0 u_x0 l_x1 u_x1 l_x2 u_x2 l_x3 u_x3 l_x4 u_x4 l_x5 u_x5) own_pd10 (hb hby d_B14_11) 0 [] rfl ⟨rfl, rfl, rfl, rfl, rfl⟩ (by decide) ?_
  rintro T3 L3 v3 X3 hQ3
  obtain ⟨bc3, kc3, rfl, N3q, K3q, B3_0, B3_1⟩ := hQ3
  have N3 := Fr.app N1 N3q
  have K3 := (Keep.refl h0 []).trans K3q (fun x hx => nomatch hx)
  exact own_ret (v := some (.ref bc3)) X3 rfl Bd.notSynchronized (nv Bd.returns) (fun fs hr => xgoto X3 hx hby rfl 14 24 rfl d_B14_14 (by decide) (by decide) (retA X3 hx Bd.returns (hb hby d_B14_24) hr)) ⟨bc3, _, rfl, N3, K3, B3_0, B3_1⟩ (by decide)
theorem d_B15_0 : decode prog_68_method_10_code 0 = .ok (.aconst_null, 1) := by decide +kernel
theorem d_B15_1 : decode prog_68_method_10_code 1 = .ok (.astore_n 1, 1) := by decide +kernel
theorem d_B15_2 : decode prog_68_method_10_code 2 = .ok (.iconst 0, 1) := by decide +kernel
theorem d_B15_3 : decode prog_68_method_10_code 3 = .ok (.istore_n 2, 1) := by decide +kernel
theorem d_B15_4 : decode prog_68_method_10_code 4 = .ok (.iload_n 2, 1) := by decide +kernel
theorem d_B15_5 : decode prog_68_method_10_code 5 = .ok (.aload_n 0, 1) := by decide +kernel
theorem d_B15_6 : decode prog_68_method_10_code 6 = .ok (.invokevirtual 83, 3) := by decide +kernel
theorem d_B15_9 : decode prog_68_method_10_code 9 = .ok (.if_icmp .ge 53, 3) := by decide +kernel
theorem d_B15_12 : decode prog_68_method_10_code 12 = .ok (.aload_n 0, 1) := by decide +kernel
theorem d_B15_13 : decode prog_68_method_10_code 13 = .ok (.iload_n 2, 1) := by decide +kernel
theorem d_B15_14 : decode prog_68_method_10_code 14 = .ok (.invokevirtual 111, 3) := by decide +kernel
theorem d_B15_17 : decode prog_68_method_10_code 17 = .ok (.istore_n 3, 1) := by decide +kernel
theorem d_B15_18 : decode prog_68_method_10_code 18 = .ok (.iload_n 3, 1) := by decide +kernel
theorem d_B15_19 : decode prog_68_method_10_code 19 = .ok (.sipush 128, 3) := by decide +kernel
theorem d_B15_22 : decode prog_68_method_10_code 22 = .ok (.if_icmp .lt 5, 3) := by decide +kernel
theorem d_B15_27 : decode prog_68_method_10_code 27 = .ok (.iload_n 3, 1) := by decide +kernel
theorem d_B15_28 : decode prog_68_method_10_code 28 = .ok (.bipush 65, 2) := by decide +kernel
theorem d_B15_30 : decode prog_68_method_10_code 30 = .ok (.if_icmp .lt 26, 3) := by decide +kernel
theorem d_B15_33 : decode prog_68_method_10_code 33 = .ok (.iload_n 3, 1) := by decide +kernel
theorem d_B15_34 : decode prog_68_method_10_code 34 = .ok (.bipush 90, 2) := by decide +kernel
theorem d_B15_36 : decode prog_68_method_10_code 36 = .ok (.if_icmp .gt 20, 3) := by decide +kernel
theorem d_B15_39 : decode prog_68_method_10_code 39 = .ok (.aload_n 1, 1) := by decide +kernel
theorem d_B15_40 : decode prog_68_method_10_code 40 = .ok (.ifnonnull 8, 3) := by decide +kernel
theorem d_B15_43 : decode prog_68_method_10_code 43 = .ok (.aload_n 0, 1) := by decide +kernel
theorem d_B15_44 : decode prog_68_method_10_code 44 = .ok (.invokevirtual 115, 3) := by decide +kernel
theorem d_B15_47 : decode prog_68_method_10_code 47 = .ok (.astore_n 1, 1) := by decide +kernel
theorem d_B15_48 : decode prog_68_method_10_code 48 = .ok (.aload_n 1, 1) := by decide +kernel
theorem d_B15_49 : decode prog_68_method_10_code 49 = .ok (.iload_n 2, 1) := by decide +kernel
theorem d_B15_50 : decode prog_68_method_10_code 50 = .ok (.iload_n 3, 1) := by decide +kernel
theorem d_B15_51 : decode prog_68_method_10_code 51 = .ok (.bipush 32, 2) := by decide +kernel
theorem d_B15_53 : decode prog_68_method_10_code 53 = .ok (.iadd, 1) := by decide +kernel
theorem d_B15_54 : decode prog_68_method_10_code 54 = .ok (.i2c, 1) := by decide +kernel
theorem d_B15_55 : decode prog_68_method_10_code 55 = .ok (.castore, 1) := by decide +kernel
theorem d_B15_56 : decode prog_68_method_10_code 56 = .ok (.iinc 2 1, 3) := by decide +kernel
theorem d_B15_59 : decode prog_68_method_10_code 59 = .ok (.goto (-55), 3) := by decide +kernel
theorem d_B15_62 : decode prog_68_method_10_code 62 = .ok (.aload_n 1, 1) := by decide +kernel
theorem d_B15_63 : decode prog_68_method_10_code 63 = .ok (.ifnonnull 7, 3) := by decide +kernel
theorem d_B15_66 : decode prog_68_method_10_code 66 = .ok (.aload_n 0, 1) := by decide +kernel
theorem d_B15_67 : decode prog_68_method_10_code 67 = .ok (.goto 11, 3) := by decide +kernel
theorem d_B15_70 : decode prog_68_method_10_code 70 = .ok (.new 63, 3) := by decide +kernel
theorem d_B15_73 : decode prog_68_method_10_code 73 = .ok (.dup, 1) := by decide +kernel
theorem d_B15_74 : decode prog_68_method_10_code 74 = .ok (.aload_n 1, 1) := by decide +kernel
theorem d_B15_75 : decode prog_68_method_10_code 75 = .ok (.invokespecial 119, 3) := by decide +kernel
theorem d_B15_78 : decode prog_68_method_10_code 78 = .ok (.areturn, 1) := by decide +kernel
set_option maxRecDepth 65536 in
set_option maxHeartbeats 40000000 in
theorem own_tAc_6 {p : Program} {l : Launch} {e : Env} {Z s s₁ Tq : State} {m : MethodId} {below : List Frame} {meth : Method} {c : Code} {a0 : Array Value} {ws : List Jvm.Cond} {n0 : Nat} {h0 hq : Heap} {Lq : List Loc} {b0 bfold v0 : Addr} {kfold kv : ClassId} {cs x0 x1 x2 x3 x4 x5 : Int32} {fv : Value} (hw : ∀ d ∈ tables_1, d.before a0 Z = true) (Bd : BodyLoose p l y0N (head1 (Jvm.Cond.code y0N prog_68_method_10_code 4 (some (.object "java/lang/String")) :: ws) ({ frames := 4, cells := 3, slots := 16, locals := 66 } : Room)) prog_68_method_10_code 4 (some (.object "java/lang/String")) e s m #[.ref b0] below meth c s₁) (hx : p.tables.exec = Jvm.exec) (hby : c.code = prog_68_method_10_code) (hml : c.maxLocals = 4) (hown : s.vm.findClass "com/example/rollcall/rollcall/users/CaselessIndex" = some m.cls) (hZ : Z.Warmed39 s.vm) (Xq : Stand p l e ({ frames := 4, cells := 3, slots := 16, locals := 66 } : Room) s m #[.ref b0] below meth c Tq Lq 1 6) (eq0 : Tq.heap = hq) (Nq : Fr n0 Lq) (Z0 : n0 ≤ h0.size) (Kq : Keep h0 hq []) (E_b0 : Exa Z h0 b0 "java/lang/String") (F_cb0 : Fld Z h0 b0 "java/lang/String" "coder" "B" (.int 0)) (F_vb0 : Fld Z h0 b0 "java/lang/String" "value" "[B" (.ref v0)) (V_v0 : Arv Z h0 v0 kv .byte z [(.int (own_b x0)), (.int (own_b x1)), (.int (own_b x2)), (.int (own_b x3)), (.int (own_b x4)), (.int (own_b x5))] (.int 0)) (F_hb0 : Fld Z h0 b0 "java/lang/String" "hash" "I" (.int 0)) (F_zb0 : Fld Z h0 b0 "java/lang/String" "hashIsZero" "Z" (.int 0)) (E_v0 : Exa Z h0 v0 "[B") (S_cs : Sta Z h0 "java/lang/String" "COMPACT_STRINGS" "Z" (.int cs)) (S_f : Sta Z h0 "jdk/internal/util/Preconditions" "SIOOBE_FORMATTER" "Ljava/util/function/BiFunction;" fv) (tV_bfold : Arv Z hq bfold kfold .char z [(.int (own_lo x0)), (.int (own_lo x1)), (.int (own_lo x2)), (.int (own_lo x3)), (.int (own_lo x4)), (.int (own_lo x5))] (.int 0)) (new_b0 : n0 ≤ b0) (ne_b0_bfold : b0 ≠ bfold) (ne_v0_bfold : v0 ≠ bfold) (new_bfold : n0 ≤ bfold) (sz_bfold : h0.size ≤ bfold) (hcs : ¬ cs = (0 : Int32)) (hfv : fv.isRef = true) (h0z : ¬ z < (0 : Int32)) (hNz : ¬ (6 : Int32) < z) (l_x0 : ¬ x0 < (0 : Int32)) (s_x0 : ¬ (127 : Int32) < x0) (l_x1 : ¬ x1 < (0 : Int32)) (s_x1 : ¬ (127 : Int32) < x1) (l_x2 : ¬ x2 < (0 : Int32)) (s_x2 : ¬ (127 : Int32) < x2) (l_x3 : ¬ x3 < (0 : Int32)) (s_x3 : ¬ (127 : Int32) < x3) (l_x4 : ¬ x4 < (0 : Int32)) (s_x4 : ¬ (127 : Int32) < x4) (l_x5 : ¬ x5 < (0 : Int32)) (s_x5 : ¬ (127 : Int32) < x5) (hz0 : ¬ z = (0 : Int32)) :
    ∃ s₂ o, Steps p.tables e below (Tq.setTop (mkF m 4 #[rv b0, rv bfold, iv 6, iv x5] [])) s₂ ∧ s₂.status = .running ∧ Ended s₂ below o ∧ ∃ v L, o = .returned v ∧ own_QK Z z [(.int (own_b (own_lo x0))), (.int (own_b (own_lo x1))), (.int (own_b (own_lo x2))), (.int (own_b (own_lo x3))), (.int (own_b (own_lo x4))), (.int (own_b (own_lo x5)))] h0 n0 v s₂.heap L ∧ FrameEnd s o s₂ L ({ frames := 4, cells := 3, slots := 16, locals := 66 } : Room).cells ({ frames := 4, cells := 3, slots := 16, locals := 66 } : Room).slots := by
  refine own_go (b := Tq.setTop (mkF m 6 #[rv b0, rv bfold, iv 6, iv x5] [.ref b0, .int 6])) (fun t k => xiloadN Xq hx hby rfl d_B15_4 rfl (xaloadN Xq hx hby rfl d_B15_5 rfl rfl k)) ?_
  refine own_cv Xq hx hZ hown hml eq0 (wd hw 49 rfl) (wd hw 50 rfl) (wd hw 52 rfl) (wd hw 51 rfl) (wd hw 15 rfl) (wd hw 53 rfl) (E_b0.keep Kq) (own_rmLen l Z a0 hw [] b0 v0 kv z [(.int (own_b x0)), (.int (own_b x1)), (.int (own_b x2)), (.int (own_b x3)), (.int (own_b x4)), (.int (own_b x5))] cs hq n0 (Nat.le_trans Z0 Kq.1) (E_b0.keep Kq) (F_cb0.keep Kq nNl) (F_vb0.keep Kq nNl) (V_v0.keep Kq nNl) (own_staKeep0 S_cs Kq) hcs) own_pd11 (hb hby d_B15_6) 1 [.int 6] rfl rfl ⟨rfl, rfl, rfl, rfl, rfl⟩ (by decide) ?_
  rintro T32 L32 v32 X32 hQ32
  obtain ⟨rfl, N32q, e32⟩ := hQ32
  have N32 := Fr.app Nq N32q
  obtain ⟨T33, h33, X33, e33, E33, A33, D33, -, st33⟩ := newO X32 hx hZ hown (wd hw 128 rfl) (wd hw 14 rfl) (wd hw 15 rfl) e32 (g := (mkF m 70 #[rv b0, rv bfold, iv 6, iv x5] [])) rfl (hb hby d_B15_70) (by decide) (by decide)
  obtain ⟨b33, g33⟩ : ∃ z, z = hq.size := ⟨_, rfl⟩
  rw [← g33] at A33 D33 st33
  have new_b33 : n0 ≤ b33 := Nat.le_trans (Nat.le_trans Z0 Kq.1) (Nat.le_of_eq g33.symm)
  have sz_b33 : h0.size ≤ b33 := Nat.le_trans Kq.1 (Nat.le_of_eq g33.symm)
  have V_bfold_33 := tV_bfold.ext E33
  have K33 := Kq.ext E33
  have F_b33_value_33 : Fld Z h33 b33 "java/lang/String" "value" "[B" .null := D33 (Or.inr (wd hw 27 rfl)) (ty := (.array .byte)) (by decide)
  have F_b33_coder_33 : Fld Z h33 b33 "java/lang/String" "coder" "B" (.int 0) := D33 (Or.inr (wd hw 28 rfl)) (ty := .byte) (by decide)
  have F_b33_hash_33 : Fld Z h33 b33 "java/lang/String" "hash" "I" (.int 0) := D33 (Or.inl (wd hw 69 rfl)) (ty := .int) (by decide)
  have F_b33_hashIsZero_33 : Fld Z h33 b33 "java/lang/String" "hashIsZero" "Z" (.int 0) := D33 (Or.inl (wd hw 71 rfl)) (ty := .boolean) (by decide)
  refine own_go (b := T33.setTop (mkF m 75 #[rv b0, rv bfold, iv 6, iv x5] [.ref bfold, .ref b33, .ref b33])) (fun t k => xicmpYes X32 hx hby rfl 9 62 rfl d_B15_9 rfl (flt (hNz : ¬ ((6 : Int32) < z))).2.1 (by decide) (by decide) (xaloadN X32 hx hby rfl d_B15_62 rfl rfl (XS.ifnonnullYes X32.here hx rfl (pc0 := 63) (pc' := 70) rfl (hb hby d_B15_63) rfl (by decide) (by decide) (st33 _ (xdup X33 hx hby rfl d_B15_73 rfl rfl (xaloadN X33 hx hby rfl d_B15_74 rfl rfl k)))))) ?_
  clear X32 N32q e32 E33 D33 st33
  refine own_ci X33 hx hZ hown hml e33 (wd hw 129 rfl) (wd hw 17 rfl) (wd hw 15 rfl) (wd hw 18 rfl) (own_rmI1 l Z a0 hw [] b33 bfold kfold z cs (own_lo x0) (own_lo x1) (own_lo x2) (own_lo x3) (own_lo x4) (own_lo x5) h33 n0 (Nat.le_trans Z0 K33.1) A33 F_b33_value_33 F_b33_coder_33 F_b33_hash_33 F_b33_hashIsZero_33 new_b33 V_bfold_33 (own_staKeep0 S_cs K33) hcs h0z hNz (own_lor l_x0 s_x0).1 (own_lor l_x0 s_x0).2 (own_lor l_x1 s_x1).1 (own_lor l_x1 s_x1).2 (own_lor l_x2 s_x2).1 (own_lor l_x2 s_x2).2 (own_lor l_x3 s_x3).1 (own_lor l_x3 s_x3).2 (own_lor l_x4 s_x4).1 (own_lor l_x4 s_x4).2 (own_lor l_x5 s_x5).1 (own_lor l_x5 s_x5).2 (nl tV_bfold.lt (Nat.le_of_eq g33.symm)) hz0) own_pd14 (hb hby d_B15_75) 1 [.ref b33] rfl rfl ⟨rfl, rfl, rfl, rfl, rfl⟩ (by decide) rfl ?_
  rintro T34 L34 v34 X34 hQ34
  obtain ⟨bq34, kq34, rfl, N34q, K34q, B34_0, B34_1, B34_2, B34_3, B34_4, B34_5⟩ := hQ34
  have V_bfold_34 := V_bfold_33.keep K34q (fun q => (nl tV_bfold.lt (Nat.le_of_eq g33.symm)) (List.mem_singleton.mp q))
  have E_b33_34 := A33.keep K34q
  have N34 := Fr.app N32 N34q
  have K34 := K33.trans K34q (fun x hx => by cases List.mem_singleton.mp hx; exact Or.inr sz_b33)
  exact own_ret (v := some (.ref b33)) X34 rfl Bd.notSynchronized (nv Bd.returns) (fun fs hr => (retA X34 hx Bd.returns (hb hby d_B15_78) hr)) ⟨_, _, _, rfl, N34, K34, E_b33_34, B34_1, B34_0, B34_2, B34_3, (own_cut (j := (6 : Int32)) B34_4 6 rfl hNz (by simp only [List.set_cons_zero, List.set_cons_succ, List.take_succ_cons, List.take_zero] <;> rfl)), new_b33, B34_5⟩ (by decide)
set_option maxRecDepth 65536 in
set_option maxHeartbeats 40000000 in
theorem own_tAc_5 {p : Program} {l : Launch} {e : Env} {Z s s₁ Tq : State} {m : MethodId} {below : List Frame} {meth : Method} {c : Code} {a0 : Array Value} {ws : List Jvm.Cond} {n0 : Nat} {h0 hq : Heap} {Lq : List Loc} {b0 bfold v0 : Addr} {kfold kv : ClassId} {cs x0 x1 x2 x3 x4 x5 : Int32} {fv : Value} (hw : ∀ d ∈ tables_1, d.before a0 Z = true) (Bd : BodyLoose p l y0N (head1 (Jvm.Cond.code y0N prog_68_method_10_code 4 (some (.object "java/lang/String")) :: ws) ({ frames := 4, cells := 3, slots := 16, locals := 66 } : Room)) prog_68_method_10_code 4 (some (.object "java/lang/String")) e s m #[.ref b0] below meth c s₁) (hx : p.tables.exec = Jvm.exec) (hby : c.code = prog_68_method_10_code) (hml : c.maxLocals = 4) (hown : s.vm.findClass "com/example/rollcall/rollcall/users/CaselessIndex" = some m.cls) (hZ : Z.Warmed39 s.vm) (Xq : Stand p l e ({ frames := 4, cells := 3, slots := 16, locals := 66 } : Room) s m #[.ref b0] below meth c Tq Lq 1 6) (eq0 : Tq.heap = hq) (Nq : Fr n0 Lq) (Z0 : n0 ≤ h0.size) (Kq : Keep h0 hq []) (E_b0 : Exa Z h0 b0 "java/lang/String") (F_cb0 : Fld Z h0 b0 "java/lang/String" "coder" "B" (.int 0)) (F_vb0 : Fld Z h0 b0 "java/lang/String" "value" "[B" (.ref v0)) (V_v0 : Arv Z h0 v0 kv .byte z [(.int (own_b x0)), (.int (own_b x1)), (.int (own_b x2)), (.int (own_b x3)), (.int (own_b x4)), (.int (own_b x5))] (.int 0)) (F_hb0 : Fld Z h0 b0 "java/lang/String" "hash" "I" (.int 0)) (F_zb0 : Fld Z h0 b0 "java/lang/String" "hashIsZero" "Z" (.int 0)) (E_v0 : Exa Z h0 v0 "[B") (S_cs : Sta Z h0 "java/lang/String" "COMPACT_STRINGS" "Z" (.int cs)) (S_f : Sta Z h0 "jdk/internal/util/Preconditions" "SIOOBE_FORMATTER" "Ljava/util/function/BiFunction;" fv) (tV_bfold : Arv Z hq bfold kfold .char z [(.int (own_lo x0)), (.int (own_lo x1)), (.int (own_lo x2)), (.int (own_lo x3)), (.int (own_lo x4)), .int x5] (.int 0)) (new_b0 : n0 ≤ b0) (ne_b0_bfold : b0 ≠ bfold) (ne_v0_bfold : v0 ≠ bfold) (new_bfold : n0 ≤ bfold) (sz_bfold : h0.size ≤ bfold) (hcs : ¬ cs = (0 : Int32)) (hfv : fv.isRef = true) (h0z : ¬ z < (0 : Int32)) (hNz : ¬ (6 : Int32) < z) (l_x0 : ¬ x0 < (0 : Int32)) (s_x0 : ¬ (127 : Int32) < x0) (l_x1 : ¬ x1 < (0 : Int32)) (s_x1 : ¬ (127 : Int32) < x1) (l_x2 : ¬ x2 < (0 : Int32)) (s_x2 : ¬ (127 : Int32) < x2) (l_x3 : ¬ x3 < (0 : Int32)) (s_x3 : ¬ (127 : Int32) < x3) (l_x4 : ¬ x4 < (0 : Int32)) (s_x4 : ¬ (127 : Int32) < x4) (l_x5 : ¬ x5 < (0 : Int32)) (s_x5 : ¬ (127 : Int32) < x5) (hz0 : ¬ z = (0 : Int32)) :
    ∃ s₂ o, Steps p.tables e below (Tq.setTop (mkF m 4 #[rv b0, rv bfold, iv 5, iv x4] [])) s₂ ∧ s₂.status = .running ∧ Ended s₂ below o ∧ ∃ v L, o = .returned v ∧ own_QK Z z [(.int (own_b (own_lo x0))), (.int (own_b (own_lo x1))), (.int (own_b (own_lo x2))), (.int (own_b (own_lo x3))), (.int (own_b (own_lo x4))), (.int (own_b (own_lo x5)))] h0 n0 v s₂.heap L ∧ FrameEnd s o s₂ L ({ frames := 4, cells := 3, slots := 16, locals := 66 } : Room).cells ({ frames := 4, cells := 3, slots := 16, locals := 66 } : Room).slots := by
  refine own_go (b := Tq.setTop (mkF m 6 #[rv b0, rv bfold, iv 5, iv x4] [.ref b0, .int 5])) (fun t k => xiloadN Xq hx hby rfl d_B15_4 rfl (xaloadN Xq hx hby rfl d_B15_5 rfl rfl k)) ?_
  refine own_cv Xq hx hZ hown hml eq0 (wd hw 49 rfl) (wd hw 50 rfl) (wd hw 52 rfl) (wd hw 51 rfl) (wd hw 15 rfl) (wd hw 53 rfl) (E_b0.keep Kq) (own_rmLen l Z a0 hw [] b0 v0 kv z [(.int (own_b x0)), (.int (own_b x1)), (.int (own_b x2)), (.int (own_b x3)), (.int (own_b x4)), (.int (own_b x5))] cs hq n0 (Nat.le_trans Z0 Kq.1) (E_b0.keep Kq) (F_cb0.keep Kq nNl) (F_vb0.keep Kq nNl) (V_v0.keep Kq nNl) (own_staKeep0 S_cs Kq) hcs) own_pd11 (hb hby d_B15_6) 1 [.int 5] rfl rfl ⟨rfl, rfl, rfl, rfl, rfl⟩ (by decide) ?_
  rintro T27 L27 v27 X27 hQ27
  obtain ⟨rfl, N27q, e27⟩ := hQ27
  have N27 := Fr.app Nq N27q
  refine own_go (b := T27.setTop (mkF m 9 #[rv b0, rv bfold, iv 5, iv x4] [.int z, .int 5])) (fun t k => ?_) ?_
  · exact k
  clear N27q
  by_cases hc9_28 : (5 : Int32) < z
  · refine own_go (b := T27.setTop (mkF m 14 #[rv b0, rv bfold, iv 5, iv x4] [.int 5, .ref b0])) (fun t k => xicmpNo X27 hx hby rfl d_B15_9 rfl (tlt hc9_28).2.1 (xaloadN X27 hx hby rfl d_B15_12 rfl rfl (xiloadN X27 hx hby rfl d_B15_13 rfl k))) ?_
    refine own_cv X27 hx hZ hown hml e27 (wd hw 92 rfl) (wd hw 93 rfl) (wd hw 95 rfl) (wd hw 94 rfl) (wd hw 15 rfl) (wd hw 96 rfl) (E_b0.keep Kq) (own_rmCh l Z a0 hw [] b0 (5 : Int32) v0 kv z [(.int (own_b x0)), (.int (own_b x1)), (.int (own_b x2)), (.int (own_b x3)), (.int (own_b x4)), (.int (own_b x5))] x5 cs fv hq n0 (Nat.le_trans Z0 Kq.1) (E_b0.keep Kq) (F_cb0.keep Kq nNl) (F_vb0.keep Kq nNl) (V_v0.keep Kq nNl) (own_staKeep0 S_cs Kq) hcs (by decide) hc9_28 rfl (own_staKeep0 S_f Kq) hfv l_x5 (own_u255 s_x5)) own_pd12 (hb hby d_B15_14) 0 [] rfl rfl ⟨rfl, rfl, rfl, rfl, rfl⟩ (by decide) ?_
    rintro T29 L29 v29 X29 hQ29
    obtain ⟨rfl, N29q, e29⟩ := hQ29
    have N29 := Fr.app N27 N29q
    refine own_go (b := T29.setTop (mkF m 27 #[rv b0, rv bfold, iv 5, iv x5] [])) (fun t k => xistoreN X29 hx hby rfl d_B15_17 rfl (l' := #[rv b0, rv bfold, iv 5, iv x5]) rfl (xiloadN X29 hx hby rfl d_B15_18 rfl (xsipush X29 hx hby rfl d_B15_19 (xicmpYes X29 hx hby rfl 22 27 rfl d_B15_22 rfl (tlt (own_s128 s_x5 : x5 < (128 : Int32))).1 (by decide) (by decide) k)))) ?_
    clear X27 e27 N27 N29q
    by_cases hU5 : own_up x5
    · obtain ⟨cl30, Ar30, q30, Sz30, M30, Hs30, Gs30⟩ := id tV_bfold
      have hin30 := inb_of (j := (5 : Int32)) Sz30 ⟨by decide, hc9_28⟩
      obtain ⟨T31, h31, X31, e31, W31, st31⟩ := stC X29 hx hZ e29 Ar30 (j := (5 : Int32)) hin30 (g := (mkF m 55 #[rv b0, rv bfold, iv 5, iv x5] [(.int ((x5 + (32 : Int32)).toUInt32.toUInt16.toUInt32.toInt32)), .int 5, .ref bfold])) rfl rfl (hb hby d_B15_55)
      have K31 := Kq.wr W31 (Or.inr sz_bfold)
      have N31 := Fr.snoc X31 N29 new_bfold
      have V_bfold_31 := Arv.set Ar30 q30 Sz30 M30 Hs30 Gs30 (fits_nar_char _) W31 5 rfl (Nat.le_of_ble_eq_true rfl)
      rw [own_los hU5] at V_bfold_31
      refine own_go (b := T31.setTop (mkF m 4 #[rv b0, rv bfold, iv 6, iv x5] [])) (fun t k => xiloadN X29 hx hby rfl d_B15_27 rfl (xbipush X29 hx hby rfl d_B15_28 (xicmpNo X29 hx hby rfl d_B15_30 rfl (flt (hU5.1 : ¬ (x5 < (65 : Int32)))).1 (xiloadN X29 hx hby rfl d_B15_33 rfl (xbipush X29 hx hby rfl d_B15_34 (xicmpNo X29 hx hby rfl d_B15_36 rfl (flt (hU5.2 : ¬ ((90 : Int32) < x5))).2.2.1 (show Steps p.tables e below (T29.setTop (mkF m 39 #[rv b0, rv bfold, iv 5, iv x5] [])) _ from xaloadN X29 hx hby rfl d_B15_39 rfl rfl (XS.ifnonnullYes X29.here hx rfl (pc0 := 40) (pc' := 48) rfl (hb hby d_B15_40) rfl (by decide) (by decide) (xaloadN X29 hx hby rfl d_B15_48 rfl rfl (xiloadN X29 hx hby rfl d_B15_49 rfl (xiloadN X29 hx hby rfl d_B15_50 rfl (xbipush X29 hx hby rfl d_B15_51 (show Steps p.tables e below (T29.setTop (mkF m 53 #[rv b0, rv bfold, iv 5, iv x5] [.int 32, .int x5, .int 5, .ref bfold])) _ from xiadd X29 hx hby rfl d_B15_53 rfl (XS.i2c X29.here hx rfl (hb hby d_B15_54) rfl (st31 _ (xiinc X31 hx hby rfl d_B15_56 rfl (l' := #[rv b0, rv bfold, iv 6, iv x5]) rfl (xgoto X31 hx hby rfl 59 4 rfl d_B15_59 (by decide) (by decide) k))))))))))))))))) ?_
      clear tV_bfold X29 e29 N29 q30 Sz30 M30 Hs30 Gs30 hin30 W31 st31
      exact own_tAc_6 hw Bd hx hby hml hown hZ X31 e31 N31 Z0 K31 E_b0 F_cb0 F_vb0 V_v0 F_hb0 F_zb0 E_v0 S_cs S_f V_bfold_31 new_b0 ne_b0_bfold ne_v0_bfold new_bfold sz_bfold hcs hfv h0z hNz l_x0 s_x0 l_x1 s_x1 l_x2 s_x2 l_x3 s_x3 l_x4 s_x4 l_x5 s_x5 hz0
    · refine own_go (b := T29.setTop (mkF m 56 #[rv b0, rv bfold, iv 5, iv x5] [])) (fun t k => ?_) ?_
      · skip
        by_cases hqa : x5 < (65 : Int32)
        · skip
          refine xiloadN X29 hx hby rfl d_B15_27 rfl (xbipush X29 hx hby rfl d_B15_28 (xicmpYes X29 hx hby rfl 30 56 rfl d_B15_30 rfl (tlt (hqa : x5 < (65 : Int32))).1 (by decide) (by decide) k))
        · by_cases hqb : (90 : Int32) < x5
          · skip
            refine xiloadN X29 hx hby rfl d_B15_27 rfl (xbipush X29 hx hby rfl d_B15_28 (xicmpNo X29 hx hby rfl d_B15_30 rfl (flt (hqa : ¬ (x5 < (65 : Int32)))).1 (xiloadN X29 hx hby rfl d_B15_33 rfl (xbipush X29 hx hby rfl d_B15_34 (xicmpYes X29 hx hby rfl 36 56 rfl d_B15_36 rfl (tlt (hqb : (90 : Int32) < x5)).2.2.1 (by decide) (by decide) k)))))
          · exact absurd ⟨hqa, hqb⟩ hU5
      have VN5 : Arv Z hq bfold kfold .char z [(.int (own_lo x0)), (.int (own_lo x1)), (.int (own_lo x2)), (.int (own_lo x3)), (.int (own_lo x4)), (.int (own_lo x5))] (.int 0) := by
        rw [own_lon hU5]
        exact tV_bfold
      refine own_go (b := T29.setTop (mkF m 4 #[rv b0, rv bfold, iv 6, iv x5] [])) (fun t k => xiinc X29 hx hby rfl d_B15_56 rfl (l' := #[rv b0, rv bfold, iv 6, iv x5]) rfl (xgoto X29 hx hby rfl 59 4 rfl d_B15_59 (by decide) (by decide) k)) ?_
      clear tV_bfold
      exact own_tAc_6 hw Bd hx hby hml hown hZ X29 e29 N29 Z0 Kq E_b0 F_cb0 F_vb0 V_v0 F_hb0 F_zb0 E_v0 S_cs S_f VN5 new_b0 ne_b0_bfold ne_v0_bfold new_bfold sz_bfold hcs hfv h0z hNz l_x0 s_x0 l_x1 s_x1 l_x2 s_x2 l_x3 s_x3 l_x4 s_x4 l_x5 s_x5 hz0
  · obtain ⟨T35, h35, X35, e35, E35, A35, D35, -, st35⟩ := newO X27 hx hZ hown (wd hw 128 rfl) (wd hw 14 rfl) (wd hw 15 rfl) e27 (g := (mkF m 70 #[rv b0, rv bfold, iv 5, iv x4] [])) rfl (hb hby d_B15_70) (by decide) (by decide)
    obtain ⟨b35, g35⟩ : ∃ z, z = hq.size := ⟨_, rfl⟩
    rw [← g35] at A35 D35 st35
    have new_b35 : n0 ≤ b35 := Nat.le_trans (Nat.le_trans Z0 Kq.1) (Nat.le_of_eq g35.symm)
    have sz_b35 : h0.size ≤ b35 := Nat.le_trans Kq.1 (Nat.le_of_eq g35.symm)
    have V_bfold_35 := tV_bfold.ext E35
    have K35 := Kq.ext E35
    have F_b35_value_35 : Fld Z h35 b35 "java/lang/String" "value" "[B" .null := D35 (Or.inr (wd hw 27 rfl)) (ty := (.array .byte)) (by decide)
    have F_b35_coder_35 : Fld Z h35 b35 "java/lang/String" "coder" "B" (.int 0) := D35 (Or.inr (wd hw 28 rfl)) (ty := .byte) (by decide)
    have F_b35_hash_35 : Fld Z h35 b35 "java/lang/String" "hash" "I" (.int 0) := D35 (Or.inl (wd hw 69 rfl)) (ty := .int) (by decide)
    have F_b35_hashIsZero_35 : Fld Z h35 b35 "java/lang/String" "hashIsZero" "Z" (.int 0) := D35 (Or.inl (wd hw 71 rfl)) (ty := .boolean) (by decide)
    refine own_go (b := T35.setTop (mkF m 75 #[rv b0, rv bfold, iv 5, iv x4] [.ref bfold, .ref b35, .ref b35])) (fun t k => xicmpYes X27 hx hby rfl 9 62 rfl d_B15_9 rfl (flt hc9_28).2.1 (by decide) (by decide) (xaloadN X27 hx hby rfl d_B15_62 rfl rfl (XS.ifnonnullYes X27.here hx rfl (pc0 := 63) (pc' := 70) rfl (hb hby d_B15_63) rfl (by decide) (by decide) (st35 _ (xdup X35 hx hby rfl d_B15_73 rfl rfl (xaloadN X35 hx hby rfl d_B15_74 rfl rfl k)))))) ?_
    clear X27 e27 E35 D35 st35
    refine own_ci X35 hx hZ hown hml e35 (wd hw 129 rfl) (wd hw 17 rfl) (wd hw 15 rfl) (wd hw 18 rfl) (own_rmI1 l Z a0 hw [] b35 bfold kfold z cs (own_lo x0) (own_lo x1) (own_lo x2) (own_lo x3) (own_lo x4) x5 h35 n0 (Nat.le_trans Z0 K35.1) A35 F_b35_value_35 F_b35_coder_35 F_b35_hash_35 F_b35_hashIsZero_35 new_b35 V_bfold_35 (own_staKeep0 S_cs K35) hcs h0z hNz (own_lor l_x0 s_x0).1 (own_lor l_x0 s_x0).2 (own_lor l_x1 s_x1).1 (own_lor l_x1 s_x1).2 (own_lor l_x2 s_x2).1 (own_lor l_x2 s_x2).2 (own_lor l_x3 s_x3).1 (own_lor l_x3 s_x3).2 (own_lor l_x4 s_x4).1 (own_lor l_x4 s_x4).2 l_x5 (own_u255 s_x5) (nl tV_bfold.lt (Nat.le_of_eq g35.symm)) hz0) own_pd14 (hb hby d_B15_75) 1 [.ref b35] rfl rfl ⟨rfl, rfl, rfl, rfl, rfl⟩ (by decide) rfl ?_
    rintro T36 L36 v36 X36 hQ36
    obtain ⟨bq36, kq36, rfl, N36q, K36q, B36_0, B36_1, B36_2, B36_3, B36_4, B36_5⟩ := hQ36
    have V_bfold_36 := V_bfold_35.keep K36q (fun q => (nl tV_bfold.lt (Nat.le_of_eq g35.symm)) (List.mem_singleton.mp q))
    have E_b35_36 := A35.keep K36q
    have N36 := Fr.app N27 N36q
    have K36 := K35.trans K36q (fun x hx => by cases List.mem_singleton.mp hx; exact Or.inr sz_b35)
    exact own_ret (v := some (.ref b35)) X36 rfl Bd.notSynchronized (nv Bd.returns) (fun fs hr => (retA X36 hx Bd.returns (hb hby d_B15_78) hr)) ⟨_, _, _, rfl, N36, K36, E_b35_36, B36_1, B36_0, B36_2, B36_3, (own_cut (j := (5 : Int32)) B36_4 5 rfl hc9_28 (by simp only [List.set_cons_zero, List.set_cons_succ, List.take_succ_cons, List.take_zero] <;> rfl)), new_b35, B36_5⟩ (by decide)
set_option maxRecDepth 65536 in
set_option maxHeartbeats 40000000 in
theorem own_tAc_4 {p : Program} {l : Launch} {e : Env} {Z s s₁ Tq : State} {m : MethodId} {below : List Frame} {meth : Method} {c : Code} {a0 : Array Value} {ws : List Jvm.Cond} {n0 : Nat} {h0 hq : Heap} {Lq : List Loc} {b0 bfold v0 : Addr} {kfold kv : ClassId} {cs x0 x1 x2 x3 x4 x5 : Int32} {fv : Value} (hw : ∀ d ∈ tables_1, d.before a0 Z = true) (Bd : BodyLoose p l y0N (head1 (Jvm.Cond.code y0N prog_68_method_10_code 4 (some (.object "java/lang/String")) :: ws) ({ frames := 4, cells := 3, slots := 16, locals := 66 } : Room)) prog_68_method_10_code 4 (some (.object "java/lang/String")) e s m #[.ref b0] below meth c s₁) (hx : p.tables.exec = Jvm.exec) (hby : c.code = prog_68_method_10_code) (hml : c.maxLocals = 4) (hown : s.vm.findClass "com/example/rollcall/rollcall/users/CaselessIndex" = some m.cls) (hZ : Z.Warmed39 s.vm) (Xq : Stand p l e ({ frames := 4, cells := 3, slots := 16, locals := 66 } : Room) s m #[.ref b0] below meth c Tq Lq 1 6) (eq0 : Tq.heap = hq) (Nq : Fr n0 Lq) (Z0 : n0 ≤ h0.size) (Kq : Keep h0 hq []) (E_b0 : Exa Z h0 b0 "java/lang/String") (F_cb0 : Fld Z h0 b0 "java/lang/String" "coder" "B" (.int 0)) (F_vb0 : Fld Z h0 b0 "java/lang/String" "value" "[B" (.ref v0)) (V_v0 : Arv Z h0 v0 kv .byte z [(.int (own_b x0)), (.int (own_b x1)), (.int (own_b x2)), (.int (own_b x3)), (.int (own_b x4)), (.int (own_b x5))] (.int 0)) (F_hb0 : Fld Z h0 b0 "java/lang/String" "hash" "I" (.int 0)) (F_zb0 : Fld Z h0 b0 "java/lang/String" "hashIsZero" "Z" (.int 0)) (E_v0 : Exa Z h0 v0 "[B") (S_cs : Sta Z h0 "java/lang/String" "COMPACT_STRINGS" "Z" (.int cs)) (S_f : Sta Z h0 "jdk/internal/util/Preconditions" "SIOOBE_FORMATTER" "Ljava/util/function/BiFunction;" fv) (tV_bfold : Arv Z hq bfold kfold .char z [(.int (own_lo x0)), (.int (own_lo x1)), (.int (own_lo x2)), (.int (own_lo x3)), .int x4, .int x5] (.int 0)) (new_b0 : n0 ≤ b0) (ne_b0_bfold : b0 ≠ bfold) (ne_v0_bfold : v0 ≠ bfold) (new_bfold : n0 ≤ bfold) (sz_bfold : h0.size ≤ bfold) (hcs : ¬ cs = (0 : Int32)) (hfv : fv.isRef = true) (h0z : ¬ z < (0 : Int32)) (hNz : ¬ (6 : Int32) < z) (l_x0 : ¬ x0 < (0 : Int32)) (s_x0 : ¬ (127 : Int32) < x0) (l_x1 : ¬ x1 < (0 : Int32)) (s_x1 : ¬ (127 : Int32) < x1) (l_x2 : ¬ x2 < (0 : Int32)) (s_x2 : ¬ (127 : Int32) < x2) (l_x3 : ¬ x3 < (0 : Int32)) (s_x3 : ¬ (127 : Int32) < x3) (l_x4 : ¬ x4 < (0 : Int32)) (s_x4 : ¬ (127 : Int32) < x4) (l_x5 : ¬ x5 < (0 : Int32)) (s_x5 : ¬ (127 : Int32) < x5) (hz0 : ¬ z = (0 : Int32)) :
    ∃ s₂ o, Steps p.tables e below (Tq.setTop (mkF m 4 #[rv b0, rv bfold, iv 4, iv x3] [])) s₂ ∧ s₂.status = .running ∧ Ended s₂ below o ∧ ∃ v L, o = .returned v ∧ own_QK Z z [(.int (own_b (own_lo x0))), (.int (own_b (own_lo x1))), (.int (own_b (own_lo x2))), (.int (own_b (own_lo x3))), (.int (own_b (own_lo x4))), (.int (own_b (own_lo x5)))] h0 n0 v s₂.heap L ∧ FrameEnd s o s₂ L ({ frames := 4, cells := 3, slots := 16, locals := 66 } : Room).cells ({ frames := 4, cells := 3, slots := 16, locals := 66 } : Room).slots := by
  refine own_go (b := Tq.setTop (mkF m 6 #[rv b0, rv bfold, iv 4, iv x3] [.ref b0, .int 4])) (fun t k => xiloadN Xq hx hby rfl d_B15_4 rfl (xaloadN Xq hx hby rfl d_B15_5 rfl rfl k)) ?_
  refine own_cv Xq hx hZ hown hml eq0 (wd hw 49 rfl) (wd hw 50 rfl) (wd hw 52 rfl) (wd hw 51 rfl) (wd hw 15 rfl) (wd hw 53 rfl) (E_b0.keep Kq) (own_rmLen l Z a0 hw [] b0 v0 kv z [(.int (own_b x0)), (.int (own_b x1)), (.int (own_b x2)), (.int (own_b x3)), (.int (own_b x4)), (.int (own_b x5))] cs hq n0 (Nat.le_trans Z0 Kq.1) (E_b0.keep Kq) (F_cb0.keep Kq nNl) (F_vb0.keep Kq nNl) (V_v0.keep Kq nNl) (own_staKeep0 S_cs Kq) hcs) own_pd11 (hb hby d_B15_6) 1 [.int 4] rfl rfl ⟨rfl, rfl, rfl, rfl, rfl⟩ (by decide) ?_
  rintro T22 L22 v22 X22 hQ22
  obtain ⟨rfl, N22q, e22⟩ := hQ22
  have N22 := Fr.app Nq N22q
  refine own_go (b := T22.setTop (mkF m 9 #[rv b0, rv bfold, iv 4, iv x3] [.int z, .int 4])) (fun t k => ?_) ?_
  · exact k
  clear N22q
  by_cases hc9_23 : (4 : Int32) < z
  · refine own_go (b := T22.setTop (mkF m 14 #[rv b0, rv bfold, iv 4, iv x3] [.int 4, .ref b0])) (fun t k => xicmpNo X22 hx hby rfl d_B15_9 rfl (tlt hc9_23).2.1 (xaloadN X22 hx hby rfl d_B15_12 rfl rfl (xiloadN X22 hx hby rfl d_B15_13 rfl k))) ?_
    refine own_cv X22 hx hZ hown hml e22 (wd hw 92 rfl) (wd hw 93 rfl) (wd hw 95 rfl) (wd hw 94 rfl) (wd hw 15 rfl) (wd hw 96 rfl) (E_b0.keep Kq) (own_rmCh l Z a0 hw [] b0 (4 : Int32) v0 kv z [(.int (own_b x0)), (.int (own_b x1)), (.int (own_b x2)), (.int (own_b x3)), (.int (own_b x4)), (.int (own_b x5))] x4 cs fv hq n0 (Nat.le_trans Z0 Kq.1) (E_b0.keep Kq) (F_cb0.keep Kq nNl) (F_vb0.keep Kq nNl) (V_v0.keep Kq nNl) (own_staKeep0 S_cs Kq) hcs (by decide) hc9_23 rfl (own_staKeep0 S_f Kq) hfv l_x4 (own_u255 s_x4)) own_pd12 (hb hby d_B15_14) 0 [] rfl rfl ⟨rfl, rfl, rfl, rfl, rfl⟩ (by decide) ?_
    rintro T24 L24 v24 X24 hQ24
    obtain ⟨rfl, N24q, e24⟩ := hQ24
    have N24 := Fr.app N22 N24q
    refine own_go (b := T24.setTop (mkF m 27 #[rv b0, rv bfold, iv 4, iv x4] [])) (fun t k => xistoreN X24 hx hby rfl d_B15_17 rfl (l' := #[rv b0, rv bfold, iv 4, iv x4]) rfl (xiloadN X24 hx hby rfl d_B15_18 rfl (xsipush X24 hx hby rfl d_B15_19 (xicmpYes X24 hx hby rfl 22 27 rfl d_B15_22 rfl (tlt (own_s128 s_x4 : x4 < (128 : Int32))).1 (by decide) (by decide) k)))) ?_
    clear X22 e22 N22 N24q
    by_cases hU4 : own_up x4
    · obtain ⟨cl25, Ar25, q25, Sz25, M25, Hs25, Gs25⟩ := id tV_bfold
      have hin25 := inb_of (j := (4 : Int32)) Sz25 ⟨by decide, hc9_23⟩
      obtain ⟨T26, h26, X26, e26, W26, st26⟩ := stC X24 hx hZ e24 Ar25 (j := (4 : Int32)) hin25 (g := (mkF m 55 #[rv b0, rv bfold, iv 4, iv x4] [(.int ((x4 + (32 : Int32)).toUInt32.toUInt16.toUInt32.toInt32)), .int 4, .ref bfold])) rfl rfl (hb hby d_B15_55)
      have K26 := Kq.wr W26 (Or.inr sz_bfold)
      have N26 := Fr.snoc X26 N24 new_bfold
      have V_bfold_26 := Arv.set Ar25 q25 Sz25 M25 Hs25 Gs25 (fits_nar_char _) W26 4 rfl (Nat.le_of_ble_eq_true rfl)
      rw [own_los hU4] at V_bfold_26
      refine own_go (b := T26.setTop (mkF m 4 #[rv b0, rv bfold, iv 5, iv x4] [])) (fun t k => xiloadN X24 hx hby rfl d_B15_27 rfl (xbipush X24 hx hby rfl d_B15_28 (xicmpNo X24 hx hby rfl d_B15_30 rfl (flt (hU4.1 : ¬ (x4 < (65 : Int32)))).1 (xiloadN X24 hx hby rfl d_B15_33 rfl (xbipush X24 hx hby rfl d_B15_34 (xicmpNo X24 hx hby rfl d_B15_36 rfl (flt (hU4.2 : ¬ ((90 : Int32) < x4))).2.2.1 (show Steps p.tables e below (T24.setTop (mkF m 39 #[rv b0, rv bfold, iv 4, iv x4] [])) _ from xaloadN X24 hx hby rfl d_B15_39 rfl rfl (XS.ifnonnullYes X24.here hx rfl (pc0 := 40) (pc' := 48) rfl (hb hby d_B15_40) rfl (by decide) (by decide) (xaloadN X24 hx hby rfl d_B15_48 rfl rfl (xiloadN X24 hx hby rfl d_B15_49 rfl (xiloadN X24 hx hby rfl d_B15_50 rfl (xbipush X24 hx hby rfl d_B15_51 (show Steps p.tables e below (T24.setTop (mkF m 53 #[rv b0, rv bfold, iv 4, iv x4] [.int 32, .int x4, .int 4, .ref bfold])) _ from xiadd X24 hx hby rfl d_B15_53 rfl (XS.i2c X24.here hx rfl (hb hby d_B15_54) rfl (st26 _ (xiinc X26 hx hby rfl d_B15_56 rfl (l' := #[rv b0, rv bfold, iv 5, iv x4]) rfl (xgoto X26 hx hby rfl 59 4 rfl d_B15_59 (by decide) (by decide) k))))))))))))))))) ?_
      clear tV_bfold X24 e24 N24 q25 Sz25 M25 Hs25 Gs25 hin25 W26 st26
      exact own_tAc_5 hw Bd hx hby hml hown hZ X26 e26 N26 Z0 K26 E_b0 F_cb0 F_vb0 V_v0 F_hb0 F_zb0 E_v0 S_cs S_f V_bfold_26 new_b0 ne_b0_bfold ne_v0_bfold new_bfold sz_bfold hcs hfv h0z hNz l_x0 s_x0 l_x1 s_x1 l_x2 s_x2 l_x3 s_x3 l_x4 s_x4 l_x5 s_x5 hz0
    · refine own_go (b := T24.setTop (mkF m 56 #[rv b0, rv bfold, iv 4, iv x4] [])) (fun t k => ?_) ?_
      · skip
        by_cases hqa : x4 < (65 : Int32)
        · skip
          refine xiloadN X24 hx hby rfl d_B15_27 rfl (xbipush X24 hx hby rfl d_B15_28 (xicmpYes X24 hx hby rfl 30 56 rfl d_B15_30 rfl (tlt (hqa : x4 < (65 : Int32))).1 (by decide) (by decide) k))
        · by_cases hqb : (90 : Int32) < x4
          · skip
            refine xiloadN X24 hx hby rfl d_B15_27 rfl (xbipush X24 hx hby rfl d_B15_28 (xicmpNo X24 hx hby rfl d_B15_30 rfl (flt (hqa : ¬ (x4 < (65 : Int32)))).1 (xiloadN X24 hx hby rfl d_B15_33 rfl (xbipush X24 hx hby rfl d_B15_34 (xicmpYes X24 hx hby rfl 36 56 rfl d_B15_36 rfl (tlt (hqb : (90 : Int32) < x4)).2.2.1 (by decide) (by decide) k)))))
          · exact absurd ⟨hqa, hqb⟩ hU4
      have VN4 : Arv Z hq bfold kfold .char z [(.int (own_lo x0)), (.int (own_lo x1)), (.int (own_lo x2)), (.int (own_lo x3)), (.int (own_lo x4)), .int x5] (.int 0) := by
        rw [own_lon hU4]
        exact tV_bfold
      refine own_go (b := T24.setTop (mkF m 4 #[rv b0, rv bfold, iv 5, iv x4] [])) (fun t k => xiinc X24 hx hby rfl d_B15_56 rfl (l' := #[rv b0, rv bfold, iv 5, iv x4]) rfl (xgoto X24 hx hby rfl 59 4 rfl d_B15_59 (by decide) (by decide) k)) ?_
      clear tV_bfold
      exact own_tAc_5 hw Bd hx hby hml hown hZ X24 e24 N24 Z0 Kq E_b0 F_cb0 F_vb0 V_v0 F_hb0 F_zb0 E_v0 S_cs S_f VN4 new_b0 ne_b0_bfold ne_v0_bfold new_bfold sz_bfold hcs hfv h0z hNz l_x0 s_x0 l_x1 s_x1 l_x2 s_x2 l_x3 s_x3 l_x4 s_x4 l_x5 s_x5 hz0
  · obtain ⟨T37, h37, X37, e37, E37, A37, D37, -, st37⟩ := newO X22 hx hZ hown (wd hw 128 rfl) (wd hw 14 rfl) (wd hw 15 rfl) e22 (g := (mkF m 70 #[rv b0, rv bfold, iv 4, iv x3] [])) rfl (hb hby d_B15_70) (by decide) (by decide)
    obtain ⟨b37, g37⟩ : ∃ z, z = hq.size := ⟨_, rfl⟩
    rw [← g37] at A37 D37 st37
    have new_b37 : n0 ≤ b37 := Nat.le_trans (Nat.le_trans Z0 Kq.1) (Nat.le_of_eq g37.symm)
    have sz_b37 : h0.size ≤ b37 := Nat.le_trans Kq.1 (Nat.le_of_eq g37.symm)
    have V_bfold_37 := tV_bfold.ext E37
    have K37 := Kq.ext E37
    have F_b37_value_37 : Fld Z h37 b37 "java/lang/String" "value" "[B" .null := D37 (Or.inr (wd hw 27 rfl)) (ty := (.array .byte)) (by decide)
    have F_b37_coder_37 : Fld Z h37 b37 "java/lang/String" "coder" "B" (.int 0) := D37 (Or.inr (wd hw 28 rfl)) (ty := .byte) (by decide)
    have F_b37_hash_37 : Fld Z h37 b37 "java/lang/String" "hash" "I" (.int 0) := D37 (Or.inl (wd hw 69 rfl)) (ty := .int) (by decide)
    have F_b37_hashIsZero_37 : Fld Z h37 b37 "java/lang/String" "hashIsZero" "Z" (.int 0) := D37 (Or.inl (wd hw 71 rfl)) (ty := .boolean) (by decide)
    refine own_go (b := T37.setTop (mkF m 75 #[rv b0, rv bfold, iv 4, iv x3] [.ref bfold, .ref b37, .ref b37])) (fun t k => xicmpYes X22 hx hby rfl 9 62 rfl d_B15_9 rfl (flt hc9_23).2.1 (by decide) (by decide) (xaloadN X22 hx hby rfl d_B15_62 rfl rfl (XS.ifnonnullYes X22.here hx rfl (pc0 := 63) (pc' := 70) rfl (hb hby d_B15_63) rfl (by decide) (by decide) (st37 _ (xdup X37 hx hby rfl d_B15_73 rfl rfl (xaloadN X37 hx hby rfl d_B15_74 rfl rfl k)))))) ?_
    clear X22 e22 E37 D37 st37
    refine own_ci X37 hx hZ hown hml e37 (wd hw 129 rfl) (wd hw 17 rfl) (wd hw 15 rfl) (wd hw 18 rfl) (own_rmI1 l Z a0 hw [] b37 bfold kfold z cs (own_lo x0) (own_lo x1) (own_lo x2) (own_lo x3) x4 x5 h37 n0 (Nat.le_trans Z0 K37.1) A37 F_b37_value_37 F_b37_coder_37 F_b37_hash_37 F_b37_hashIsZero_37 new_b37 V_bfold_37 (own_staKeep0 S_cs K37) hcs h0z hNz (own_lor l_x0 s_x0).1 (own_lor l_x0 s_x0).2 (own_lor l_x1 s_x1).1 (own_lor l_x1 s_x1).2 (own_lor l_x2 s_x2).1 (own_lor l_x2 s_x2).2 (own_lor l_x3 s_x3).1 (own_lor l_x3 s_x3).2 l_x4 (own_u255 s_x4) l_x5 (own_u255 s_x5) (nl tV_bfold.lt (Nat.le_of_eq g37.symm)) hz0) own_pd14 (hb hby d_B15_75) 1 [.ref b37] rfl rfl ⟨rfl, rfl, rfl, rfl, rfl⟩ (by decide) rfl ?_
    rintro T38 L38 v38 X38 hQ38
    obtain ⟨bq38, kq38, rfl, N38q, K38q, B38_0, B38_1, B38_2, B38_3, B38_4, B38_5⟩ := hQ38
    have V_bfold_38 := V_bfold_37.keep K38q (fun q => (nl tV_bfold.lt (Nat.le_of_eq g37.symm)) (List.mem_singleton.mp q))
    have E_b37_38 := A37.keep K38q
    have N38 := Fr.app N22 N38q
    have K38 := K37.trans K38q (fun x hx => by cases List.mem_singleton.mp hx; exact Or.inr sz_b37)
    exact own_ret (v := some (.ref b37)) X38 rfl Bd.notSynchronized (nv Bd.returns) (fun fs hr => (retA X38 hx Bd.returns (hb hby d_B15_78) hr)) ⟨_, _, _, rfl, N38, K38, E_b37_38, B38_1, B38_0, B38_2, B38_3, (own_cut (j := (4 : Int32)) B38_4 4 rfl hc9_23 (by simp only [List.set_cons_zero, List.set_cons_succ, List.take_succ_cons, List.take_zero] <;> rfl)), new_b37, B38_5⟩ (by decide)
set_option maxRecDepth 65536 in
set_option maxHeartbeats 40000000 in
theorem own_tAc_3 {p : Program} {l : Launch} {e : Env} {Z s s₁ Tq : State} {m : MethodId} {below : List Frame} {meth : Method} {c : Code} {a0 : Array Value} {ws : List Jvm.Cond} {n0 : Nat} {h0 hq : Heap} {Lq : List Loc} {b0 bfold v0 : Addr} {kfold kv : ClassId} {cs x0 x1 x2 x3 x4 x5 : Int32} {fv : Value} (hw : ∀ d ∈ tables_1, d.before a0 Z = true) (Bd : BodyLoose p l y0N (head1 (Jvm.Cond.code y0N prog_68_method_10_code 4 (some (.object "java/lang/String")) :: ws) ({ frames := 4, cells := 3, slots := 16, locals := 66 } : Room)) prog_68_method_10_code 4 (some (.object "java/lang/String")) e s m #[.ref b0] below meth c s₁) (hx : p.tables.exec = Jvm.exec) (hby : c.code = prog_68_method_10_code) (hml : c.maxLocals = 4) (hown : s.vm.findClass "com/example/rollcall/rollcall/users/CaselessIndex" = some m.cls) (hZ : Z.Warmed39 s.vm) (Xq : Stand p l e ({ frames := 4, cells := 3, slots := 16, locals := 66 } : Room) s m #[.ref b0] below meth c Tq Lq 1 6) (eq0 : Tq.heap = hq) (Nq : Fr n0 Lq) (Z0 : n0 ≤ h0.size) (Kq : Keep h0 hq []) (E_b0 : Exa Z h0 b0 "java/lang/String") (F_cb0 : Fld Z h0 b0 "java/lang/String" "coder" "B" (.int 0)) (F_vb0 : Fld Z h0 b0 "java/lang/String" "value" "[B" (.ref v0)) (V_v0 : Arv Z h0 v0 kv .byte z [(.int (own_b x0)), (.int (own_b x1)), (.int (own_b x2)), (.int (own_b x3)), (.int (own_b x4)), (.int (own_b x5))] (.int 0)) (F_hb0 : Fld Z h0 b0 "java/lang/String" "hash" "I" (.int 0)) (F_zb0 : Fld Z h0 b0 "java/lang/String" "hashIsZero" "Z" (.int 0)) (E_v0 : Exa Z h0 v0 "[B") (S_cs : Sta Z h0 "java/lang/String" "COMPACT_STRINGS" "Z" (.int cs)) (S_f : Sta Z h0 "jdk/internal/util/Preconditions" "SIOOBE_FORMATTER" "Ljava/util/function/BiFunction;" fv) (tV_bfold : Arv Z hq bfold kfold .char z [(.int (own_lo x0)), (.int (own_lo x1)), (.int (own_lo x2)), .int x3, .int x4, .int x5] (.int 0)) (new_b0 : n0 ≤ b0) (ne_b0_bfold : b0 ≠ bfold) (ne_v0_bfold : v0 ≠ bfold) (new_bfold : n0 ≤ bfold) (sz_bfold : h0.size ≤ bfold) (hcs : ¬ cs = (0 : Int32)) (hfv : fv.isRef = true) (h0z : ¬ z < (0 : Int32)) (hNz : ¬ (6 : Int32) < z) (l_x0 : ¬ x0 < (0 : Int32)) (s_x0 : ¬ (127 : Int32) < x0) (l_x1 : ¬ x1 < (0 : Int32)) (s_x1 : ¬ (127 : Int32) < x1) (l_x2 : ¬ x2 < (0 : Int32)) (s_x2 : ¬ (127 : Int32) < x2) (l_x3 : ¬ x3 < (0 : Int32)) (s_x3 : ¬ (127 : Int32) < x3) (l_x4 : ¬ x4 < (0 : Int32)) (s_x4 : ¬ (127 : Int32) < x4) (l_x5 : ¬ x5 < (0 : Int32)) (s_x5 : ¬ (127 : Int32) < x5) (hz0 : ¬ z = (0 : Int32)) :
    ∃ s₂ o, Steps p.tables e below (Tq.setTop (mkF m 4 #[rv b0, rv bfold, iv 3, iv x2] [])) s₂ ∧ s₂.status = .running ∧ Ended s₂ below o ∧ ∃ v L, o = .returned v ∧ own_QK Z z [(.int (own_b (own_lo x0))), (.int (own_b (own_lo x1))), (.int (own_b (own_lo x2))), (.int (own_b (own_lo x3))), (.int (own_b (own_lo x4))), (.int (own_b (own_lo x5)))] h0 n0 v s₂.heap L ∧ FrameEnd s o s₂ L ({ frames := 4, cells := 3, slots := 16, locals := 66 } : Room).cells ({ frames := 4, cells := 3, slots := 16, locals := 66 } : Room).slots := by
  refine own_go (b := Tq.setTop (mkF m 6 #[rv b0, rv bfold, iv 3, iv x2] [.ref b0, .int 3])) (fun t k => xiloadN Xq hx hby rfl d_B15_4 rfl (xaloadN Xq hx hby rfl d_B15_5 rfl rfl k)) ?_
  refine own_cv Xq hx hZ hown hml eq0 (wd hw 49 rfl) (wd hw 50 rfl) (wd hw 52 rfl) (wd hw 51 rfl) (wd hw 15 rfl) (wd hw 53 rfl) (E_b0.keep Kq) (own_rmLen l Z a0 hw [] b0 v0 kv z [(.int (own_b x0)), (.int (own_b x1)), (.int (own_b x2)), (.int (own_b x3)), (.int (own_b x4)), (.int (own_b x5))] cs hq n0 (Nat.le_trans Z0 Kq.1) (E_b0.keep Kq) (F_cb0.keep Kq nNl) (F_vb0.keep Kq nNl) (V_v0.keep Kq nNl) (own_staKeep0 S_cs Kq) hcs) own_pd11 (hb hby d_B15_6) 1 [.int 3] rfl rfl ⟨rfl, rfl, rfl, rfl, rfl⟩ (by decide) ?_
  rintro T17 L17 v17 X17 hQ17
  obtain ⟨rfl, N17q, e17⟩ := hQ17
  have N17 := Fr.app Nq N17q
  refine own_go (b := T17.setTop (mkF m 9 #[rv b0, rv bfold, iv 3, iv x2] [.int z, .int 3])) (fun t k => ?_) ?_
  · exact k
  clear N17q
  by_cases hc9_18 : (3 : Int32) < z
  · refine own_go (b := T17.setTop (mkF m 14 #[rv b0, rv bfold, iv 3, iv x2] [.int 3, .ref b0])) (fun t k => xicmpNo X17 hx hby rfl d_B15_9 rfl (tlt hc9_18).2.1 (xaloadN X17 hx hby rfl d_B15_12 rfl rfl (xiloadN X17 hx hby rfl d_B15_13 rfl k))) ?_
    refine own_cv X17 hx hZ hown hml e17 (wd hw 92 rfl) (wd hw 93 rfl) (wd hw 95 rfl) (wd hw 94 rfl) (wd hw 15 rfl) (wd hw 96 rfl) (E_b0.keep Kq) (own_rmCh l Z a0 hw [] b0 (3 : Int32) v0 kv z [(.int (own_b x0)), (.int (own_b x1)), (.int (own_b x2)), (.int (own_b x3)), (.int (own_b x4)), (.int (own_b x5))] x3 cs fv hq n0 (Nat.le_trans Z0 Kq.1) (E_b0.keep Kq) (F_cb0.keep Kq nNl) (F_vb0.keep Kq nNl) (V_v0.keep Kq nNl) (own_staKeep0 S_cs Kq) hcs (by decide) hc9_18 rfl (own_staKeep0 S_f Kq) hfv l_x3 (own_u255 s_x3)) own_pd12 (hb hby d_B15_14) 0 [] rfl rfl ⟨rfl, rfl, rfl, rfl, rfl⟩ (by decide) ?_
    rintro T19 L19 v19 X19 hQ19
    obtain ⟨rfl, N19q, e19⟩ := hQ19
    have N19 := Fr.app N17 N19q
    refine own_go (b := T19.setTop (mkF m 27 #[rv b0, rv bfold, iv 3, iv x3] [])) (fun t k => xistoreN X19 hx hby rfl d_B15_17 rfl (l' := #[rv b0, rv bfold, iv 3, iv x3]) rfl (xiloadN X19 hx hby rfl d_B15_18 rfl (xsipush X19 hx hby rfl d_B15_19 (xicmpYes X19 hx hby rfl 22 27 rfl d_B15_22 rfl (tlt (own_s128 s_x3 : x3 < (128 : Int32))).1 (by decide) (by decide) k)))) ?_
    clear X17 e17 N17 N19q
    by_cases hU3 : own_up x3
    · obtain ⟨cl20, Ar20, q20, Sz20, M20, Hs20, Gs20⟩ := id tV_bfold
      have hin20 := inb_of (j := (3 : Int32)) Sz20 ⟨by decide, hc9_18⟩
      obtain ⟨T21, h21, X21, e21, W21, st21⟩ := stC X19 hx hZ e19 Ar20 (j := (3 : Int32)) hin20 (g := (mkF m 55 #[rv b0, rv bfold, iv 3, iv x3] [(.int ((x3 + (32 : Int32)).toUInt32.toUInt16.toUInt32.toInt32)), .int 3, .ref bfold])) rfl rfl (hb hby d_B15_55)
      have K21 := Kq.wr W21 (Or.inr sz_bfold)
      have N21 := Fr.snoc X21 N19 new_bfold
      have V_bfold_21 := Arv.set Ar20 q20 Sz20 M20 Hs20 Gs20 (fits_nar_char _) W21 3 rfl (Nat.le_of_ble_eq_true rfl)
      rw [own_los hU3] at V_bfold_21
      refine own_go (b := T21.setTop (mkF m 4 #[rv b0, rv bfold, iv 4, iv x3] [])) (fun t k => xiloadN X19 hx hby rfl d_B15_27 rfl (xbipush X19 hx hby rfl d_B15_28 (xicmpNo X19 hx hby rfl d_B15_30 rfl (flt (hU3.1 : ¬ (x3 < (65 : Int32)))).1 (xiloadN X19 hx hby rfl d_B15_33 rfl (xbipush X19 hx hby rfl d_B15_34 (xicmpNo X19 hx hby rfl d_B15_36 rfl (flt (hU3.2 : ¬ ((90 : Int32) < x3))).2.2.1 (show Steps p.tables e below (T19.setTop (mkF m 39 #[rv b0, rv bfold, iv 3, iv x3] [])) _ from xaloadN X19 hx hby rfl d_B15_39 rfl rfl (XS.ifnonnullYes X19.here hx rfl (pc0 := 40) (pc' := 48) rfl (hb hby d_B15_40) rfl (by decide) (by decide) (xaloadN X19 hx hby rfl d_B15_48 rfl rfl (xiloadN X19 hx hby rfl d_B15_49 rfl (xiloadN X19 hx hby rfl d_B15_50 rfl (xbipush X19 hx hby rfl d_B15_51 (show Steps p.tables e below (T19.setTop (mkF m 53 #[rv b0, rv bfold, iv 3, iv x3] [.int 32, .int x3, .int 3, .ref bfold])) _ from xiadd X19 hx hby rfl d_B15_53 rfl (XS.i2c X19.here hx rfl (hb hby d_B15_54) rfl (st21 _ (xiinc X21 hx hby rfl d_B15_56 rfl (l' := #[rv b0, rv bfold, iv 4, iv x3]) rfl (xgoto X21 hx hby rfl 59 4 rfl d_B15_59 (by decide) (by decide) k))))))))))))))))) ?_
      clear tV_bfold X19 e19 N19 q20 Sz20 M20 Hs20 Gs20 hin20 W21 st21
      exact own_tAc_4 hw Bd hx hby hml hown hZ X21 e21 N21 Z0 K21 E_b0 F_cb0 F_vb0 V_v0 F_hb0 F_zb0 E_v0 S_cs S_f V_bfold_21 new_b0 ne_b0_bfold ne_v0_bfold new_bfold sz_bfold hcs hfv h0z hNz l_x0 s_x0 l_x1 s_x1 l_x2 s_x2 l_x3 s_x3 l_x4 s_x4 l_x5 s_x5 hz0
    · refine own_go (b := T19.setTop (mkF m 56 #[rv b0, rv bfold, iv 3, iv x3] [])) (fun t k => ?_) ?_
      · skip
        by_cases hqa : x3 < (65 : Int32)
        · skip
          refine xiloadN X19 hx hby rfl d_B15_27 rfl (xbipush X19 hx hby rfl d_B15_28 (xicmpYes X19 hx hby rfl 30 56 rfl d_B15_30 rfl (tlt (hqa : x3 < (65 : Int32))).1 (by decide) (by decide) k))
        · by_cases hqb : (90 : Int32) < x3
          · skip
            refine xiloadN X19 hx hby rfl d_B15_27 rfl (xbipush X19 hx hby rfl d_B15_28 (xicmpNo X19 hx hby rfl d_B15_30 rfl (flt (hqa : ¬ (x3 < (65 : Int32)))).1 (xiloadN X19 hx hby rfl d_B15_33 rfl (xbipush X19 hx hby rfl d_B15_34 (xicmpYes X19 hx hby rfl 36 56 rfl d_B15_36 rfl (tlt (hqb : (90 : Int32) < x3)).2.2.1 (by decide) (by decide) k)))))
          · exact absurd ⟨hqa, hqb⟩ hU3
      have VN3 : Arv Z hq bfold kfold .char z [(.int (own_lo x0)), (.int (own_lo x1)), (.int (own_lo x2)), (.int (own_lo x3)), .int x4, .int x5] (.int 0) := by
        rw [own_lon hU3]
        exact tV_bfold
      refine own_go (b := T19.setTop (mkF m 4 #[rv b0, rv bfold, iv 4, iv x3] [])) (fun t k => xiinc X19 hx hby rfl d_B15_56 rfl (l' := #[rv b0, rv bfold, iv 4, iv x3]) rfl (xgoto X19 hx hby rfl 59 4 rfl d_B15_59 (by decide) (by decide) k)) ?_
      clear tV_bfold
      exact own_tAc_4 hw Bd hx hby hml hown hZ X19 e19 N19 Z0 Kq E_b0 F_cb0 F_vb0 V_v0 F_hb0 F_zb0 E_v0 S_cs S_f VN3 new_b0 ne_b0_bfold ne_v0_bfold new_bfold sz_bfold hcs hfv h0z hNz l_x0 s_x0 l_x1 s_x1 l_x2 s_x2 l_x3 s_x3 l_x4 s_x4 l_x5 s_x5 hz0
  · obtain ⟨T39, h39, X39, e39, E39, A39, D39, -, st39⟩ := newO X17 hx hZ hown (wd hw 128 rfl) (wd hw 14 rfl) (wd hw 15 rfl) e17 (g := (mkF m 70 #[rv b0, rv bfold, iv 3, iv x2] [])) rfl (hb hby d_B15_70) (by decide) (by decide)
    obtain ⟨b39, g39⟩ : ∃ z, z = hq.size := ⟨_, rfl⟩
    rw [← g39] at A39 D39 st39
    have new_b39 : n0 ≤ b39 := Nat.le_trans (Nat.le_trans Z0 Kq.1) (Nat.le_of_eq g39.symm)
    have sz_b39 : h0.size ≤ b39 := Nat.le_trans Kq.1 (Nat.le_of_eq g39.symm)
    have V_bfold_39 := tV_bfold.ext E39
    have K39 := Kq.ext E39
    have F_b39_value_39 : Fld Z h39 b39 "java/lang/String" "value" "[B" .null := D39 (Or.inr (wd hw 27 rfl)) (ty := (.array .byte)) (by decide)
    have F_b39_coder_39 : Fld Z h39 b39 "java/lang/String" "coder" "B" (.int 0) := D39 (Or.inr (wd hw 28 rfl)) (ty := .byte) (by decide)
    have F_b39_hash_39 : Fld Z h39 b39 "java/lang/String" "hash" "I" (.int 0) := D39 (Or.inl (wd hw 69 rfl)) (ty := .int) (by decide)
    have F_b39_hashIsZero_39 : Fld Z h39 b39 "java/lang/String" "hashIsZero" "Z" (.int 0) := D39 (Or.inl (wd hw 71 rfl)) (ty := .boolean) (by decide)
    refine own_go (b := T39.setTop (mkF m 75 #[rv b0, rv bfold, iv 3, iv x2] [.ref bfold, .ref b39, .ref b39])) (fun t k => xicmpYes X17 hx hby rfl 9 62 rfl d_B15_9 rfl (flt hc9_18).2.1 (by decide) (by decide) (xaloadN X17 hx hby rfl d_B15_62 rfl rfl (XS.ifnonnullYes X17.here hx rfl (pc0 := 63) (pc' := 70) rfl (hb hby d_B15_63) rfl (by decide) (by decide) (st39 _ (xdup X39 hx hby rfl d_B15_73 rfl rfl (xaloadN X39 hx hby rfl d_B15_74 rfl rfl k)))))) ?_
    clear X17 e17 E39 D39 st39
    refine own_ci X39 hx hZ hown hml e39 (wd hw 129 rfl) (wd hw 17 rfl) (wd hw 15 rfl) (wd hw 18 rfl) (own_rmI1 l Z a0 hw [] b39 bfold kfold z cs (own_lo x0) (own_lo x1) (own_lo x2) x3 x4 x5 h39 n0 (Nat.le_trans Z0 K39.1) A39 F_b39_value_39 F_b39_coder_39 F_b39_hash_39 F_b39_hashIsZero_39 new_b39 V_bfold_39 (own_staKeep0 S_cs K39) hcs h0z hNz (own_lor l_x0 s_x0).1 (own_lor l_x0 s_x0).2 (own_lor l_x1 s_x1).1 (own_lor l_x1 s_x1).2 (own_lor l_x2 s_x2).1 (own_lor l_x2 s_x2).2 l_x3 (own_u255 s_x3) l_x4 (own_u255 s_x4) l_x5 (own_u255 s_x5) (nl tV_bfold.lt (Nat.le_of_eq g39.symm)) hz0) own_pd14 (hb hby d_B15_75) 1 [.ref b39] rfl rfl ⟨rfl, rfl, rfl, rfl, rfl⟩ (by decide) rfl ?_
    rintro T40 L40 v40 X40 hQ40
    obtain ⟨bq40, kq40, rfl, N40q, K40q, B40_0, B40_1, B40_2, B40_3, B40_4, B40_5⟩ := hQ40
    have V_bfold_40 := V_bfold_39.keep K40q (fun q => (nl tV_bfold.lt (Nat.le_of_eq g39.symm)) (List.mem_singleton.mp q))
    have E_b39_40 := A39.keep K40q
    have N40 := Fr.app N17 N40q
    have K40 := K39.trans K40q (fun x hx => by cases List.mem_singleton.mp hx; exact Or.inr sz_b39)
    exact own_ret (v := some (.ref b39)) X40 rfl Bd.notSynchronized (nv Bd.returns) (fun fs hr => (retA X40 hx Bd.returns (hb hby d_B15_78) hr)) ⟨_, _, _, rfl, N40, K40, E_b39_40, B40_1, B40_0, B40_2, B40_3, (own_cut (j := (3 : Int32)) B40_4 3 rfl hc9_18 (by simp only [List.set_cons_zero, List.set_cons_succ, List.take_succ_cons, List.take_zero] <;> rfl)), new_b39, B40_5⟩ (by decide)
set_option maxRecDepth 65536 in
set_option maxHeartbeats 40000000 in
theorem own_tAc_2 {p : Program} {l : Launch} {e : Env} {Z s s₁ Tq : State} {m : MethodId} {below : List Frame} {meth : Method} {c : Code} {a0 : Array Value} {ws : List Jvm.Cond} {n0 : Nat} {h0 hq : Heap} {Lq : List Loc} {b0 bfold v0 : Addr} {kfold kv : ClassId} {cs x0 x1 x2 x3 x4 x5 : Int32} {fv : Value} (hw : ∀ d ∈ tables_1, d.before a0 Z = true) (Bd : BodyLoose p l y0N (head1 (Jvm.Cond.code y0N prog_68_method_10_code 4 (some (.object "java/lang/String")) :: ws) ({ frames := 4, cells := 3, slots := 16, locals := 66 } : Room)) prog_68_method_10_code 4 (some (.object "java/lang/String")) e s m #[.ref b0] below meth c s₁) (hx : p.tables.exec = Jvm.exec) (hby : c.code = prog_68_method_10_code) (hml : c.maxLocals = 4) (hown : s.vm.findClass "com/example/rollcall/rollcall/users/CaselessIndex" = some m.cls) (hZ : Z.Warmed39 s.vm) (Xq : Stand p l e ({ frames := 4, cells := 3, slots := 16, locals := 66 } : Room) s m #[.ref b0] below meth c Tq Lq 1 6) (eq0 : Tq.heap = hq) (Nq : Fr n0 Lq) (Z0 : n0 ≤ h0.size) (Kq : Keep h0 hq []) (E_b0 : Exa Z h0 b0 "java/lang/String") (F_cb0 : Fld Z h0 b0 "java/lang/String" "coder" "B" (.int 0)) (F_vb0 : Fld Z h0 b0 "java/lang/String" "value" "[B" (.ref v0)) (V_v0 : Arv Z h0 v0 kv .byte z [(.int (own_b x0)), (.int (own_b x1)), (.int (own_b x2)), (.int (own_b x3)), (.int (own_b x4)), (.int (own_b x5))] (.int 0)) (F_hb0 : Fld Z h0 b0 "java/lang/String" "hash" "I" (.int 0)) (F_zb0 : Fld Z h0 b0 "java/lang/String" "hashIsZero" "Z" (.int 0)) (E_v0 : Exa Z h0 v0 "[B") (S_cs : Sta Z h0 "java/lang/String" "COMPACT_STRINGS" "Z" (.int cs)) (S_f : Sta Z h0 "jdk/internal/util/Preconditions" "SIOOBE_FORMATTER" "Ljava/util/function/BiFunction;" fv) (tV_bfold : Arv Z hq bfold kfold .char z [(.int (own_lo x0)), (.int (own_lo x1)), .int x2, .int x3, .int x4, .int x5] (.int 0)) (new_b0 : n0 ≤ b0) (ne_b0_bfold : b0 ≠ bfold) (ne_v0_bfold : v0 ≠ bfold) (new_bfold : n0 ≤ bfold) (sz_bfold : h0.size ≤ bfold) (hcs : ¬ cs = (0 : Int32)) (hfv : fv.isRef = true) (h0z : ¬ z < (0 : Int32)) (hNz : ¬ (6 : Int32) < z) (l_x0 : ¬ x0 < (0 : Int32)) (s_x0 : ¬ (127 : Int32) < x0) (l_x1 : ¬ x1 < (0 : Int32)) (s_x1 : ¬ (127 : Int32) < x1) (l_x2 : ¬ x2 < (0 : Int32)) (s_x2 : ¬ (127 : Int32) < x2) (l_x3 : ¬ x3 < (0 : Int32)) (s_x3 : ¬ (127 : Int32) < x3) (l_x4 : ¬ x4 < (0 : Int32)) (s_x4 : ¬ (127 : Int32) < x4) (l_x5 : ¬ x5 < (0 : Int32)) (s_x5 : ¬ (127 : Int32) < x5) (hz0 : ¬ z = (0 : Int32)) :
    ∃ s₂ o, Steps p.tables e below (Tq.setTop (mkF m 4 #[rv b0, rv bfold, iv 2, iv x1] [])) s₂ ∧ s₂.status = .running ∧ Ended s₂ below o ∧ ∃ v L, o = .returned v ∧ own_QK Z z [(.int (own_b (own_lo x0))), (.int (own_b (own_lo x1))), (.int (own_b (own_lo x2))), (.int (own_b (own_lo x3))), (.int (own_b (own_lo x4))), (.int (own_b (own_lo x5)))] h0 n0 v s₂.heap L ∧ FrameEnd s o s₂ L ({ frames := 4, cells := 3, slots := 16, locals := 66 } : Room).cells ({ frames := 4, cells := 3, slots := 16, locals := 66 } : Room).slots := by
  refine own_go (b := Tq.setTop (mkF m 6 #[rv b0, rv bfold, iv 2, iv x1] [.ref b0, .int 2])) (fun t k => xiloadN Xq hx hby rfl d_B15_4 rfl (xaloadN Xq hx hby rfl d_B15_5 rfl rfl k)) ?_
  refine own_cv Xq hx hZ hown hml eq0 (wd hw 49 rfl) (wd hw 50 rfl) (wd hw 52 rfl) (wd hw 51 rfl) (wd hw 15 rfl) (wd hw 53 rfl) (E_b0.keep Kq) (own_rmLen l Z a0 hw [] b0 v0 kv z [(.int (own_b x0)), (.int (own_b x1)), (.int (own_b x2)), (.int (own_b x3)), (.int (own_b x4)), (.int (own_b x5))] cs hq n0 (Nat.le_trans Z0 Kq.1) (E_b0.keep Kq) (F_cb0.keep Kq nNl) (F_vb0.keep Kq nNl) (V_v0.keep Kq nNl) (own_staKeep0 S_cs Kq) hcs) own_pd11 (hb hby d_B15_6) 1 [.int 2] rfl rfl ⟨rfl, rfl, rfl, rfl, rfl⟩ (by decide) ?_
  rintro T12 L12 v12 X12 hQ12
  obtain ⟨rfl, N12q, e12⟩ := hQ12
  have N12 := Fr.app Nq N12q
  refine own_go (b := T12.setTop (mkF m 9 #[rv b0, rv bfold, iv 2, iv x1] [.int z, .int 2])) (fun t k => ?_) ?_
  · exact k
  clear N12q
  by_cases hc9_13 : (2 : Int32) < z
  · refine own_go (b := T12.setTop (mkF m 14 #[rv b0, rv bfold, iv 2, iv x1] [.int 2, .ref b0])) (fun t k => xicmpNo X12 hx hby rfl d_B15_9 rfl (tlt hc9_13).2.1 (xaloadN X12 hx hby rfl d_B15_12 rfl rfl (xiloadN X12 hx hby rfl d_B15_13 rfl k))) ?_
    refine own_cv X12 hx hZ hown hml e12 (wd hw 92 rfl) (wd hw 93 rfl) (wd hw 95 rfl) (wd hw 94 rfl) (wd hw 15 rfl) (wd hw 96 rfl) (E_b0.keep Kq) (own_rmCh l Z a0 hw [] b0 (2 : Int32) v0 kv z [(.int (own_b x0)), (.int (own_b x1)), (.int (own_b x2)), (.int (own_b x3)), (.int (own_b x4)), (.int (own_b x5))] x2 cs fv hq n0 (Nat.le_trans Z0 Kq.1) (E_b0.keep Kq) (F_cb0.keep Kq nNl) (F_vb0.keep Kq nNl) (V_v0.keep Kq nNl) (own_staKeep0 S_cs Kq) hcs (by decide) hc9_13 rfl (own_staKeep0 S_f Kq) hfv l_x2 (own_u255 s_x2)) own_pd12 (hb hby d_B15_14) 0 [] rfl rfl ⟨rfl, rfl, rfl, rfl, rfl⟩ (by decide) ?_
    rintro T14 L14 v14 X14 hQ14
    obtain ⟨rfl, N14q, e14⟩ := hQ14
    have N14 := Fr.app N12 N14q
    refine own_go (b := T14.setTop (mkF m 27 #[rv b0, rv bfold, iv 2, iv x2] [])) (fun t k => xistoreN X14 hx hby rfl d_B15_17 rfl (l' := #[rv b0, rv bfold, iv 2, iv x2]) rfl (xiloadN X14 hx hby rfl d_B15_18 rfl (xsipush X14 hx hby rfl d_B15_19 (xicmpYes X14 hx hby rfl 22 27 rfl d_B15_22 rfl (tlt (own_s128 s_x2 : x2 < (128 : Int32))).1 (by decide) (by decide) k)))) ?_
    clear X12 e12 N12 N14q
    by_cases hU2 : own_up x2
    · obtain ⟨cl15, Ar15, q15, Sz15, M15, Hs15, Gs15⟩ := id tV_bfold
      have hin15 := inb_of (j := (2 : Int32)) Sz15 ⟨by decide, hc9_13⟩
      obtain ⟨T16, h16, X16, e16, W16, st16⟩ := stC X14 hx hZ e14 Ar15 (j := (2 : Int32)) hin15 (g := (mkF m 55 #[rv b0, rv bfold, iv 2, iv x2] [(.int ((x2 + (32 : Int32)).toUInt32.toUInt16.toUInt32.toInt32)), .int 2, .ref bfold])) rfl rfl (hb hby d_B15_55)
      have K16 := Kq.wr W16 (Or.inr sz_bfold)
      have N16 := Fr.snoc X16 N14 new_bfold
      have V_bfold_16 := Arv.set Ar15 q15 Sz15 M15 Hs15 Gs15 (fits_nar_char _) W16 2 rfl (Nat.le_of_ble_eq_true rfl)
      rw [own_los hU2] at V_bfold_16
      refine own_go (b := T16.setTop (mkF m 4 #[rv b0, rv bfold, iv 3, iv x2] [])) (fun t k => xiloadN X14 hx hby rfl d_B15_27 rfl (xbipush X14 hx hby rfl d_B15_28 (xicmpNo X14 hx hby rfl d_B15_30 rfl (flt (hU2.1 : ¬ (x2 < (65 : Int32)))).1 (xiloadN X14 hx hby rfl d_B15_33 rfl (xbipush X14 hx hby rfl d_B15_34 (xicmpNo X14 hx hby rfl d_B15_36 rfl (flt (hU2.2 : ¬ ((90 : Int32) < x2))).2.2.1 (show Steps p.tables e below (T14.setTop (mkF m 39 #[rv b0, rv bfold, iv 2, iv x2] [])) _ from xaloadN X14 hx hby rfl d_B15_39 rfl rfl (XS.ifnonnullYes X14.here hx rfl (pc0 := 40) (pc' := 48) rfl (hb hby d_B15_40) rfl (by decide) (by decide) (xaloadN X14 hx hby rfl d_B15_48 rfl rfl (xiloadN X14 hx hby rfl d_B15_49 rfl (xiloadN X14 hx hby rfl d_B15_50 rfl (xbipush X14 hx hby rfl d_B15_51 (show Steps p.tables e below (T14.setTop (mkF m 53 #[rv b0, rv bfold, iv 2, iv x2] [.int 32, .int x2, .int 2, .ref bfold])) _ from xiadd X14 hx hby rfl d_B15_53 rfl (XS.i2c X14.here hx rfl (hb hby d_B15_54) rfl (st16 _ (xiinc X16 hx hby rfl d_B15_56 rfl (l' := #[rv b0, rv bfold, iv 3, iv x2]) rfl (xgoto X16 hx hby rfl 59 4 rfl d_B15_59 (by decide) (by decide) k))))))))))))))))) ?_
      clear tV_bfold X14 e14 N14 q15 Sz15 M15 Hs15 Gs15 hin15 W16 st16
      exact own_tAc_3 hw Bd hx hby hml hown hZ X16 e16 N16 Z0 K16 E_b0 F_cb0 F_vb0 V_v0 F_hb0 F_zb0 E_v0 S_cs S_f V_bfold_16 new_b0 ne_b0_bfold ne_v0_bfold new_bfold sz_bfold hcs hfv h0z hNz l_x0 s_x0 l_x1 s_x1 l_x2 s_x2 l_x3 s_x3 l_x4 s_x4 l_x5 s_x5 hz0
    · refine own_go (b := T14.setTop (mkF m 56 #[rv b0, rv bfold, iv 2, iv x2] [])) (fun t k => ?_) ?_
      · skip
        by_cases hqa : x2 < (65 : Int32)
        · skip
          refine xiloadN X14 hx hby rfl d_B15_27 rfl (xbipush X14 hx hby rfl d_B15_28 (xicmpYes X14 hx hby rfl 30 56 rfl d_B15_30 rfl (tlt (hqa : x2 < (65 : Int32))).1 (by decide) (by decide) k))
        · by_cases hqb : (90 : Int32) < x2
          · skip
            refine xiloadN X14 hx hby rfl d_B15_27 rfl (xbipush X14 hx hby rfl d_B15_28 (xicmpNo X14 hx hby rfl d_B15_30 rfl (flt (hqa : ¬ (x2 < (65 : Int32)))).1 (xiloadN X14 hx hby rfl d_B15_33 rfl (xbipush X14 hx hby rfl d_B15_34 (xicmpYes X14 hx hby rfl 36 56 rfl d_B15_36 rfl (tlt (hqb : (90 : Int32) < x2)).2.2.1 (by decide) (by decide) k)))))
          · exact absurd ⟨hqa, hqb⟩ hU2
      have VN2 : Arv Z hq bfold kfold .char z [(.int (own_lo x0)), (.int (own_lo x1)), (.int (own_lo x2)), .int x3, .int x4, .int x5] (.int 0) := by
        rw [own_lon hU2]
        exact tV_bfold
      refine own_go (b := T14.setTop (mkF m 4 #[rv b0, rv bfold, iv 3, iv x2] [])) (fun t k => xiinc X14 hx hby rfl d_B15_56 rfl (l' := #[rv b0, rv bfold, iv 3, iv x2]) rfl (xgoto X14 hx hby rfl 59 4 rfl d_B15_59 (by decide) (by decide) k)) ?_
      clear tV_bfold
      exact own_tAc_3 hw Bd hx hby hml hown hZ X14 e14 N14 Z0 Kq E_b0 F_cb0 F_vb0 V_v0 F_hb0 F_zb0 E_v0 S_cs S_f VN2 new_b0 ne_b0_bfold ne_v0_bfold new_bfold sz_bfold hcs hfv h0z hNz l_x0 s_x0 l_x1 s_x1 l_x2 s_x2 l_x3 s_x3 l_x4 s_x4 l_x5 s_x5 hz0
  · obtain ⟨T41, h41, X41, e41, E41, A41, D41, -, st41⟩ := newO X12 hx hZ hown (wd hw 128 rfl) (wd hw 14 rfl) (wd hw 15 rfl) e12 (g := (mkF m 70 #[rv b0, rv bfold, iv 2, iv x1] [])) rfl (hb hby d_B15_70) (by decide) (by decide)
    obtain ⟨b41, g41⟩ : ∃ z, z = hq.size := ⟨_, rfl⟩
    rw [← g41] at A41 D41 st41
    have new_b41 : n0 ≤ b41 := Nat.le_trans (Nat.le_trans Z0 Kq.1) (Nat.le_of_eq g41.symm)
    have sz_b41 : h0.size ≤ b41 := Nat.le_trans Kq.1 (Nat.le_of_eq g41.symm)
    have V_bfold_41 := tV_bfold.ext E41
    have K41 := Kq.ext E41
    have F_b41_value_41 : Fld Z h41 b41 "java/lang/String" "value" "[B" .null := D41 (Or.inr (wd hw 27 rfl)) (ty := (.array .byte)) (by decide)
    have F_b41_coder_41 : Fld Z h41 b41 "java/lang/String" "coder" "B" (.int 0) := D41 (Or.inr (wd hw 28 rfl)) (ty := .byte) (by decide)
    have F_b41_hash_41 : Fld Z h41 b41 "java/lang/String" "hash" "I" (.int 0) := D41 (Or.inl (wd hw 69 rfl)) (ty := .int) (by decide)
    have F_b41_hashIsZero_41 : Fld Z h41 b41 "java/lang/String" "hashIsZero" "Z" (.int 0) := D41 (Or.inl (wd hw 71 rfl)) (ty := .boolean) (by decide)
    refine own_go (b := T41.setTop (mkF m 75 #[rv b0, rv bfold, iv 2, iv x1] [.ref bfold, .ref b41, .ref b41])) (fun t k => xicmpYes X12 hx hby rfl 9 62 rfl d_B15_9 rfl (flt hc9_13).2.1 (by decide) (by decide) (xaloadN X12 hx hby rfl d_B15_62 rfl rfl (XS.ifnonnullYes X12.here hx rfl (pc0 := 63) (pc' := 70) rfl (hb hby d_B15_63) rfl (by decide) (by decide) (st41 _ (xdup X41 hx hby rfl d_B15_73 rfl rfl (xaloadN X41 hx hby rfl d_B15_74 rfl rfl k)))))) ?_
    clear X12 e12 E41 D41 st41
    refine own_ci X41 hx hZ hown hml e41 (wd hw 129 rfl) (wd hw 17 rfl) (wd hw 15 rfl) (wd hw 18 rfl) (own_rmI1 l Z a0 hw [] b41 bfold kfold z cs (own_lo x0) (own_lo x1) x2 x3 x4 x5 h41 n0 (Nat.le_trans Z0 K41.1) A41 F_b41_value_41 F_b41_coder_41 F_b41_hash_41 F_b41_hashIsZero_41 new_b41 V_bfold_41 (own_staKeep0 S_cs K41) hcs h0z hNz (own_lor l_x0 s_x0).1 (own_lor l_x0 s_x0).2 (own_lor l_x1 s_x1).1 (own_lor l_x1 s_x1).2 l_x2 (own_u255 s_x2) l_x3 (own_u255 s_x3) l_x4 (own_u255 s_x4) l_x5 (own_u255 s_x5) (nl tV_bfold.lt (Nat.le_of_eq g41.symm)) hz0) own_pd14 (hb hby d_B15_75) 1 [.ref b41] rfl rfl ⟨rfl, rfl, rfl, rfl, rfl⟩ (by decide) rfl ?_
    rintro T42 L42 v42 X42 hQ42
    obtain ⟨bq42, kq42, rfl, N42q, K42q, B42_0, B42_1, B42_2, B42_3, B42_4, B42_5⟩ := hQ42
    have V_bfold_42 := V_bfold_41.keep K42q (fun q => (nl tV_bfold.lt (Nat.le_of_eq g41.symm)) (List.mem_singleton.mp q))
    have E_b41_42 := A41.keep K42q
    have N42 := Fr.app N12 N42q
    have K42 := K41.trans K42q (fun x hx => by cases List.mem_singleton.mp hx; exact Or.inr sz_b41)
    exact own_ret (v := some (.ref b41)) X42 rfl Bd.notSynchronized (nv Bd.returns) (fun fs hr => (retA X42 hx Bd.returns (hb hby d_B15_78) hr)) ⟨_, _, _, rfl, N42, K42, E_b41_42, B42_1, B42_0, B42_2, B42_3, (own_cut (j := (2 : Int32)) B42_4 2 rfl hc9_13 (by simp only [List.set_cons_zero, List.set_cons_succ, List.take_succ_cons, List.take_zero] <;> rfl)), new_b41, B42_5⟩ (by decide)
set_option maxRecDepth 65536 in
set_option maxHeartbeats 40000000 in
theorem own_tAc_1 {p : Program} {l : Launch} {e : Env} {Z s s₁ Tq : State} {m : MethodId} {below : List Frame} {meth : Method} {c : Code} {a0 : Array Value} {ws : List Jvm.Cond} {n0 : Nat} {h0 hq : Heap} {Lq : List Loc} {b0 bfold v0 : Addr} {kfold kv : ClassId} {cs x0 x1 x2 x3 x4 x5 : Int32} {fv : Value} (hw : ∀ d ∈ tables_1, d.before a0 Z = true) (Bd : BodyLoose p l y0N (head1 (Jvm.Cond.code y0N prog_68_method_10_code 4 (some (.object "java/lang/String")) :: ws) ({ frames := 4, cells := 3, slots := 16, locals := 66 } : Room)) prog_68_method_10_code 4 (some (.object "java/lang/String")) e s m #[.ref b0] below meth c s₁) (hx : p.tables.exec = Jvm.exec) (hby : c.code = prog_68_method_10_code) (hml : c.maxLocals = 4) (hown : s.vm.findClass "com/example/rollcall/rollcall/users/CaselessIndex" = some m.cls) (hZ : Z.Warmed39 s.vm) (Xq : Stand p l e ({ frames := 4, cells := 3, slots := 16, locals := 66 } : Room) s m #[.ref b0] below meth c Tq Lq 1 6) (eq0 : Tq.heap = hq) (Nq : Fr n0 Lq) (Z0 : n0 ≤ h0.size) (Kq : Keep h0 hq []) (E_b0 : Exa Z h0 b0 "java/lang/String") (F_cb0 : Fld Z h0 b0 "java/lang/String" "coder" "B" (.int 0)) (F_vb0 : Fld Z h0 b0 "java/lang/String" "value" "[B" (.ref v0)) (V_v0 : Arv Z h0 v0 kv .byte z [(.int (own_b x0)), (.int (own_b x1)), (.int (own_b x2)), (.int (own_b x3)), (.int (own_b x4)), (.int (own_b x5))] (.int 0)) (F_hb0 : Fld Z h0 b0 "java/lang/String" "hash" "I" (.int 0)) (F_zb0 : Fld Z h0 b0 "java/lang/String" "hashIsZero" "Z" (.int 0)) (E_v0 : Exa Z h0 v0 "[B") (S_cs : Sta Z h0 "java/lang/String" "COMPACT_STRINGS" "Z" (.int cs)) (S_f : Sta Z h0 "jdk/internal/util/Preconditions" "SIOOBE_FORMATTER" "Ljava/util/function/BiFunction;" fv) (tV_bfold : Arv Z hq bfold kfold .char z [(.int (own_lo x0)), .int x1, .int x2, .int x3, .int x4, .int x5] (.int 0)) (new_b0 : n0 ≤ b0) (ne_b0_bfold : b0 ≠ bfold) (ne_v0_bfold : v0 ≠ bfold) (new_bfold : n0 ≤ bfold) (sz_bfold : h0.size ≤ bfold) (hcs : ¬ cs = (0 : Int32)) (hfv : fv.isRef = true) (h0z : ¬ z < (0 : Int32)) (hNz : ¬ (6 : Int32) < z) (l_x0 : ¬ x0 < (0 : Int32)) (s_x0 : ¬ (127 : Int32) < x0) (l_x1 : ¬ x1 < (0 : Int32)) (s_x1 : ¬ (127 : Int32) < x1) (l_x2 : ¬ x2 < (0 : Int32)) (s_x2 : ¬ (127 : Int32) < x2) (l_x3 : ¬ x3 < (0 : Int32)) (s_x3 : ¬ (127 : Int32) < x3) (l_x4 : ¬ x4 < (0 : Int32)) (s_x4 : ¬ (127 : Int32) < x4) (l_x5 : ¬ x5 < (0 : Int32)) (s_x5 : ¬ (127 : Int32) < x5) (hz0 : ¬ z = (0 : Int32)) :
    ∃ s₂ o, Steps p.tables e below (Tq.setTop (mkF m 4 #[rv b0, rv bfold, iv 1, iv x0] [])) s₂ ∧ s₂.status = .running ∧ Ended s₂ below o ∧ ∃ v L, o = .returned v ∧ own_QK Z z [(.int (own_b (own_lo x0))), (.int (own_b (own_lo x1))), (.int (own_b (own_lo x2))), (.int (own_b (own_lo x3))), (.int (own_b (own_lo x4))), (.int (own_b (own_lo x5)))] h0 n0 v s₂.heap L ∧ FrameEnd s o s₂ L ({ frames := 4, cells := 3, slots := 16, locals := 66 } : Room).cells ({ frames := 4, cells := 3, slots := 16, locals := 66 } : Room).slots := by
  refine own_go (b := Tq.setTop (mkF m 6 #[rv b0, rv bfold, iv 1, iv x0] [.ref b0, .int 1])) (fun t k => xiloadN Xq hx hby rfl d_B15_4 rfl (xaloadN Xq hx hby rfl d_B15_5 rfl rfl k)) ?_
  refine own_cv Xq hx hZ hown hml eq0 (wd hw 49 rfl) (wd hw 50 rfl) (wd hw 52 rfl) (wd hw 51 rfl) (wd hw 15 rfl) (wd hw 53 rfl) (E_b0.keep Kq) (own_rmLen l Z a0 hw [] b0 v0 kv z [(.int (own_b x0)), (.int (own_b x1)), (.int (own_b x2)), (.int (own_b x3)), (.int (own_b x4)), (.int (own_b x5))] cs hq n0 (Nat.le_trans Z0 Kq.1) (E_b0.keep Kq) (F_cb0.keep Kq nNl) (F_vb0.keep Kq nNl) (V_v0.keep Kq nNl) (own_staKeep0 S_cs Kq) hcs) own_pd11 (hb hby d_B15_6) 1 [.int 1] rfl rfl ⟨rfl, rfl, rfl, rfl, rfl⟩ (by decide) ?_
  rintro T7 L7 v7 X7 hQ7
  obtain ⟨rfl, N7q, e7⟩ := hQ7
  have N7 := Fr.app Nq N7q
  refine own_go (b := T7.setTop (mkF m 9 #[rv b0, rv bfold, iv 1, iv x0] [.int z, .int 1])) (fun t k => ?_) ?_
  · exact k
  clear N7q
  by_cases hc9_8 : (1 : Int32) < z
  · refine own_go (b := T7.setTop (mkF m 14 #[rv b0, rv bfold, iv 1, iv x0] [.int 1, .ref b0])) (fun t k => xicmpNo X7 hx hby rfl d_B15_9 rfl (tlt hc9_8).2.1 (xaloadN X7 hx hby rfl d_B15_12 rfl rfl (xiloadN X7 hx hby rfl d_B15_13 rfl k))) ?_
    refine own_cv X7 hx hZ hown hml e7 (wd hw 92 rfl) (wd hw 93 rfl) (wd hw 95 rfl) (wd hw 94 rfl) (wd hw 15 rfl) (wd hw 96 rfl) (E_b0.keep Kq) (own_rmCh l Z a0 hw [] b0 (1 : Int32) v0 kv z [(.int (own_b x0)), (.int (own_b x1)), (.int (own_b x2)), (.int (own_b x3)), (.int (own_b x4)), (.int (own_b x5))] x1 cs fv hq n0 (Nat.le_trans Z0 Kq.1) (E_b0.keep Kq) (F_cb0.keep Kq nNl) (F_vb0.keep Kq nNl) (V_v0.keep Kq nNl) (own_staKeep0 S_cs Kq) hcs (by decide) hc9_8 rfl (own_staKeep0 S_f Kq) hfv l_x1 (own_u255 s_x1)) own_pd12 (hb hby d_B15_14) 0 [] rfl rfl ⟨rfl, rfl, rfl, rfl, rfl⟩ (by decide) ?_
    rintro T9 L9 v9 X9 hQ9
    obtain ⟨rfl, N9q, e9⟩ := hQ9
    have N9 := Fr.app N7 N9q
    refine own_go (b := T9.setTop (mkF m 27 #[rv b0, rv bfold, iv 1, iv x1] [])) (fun t k => xistoreN X9 hx hby rfl d_B15_17 rfl (l' := #[rv b0, rv bfold, iv 1, iv x1]) rfl (xiloadN X9 hx hby rfl d_B15_18 rfl (xsipush X9 hx hby rfl d_B15_19 (xicmpYes X9 hx hby rfl 22 27 rfl d_B15_22 rfl (tlt (own_s128 s_x1 : x1 < (128 : Int32))).1 (by decide) (by decide) k)))) ?_
    clear X7 e7 N7 N9q
    by_cases hU1 : own_up x1
    · obtain ⟨cl10, Ar10, q10, Sz10, M10, Hs10, Gs10⟩ := id tV_bfold
      have hin10 := inb_of (j := (1 : Int32)) Sz10 ⟨by decide, hc9_8⟩
      obtain ⟨T11, h11, X11, e11, W11, st11⟩ := stC X9 hx hZ e9 Ar10 (j := (1 : Int32)) hin10 (g := (mkF m 55 #[rv b0, rv bfold, iv 1, iv x1] [(.int ((x1 + (32 : Int32)).toUInt32.toUInt16.toUInt32.toInt32)), .int 1, .ref bfold])) rfl rfl (hb hby d_B15_55)
      have K11 := Kq.wr W11 (Or.inr sz_bfold)
      have N11 := Fr.snoc X11 N9 new_bfold
      have V_bfold_11 := Arv.set Ar10 q10 Sz10 M10 Hs10 Gs10 (fits_nar_char _) W11 1 rfl (Nat.le_of_ble_eq_true rfl)
      rw [own_los hU1] at V_bfold_11
      refine own_go (b := T11.setTop (mkF m 4 #[rv b0, rv bfold, iv 2, iv x1] [])) (fun t k => xiloadN X9 hx hby rfl d_B15_27 rfl (xbipush X9 hx hby rfl d_B15_28 (xicmpNo X9 hx hby rfl d_B15_30 rfl (flt (hU1.1 : ¬ (x1 < (65 : Int32)))).1 (xiloadN X9 hx hby rfl d_B15_33 rfl (xbipush X9 hx hby rfl d_B15_34 (xicmpNo X9 hx hby rfl d_B15_36 rfl (flt (hU1.2 : ¬ ((90 : Int32) < x1))).2.2.1 (show Steps p.tables e below (T9.setTop (mkF m 39 #[rv b0, rv bfold, iv 1, iv x1] [])) _ from xaloadN X9 hx hby rfl d_B15_39 rfl rfl (XS.ifnonnullYes X9.here hx rfl (pc0 := 40) (pc' := 48) rfl (hb hby d_B15_40) rfl (by decide) (by decide) (xaloadN X9 hx hby rfl d_B15_48 rfl rfl (xiloadN X9 hx hby rfl d_B15_49 rfl (xiloadN X9 hx hby rfl d_B15_50 rfl (xbipush X9 hx hby rfl d_B15_51 (show Steps p.tables e below (T9.setTop (mkF m 53 #[rv b0, rv bfold, iv 1, iv x1] [.int 32, .int x1, .int 1, .ref bfold])) _ from xiadd X9 hx hby rfl d_B15_53 rfl (XS.i2c X9.here hx rfl (hb hby d_B15_54) rfl (st11 _ (xiinc X11 hx hby rfl d_B15_56 rfl (l' := #[rv b0, rv bfold, iv 2, iv x1]) rfl (xgoto X11 hx hby rfl 59 4 rfl d_B15_59 (by decide) (by decide) k))))))))))))))))) ?_
      clear tV_bfold X9 e9 N9 q10 Sz10 M10 Hs10 Gs10 hin10 W11 st11
      exact own_tAc_2 hw Bd hx hby hml hown hZ X11 e11 N11 Z0 K11 E_b0 F_cb0 F_vb0 V_v0 F_hb0 F_zb0 E_v0 S_cs S_f V_bfold_11 new_b0 ne_b0_bfold ne_v0_bfold new_bfold sz_bfold hcs hfv h0z hNz l_x0 s_x0 l_x1 s_x1 l_x2 s_x2 l_x3 s_x3 l_x4 s_x4 l_x5 s_x5 hz0
    · refine own_go (b := T9.setTop (mkF m 56 #[rv b0, rv bfold, iv 1, iv x1] [])) (fun t k => ?_) ?_
      · skip
        by_cases hqa : x1 < (65 : Int32)
        · skip
          refine xiloadN X9 hx hby rfl d_B15_27 rfl (xbipush X9 hx hby rfl d_B15_28 (xicmpYes X9 hx hby rfl 30 56 rfl d_B15_30 rfl (tlt (hqa : x1 < (65 : Int32))).1 (by decide) (by decide) k))
        · by_cases hqb : (90 : Int32) < x1
          · skip
            refine xiloadN X9 hx hby rfl d_B15_27 rfl (xbipush X9 hx hby rfl d_B15_28 (xicmpNo X9 hx hby rfl d_B15_30 rfl (flt (hqa : ¬ (x1 < (65 : Int32)))).1 (xiloadN X9 hx hby rfl d_B15_33 rfl (xbipush X9 hx hby rfl d_B15_34 (xicmpYes X9 hx hby rfl 36 56 rfl d_B15_36 rfl (tlt (hqb : (90 : Int32) < x1)).2.2.1 (by decide) (by decide) k)))))
          · exact absurd ⟨hqa, hqb⟩ hU1
      have VN1 : Arv Z hq bfold kfold .char z [(.int (own_lo x0)), (.int (own_lo x1)), .int x2, .int x3, .int x4, .int x5] (.int 0) := by
        rw [own_lon hU1]
        exact tV_bfold
      refine own_go (b := T9.setTop (mkF m 4 #[rv b0, rv bfold, iv 2, iv x1] [])) (fun t k => xiinc X9 hx hby rfl d_B15_56 rfl (l' := #[rv b0, rv bfold, iv 2, iv x1]) rfl (xgoto X9 hx hby rfl 59 4 rfl d_B15_59 (by decide) (by decide) k)) ?_
      clear tV_bfold
      exact own_tAc_2 hw Bd hx hby hml hown hZ X9 e9 N9 Z0 Kq E_b0 F_cb0 F_vb0 V_v0 F_hb0 F_zb0 E_v0 S_cs S_f VN1 new_b0 ne_b0_bfold ne_v0_bfold new_bfold sz_bfold hcs hfv h0z hNz l_x0 s_x0 l_x1 s_x1 l_x2 s_x2 l_x3 s_x3 l_x4 s_x4 l_x5 s_x5 hz0
  · obtain ⟨T43, h43, X43, e43, E43, A43, D43, -, st43⟩ := newO X7 hx hZ hown (wd hw 128 rfl) (wd hw 14 rfl) (wd hw 15 rfl) e7 (g := (mkF m 70 #[rv b0, rv bfold, iv 1, iv x0] [])) rfl (hb hby d_B15_70) (by decide) (by decide)
    obtain ⟨b43, g43⟩ : ∃ z, z = hq.size := ⟨_, rfl⟩
    rw [← g43] at A43 D43 st43
    have new_b43 : n0 ≤ b43 := Nat.le_trans (Nat.le_trans Z0 Kq.1) (Nat.le_of_eq g43.symm)
    have sz_b43 : h0.size ≤ b43 := Nat.le_trans Kq.1 (Nat.le_of_eq g43.symm)
    have V_bfold_43 := tV_bfold.ext E43
    have K43 := Kq.ext E43
    have F_b43_value_43 : Fld Z h43 b43 "java/lang/String" "value" "[B" .null := D43 (Or.inr (wd hw 27 rfl)) (ty := (.array .byte)) (by decide)
    have F_b43_coder_43 : Fld Z h43 b43 "java/lang/String" "coder" "B" (.int 0) := D43 (Or.inr (wd hw 28 rfl)) (ty := .byte) (by decide)
    have F_b43_hash_43 : Fld Z h43 b43 "java/lang/String" "hash" "I" (.int 0) := D43 (Or.inl (wd hw 69 rfl)) (ty := .int) (by decide)
    have F_b43_hashIsZero_43 : Fld Z h43 b43 "java/lang/String" "hashIsZero" "Z" (.int 0) := D43 (Or.inl (wd hw 71 rfl)) (ty := .boolean) (by decide)
    refine own_go (b := T43.setTop (mkF m 75 #[rv b0, rv bfold, iv 1, iv x0] [.ref bfold, .ref b43, .ref b43])) (fun t k => xicmpYes X7 hx hby rfl 9 62 rfl d_B15_9 rfl (flt hc9_8).2.1 (by decide) (by decide) (xaloadN X7 hx hby rfl d_B15_62 rfl rfl (XS.ifnonnullYes X7.here hx rfl (pc0 := 63) (pc' := 70) rfl (hb hby d_B15_63) rfl (by decide) (by decide) (st43 _ (xdup X43 hx hby rfl d_B15_73 rfl rfl (xaloadN X43 hx hby rfl d_B15_74 rfl rfl k)))))) ?_
    clear X7 e7 E43 D43 st43
    refine own_ci X43 hx hZ hown hml e43 (wd hw 129 rfl) (wd hw 17 rfl) (wd hw 15 rfl) (wd hw 18 rfl) (own_rmI1 l Z a0 hw [] b43 bfold kfold z cs (own_lo x0) x1 x2 x3 x4 x5 h43 n0 (Nat.le_trans Z0 K43.1) A43 F_b43_value_43 F_b43_coder_43 F_b43_hash_43 F_b43_hashIsZero_43 new_b43 V_bfold_43 (own_staKeep0 S_cs K43) hcs h0z hNz (own_lor l_x0 s_x0).1 (own_lor l_x0 s_x0).2 l_x1 (own_u255 s_x1) l_x2 (own_u255 s_x2) l_x3 (own_u255 s_x3) l_x4 (own_u255 s_x4) l_x5 (own_u255 s_x5) (nl tV_bfold.lt (Nat.le_of_eq g43.symm)) hz0) own_pd14 (hb hby d_B15_75) 1 [.ref b43] rfl rfl ⟨rfl, rfl, rfl, rfl, rfl⟩ (by decide) rfl ?_
    rintro T44 L44 v44 X44 hQ44
    obtain ⟨bq44, kq44, rfl, N44q, K44q, B44_0, B44_1, B44_2, B44_3, B44_4, B44_5⟩ := hQ44
    have V_bfold_44 := V_bfold_43.keep K44q (fun q => (nl tV_bfold.lt (Nat.le_of_eq g43.symm)) (List.mem_singleton.mp q))
    have E_b43_44 := A43.keep K44q
    have N44 := Fr.app N7 N44q
    have K44 := K43.trans K44q (fun x hx => by cases List.mem_singleton.mp hx; exact Or.inr sz_b43)
    exact own_ret (v := some (.ref b43)) X44 rfl Bd.notSynchronized (nv Bd.returns) (fun fs hr => (retA X44 hx Bd.returns (hb hby d_B15_78) hr)) ⟨_, _, _, rfl, N44, K44, E_b43_44, B44_1, B44_0, B44_2, B44_3, (own_cut (j := (1 : Int32)) B44_4 1 rfl hc9_8 (by simp only [List.set_cons_zero, List.set_cons_succ, List.take_succ_cons, List.take_zero] <;> rfl)), new_b43, B44_5⟩ (by decide)
set_option maxRecDepth 65536 in
set_option maxHeartbeats 40000000 in
theorem own_rmAc (l : Launch) (Z : State) (a0 : Array Value) (hw : ∀ d ∈ tables_1, d.before a0 Z = true) (ws : List Jvm.Cond) (b0 : Addr) (v0 : Addr) (kv : ClassId) (z : Int32) (cs : Int32) (fv : Value) (x0 x1 x2 x3 x4 x5 : Int32) (h0 : Heap) (n0 : Nat) (Z0 : n0 ≤ h0.size) (E_b0 : Exa Z h0 b0 "java/lang/String") (F_cb0 : Fld Z h0 b0 "java/lang/String" "coder" "B" (.int 0)) (F_vb0 : Fld Z h0 b0 "java/lang/String" "value" "[B" (.ref v0)) (V_v0 : Arv Z h0 v0 kv .byte z [(.int (own_b x0)), (.int (own_b x1)), (.int (own_b x2)), (.int (own_b x3)), (.int (own_b x4)), (.int (own_b x5))] (.int 0)) (F_hb0 : Fld Z h0 b0 "java/lang/String" "hash" "I" (.int 0)) (F_zb0 : Fld Z h0 b0 "java/lang/String" "hashIsZero" "Z" (.int 0)) (E_v0 : Exa Z h0 v0 "[B") (S_cs : Sta Z h0 "java/lang/String" "COMPACT_STRINGS" "Z" (.int cs)) (hcs : ¬ cs = (0 : Int32)) (S_f : Sta Z h0 "jdk/internal/util/Preconditions" "SIOOBE_FORMATTER" "Ljava/util/function/BiFunction;" fv) (hfv : fv.isRef = true) (g_0 : n0 ≤ b0) (h0z : ¬ z < (0 : Int32)) (hNz : ¬ (6 : Int32) < z) (l_x0 : ¬ x0 < (0 : Int32)) (s_x0 : ¬ (127 : Int32) < x0) (l_x1 : ¬ x1 < (0 : Int32)) (s_x1 : ¬ (127 : Int32) < x1) (l_x2 : ¬ x2 < (0 : Int32)) (s_x2 : ¬ (127 : Int32) < x2) (l_x3 : ¬ x3 < (0 : Int32)) (s_x3 : ¬ (127 : Int32) < x3) (l_x4 : ¬ x4 < (0 : Int32)) (s_x4 : ¬ (127 : Int32) < x4) (l_x5 : ¬ x5 < (0 : Int32)) (s_x5 : ¬ (127 : Int32) < x5) : own_M l Z y0N prog_68_method_10_code 4 (some (.object "java/lang/String")) ws ({ frames := 4, cells := 3, slots := 16, locals := 66 } : Room) #[.ref b0] h0 (own_QK Z z [(.int (own_b (own_lo x0))), (.int (own_b (own_lo x1))), (.int (own_b (own_lo x2))), (.int (own_b (own_lo x3))), (.int (own_b (own_lo x4))), (.int (own_b (own_lo x5)))] h0 n0) := by
  refine own_begin (n0 := n0) (f0 := mkF ⟨0, 0⟩ 0 #[rv b0, .unset, .unset, .unset] []) (plainFor_of_name own_pn4) (fun m => ef_1_4 m _ rfl) ?_
  intro p e s m below meth c s₁ Bd hZ hx hby hml hown hnm X0 e0 N0
  refine own_go (b := s₁.setTop (mkF m 6 #[rv b0, .val .null, iv 0, .unset] [.ref b0, .int 0])) (fun t k => xaconstNull X0 hx hby rfl d_B15_0 (xastoreN X0 hx hby rfl d_B15_1 rfl rfl (l' := #[rv b0, .val .null, .unset, .unset]) rfl (xiconst X0 hx hby rfl d_B15_2 (xistoreN X0 hx hby rfl d_B15_3 rfl (l' := #[rv b0, .val .null, iv 0, .unset]) rfl (xiloadN X0 hx hby rfl d_B15_4 rfl (xaloadN X0 hx hby rfl d_B15_5 rfl rfl k)))))) ?_
  refine own_cv X0 hx hZ hown hml e0 (wd hw 49 rfl) (wd hw 50 rfl) (wd hw 52 rfl) (wd hw 51 rfl) (wd hw 15 rfl) (wd hw 53 rfl) E_b0 (own_rmLen l Z a0 hw [] b0 v0 kv z [(.int (own_b x0)), (.int (own_b x1)), (.int (own_b x2)), (.int (own_b x3)), (.int (own_b x4)), (.int (own_b x5))] cs h0 n0 Z0 E_b0 F_cb0 F_vb0 V_v0 S_cs hcs) own_pd11 (hb hby d_B15_6) 1 [.int 0] rfl rfl ⟨rfl, rfl, rfl, rfl, rfl⟩ (by decide) ?_
  rintro T1 L1 v1 X1 hQ1
  obtain ⟨rfl, N1q, e1⟩ := hQ1
  have N1 := Fr.app N0 N1q
  refine own_go (b := T1.setTop (mkF m 9 #[rv b0, .val .null, iv 0, .unset] [.int z, .int 0])) (fun t k => ?_) ?_
  · exact k
  clear N1q
  by_cases hc9_2 : (0 : Int32) < z
  · refine own_go (b := T1.setTop (mkF m 14 #[rv b0, .val .null, iv 0, .unset] [.int 0, .ref b0])) (fun t k => xicmpNo X1 hx hby rfl d_B15_9 rfl (tlt hc9_2).2.1 (xaloadN X1 hx hby rfl d_B15_12 rfl rfl (xiloadN X1 hx hby rfl d_B15_13 rfl k))) ?_
    refine own_cv X1 hx hZ hown hml e1 (wd hw 92 rfl) (wd hw 93 rfl) (wd hw 95 rfl) (wd hw 94 rfl) (wd hw 15 rfl) (wd hw 96 rfl) E_b0 (own_rmCh l Z a0 hw [] b0 (0 : Int32) v0 kv z [(.int (own_b x0)), (.int (own_b x1)), (.int (own_b x2)), (.int (own_b x3)), (.int (own_b x4)), (.int (own_b x5))] x0 cs fv h0 n0 Z0 E_b0 F_cb0 F_vb0 V_v0 S_cs hcs (by decide) hc9_2 rfl S_f hfv l_x0 (own_u255 s_x0)) own_pd12 (hb hby d_B15_14) 0 [] rfl rfl ⟨rfl, rfl, rfl, rfl, rfl⟩ (by decide) ?_
    rintro T3 L3 v3 X3 hQ3
    obtain ⟨rfl, N3q, e3⟩ := hQ3
    have N3 := Fr.app N1 N3q
    refine own_go (b := T3.setTop (mkF m 27 #[rv b0, .val .null, iv 0, iv x0] [])) (fun t k => xistoreN X3 hx hby rfl d_B15_17 rfl (l' := #[rv b0, .val .null, iv 0, iv x0]) rfl (xiloadN X3 hx hby rfl d_B15_18 rfl (xsipush X3 hx hby rfl d_B15_19 (xicmpYes X3 hx hby rfl 22 27 rfl d_B15_22 rfl (tlt (own_s128 s_x0 : x0 < (128 : Int32))).1 (by decide) (by decide) k)))) ?_
    clear X1 e1 N1 N3q
    by_cases hU0 : own_up x0
    · refine own_go (b := T3.setTop (mkF m 44 #[rv b0, .val .null, iv 0, iv x0] [.ref b0])) (fun t k => xiloadN X3 hx hby rfl d_B15_27 rfl (xbipush X3 hx hby rfl d_B15_28 (xicmpNo X3 hx hby rfl d_B15_30 rfl (flt (hU0.1 : ¬ (x0 < (65 : Int32)))).1 (xiloadN X3 hx hby rfl d_B15_33 rfl (xbipush X3 hx hby rfl d_B15_34 (xicmpNo X3 hx hby rfl d_B15_36 rfl (flt (hU0.2 : ¬ ((90 : Int32) < x0))).2.2.1 (show Steps p.tables e below (T3.setTop (mkF m 39 #[rv b0, .val .null, iv 0, iv x0] [])) _ from xaloadN X3 hx hby rfl d_B15_39 rfl rfl (XS.ifnonnullNo X3.here hx rfl (hb hby d_B15_40) rfl (xaloadN X3 hx hby rfl d_B15_43 rfl rfl k))))))))) ?_
      refine own_cv X3 hx hZ hown hml e3 (wd hw 117 rfl) (wd hw 118 rfl) (wd hw 120 rfl) (wd hw 119 rfl) (wd hw 15 rfl) (wd hw 121 rfl) E_b0 (own_rmTa l Z a0 hw [] b0 v0 kv z cs x0 x1 x2 x3 x4 x5 h0 n0 Z0 E_b0 F_cb0 F_vb0 V_v0 S_cs hcs h0z hNz l_x0 (own_u255 s_x0) l_x1 (own_u255 s_x1) l_x2 (own_u255 s_x2) l_x3 (own_u255 s_x3) l_x4 (own_u255 s_x4) l_x5 (own_u255 s_x5)) own_pd13 (hb hby d_B15_44) 0 [] rfl rfl ⟨rfl, rfl, rfl, rfl, rfl⟩ (by decide) ?_
      rintro T4 L4 v4 X4 hQ4
      obtain ⟨bc4, kc4, rfl, N4q, K4q, B4_0, B4_1⟩ := hQ4
      have N4 := Fr.app N3 N4q
      have K4 := (Keep.refl h0 []).trans K4q (fun x hx => nomatch hx)
      have new_bc4 : n0 ≤ bc4 := Nat.le_trans Z0 B4_1
      have sz_bc4 : h0.size ≤ bc4 := Nat.le_trans (Keep.refl h0 []).1 B4_1
      obtain ⟨cl5, Ar5, q5, Sz5, M5, Hs5, Gs5⟩ := id B4_0
      have hin5 := inb_of (j := (0 : Int32)) Sz5 ⟨by decide, hc9_2⟩
      obtain ⟨T6, h6, X6, e6, W6, st6⟩ := stC X4 hx hZ rfl Ar5 (j := (0 : Int32)) hin5 (g := (mkF m 55 #[rv b0, rv bc4, iv 0, iv x0] [(.int ((x0 + (32 : Int32)).toUInt32.toUInt16.toUInt32.toInt32)), .int 0, .ref bc4])) rfl rfl (hb hby d_B15_55)
      have K6 := K4.wr W6 (Or.inr sz_bc4)
      have N6 := Fr.snoc X6 N4 new_bc4
      have V_bc4_6 := Arv.set Ar5 q5 Sz5 M5 Hs5 Gs5 (fits_nar_char _) W6 0 rfl (Nat.le_of_ble_eq_true rfl)
      rw [own_los hU0] at V_bc4_6
      refine own_go (b := T6.setTop (mkF m 4 #[rv b0, rv bc4, iv 1, iv x0] [])) (fun t k => xastoreN X4 hx hby rfl d_B15_47 rfl rfl (l' := #[rv b0, rv bc4, iv 0, iv x0]) rfl (xaloadN X4 hx hby rfl d_B15_48 rfl rfl (xiloadN X4 hx hby rfl d_B15_49 rfl (xiloadN X4 hx hby rfl d_B15_50 rfl (xbipush X4 hx hby rfl d_B15_51 (show Steps p.tables e below (T4.setTop (mkF m 53 #[rv b0, rv bc4, iv 0, iv x0] [.int 32, .int x0, .int 0, .ref bc4])) _ from xiadd X4 hx hby rfl d_B15_53 rfl (XS.i2c X4.here hx rfl (hb hby d_B15_54) rfl (st6 _ (xiinc X6 hx hby rfl d_B15_56 rfl (l' := #[rv b0, rv bc4, iv 1, iv x0]) rfl (xgoto X6 hx hby rfl 59 4 rfl d_B15_59 (by decide) (by decide) k)))))))))) ?_
      clear X3 e3 N3 X4 N4q K4q B4_0 N4 K4 q5 Sz5 M5 Hs5 Gs5 hin5 W6 st6
      exact own_tAc_1 hw Bd hx hby hml hown hZ X6 e6 N6 Z0 K6 E_b0 F_cb0 F_vb0 V_v0 F_hb0 F_zb0 E_v0 S_cs S_f V_bc4_6 g_0 (nl E_b0.lt B4_1) (nl V_v0.lt B4_1) new_bc4 sz_bc4 hcs hfv h0z hNz l_x0 s_x0 l_x1 s_x1 l_x2 s_x2 l_x3 s_x3 l_x4 s_x4 l_x5 s_x5 (own_pz hc9_2)
    · refine own_go (b := T3.setTop (mkF m 56 #[rv b0, .val .null, iv 0, iv x0] [])) (fun t k => ?_) ?_
      · skip
        by_cases hqa : x0 < (65 : Int32)
        · skip
          refine xiloadN X3 hx hby rfl d_B15_27 rfl (xbipush X3 hx hby rfl d_B15_28 (xicmpYes X3 hx hby rfl 30 56 rfl d_B15_30 rfl (tlt (hqa : x0 < (65 : Int32))).1 (by decide) (by decide) k))
        · by_cases hqb : (90 : Int32) < x0
          · skip
            refine xiloadN X3 hx hby rfl d_B15_27 rfl (xbipush X3 hx hby rfl d_B15_28 (xicmpNo X3 hx hby rfl d_B15_30 rfl (flt (hqa : ¬ (x0 < (65 : Int32)))).1 (xiloadN X3 hx hby rfl d_B15_33 rfl (xbipush X3 hx hby rfl d_B15_34 (xicmpYes X3 hx hby rfl 36 56 rfl d_B15_36 rfl (tlt (hqb : (90 : Int32) < x0)).2.2.1 (by decide) (by decide) k)))))
          · exact absurd ⟨hqa, hqb⟩ hU0
      refine own_go (b := T3.setTop (mkF m 6 #[rv b0, .val .null, iv 1, iv x0] [.ref b0, .int 1])) (fun t k => xiinc X3 hx hby rfl d_B15_56 rfl (l' := #[rv b0, .val .null, iv 1, iv x0]) rfl (xgoto X3 hx hby rfl 59 4 rfl d_B15_59 (by decide) (by decide) (xiloadN X3 hx hby rfl d_B15_4 rfl (xaloadN X3 hx hby rfl d_B15_5 rfl rfl k)))) ?_
      refine own_cv X3 hx hZ hown hml e3 (wd hw 49 rfl) (wd hw 50 rfl) (wd hw 52 rfl) (wd hw 51 rfl) (wd hw 15 rfl) (wd hw 53 rfl) E_b0 (own_rmLen l Z a0 hw [] b0 v0 kv z [(.int (own_b x0)), (.int (own_b x1)), (.int (own_b x2)), (.int (own_b x3)), (.int (own_b x4)), (.int (own_b x5))] cs h0 n0 Z0 E_b0 F_cb0 F_vb0 V_v0 S_cs hcs) own_pd11 (hb hby d_B15_6) 1 [.int 1] rfl rfl ⟨rfl, rfl, rfl, rfl, rfl⟩ (by decide) ?_
      rintro T45 L45 v45 X45 hQ45
      obtain ⟨rfl, N45q, e45⟩ := hQ45
      have N45 := Fr.app N3 N45q
      refine own_go (b := T45.setTop (mkF m 9 #[rv b0, .val .null, iv 1, iv x0] [.int z, .int 1])) (fun t k => ?_) ?_
      · exact k
      clear X3 e3 N3 N45q
      by_cases hc9_46 : (1 : Int32) < z
      · refine own_go (b := T45.setTop (mkF m 14 #[rv b0, .val .null, iv 1, iv x0] [.int 1, .ref b0])) (fun t k => xicmpNo X45 hx hby rfl d_B15_9 rfl (tlt hc9_46).2.1 (xaloadN X45 hx hby rfl d_B15_12 rfl rfl (xiloadN X45 hx hby rfl d_B15_13 rfl k))) ?_
        refine own_cv X45 hx hZ hown hml e45 (wd hw 92 rfl) (wd hw 93 rfl) (wd hw 95 rfl) (wd hw 94 rfl) (wd hw 15 rfl) (wd hw 96 rfl) E_b0 (own_rmCh l Z a0 hw [] b0 (1 : Int32) v0 kv z [(.int (own_b x0)), (.int (own_b x1)), (.int (own_b x2)), (.int (own_b x3)), (.int (own_b x4)), (.int (own_b x5))] x1 cs fv h0 n0 Z0 E_b0 F_cb0 F_vb0 V_v0 S_cs hcs (by decide) hc9_46 rfl S_f hfv l_x1 (own_u255 s_x1)) own_pd12 (hb hby d_B15_14) 0 [] rfl rfl ⟨rfl, rfl, rfl, rfl, rfl⟩ (by decide) ?_
        rintro T47 L47 v47 X47 hQ47
        obtain ⟨rfl, N47q, e47⟩ := hQ47
        have N47 := Fr.app N45 N47q
        refine own_go (b := T47.setTop (mkF m 27 #[rv b0, .val .null, iv 1, iv x1] [])) (fun t k => xistoreN X47 hx hby rfl d_B15_17 rfl (l' := #[rv b0, .val .null, iv 1, iv x1]) rfl (xiloadN X47 hx hby rfl d_B15_18 rfl (xsipush X47 hx hby rfl d_B15_19 (xicmpYes X47 hx hby rfl 22 27 rfl d_B15_22 rfl (tlt (own_s128 s_x1 : x1 < (128 : Int32))).1 (by decide) (by decide) k)))) ?_
        clear X45 e45 N45 N47q
        by_cases hU1 : own_up x1
        · refine own_go (b := T47.setTop (mkF m 44 #[rv b0, .val .null, iv 1, iv x1] [.ref b0])) (fun t k => xiloadN X47 hx hby rfl d_B15_27 rfl (xbipush X47 hx hby rfl d_B15_28 (xicmpNo X47 hx hby rfl d_B15_30 rfl (flt (hU1.1 : ¬ (x1 < (65 : Int32)))).1 (xiloadN X47 hx hby rfl d_B15_33 rfl (xbipush X47 hx hby rfl d_B15_34 (xicmpNo X47 hx hby rfl d_B15_36 rfl (flt (hU1.2 : ¬ ((90 : Int32) < x1))).2.2.1 (show Steps p.tables e below (T47.setTop (mkF m 39 #[rv b0, .val .null, iv 1, iv x1] [])) _ from xaloadN X47 hx hby rfl d_B15_39 rfl rfl (XS.ifnonnullNo X47.here hx rfl (hb hby d_B15_40) rfl (xaloadN X47 hx hby rfl d_B15_43 rfl rfl k))))))))) ?_
          refine own_cv X47 hx hZ hown hml e47 (wd hw 117 rfl) (wd hw 118 rfl) (wd hw 120 rfl) (wd hw 119 rfl) (wd hw 15 rfl) (wd hw 121 rfl) E_b0 (own_rmTa l Z a0 hw [] b0 v0 kv z cs x0 x1 x2 x3 x4 x5 h0 n0 Z0 E_b0 F_cb0 F_vb0 V_v0 S_cs hcs h0z hNz l_x0 (own_u255 s_x0) l_x1 (own_u255 s_x1) l_x2 (own_u255 s_x2) l_x3 (own_u255 s_x3) l_x4 (own_u255 s_x4) l_x5 (own_u255 s_x5)) own_pd13 (hb hby d_B15_44) 0 [] rfl rfl ⟨rfl, rfl, rfl, rfl, rfl⟩ (by decide) ?_
          rintro T48 L48 v48 X48 hQ48
          obtain ⟨bc48, kc48, rfl, N48q, K48q, B48_0, B48_1⟩ := hQ48
          have N48 := Fr.app N47 N48q
          have K48 := (Keep.refl h0 []).trans K48q (fun x hx => nomatch hx)
          have new_bc48 : n0 ≤ bc48 := Nat.le_trans Z0 B48_1
          have sz_bc48 : h0.size ≤ bc48 := Nat.le_trans (Keep.refl h0 []).1 B48_1
          have VL48 : Arv Z T48.heap bc48 kc48 .char z [(.int (own_lo x0)), .int x1, .int x2, .int x3, .int x4, .int x5] (.int 0) := by
            rw [own_lon hU0]
            exact B48_0
          obtain ⟨cl49, Ar49, q49, Sz49, M49, Hs49, Gs49⟩ := id VL48
          have hin49 := inb_of (j := (1 : Int32)) Sz49 ⟨by decide, hc9_46⟩
          obtain ⟨T50, h50, X50, e50, W50, st50⟩ := stC X48 hx hZ rfl Ar49 (j := (1 : Int32)) hin49 (g := (mkF m 55 #[rv b0, rv bc48, iv 1, iv x1] [(.int ((x1 + (32 : Int32)).toUInt32.toUInt16.toUInt32.toInt32)), .int 1, .ref bc48])) rfl rfl (hb hby d_B15_55)
          have K50 := K48.wr W50 (Or.inr sz_bc48)
          have N50 := Fr.snoc X50 N48 new_bc48
          have V_bc48_50 := Arv.set Ar49 q49 Sz49 M49 Hs49 Gs49 (fits_nar_char _) W50 1 rfl (Nat.le_of_ble_eq_true rfl)
          rw [own_los hU1] at V_bc48_50
          refine own_go (b := T50.setTop (mkF m 4 #[rv b0, rv bc48, iv 2, iv x1] [])) (fun t k => xastoreN X48 hx hby rfl d_B15_47 rfl rfl (l' := #[rv b0, rv bc48, iv 1, iv x1]) rfl (xaloadN X48 hx hby rfl d_B15_48 rfl rfl (xiloadN X48 hx hby rfl d_B15_49 rfl (xiloadN X48 hx hby rfl d_B15_50 rfl (xbipush X48 hx hby rfl d_B15_51 (show Steps p.tables e below (T48.setTop (mkF m 53 #[rv b0, rv bc48, iv 1, iv x1] [.int 32, .int x1, .int 1, .ref bc48])) _ from xiadd X48 hx hby rfl d_B15_53 rfl (XS.i2c X48.here hx rfl (hb hby d_B15_54) rfl (st50 _ (xiinc X50 hx hby rfl d_B15_56 rfl (l' := #[rv b0, rv bc48, iv 2, iv x1]) rfl (xgoto X50 hx hby rfl 59 4 rfl d_B15_59 (by decide) (by decide) k)))))))))) ?_
          clear X47 e47 N47 X48 N48q K48q B48_0 N48 K48 q49 Sz49 M49 Hs49 Gs49 hin49 W50 st50
          exact own_tAc_2 hw Bd hx hby hml hown hZ X50 e50 N50 Z0 K50 E_b0 F_cb0 F_vb0 V_v0 F_hb0 F_zb0 E_v0 S_cs S_f V_bc48_50 g_0 (nl E_b0.lt B48_1) (nl V_v0.lt B48_1) new_bc48 sz_bc48 hcs hfv h0z hNz l_x0 s_x0 l_x1 s_x1 l_x2 s_x2 l_x3 s_x3 l_x4 s_x4 l_x5 s_x5 (own_pz hc9_2)
        · refine own_go (b := T47.setTop (mkF m 56 #[rv b0, .val .null, iv 1, iv x1] [])) (fun t k => ?_) ?_
          · skip
            by_cases hqa : x1 < (65 : Int32)
            · skip
              refine xiloadN X47 hx hby rfl d_B15_27 rfl (xbipush X47 hx hby rfl d_B15_28 (xicmpYes X47 hx hby rfl 30 56 rfl d_B15_30 rfl (tlt (hqa : x1 < (65 : Int32))).1 (by decide) (by decide) k))
            · by_cases hqb : (90 : Int32) < x1
              · skip
                refine xiloadN X47 hx hby rfl d_B15_27 rfl (xbipush X47 hx hby rfl d_B15_28 (xicmpNo X47 hx hby rfl d_B15_30 rfl (flt (hqa : ¬ (x1 < (65 : Int32)))).1 (xiloadN X47 hx hby rfl d_B15_33 rfl (xbipush X47 hx hby rfl d_B15_34 (xicmpYes X47 hx hby rfl 36 56 rfl d_B15_36 rfl (tlt (hqb : (90 : Int32) < x1)).2.2.1 (by decide) (by decide) k)))))
              · exact absurd ⟨hqa, hqb⟩ hU1
          refine own_go (b := T47.setTop (mkF m 6 #[rv b0, .val .null, iv 2, iv x1] [.ref b0, .int 2])) (fun t k => xiinc X47 hx hby rfl d_B15_56 rfl (l' := #[rv b0, .val .null, iv 2, iv x1]) rfl (xgoto X47 hx hby rfl 59 4 rfl d_B15_59 (by decide) (by decide) (xiloadN X47 hx hby rfl d_B15_4 rfl (xaloadN X47 hx hby rfl d_B15_5 rfl rfl k)))) ?_
          refine own_cv X47 hx hZ hown hml e47 (wd hw 49 rfl) (wd hw 50 rfl) (wd hw 52 rfl) (wd hw 51 rfl) (wd hw 15 rfl) (wd hw 53 rfl) E_b0 (own_rmLen l Z a0 hw [] b0 v0 kv z [(.int (own_b x0)), (.int (own_b x1)), (.int (own_b x2)), (.int (own_b x3)), (.int (own_b x4)), (.int (own_b x5))] cs h0 n0 Z0 E_b0 F_cb0 F_vb0 V_v0 S_cs hcs) own_pd11 (hb hby d_B15_6) 1 [.int 2] rfl rfl ⟨rfl, rfl, rfl, rfl, rfl⟩ (by decide) ?_
          rintro T51 L51 v51 X51 hQ51
          obtain ⟨rfl, N51q, e51⟩ := hQ51
          have N51 := Fr.app N47 N51q
          refine own_go (b := T51.setTop (mkF m 9 #[rv b0, .val .null, iv 2, iv x1] [.int z, .int 2])) (fun t k => ?_) ?_
          · exact k
          clear X47 e47 N47 N51q
          by_cases hc9_52 : (2 : Int32) < z
          · refine own_go (b := T51.setTop (mkF m 14 #[rv b0, .val .null, iv 2, iv x1] [.int 2, .ref b0])) (fun t k => xicmpNo X51 hx hby rfl d_B15_9 rfl (tlt hc9_52).2.1 (xaloadN X51 hx hby rfl d_B15_12 rfl rfl (xiloadN X51 hx hby rfl d_B15_13 rfl k))) ?_
            refine own_cv X51 hx hZ hown hml e51 (wd hw 92 rfl) (wd hw 93 rfl) (wd hw 95 rfl) (wd hw 94 rfl) (wd hw 15 rfl) (wd hw 96 rfl) E_b0 (own_rmCh l Z a0 hw [] b0 (2 : Int32) v0 kv z [(.int (own_b x0)), (.int (own_b x1)), (.int (own_b x2)), (.int (own_b x3)), (.int (own_b x4)), (.int (own_b x5))] x2 cs fv h0 n0 Z0 E_b0 F_cb0 F_vb0 V_v0 S_cs hcs (by decide) hc9_52 rfl S_f hfv l_x2 (own_u255 s_x2)) own_pd12 (hb hby d_B15_14) 0 [] rfl rfl ⟨rfl, rfl, rfl, rfl, rfl⟩ (by decide) ?_
            rintro T53 L53 v53 X53 hQ53
            obtain ⟨rfl, N53q, e53⟩ := hQ53
            have N53 := Fr.app N51 N53q
            refine own_go (b := T53.setTop (mkF m 27 #[rv b0, .val .null, iv 2, iv x2] [])) (fun t k => xistoreN X53 hx hby rfl d_B15_17 rfl (l' := #[rv b0, .val .null, iv 2, iv x2]) rfl (xiloadN X53 hx hby rfl d_B15_18 rfl (xsipush X53 hx hby rfl d_B15_19 (xicmpYes X53 hx hby rfl 22 27 rfl d_B15_22 rfl (tlt (own_s128 s_x2 : x2 < (128 : Int32))).1 (by decide) (by decide) k)))) ?_
            clear X51 e51 N51 N53q
            by_cases hU2 : own_up x2
            · refine own_go (b := T53.setTop (mkF m 44 #[rv b0, .val .null, iv 2, iv x2] [.ref b0])) (fun t k => xiloadN X53 hx hby rfl d_B15_27 rfl (xbipush X53 hx hby rfl d_B15_28 (xicmpNo X53 hx hby rfl d_B15_30 rfl (flt (hU2.1 : ¬ (x2 < (65 : Int32)))).1 (xiloadN X53 hx hby rfl d_B15_33 rfl (xbipush X53 hx hby rfl d_B15_34 (xicmpNo X53 hx hby rfl d_B15_36 rfl (flt (hU2.2 : ¬ ((90 : Int32) < x2))).2.2.1 (show Steps p.tables e below (T53.setTop (mkF m 39 #[rv b0, .val .null, iv 2, iv x2] [])) _ from xaloadN X53 hx hby rfl d_B15_39 rfl rfl (XS.ifnonnullNo X53.here hx rfl (hb hby d_B15_40) rfl (xaloadN X53 hx hby rfl d_B15_43 rfl rfl k))))))))) ?_
              refine own_cv X53 hx hZ hown hml e53 (wd hw 117 rfl) (wd hw 118 rfl) (wd hw 120 rfl) (wd hw 119 rfl) (wd hw 15 rfl) (wd hw 121 rfl) E_b0 (own_rmTa l Z a0 hw [] b0 v0 kv z cs x0 x1 x2 x3 x4 x5 h0 n0 Z0 E_b0 F_cb0 F_vb0 V_v0 S_cs hcs h0z hNz l_x0 (own_u255 s_x0) l_x1 (own_u255 s_x1) l_x2 (own_u255 s_x2) l_x3 (own_u255 s_x3) l_x4 (own_u255 s_x4) l_x5 (own_u255 s_x5)) own_pd13 (hb hby d_B15_44) 0 [] rfl rfl ⟨rfl, rfl, rfl, rfl, rfl⟩ (by decide) ?_
              rintro T54 L54 v54 X54 hQ54
              obtain ⟨bc54, kc54, rfl, N54q, K54q, B54_0, B54_1⟩ := hQ54
              have N54 := Fr.app N53 N54q
              have K54 := (Keep.refl h0 []).trans K54q (fun x hx => nomatch hx)
              have new_bc54 : n0 ≤ bc54 := Nat.le_trans Z0 B54_1
              have sz_bc54 : h0.size ≤ bc54 := Nat.le_trans (Keep.refl h0 []).1 B54_1
              have VL54 : Arv Z T54.heap bc54 kc54 .char z [(.int (own_lo x0)), (.int (own_lo x1)), .int x2, .int x3, .int x4, .int x5] (.int 0) := by
                rw [own_lon hU0, own_lon hU1]
                exact B54_0
              obtain ⟨cl55, Ar55, q55, Sz55, M55, Hs55, Gs55⟩ := id VL54
              have hin55 := inb_of (j := (2 : Int32)) Sz55 ⟨by decide, hc9_52⟩
              obtain ⟨T56, h56, X56, e56, W56, st56⟩ := stC X54 hx hZ rfl Ar55 (j := (2 : Int32)) hin55 (g := (mkF m 55 #[rv b0, rv bc54, iv 2, iv x2] [(.int ((x2 + (32 : Int32)).toUInt32.toUInt16.toUInt32.toInt32)), .int 2, .ref bc54])) rfl rfl (hb hby d_B15_55)
              have K56 := K54.wr W56 (Or.inr sz_bc54)
              have N56 := Fr.snoc X56 N54 new_bc54
              have V_bc54_56 := Arv.set Ar55 q55 Sz55 M55 Hs55 Gs55 (fits_nar_char _) W56 2 rfl (Nat.le_of_ble_eq_true rfl)
              rw [own_los hU2] at V_bc54_56
              refine own_go (b := T56.setTop (mkF m 4 #[rv b0, rv bc54, iv 3, iv x2] [])) (fun t k => xastoreN X54 hx hby rfl d_B15_47 rfl rfl (l' := #[rv b0, rv bc54, iv 2, iv x2]) rfl (xaloadN X54 hx hby rfl d_B15_48 rfl rfl (xiloadN X54 hx hby rfl d_B15_49 rfl (xiloadN X54 hx hby rfl d_B15_50 rfl (xbipush X54 hx hby rfl d_B15_51 (show Steps p.tables e below (T54.setTop (mkF m 53 #[rv b0, rv bc54, iv 2, iv x2] [.int 32, .int x2, .int 2, .ref bc54])) _ from xiadd X54 hx hby rfl d_B15_53 rfl (XS.i2c X54.here hx rfl (hb hby d_B15_54) rfl (st56 _ (xiinc X56 hx hby rfl d_B15_56 rfl (l' := #[rv b0, rv bc54, iv 3, iv x2]) rfl (xgoto X56 hx hby rfl 59 4 rfl d_B15_59 (by decide) (by decide) k)))))))))) ?_
              clear X53 e53 N53 X54 N54q K54q B54_0 N54 K54 q55 Sz55 M55 Hs55 Gs55 hin55 W56 st56
              exact own_tAc_3 hw Bd hx hby hml hown hZ X56 e56 N56 Z0 K56 E_b0 F_cb0 F_vb0 V_v0 F_hb0 F_zb0 E_v0 S_cs S_f V_bc54_56 g_0 (nl E_b0.lt B54_1) (nl V_v0.lt B54_1) new_bc54 sz_bc54 hcs hfv h0z hNz l_x0 s_x0 l_x1 s_x1 l_x2 s_x2 l_x3 s_x3 l_x4 s_x4 l_x5 s_x5 (own_pz hc9_2)
            · refine own_go (b := T53.setTop (mkF m 56 #[rv b0, .val .null, iv 2, iv x2] [])) (fun t k => ?_) ?_
              · skip
                by_cases hqa : x2 < (65 : Int32)
                · skip
                  refine xiloadN X53 hx hby rfl d_B15_27 rfl (xbipush X53 hx hby rfl d_B15_28 (xicmpYes X53 hx hby rfl 30 56 rfl d_B15_30 rfl (tlt (hqa : x2 < (65 : Int32))).1 (by decide) (by decide) k))
                · by_cases hqb : (90 : Int32) < x2
                  · skip
                    refine xiloadN X53 hx hby rfl d_B15_27 rfl (xbipush X53 hx hby rfl d_B15_28 (xicmpNo X53 hx hby rfl d_B15_30 rfl (flt (hqa : ¬ (x2 < (65 : Int32)))).1 (xiloadN X53 hx hby rfl d_B15_33 rfl (xbipush X53 hx hby rfl d_B15_34 (xicmpYes X53 hx hby rfl 36 56 rfl d_B15_36 rfl (tlt (hqb : (90 : Int32) < x2)).2.2.1 (by decide) (by decide) k)))))
                  · exact absurd ⟨hqa, hqb⟩ hU2
              refine own_go (b := T53.setTop (mkF m 6 #[rv b0, .val .null, iv 3, iv x2] [.ref b0, .int 3])) (fun t k => xiinc X53 hx hby rfl d_B15_56 rfl (l' := #[rv b0, .val .null, iv 3, iv x2]) rfl (xgoto X53 hx hby rfl 59 4 rfl d_B15_59 (by decide) (by decide) (xiloadN X53 hx hby rfl d_B15_4 rfl (xaloadN X53 hx hby rfl d_B15_5 rfl rfl k)))) ?_
              refine own_cv X53 hx hZ hown hml e53 (wd hw 49 rfl) (wd hw 50 rfl) (wd hw 52 rfl) (wd hw 51 rfl) (wd hw 15 rfl) (wd hw 53 rfl) E_b0 (own_rmLen l Z a0 hw [] b0 v0 kv z [(.int (own_b x0)), (.int (own_b x1)), (.int (own_b x2)), (.int (own_b x3)), (.int (own_b x4)), (.int (own_b x5))] cs h0 n0 Z0 E_b0 F_cb0 F_vb0 V_v0 S_cs hcs) own_pd11 (hb hby d_B15_6) 1 [.int 3] rfl rfl ⟨rfl, rfl, rfl, rfl, rfl⟩ (by decide) ?_
              rintro T57 L57 v57 X57 hQ57
              obtain ⟨rfl, N57q, e57⟩ := hQ57
              have N57 := Fr.app N53 N57q
              refine own_go (b := T57.setTop (mkF m 9 #[rv b0, .val .null, iv 3, iv x2] [.int z, .int 3])) (fun t k => ?_) ?_
              · exact k
              clear X53 e53 N53 N57q
              by_cases hc9_58 : (3 : Int32) < z
              · refine own_go (b := T57.setTop (mkF m 14 #[rv b0, .val .null, iv 3, iv x2] [.int 3, .ref b0])) (fun t k => xicmpNo X57 hx hby rfl d_B15_9 rfl (tlt hc9_58).2.1 (xaloadN X57 hx hby rfl d_B15_12 rfl rfl (xiloadN X57 hx hby rfl d_B15_13 rfl k))) ?_
                refine own_cv X57 hx hZ hown hml e57 (wd hw 92 rfl) (wd hw 93 rfl) (wd hw 95 rfl) (wd hw 94 rfl) (wd hw 15 rfl) (wd hw 96 rfl) E_b0 (own_rmCh l Z a0 hw [] b0 (3 : Int32) v0 kv z [(.int (own_b x0)), (.int (own_b x1)), (.int (own_b x2)), (.int (own_b x3)), (.int (own_b x4)), (.int (own_b x5))] x3 cs fv h0 n0 Z0 E_b0 F_cb0 F_vb0 V_v0 S_cs hcs (by decide) hc9_58 rfl S_f hfv l_x3 (own_u255 s_x3)) own_pd12 (hb hby d_B15_14) 0 [] rfl rfl ⟨rfl, rfl, rfl, rfl, rfl⟩ (by decide) ?_
                rintro T59 L59 v59 X59 hQ59
                obtain ⟨rfl, N59q, e59⟩ := hQ59
                have N59 := Fr.app N57 N59q
                refine own_go (b := T59.setTop (mkF m 27 #[rv b0, .val .null, iv 3, iv x3] [])) (fun t k => xistoreN X59 hx hby rfl d_B15_17 rfl (l' := #[rv b0, .val .null, iv 3, iv x3]) rfl (xiloadN X59 hx hby rfl d_B15_18 rfl (xsipush X59 hx hby rfl d_B15_19 (xicmpYes X59 hx hby rfl 22 27 rfl d_B15_22 rfl (tlt (own_s128 s_x3 : x3 < (128 : Int32))).1 (by decide) (by decide) k)))) ?_
                clear X57 e57 N57 N59q
                by_cases hU3 : own_up x3
                · refine own_go (b := T59.setTop (mkF m 44 #[rv b0, .val .null, iv 3, iv x3] [.ref b0])) (fun t k => xiloadN X59 hx hby rfl d_B15_27 rfl (xbipush X59 hx hby rfl d_B15_28 (xicmpNo X59 hx hby rfl d_B15_30 rfl (flt (hU3.1 : ¬ (x3 < (65 : Int32)))).1 (xiloadN X59 hx hby rfl d_B15_33 rfl (xbipush X59 hx hby rfl d_B15_34 (xicmpNo X59 hx hby rfl d_B15_36 rfl (flt (hU3.2 : ¬ ((90 : Int32) < x3))).2.2.1 (show Steps p.tables e below (T59.setTop (mkF m 39 #[rv b0, .val .null, iv 3, iv x3] [])) _ from xaloadN X59 hx hby rfl d_B15_39 rfl rfl (XS.ifnonnullNo X59.here hx rfl (hb hby d_B15_40) rfl (xaloadN X59 hx hby rfl d_B15_43 rfl rfl k))))))))) ?_
                  refine own_cv X59 hx hZ hown hml e59 (wd hw 117 rfl) (wd hw 118 rfl) (wd hw 120 rfl) (wd hw 119 rfl) (wd hw 15 rfl) (wd hw 121 rfl) E_b0 (own_rmTa l Z a0 hw [] b0 v0 kv z cs x0 x1 x2 x3 x4 x5 h0 n0 Z0 E_b0 F_cb0 F_vb0 V_v0 S_cs hcs h0z hNz l_x0 (own_u255 s_x0) l_x1 (own_u255 s_x1) l_x2 (own_u255 s_x2) l_x3 (own_u255 s_x3) l_x4 (own_u255 s_x4) l_x5 (own_u255 s_x5)) own_pd13 (hb hby d_B15_44) 0 [] rfl rfl ⟨rfl, rfl, rfl, rfl, rfl⟩ (by decide) ?_
                  rintro T60 L60 v60 X60 hQ60
                  obtain ⟨bc60, kc60, rfl, N60q, K60q, B60_0, B60_1⟩ := hQ60
                  have N60 := Fr.app N59 N60q
                  have K60 := (Keep.refl h0 []).trans K60q (fun x hx => nomatch hx)
                  have new_bc60 : n0 ≤ bc60 := Nat.le_trans Z0 B60_1
                  have sz_bc60 : h0.size ≤ bc60 := Nat.le_trans (Keep.refl h0 []).1 B60_1
                  have VL60 : Arv Z T60.heap bc60 kc60 .char z [(.int (own_lo x0)), (.int (own_lo x1)), (.int (own_lo x2)), .int x3, .int x4, .int x5] (.int 0) := by
                    rw [own_lon hU0, own_lon hU1, own_lon hU2]
                    exact B60_0
                  obtain ⟨cl61, Ar61, q61, Sz61, M61, Hs61, Gs61⟩ := id VL60
                  have hin61 := inb_of (j := (3 : Int32)) Sz61 ⟨by decide, hc9_58⟩
                  obtain ⟨T62, h62, X62, e62, W62, st62⟩ := stC X60 hx hZ rfl Ar61 (j := (3 : Int32)) hin61 (g := (mkF m 55 #[rv b0, rv bc60, iv 3, iv x3] [(.int ((x3 + (32 : Int32)).toUInt32.toUInt16.toUInt32.toInt32)), .int 3, .ref bc60])) rfl rfl (hb hby d_B15_55)
                  have K62 := K60.wr W62 (Or.inr sz_bc60)
                  have N62 := Fr.snoc X62 N60 new_bc60
                  have V_bc60_62 := Arv.set Ar61 q61 Sz61 M61 Hs61 Gs61 (fits_nar_char _) W62 3 rfl (Nat.le_of_ble_eq_true rfl)
                  rw [own_los hU3] at V_bc60_62
                  refine own_go (b := T62.setTop (mkF m 4 #[rv b0, rv bc60, iv 4, iv x3] [])) (fun t k => xastoreN X60 hx hby rfl d_B15_47 rfl rfl (l' := #[rv b0, rv bc60, iv 3, iv x3]) rfl (xaloadN X60 hx hby rfl d_B15_48 rfl rfl (xiloadN X60 hx hby rfl d_B15_49 rfl (xiloadN X60 hx hby rfl d_B15_50 rfl (xbipush X60 hx hby rfl d_B15_51 (show Steps p.tables e below (T60.setTop (mkF m 53 #[rv b0, rv bc60, iv 3, iv x3] [.int 32, .int x3, .int 3, .ref bc60])) _ from xiadd X60 hx hby rfl d_B15_53 rfl (XS.i2c X60.here hx rfl (hb hby d_B15_54) rfl (st62 _ (xiinc X62 hx hby rfl d_B15_56 rfl (l' := #[rv b0, rv bc60, iv 4, iv x3]) rfl (xgoto X62 hx hby rfl 59 4 rfl d_B15_59 (by decide) (by decide) k)))))))))) ?_
                  clear X59 e59 N59 X60 N60q K60q B60_0 N60 K60 q61 Sz61 M61 Hs61 Gs61 hin61 W62 st62
                  exact own_tAc_4 hw Bd hx hby hml hown hZ X62 e62 N62 Z0 K62 E_b0 F_cb0 F_vb0 V_v0 F_hb0 F_zb0 E_v0 S_cs S_f V_bc60_62 g_0 (nl E_b0.lt B60_1) (nl V_v0.lt B60_1) new_bc60 sz_bc60 hcs hfv h0z hNz l_x0 s_x0 l_x1 s_x1 l_x2 s_x2 l_x3 s_x3 l_x4 s_x4 l_x5 s_x5 (own_pz hc9_2)
                · refine own_go (b := T59.setTop (mkF m 56 #[rv b0, .val .null, iv 3, iv x3] [])) (fun t k => ?_) ?_
                  · skip
                    by_cases hqa : x3 < (65 : Int32)
                    · skip
                      refine xiloadN X59 hx hby rfl d_B15_27 rfl (xbipush X59 hx hby rfl d_B15_28 (xicmpYes X59 hx hby rfl 30 56 rfl d_B15_30 rfl (tlt (hqa : x3 < (65 : Int32))).1 (by decide) (by decide) k))
                    · by_cases hqb : (90 : Int32) < x3
                      · skip
                        refine xiloadN X59 hx hby rfl d_B15_27 rfl (xbipush X59 hx hby rfl d_B15_28 (xicmpNo X59 hx hby rfl d_B15_30 rfl (flt (hqa : ¬ (x3 < (65 : Int32)))).1 (xiloadN X59 hx hby rfl d_B15_33 rfl (xbipush X59 hx hby rfl d_B15_34 (xicmpYes X59 hx hby rfl 36 56 rfl d_B15_36 rfl (tlt (hqb : (90 : Int32) < x3)).2.2.1 (by decide) (by decide) k)))))
                      · exact absurd ⟨hqa, hqb⟩ hU3
                  refine own_go (b := T59.setTop (mkF m 6 #[rv b0, .val .null, iv 4, iv x3] [.ref b0, .int 4])) (fun t k => xiinc X59 hx hby rfl d_B15_56 rfl (l' := #[rv b0, .val .null, iv 4, iv x3]) rfl (xgoto X59 hx hby rfl 59 4 rfl d_B15_59 (by decide) (by decide) (xiloadN X59 hx hby rfl d_B15_4 rfl (xaloadN X59 hx hby rfl d_B15_5 rfl rfl k)))) ?_
                  refine own_cv X59 hx hZ hown hml e59 (wd hw 49 rfl) (wd hw 50 rfl) (wd hw 52 rfl) (wd hw 51 rfl) (wd hw 15 rfl) (wd hw 53 rfl) E_b0 (own_rmLen l Z a0 hw [] b0 v0 kv z [(.int (own_b x0)), (.int (own_b x1)), (.int (own_b x2)), (.int (own_b x3)), (.int (own_b x4)), (.int (own_b x5))] cs h0 n0 Z0 E_b0 F_cb0 F_vb0 V_v0 S_cs hcs) own_pd11 (hb hby d_B15_6) 1 [.int 4] rfl rfl ⟨rfl, rfl, rfl, rfl, rfl⟩ (by decide) ?_
                  rintro T63 L63 v63 X63 hQ63
                  obtain ⟨rfl, N63q, e63⟩ := hQ63
                  have N63 := Fr.app N59 N63q
                  refine own_go (b := T63.setTop (mkF m 9 #[rv b0, .val .null, iv 4, iv x3] [.int z, .int 4])) (fun t k => ?_) ?_
                  · exact k
                  clear X59 e59 N59 N63q
                  by_cases hc9_64 : (4 : Int32) < z
                  · refine own_go (b := T63.setTop (mkF m 14 #[rv b0, .val .null, iv 4, iv x3] [.int 4, .ref b0])) (fun t k => xicmpNo X63 hx hby rfl d_B15_9 rfl (tlt hc9_64).2.1 (xaloadN X63 hx hby rfl d_B15_12 rfl rfl (xiloadN X63 hx hby rfl d_B15_13 rfl k))) ?_
                    refine own_cv X63 hx hZ hown hml e63 (wd hw 92 rfl) (wd hw 93 rfl) (wd hw 95 rfl) (wd hw 94 rfl) (wd hw 15 rfl) (wd hw 96 rfl) E_b0 (own_rmCh l Z a0 hw [] b0 (4 : Int32) v0 kv z [(.int (own_b x0)), (.int (own_b x1)), (.int (own_b x2)), (.int (own_b x3)), (.int (own_b x4)), (.int (own_b x5))] x4 cs fv h0 n0 Z0 E_b0 F_cb0 F_vb0 V_v0 S_cs hcs (by decide) hc9_64 rfl S_f hfv l_x4 (own_u255 s_x4)) own_pd12 (hb hby d_B15_14) 0 [] rfl rfl ⟨rfl, rfl, rfl, rfl, rfl⟩ (by decide) ?_
                    rintro T65 L65 v65 X65 hQ65
                    obtain ⟨rfl, N65q, e65⟩ := hQ65
                    have N65 := Fr.app N63 N65q
                    refine own_go (b := T65.setTop (mkF m 27 #[rv b0, .val .null, iv 4, iv x4] [])) (fun t k => xistoreN X65 hx hby rfl d_B15_17 rfl (l' := #[rv b0, .val .null, iv 4, iv x4]) rfl (xiloadN X65 hx hby rfl d_B15_18 rfl (xsipush X65 hx hby rfl d_B15_19 (xicmpYes X65 hx hby rfl 22 27 rfl d_B15_22 rfl (tlt (own_s128 s_x4 : x4 < (128 : Int32))).1 (by decide) (by decide) k)))) ?_
                    clear X63 e63 N63 N65q
                    by_cases hU4 : own_up x4
                    · refine own_go (b := T65.setTop (mkF m 44 #[rv b0, .val .null, iv 4, iv x4] [.ref b0])) (fun t k => xiloadN X65 hx hby rfl d_B15_27 rfl (xbipush X65 hx hby rfl d_B15_28 (xicmpNo X65 hx hby rfl d_B15_30 rfl (flt (hU4.1 : ¬ (x4 < (65 : Int32)))).1 (xiloadN X65 hx hby rfl d_B15_33 rfl (xbipush X65 hx hby rfl d_B15_34 (xicmpNo X65 hx hby rfl d_B15_36 rfl (flt (hU4.2 : ¬ ((90 : Int32) < x4))).2.2.1 (show Steps p.tables e below (T65.setTop (mkF m 39 #[rv b0, .val .null, iv 4, iv x4] [])) _ from xaloadN X65 hx hby rfl d_B15_39 rfl rfl (XS.ifnonnullNo X65.here hx rfl (hb hby d_B15_40) rfl (xaloadN X65 hx hby rfl d_B15_43 rfl rfl k))))))))) ?_
                      refine own_cv X65 hx hZ hown hml e65 (wd hw 117 rfl) (wd hw 118 rfl) (wd hw 120 rfl) (wd hw 119 rfl) (wd hw 15 rfl) (wd hw 121 rfl) E_b0 (own_rmTa l Z a0 hw [] b0 v0 kv z cs x0 x1 x2 x3 x4 x5 h0 n0 Z0 E_b0 F_cb0 F_vb0 V_v0 S_cs hcs h0z hNz l_x0 (own_u255 s_x0) l_x1 (own_u255 s_x1) l_x2 (own_u255 s_x2) l_x3 (own_u255 s_x3) l_x4 (own_u255 s_x4) l_x5 (own_u255 s_x5)) own_pd13 (hb hby d_B15_44) 0 [] rfl rfl ⟨rfl, rfl, rfl, rfl, rfl⟩ (by decide) ?_
                      rintro T66 L66 v66 X66 hQ66
                      obtain ⟨bc66, kc66, rfl, N66q, K66q, B66_0, B66_1⟩ := hQ66
                      have N66 := Fr.app N65 N66q
                      have K66 := (Keep.refl h0 []).trans K66q (fun x hx => nomatch hx)
                      have new_bc66 : n0 ≤ bc66 := Nat.le_trans Z0 B66_1
                      have sz_bc66 : h0.size ≤ bc66 := Nat.le_trans (Keep.refl h0 []).1 B66_1
                      have VL66 : Arv Z T66.heap bc66 kc66 .char z [(.int (own_lo x0)), (.int (own_lo x1)), (.int (own_lo x2)), (.int (own_lo x3)), .int x4, .int x5] (.int 0) := by
                        rw [own_lon hU0, own_lon hU1, own_lon hU2, own_lon hU3]
                        exact B66_0
                      obtain ⟨cl67, Ar67, q67, Sz67, M67, Hs67, Gs67⟩ := id VL66
                      have hin67 := inb_of (j := (4 : Int32)) Sz67 ⟨by decide, hc9_64⟩
                      obtain ⟨T68, h68, X68, e68, W68, st68⟩ := stC X66 hx hZ rfl Ar67 (j := (4 : Int32)) hin67 (g := (mkF m 55 #[rv b0, rv bc66, iv 4, iv x4] [(.int ((x4 + (32 : Int32)).toUInt32.toUInt16.toUInt32.toInt32)), .int 4, .ref bc66])) rfl rfl (hb hby d_B15_55)
                      have K68 := K66.wr W68 (Or.inr sz_bc66)
                      have N68 := Fr.snoc X68 N66 new_bc66
                      have V_bc66_68 := Arv.set Ar67 q67 Sz67 M67 Hs67 Gs67 (fits_nar_char _) W68 4 rfl (Nat.le_of_ble_eq_true rfl)
                      rw [own_los hU4] at V_bc66_68
                      refine own_go (b := T68.setTop (mkF m 4 #[rv b0, rv bc66, iv 5, iv x4] [])) (fun t k => xastoreN X66 hx hby rfl d_B15_47 rfl rfl (l' := #[rv b0, rv bc66, iv 4, iv x4]) rfl (xaloadN X66 hx hby rfl d_B15_48 rfl rfl (xiloadN X66 hx hby rfl d_B15_49 rfl (xiloadN X66 hx hby rfl d_B15_50 rfl (xbipush X66 hx hby rfl d_B15_51 (show Steps p.tables e below (T66.setTop (mkF m 53 #[rv b0, rv bc66, iv 4, iv x4] [.int 32, .int x4, .int 4, .ref bc66])) _ from xiadd X66 hx hby rfl d_B15_53 rfl (XS.i2c X66.here hx rfl (hb hby d_B15_54) rfl (st68 _ (xiinc X68 hx hby rfl d_B15_56 rfl (l' := #[rv b0, rv bc66, iv 5, iv x4]) rfl (xgoto X68 hx hby rfl 59 4 rfl d_B15_59 (by decide) (by decide) k)))))))))) ?_
                      clear X65 e65 N65 X66 N66q K66q B66_0 N66 K66 q67 Sz67 M67 Hs67 Gs67 hin67 W68 st68
                      exact own_tAc_5 hw Bd hx hby hml hown hZ X68 e68 N68 Z0 K68 E_b0 F_cb0 F_vb0 V_v0 F_hb0 F_zb0 E_v0 S_cs S_f V_bc66_68 g_0 (nl E_b0.lt B66_1) (nl V_v0.lt B66_1) new_bc66 sz_bc66 hcs hfv h0z hNz l_x0 s_x0 l_x1 s_x1 l_x2 s_x2 l_x3 s_x3 l_x4 s_x4 l_x5 s_x5 (own_pz hc9_2)
                    · refine own_go (b := T65.setTop (mkF m 56 #[rv b0, .val .null, iv 4, iv x4] [])) (fun t k => ?_) ?_
                      · skip
                        by_cases hqa : x4 < (65 : Int32)
                        · skip
                          refine xiloadN X65 hx hby rfl d_B15_27 rfl (xbipush X65 hx hby rfl d_B15_28 (xicmpYes X65 hx hby rfl 30 56 rfl d_B15_30 rfl (tlt (hqa : x4 < (65 : Int32))).1 (by decide) (by decide) k))
                        · by_cases hqb : (90 : Int32) < x4
                          · skip
                            refine xiloadN X65 hx hby rfl d_B15_27 rfl (xbipush X65 hx hby rfl d_B15_28 (xicmpNo X65 hx hby rfl d_B15_30 rfl (flt (hqa : ¬ (x4 < (65 : Int32)))).1 (xiloadN X65 hx hby rfl d_B15_33 rfl (xbipush X65 hx hby rfl d_B15_34 (xicmpYes X65 hx hby rfl 36 56 rfl d_B15_36 rfl (tlt (hqb : (90 : Int32) < x4)).2.2.1 (by decide) (by decide) k)))))
                          · exact absurd ⟨hqa, hqb⟩ hU4
                      refine own_go (b := T65.setTop (mkF m 6 #[rv b0, .val .null, iv 5, iv x4] [.ref b0, .int 5])) (fun t k => xiinc X65 hx hby rfl d_B15_56 rfl (l' := #[rv b0, .val .null, iv 5, iv x4]) rfl (xgoto X65 hx hby rfl 59 4 rfl d_B15_59 (by decide) (by decide) (xiloadN X65 hx hby rfl d_B15_4 rfl (xaloadN X65 hx hby rfl d_B15_5 rfl rfl k)))) ?_
                      refine own_cv X65 hx hZ hown hml e65 (wd hw 49 rfl) (wd hw 50 rfl) (wd hw 52 rfl) (wd hw 51 rfl) (wd hw 15 rfl) (wd hw 53 rfl) E_b0 (own_rmLen l Z a0 hw [] b0 v0 kv z [(.int (own_b x0)), (.int (own_b x1)), (.int (own_b x2)), (.int (own_b x3)), (.int (own_b x4)), (.int (own_b x5))] cs h0 n0 Z0 E_b0 F_cb0 F_vb0 V_v0 S_cs hcs) own_pd11 (hb hby d_B15_6) 1 [.int 5] rfl rfl ⟨rfl, rfl, rfl, rfl, rfl⟩ (by decide) ?_
                      rintro T69 L69 v69 X69 hQ69
                      obtain ⟨rfl, N69q, e69⟩ := hQ69
                      have N69 := Fr.app N65 N69q
                      refine own_go (b := T69.setTop (mkF m 9 #[rv b0, .val .null, iv 5, iv x4] [.int z, .int 5])) (fun t k => ?_) ?_
                      · exact k
                      clear X65 e65 N65 N69q
                      by_cases hc9_70 : (5 : Int32) < z
                      · refine own_go (b := T69.setTop (mkF m 14 #[rv b0, .val .null, iv 5, iv x4] [.int 5, .ref b0])) (fun t k => xicmpNo X69 hx hby rfl d_B15_9 rfl (tlt hc9_70).2.1 (xaloadN X69 hx hby rfl d_B15_12 rfl rfl (xiloadN X69 hx hby rfl d_B15_13 rfl k))) ?_
                        refine own_cv X69 hx hZ hown hml e69 (wd hw 92 rfl) (wd hw 93 rfl) (wd hw 95 rfl) (wd hw 94 rfl) (wd hw 15 rfl) (wd hw 96 rfl) E_b0 (own_rmCh l Z a0 hw [] b0 (5 : Int32) v0 kv z [(.int (own_b x0)), (.int (own_b x1)), (.int (own_b x2)), (.int (own_b x3)), (.int (own_b x4)), (.int (own_b x5))] x5 cs fv h0 n0 Z0 E_b0 F_cb0 F_vb0 V_v0 S_cs hcs (by decide) hc9_70 rfl S_f hfv l_x5 (own_u255 s_x5)) own_pd12 (hb hby d_B15_14) 0 [] rfl rfl ⟨rfl, rfl, rfl, rfl, rfl⟩ (by decide) ?_
                        rintro T71 L71 v71 X71 hQ71
                        obtain ⟨rfl, N71q, e71⟩ := hQ71
                        have N71 := Fr.app N69 N71q
                        refine own_go (b := T71.setTop (mkF m 27 #[rv b0, .val .null, iv 5, iv x5] [])) (fun t k => xistoreN X71 hx hby rfl d_B15_17 rfl (l' := #[rv b0, .val .null, iv 5, iv x5]) rfl (xiloadN X71 hx hby rfl d_B15_18 rfl (xsipush X71 hx hby rfl d_B15_19 (xicmpYes X71 hx hby rfl 22 27 rfl d_B15_22 rfl (tlt (own_s128 s_x5 : x5 < (128 : Int32))).1 (by decide) (by decide) k)))) ?_
                        clear X69 e69 N69 N71q
                        by_cases hU5 : own_up x5
                        · refine own_go (b := T71.setTop (mkF m 44 #[rv b0, .val .null, iv 5, iv x5] [.ref b0])) (fun t k => xiloadN X71 hx hby rfl d_B15_27 rfl (xbipush X71 hx hby rfl d_B15_28 (xicmpNo X71 hx hby rfl d_B15_30 rfl (flt (hU5.1 : ¬ (x5 < (65 : Int32)))).1 (xiloadN X71 hx hby rfl d_B15_33 rfl (xbipush X71 hx hby rfl d_B15_34 (xicmpNo X71 hx hby rfl d_B15_36 rfl (flt (hU5.2 : ¬ ((90 : Int32) < x5))).2.2.1 (show Steps p.tables e below (T71.setTop (mkF m 39 #[rv b0, .val .null, iv 5, iv x5] [])) _ from xaloadN X71 hx hby rfl d_B15_39 rfl rfl (XS.ifnonnullNo X71.here hx rfl (hb hby d_B15_40) rfl (xaloadN X71 hx hby rfl d_B15_43 rfl rfl k))))))))) ?_
                          refine own_cv X71 hx hZ hown hml e71 (wd hw 117 rfl) (wd hw 118 rfl) (wd hw 120 rfl) (wd hw 119 rfl) (wd hw 15 rfl) (wd hw 121 rfl) E_b0 (own_rmTa l Z a0 hw [] b0 v0 kv z cs x0 x1 x2 x3 x4 x5 h0 n0 Z0 E_b0 F_cb0 F_vb0 V_v0 S_cs hcs h0z hNz l_x0 (own_u255 s_x0) l_x1 (own_u255 s_x1) l_x2 (own_u255 s_x2) l_x3 (own_u255 s_x3) l_x4 (own_u255 s_x4) l_x5 (own_u255 s_x5)) own_pd13 (hb hby d_B15_44) 0 [] rfl rfl ⟨rfl, rfl, rfl, rfl, rfl⟩ (by decide) ?_
                          rintro T72 L72 v72 X72 hQ72
                          obtain ⟨bc72, kc72, rfl, N72q, K72q, B72_0, B72_1⟩ := hQ72
                          have N72 := Fr.app N71 N72q
                          have K72 := (Keep.refl h0 []).trans K72q (fun x hx => nomatch hx)
                          have new_bc72 : n0 ≤ bc72 := Nat.le_trans Z0 B72_1
                          have sz_bc72 : h0.size ≤ bc72 := Nat.le_trans (Keep.refl h0 []).1 B72_1
                          have VL72 : Arv Z T72.heap bc72 kc72 .char z [(.int (own_lo x0)), (.int (own_lo x1)), (.int (own_lo x2)), (.int (own_lo x3)), (.int (own_lo x4)), .int x5] (.int 0) := by
                            rw [own_lon hU0, own_lon hU1, own_lon hU2, own_lon hU3, own_lon hU4]
                            exact B72_0
                          obtain ⟨cl73, Ar73, q73, Sz73, M73, Hs73, Gs73⟩ := id VL72
                          have hin73 := inb_of (j := (5 : Int32)) Sz73 ⟨by decide, hc9_70⟩
                          obtain ⟨T74, h74, X74, e74, W74, st74⟩ := stC X72 hx hZ rfl Ar73 (j := (5 : Int32)) hin73 (g := (mkF m 55 #[rv b0, rv bc72, iv 5, iv x5] [(.int ((x5 + (32 : Int32)).toUInt32.toUInt16.toUInt32.toInt32)), .int 5, .ref bc72])) rfl rfl (hb hby d_B15_55)
                          have K74 := K72.wr W74 (Or.inr sz_bc72)
                          have N74 := Fr.snoc X74 N72 new_bc72
                          have V_bc72_74 := Arv.set Ar73 q73 Sz73 M73 Hs73 Gs73 (fits_nar_char _) W74 5 rfl (Nat.le_of_ble_eq_true rfl)
                          rw [own_los hU5] at V_bc72_74
                          refine own_go (b := T74.setTop (mkF m 4 #[rv b0, rv bc72, iv 6, iv x5] [])) (fun t k => xastoreN X72 hx hby rfl d_B15_47 rfl rfl (l' := #[rv b0, rv bc72, iv 5, iv x5]) rfl (xaloadN X72 hx hby rfl d_B15_48 rfl rfl (xiloadN X72 hx hby rfl d_B15_49 rfl (xiloadN X72 hx hby rfl d_B15_50 rfl (xbipush X72 hx hby rfl d_B15_51 (show Steps p.tables e below (T72.setTop (mkF m 53 #[rv b0, rv bc72, iv 5, iv x5] [.int 32, .int x5, .int 5, .ref bc72])) _ from xiadd X72 hx hby rfl d_B15_53 rfl (XS.i2c X72.here hx rfl (hb hby d_B15_54) rfl (st74 _ (xiinc X74 hx hby rfl d_B15_56 rfl (l' := #[rv b0, rv bc72, iv 6, iv x5]) rfl (xgoto X74 hx hby rfl 59 4 rfl d_B15_59 (by decide) (by decide) k)))))))))) ?_
                          clear X71 e71 N71 X72 N72q K72q B72_0 N72 K72 q73 Sz73 M73 Hs73 Gs73 hin73 W74 st74
                          exact own_tAc_6 hw Bd hx hby hml hown hZ X74 e74 N74 Z0 K74 E_b0 F_cb0 F_vb0 V_v0 F_hb0 F_zb0 E_v0 S_cs S_f V_bc72_74 g_0 (nl E_b0.lt B72_1) (nl V_v0.lt B72_1) new_bc72 sz_bc72 hcs hfv h0z hNz l_x0 s_x0 l_x1 s_x1 l_x2 s_x2 l_x3 s_x3 l_x4 s_x4 l_x5 s_x5 (own_pz hc9_2)
                        · refine own_go (b := T71.setTop (mkF m 56 #[rv b0, .val .null, iv 5, iv x5] [])) (fun t k => ?_) ?_
                          · skip
                            by_cases hqa : x5 < (65 : Int32)
                            · skip
                              refine xiloadN X71 hx hby rfl d_B15_27 rfl (xbipush X71 hx hby rfl d_B15_28 (xicmpYes X71 hx hby rfl 30 56 rfl d_B15_30 rfl (tlt (hqa : x5 < (65 : Int32))).1 (by decide) (by decide) k))
                            · by_cases hqb : (90 : Int32) < x5
                              · skip
                                refine xiloadN X71 hx hby rfl d_B15_27 rfl (xbipush X71 hx hby rfl d_B15_28 (xicmpNo X71 hx hby rfl d_B15_30 rfl (flt (hqa : ¬ (x5 < (65 : Int32)))).1 (xiloadN X71 hx hby rfl d_B15_33 rfl (xbipush X71 hx hby rfl d_B15_34 (xicmpYes X71 hx hby rfl 36 56 rfl d_B15_36 rfl (tlt (hqb : (90 : Int32) < x5)).2.2.1 (by decide) (by decide) k)))))
                              · exact absurd ⟨hqa, hqb⟩ hU5
                          refine own_go (b := T71.setTop (mkF m 6 #[rv b0, .val .null, iv 6, iv x5] [.ref b0, .int 6])) (fun t k => xiinc X71 hx hby rfl d_B15_56 rfl (l' := #[rv b0, .val .null, iv 6, iv x5]) rfl (xgoto X71 hx hby rfl 59 4 rfl d_B15_59 (by decide) (by decide) (xiloadN X71 hx hby rfl d_B15_4 rfl (xaloadN X71 hx hby rfl d_B15_5 rfl rfl k)))) ?_
                          refine own_cv X71 hx hZ hown hml e71 (wd hw 49 rfl) (wd hw 50 rfl) (wd hw 52 rfl) (wd hw 51 rfl) (wd hw 15 rfl) (wd hw 53 rfl) E_b0 (own_rmLen l Z a0 hw [] b0 v0 kv z [(.int (own_b x0)), (.int (own_b x1)), (.int (own_b x2)), (.int (own_b x3)), (.int (own_b x4)), (.int (own_b x5))] cs h0 n0 Z0 E_b0 F_cb0 F_vb0 V_v0 S_cs hcs) own_pd11 (hb hby d_B15_6) 1 [.int 6] rfl rfl ⟨rfl, rfl, rfl, rfl, rfl⟩ (by decide) ?_
                          rintro T75 L75 v75 X75 hQ75
                          obtain ⟨rfl, N75q, e75⟩ := hQ75
                          have N75 := Fr.app N71 N75q
                          exact own_ret (v := some (.ref b0)) X75 e75 Bd.notSynchronized (nv Bd.returns) (fun fs hr => xicmpYes X75 hx hby rfl 9 62 rfl d_B15_9 rfl (flt (hNz : ¬ ((6 : Int32) < z))).2.1 (by decide) (by decide) (xaloadN X75 hx hby rfl d_B15_62 rfl rfl (XS.ifnonnullNo X75.here hx rfl (hb hby d_B15_63) rfl (xaloadN X75 hx hby rfl d_B15_66 rfl rfl (xgoto X75 hx hby rfl 67 78 rfl d_B15_67 (by decide) (by decide) (retA X75 hx Bd.returns (hb hby d_B15_78) hr)))))) ⟨_, _, _, rfl, N75, (Keep.refl h0 []), E_b0, F_cb0, F_vb0, F_hb0, F_zb0, (own_cut (j := (6 : Int32)) V_v0 6 rfl hNz (by simp only [List.take_succ_cons, List.take_zero, own_lon hU0, own_lon hU1, own_lon hU2, own_lon hU3, own_lon hU4, own_lon hU5])), g_0, E_v0⟩ (by decide)
                      · exact own_ret (v := some (.ref b0)) X69 e69 Bd.notSynchronized (nv Bd.returns) (fun fs hr => xicmpYes X69 hx hby rfl 9 62 rfl d_B15_9 rfl (flt hc9_70).2.1 (by decide) (by decide) (xaloadN X69 hx hby rfl d_B15_62 rfl rfl (XS.ifnonnullNo X69.here hx rfl (hb hby d_B15_63) rfl (xaloadN X69 hx hby rfl d_B15_66 rfl rfl (xgoto X69 hx hby rfl 67 78 rfl d_B15_67 (by decide) (by decide) (retA X69 hx Bd.returns (hb hby d_B15_78) hr)))))) ⟨_, _, _, rfl, N69, (Keep.refl h0 []), E_b0, F_cb0, F_vb0, F_hb0, F_zb0, (own_cut (j := (5 : Int32)) V_v0 5 rfl hc9_70 (by simp only [List.take_succ_cons, List.take_zero, own_lon hU0, own_lon hU1, own_lon hU2, own_lon hU3, own_lon hU4])), g_0, E_v0⟩ (by decide)
                  · exact own_ret (v := some (.ref b0)) X63 e63 Bd.notSynchronized (nv Bd.returns) (fun fs hr => xicmpYes X63 hx hby rfl 9 62 rfl d_B15_9 rfl (flt hc9_64).2.1 (by decide) (by decide) (xaloadN X63 hx hby rfl d_B15_62 rfl rfl (XS.ifnonnullNo X63.here hx rfl (hb hby d_B15_63) rfl (xaloadN X63 hx hby rfl d_B15_66 rfl rfl (xgoto X63 hx hby rfl 67 78 rfl d_B15_67 (by decide) (by decide) (retA X63 hx Bd.returns (hb hby d_B15_78) hr)))))) ⟨_, _, _, rfl, N63, (Keep.refl h0 []), E_b0, F_cb0, F_vb0, F_hb0, F_zb0, (own_cut (j := (4 : Int32)) V_v0 4 rfl hc9_64 (by simp only [List.take_succ_cons, List.take_zero, own_lon hU0, own_lon hU1, own_lon hU2, own_lon hU3])), g_0, E_v0⟩ (by decide)
              · exact own_ret (v := some (.ref b0)) X57 e57 Bd.notSynchronized (nv Bd.returns) (fun fs hr => xicmpYes X57 hx hby rfl 9 62 rfl d_B15_9 rfl (flt hc9_58).2.1 (by decide) (by decide) (xaloadN X57 hx hby rfl d_B15_62 rfl rfl (XS.ifnonnullNo X57.here hx rfl (hb hby d_B15_63) rfl (xaloadN X57 hx hby rfl d_B15_66 rfl rfl (xgoto X57 hx hby rfl 67 78 rfl d_B15_67 (by decide) (by decide) (retA X57 hx Bd.returns (hb hby d_B15_78) hr)))))) ⟨_, _, _, rfl, N57, (Keep.refl h0 []), E_b0, F_cb0, F_vb0, F_hb0, F_zb0, (own_cut (j := (3 : Int32)) V_v0 3 rfl hc9_58 (by simp only [List.take_succ_cons, List.take_zero, own_lon hU0, own_lon hU1, own_lon hU2])), g_0, E_v0⟩ (by decide)
          · exact own_ret (v := some (.ref b0)) X51 e51 Bd.notSynchronized (nv Bd.returns) (fun fs hr => xicmpYes X51 hx hby rfl 9 62 rfl d_B15_9 rfl (flt hc9_52).2.1 (by decide) (by decide) (xaloadN X51 hx hby rfl d_B15_62 rfl rfl (XS.ifnonnullNo X51.here hx rfl (hb hby d_B15_63) rfl (xaloadN X51 hx hby rfl d_B15_66 rfl rfl (xgoto X51 hx hby rfl 67 78 rfl d_B15_67 (by decide) (by decide) (retA X51 hx Bd.returns (hb hby d_B15_78) hr)))))) ⟨_, _, _, rfl, N51, (Keep.refl h0 []), E_b0, F_cb0, F_vb0, F_hb0, F_zb0, (own_cut (j := (2 : Int32)) V_v0 2 rfl hc9_52 (by simp only [List.take_succ_cons, List.take_zero, own_lon hU0, own_lon hU1])), g_0, E_v0⟩ (by decide)
      · exact own_ret (v := some (.ref b0)) X45 e45 Bd.notSynchronized (nv Bd.returns) (fun fs hr => xicmpYes X45 hx hby rfl 9 62 rfl d_B15_9 rfl (flt hc9_46).2.1 (by decide) (by decide) (xaloadN X45 hx hby rfl d_B15_62 rfl rfl (XS.ifnonnullNo X45.here hx rfl (hb hby d_B15_63) rfl (xaloadN X45 hx hby rfl d_B15_66 rfl rfl (xgoto X45 hx hby rfl 67 78 rfl d_B15_67 (by decide) (by decide) (retA X45 hx Bd.returns (hb hby d_B15_78) hr)))))) ⟨_, _, _, rfl, N45, (Keep.refl h0 []), E_b0, F_cb0, F_vb0, F_hb0, F_zb0, (own_cut (j := (1 : Int32)) V_v0 1 rfl hc9_46 (by simp only [List.take_succ_cons, List.take_zero, own_lon hU0])), g_0, E_v0⟩ (by decide)
  · exact own_ret (v := some (.ref b0)) X1 e1 Bd.notSynchronized (nv Bd.returns) (fun fs hr => xicmpYes X1 hx hby rfl 9 62 rfl d_B15_9 rfl (flt hc9_2).2.1 (by decide) (by decide) (xaloadN X1 hx hby rfl d_B15_62 rfl rfl (XS.ifnonnullNo X1.here hx rfl (hb hby d_B15_63) rfl (xaloadN X1 hx hby rfl d_B15_66 rfl rfl (xgoto X1 hx hby rfl 67 78 rfl d_B15_67 (by decide) (by decide) (retA X1 hx Bd.returns (hb hby d_B15_78) hr)))))) ⟨_, _, _, rfl, N1, (Keep.refl h0 []), E_b0, F_cb0, F_vb0, F_hb0, F_zb0, (own_cut (j := (0 : Int32)) V_v0 0 rfl hc9_2 (by simp only [List.set_cons_zero, List.set_cons_succ, List.take_succ_cons, List.take_zero] <;> rfl)), g_0, E_v0⟩ (by decide)
set_option maxRecDepth 65536 in
set_option maxHeartbeats 40000000 in
theorem own_rmAc0 (l : Launch) (Z : State) (a0 : Array Value) (hw : ∀ d ∈ tables_1, d.before a0 Z = true) (ws : List Jvm.Cond) (b0 : Addr) (v0 : Addr) (kv : ClassId) (cs : Int32) (fv : Value) (h0 : Heap) (n0 : Nat) (Z0 : n0 ≤ h0.size) (E_b0 : Exa Z h0 b0 "java/lang/String") (F_cb0 : Fld Z h0 b0 "java/lang/String" "coder" "B" (.int 0)) (F_vb0 : Fld Z h0 b0 "java/lang/String" "value" "[B" (.ref v0)) (V_v0 : Arv Z h0 v0 kv .byte (0 : Int32) [] (.int 0)) (F_hb0 : Fld Z h0 b0 "java/lang/String" "hash" "I" (.int 0)) (F_zb0 : Fld Z h0 b0 "java/lang/String" "hashIsZero" "Z" (.int 0)) (S_cs : Sta Z h0 "java/lang/String" "COMPACT_STRINGS" "Z" (.int cs)) (hcs : ¬ cs = (0 : Int32)) (S_f : Sta Z h0 "jdk/internal/util/Preconditions" "SIOOBE_FORMATTER" "Ljava/util/function/BiFunction;" fv) (hfv : fv.isRef = true) (g_0 : n0 ≤ b0) : own_M l Z y0N prog_68_method_10_code 4 (some (.object "java/lang/String")) ws ({ frames := 2, cells := 0, slots := 0, locals := 26 } : Room) #[.ref b0] h0 (own_QK0 Z (0 : Int32) [] h0 n0) := by
  refine own_begin (n0 := n0) (f0 := mkF ⟨0, 0⟩ 0 #[rv b0, .unset, .unset, .unset] []) (plainFor_of_name own_pn4) (fun m => ef_1_4 m _ rfl) ?_
  intro p e s m below meth c s₁ Bd hZ hx hby hml hown hnm X0 e0 N0
  refine own_go (b := s₁.setTop (mkF m 6 #[rv b0, .val .null, iv 0, .unset] [.ref b0, .int 0])) (fun t k => xaconstNull X0 hx hby rfl d_B15_0 (xastoreN X0 hx hby rfl d_B15_1 rfl rfl (l' := #[rv b0, .val .null, .unset, .unset]) rfl (xiconst X0 hx hby rfl d_B15_2 (xistoreN X0 hx hby rfl d_B15_3 rfl (l' := #[rv b0, .val .null, iv 0, .unset]) rfl (xiloadN X0 hx hby rfl d_B15_4 rfl (xaloadN X0 hx hby rfl d_B15_5 rfl rfl k)))))) ?_
  refine own_cv X0 hx hZ hown hml e0 (wd hw 49 rfl) (wd hw 50 rfl) (wd hw 52 rfl) (wd hw 51 rfl) (wd hw 15 rfl) (wd hw 53 rfl) E_b0 (own_rmLen l Z a0 hw [] b0 v0 kv (0 : Int32) [] cs h0 n0 Z0 E_b0 F_cb0 F_vb0 V_v0 S_cs hcs) own_pd11 (hb hby d_B15_6) 1 [.int 0] rfl rfl ⟨rfl, rfl, rfl, rfl, rfl⟩ (by decide) ?_
  rintro T1 L1 v1 X1 hQ1
  obtain ⟨rfl, N1q, e1⟩ := hQ1
  have N1 := Fr.app N0 N1q
  exact own_ret (v := some (.ref b0)) X1 e1 Bd.notSynchronized (nv Bd.returns) (fun fs hr => xicmpYes X1 hx hby rfl 9 62 rfl d_B15_9 rfl (flt ((by decide) : ¬ ((0 : Int32) < (0 : Int32)))).2.1 (by decide) (by decide) (xaloadN X1 hx hby rfl d_B15_62 rfl rfl (XS.ifnonnullNo X1.here hx rfl (hb hby d_B15_63) rfl (xaloadN X1 hx hby rfl d_B15_66 rfl rfl (xgoto X1 hx hby rfl 67 78 rfl d_B15_67 (by decide) (by decide) (retA X1 hx Bd.returns (hb hby d_B15_78) hr)))))) ⟨_, _, _, rfl, N1, (Keep.refl h0 []), E_b0, F_cb0, F_vb0, F_hb0, F_zb0, V_v0, g_0⟩ (by decide)
theorem d_B16_0 : decode prog_68_method_9_code 0 = .ok (.aload_n 0, 1) := by decide +kernel
theorem d_B16_1 : decode prog_68_method_9_code 1 = .ok (.invokestatic 78, 3) := by decide +kernel
theorem d_B16_4 : decode prog_68_method_9_code 4 = .ok (.astore_n 1, 1) := by decide +kernel
theorem d_B16_5 : decode prog_68_method_9_code 5 = .ok (.aload_n 1, 1) := by decide +kernel
theorem d_B16_6 : decode prog_68_method_9_code 6 = .ok (.ifnonnull 61, 3) := by decide +kernel
theorem d_B16_67 : decode prog_68_method_9_code 67 = .ok (.aload_n 1, 1) := by decide +kernel
theorem d_B16_68 : decode prog_68_method_9_code 68 = .ok (.areturn, 1) := by decide +kernel
set_option maxRecDepth 65536 in
set_option maxHeartbeats 40000000 in
theorem own_rmCl (l : Launch) (Z : State) (a0 : Array Value) (hw : ∀ d ∈ tables_1, d.before a0 Z = true) (ws : List Jvm.Cond) (b0 : Addr) (v0 : Addr) (kv : ClassId) (z : Int32) (cs : Int32) (fv : Value) (x0 x1 x2 x3 x4 x5 : Int32) (h0 : Heap) (n0 : Nat) (Z0 : n0 ≤ h0.size) (E_b0 : Exa Z h0 b0 "java/lang/String") (F_cb0 : Fld Z h0 b0 "java/lang/String" "coder" "B" (.int 0)) (F_vb0 : Fld Z h0 b0 "java/lang/String" "value" "[B" (.ref v0)) (V_v0 : Arv Z h0 v0 kv .byte z [(.int (own_b x0)), (.int (own_b x1)), (.int (own_b x2)), (.int (own_b x3)), (.int (own_b x4)), (.int (own_b x5))] (.int 0)) (F_hb0 : Fld Z h0 b0 "java/lang/String" "hash" "I" (.int 0)) (F_zb0 : Fld Z h0 b0 "java/lang/String" "hashIsZero" "Z" (.int 0)) (E_v0 : Exa Z h0 v0 "[B") (S_cs : Sta Z h0 "java/lang/String" "COMPACT_STRINGS" "Z" (.int cs)) (hcs : ¬ cs = (0 : Int32)) (S_f : Sta Z h0 "jdk/internal/util/Preconditions" "SIOOBE_FORMATTER" "Ljava/util/function/BiFunction;" fv) (hfv : fv.isRef = true) (g_0 : n0 ≤ b0) (h0z : ¬ z < (0 : Int32)) (hNz : ¬ (6 : Int32) < z) (l_x0 : ¬ x0 < (0 : Int32)) (s_x0 : ¬ (127 : Int32) < x0) (l_x1 : ¬ x1 < (0 : Int32)) (s_x1 : ¬ (127 : Int32) < x1) (l_x2 : ¬ x2 < (0 : Int32)) (s_x2 : ¬ (127 : Int32) < x2) (l_x3 : ¬ x3 < (0 : Int32)) (s_x3 : ¬ (127 : Int32) < x3) (l_x4 : ¬ x4 < (0 : Int32)) (s_x4 : ¬ (127 : Int32) < x4) (l_x5 : ¬ x5 < (0 : Int32)) (s_x5 : ¬ (127 : Int32) < x5) : own_M l Z (⟨"com/example/rollcall/rollcall/users/CaselessIndex", "caseless", "(Ljava/lang/String;)Ljava/lang/String;"⟩ : MethodName) prog_68_method_9_code 5 (some (.object "java/lang/String")) ws ({ frames := 5, cells := 3, slots := 16, locals := 81 } : Room) #[.ref b0] h0 (own_QK Z z [(.int (own_b (own_lo x0))), (.int (own_b (own_lo x1))), (.int (own_b (own_lo x2))), (.int (own_b (own_lo x3))), (.int (own_b (own_lo x4))), (.int (own_b (own_lo x5)))] h0 n0) := by
  refine own_begin (n0 := n0) (f0 := mkF ⟨0, 0⟩ 0 #[rv b0, .unset, .unset, .unset, .unset] []) (plainFor_of_name own_pn4) (fun m => ef_1_5 m _ rfl) ?_
  intro p e s m below meth c s₁ Bd hZ hx hby hml hown hnm X0 e0 N0
  refine own_go (b := s₁.setTop (mkF m 1 #[rv b0, .unset, .unset, .unset, .unset] [.ref b0])) (fun t k => xaloadN X0 hx hby rfl d_B16_0 rfl rfl k) ?_
  refine own_cs X0 hx hZ hown hml e0 (wd hw 46 rfl) (wd hw 47 rfl) (wd hw 35 rfl) (wd hw 48 rfl) (own_rmAc l Z a0 hw [] b0 v0 kv z cs fv x0 x1 x2 x3 x4 x5 h0 n0 Z0 E_b0 F_cb0 F_vb0 V_v0 F_hb0 F_zb0 E_v0 S_cs hcs S_f hfv g_0 h0z hNz l_x0 s_x0 l_x1 s_x1 l_x2 s_x2 l_x3 s_x3 l_x4 s_x4 l_x5 s_x5) own_pd15 (hb hby d_B16_1) 0 [] rfl ⟨rfl, rfl, rfl, rfl, rfl⟩ (by decide) ?_
  rintro T1 L1 v1 X1 hQ1
  obtain ⟨bs1, br1, kr1, rfl, N1q, K1q, B1_0, B1_1, B1_2, B1_3, B1_4, B1_5, B1_6, B1_7⟩ := hQ1
  have N1 := Fr.app N0 N1q
  have K1 := (Keep.refl h0 []).trans K1q (fun x hx => nomatch hx)
  exact own_ret (v := some (.ref bs1)) X1 rfl Bd.notSynchronized (nv Bd.returns) (fun fs hr => xastoreN X1 hx hby rfl d_B16_4 rfl rfl (l' := #[rv b0, rv bs1, .unset, .unset, .unset]) rfl (xaloadN X1 hx hby rfl d_B16_5 rfl rfl (XS.ifnonnullYes X1.here hx rfl (pc0 := 6) (pc' := 67) rfl (hb hby d_B16_6) rfl (by decide) (by decide) (xaloadN X1 hx hby rfl d_B16_67 rfl rfl (retA X1 hx Bd.returns (hb hby d_B16_68) hr))))) ⟨_, _, _, rfl, N1, K1, B1_0, B1_1, B1_2, B1_3, B1_4, B1_5, B1_6, B1_7⟩ (by decide)
set_option maxRecDepth 65536 in
set_option maxHeartbeats 40000000 in
theorem own_rmCl0 (l : Launch) (Z : State) (a0 : Array Value) (hw : ∀ d ∈ tables_1, d.before a0 Z = true) (ws : List Jvm.Cond) (b0 : Addr) (v0 : Addr) (kv : ClassId) (cs : Int32) (fv : Value) (h0 : Heap) (n0 : Nat) (Z0 : n0 ≤ h0.size) (E_b0 : Exa Z h0 b0 "java/lang/String") (F_cb0 : Fld Z h0 b0 "java/lang/String" "coder" "B" (.int 0)) (F_vb0 : Fld Z h0 b0 "java/lang/String" "value" "[B" (.ref v0)) (V_v0 : Arv Z h0 v0 kv .byte (0 : Int32) [] (.int 0)) (F_hb0 : Fld Z h0 b0 "java/lang/String" "hash" "I" (.int 0)) (F_zb0 : Fld Z h0 b0 "java/lang/String" "hashIsZero" "Z" (.int 0)) (S_cs : Sta Z h0 "java/lang/String" "COMPACT_STRINGS" "Z" (.int cs)) (hcs : ¬ cs = (0 : Int32)) (S_f : Sta Z h0 "jdk/internal/util/Preconditions" "SIOOBE_FORMATTER" "Ljava/util/function/BiFunction;" fv) (hfv : fv.isRef = true) (g_0 : n0 ≤ b0) : own_M l Z (⟨"com/example/rollcall/rollcall/users/CaselessIndex", "caseless", "(Ljava/lang/String;)Ljava/lang/String;"⟩ : MethodName) prog_68_method_9_code 5 (some (.object "java/lang/String")) ws ({ frames := 3, cells := 0, slots := 0, locals := 41 } : Room) #[.ref b0] h0 (own_QK0 Z (0 : Int32) [] h0 n0) := by
  refine own_begin (n0 := n0) (f0 := mkF ⟨0, 0⟩ 0 #[rv b0, .unset, .unset, .unset, .unset] []) (plainFor_of_name own_pn4) (fun m => ef_1_5 m _ rfl) ?_
  intro p e s m below meth c s₁ Bd hZ hx hby hml hown hnm X0 e0 N0
  refine own_go (b := s₁.setTop (mkF m 1 #[rv b0, .unset, .unset, .unset, .unset] [.ref b0])) (fun t k => xaloadN X0 hx hby rfl d_B16_0 rfl rfl k) ?_
  refine own_cs X0 hx hZ hown hml e0 (wd hw 46 rfl) (wd hw 47 rfl) (wd hw 35 rfl) (wd hw 48 rfl) (own_rmAc0 l Z a0 hw [] b0 v0 kv cs fv h0 n0 Z0 E_b0 F_cb0 F_vb0 V_v0 F_hb0 F_zb0 S_cs hcs S_f hfv g_0 ) own_pd15 (hb hby d_B16_1) 0 [] rfl ⟨rfl, rfl, rfl, rfl, rfl⟩ (by decide) ?_
  rintro T1 L1 v1 X1 hQ1
  obtain ⟨bs1, br1, kr1, rfl, N1q, K1q, B1_0, B1_1, B1_2, B1_3, B1_4, B1_5, B1_6⟩ := hQ1
  have N1 := Fr.app N0 N1q
  have K1 := (Keep.refl h0 []).trans K1q (fun x hx => nomatch hx)
  exact own_ret (v := some (.ref bs1)) X1 rfl Bd.notSynchronized (nv Bd.returns) (fun fs hr => xastoreN X1 hx hby rfl d_B16_4 rfl rfl (l' := #[rv b0, rv bs1, .unset, .unset, .unset]) rfl (xaloadN X1 hx hby rfl d_B16_5 rfl rfl (XS.ifnonnullYes X1.here hx rfl (pc0 := 6) (pc' := 67) rfl (hb hby d_B16_6) rfl (by decide) (by decide) (xaloadN X1 hx hby rfl d_B16_67 rfl rfl (retA X1 hx Bd.returns (hb hby d_B16_68) hr))))) ⟨_, _, _, rfl, N1, K1, B1_0, B1_1, B1_2, B1_3, B1_4, B1_5, B1_6⟩ (by decide)
def own_sp (p0 : Int32) : Int32 := (((((p0 ^^^ ((p0.toUInt32 >>> ((16 : Int32) &&& 31).toUInt32).toInt32)) * (-2048144789 : Int32)) ^^^ ((((p0 ^^^ ((p0.toUInt32 >>> ((16 : Int32) &&& 31).toUInt32).toInt32)) * (-2048144789 : Int32)).toUInt32 >>> ((13 : Int32) &&& 31).toUInt32).toInt32)) * (-1028477387 : Int32)) ^^^ ((((((p0 ^^^ ((p0.toUInt32 >>> ((16 : Int32) &&& 31).toUInt32).toInt32)) * (-2048144789 : Int32)) ^^^ ((((p0 ^^^ ((p0.toUInt32 >>> ((16 : Int32) &&& 31).toUInt32).toInt32)) * (-2048144789 : Int32)).toUInt32 >>> ((13 : Int32) &&& 31).toUInt32).toInt32)) * (-1028477387 : Int32)).toUInt32 >>> ((16 : Int32) &&& 31).toUInt32).toInt32))
theorem d_B17_0 : decode prog_68_method_8_code 0 = .ok (.iload_n 0, 1) := by decide +kernel
theorem d_B17_1 : decode prog_68_method_8_code 1 = .ok (.iload_n 0, 1) := by decide +kernel
theorem d_B17_2 : decode prog_68_method_8_code 2 = .ok (.bipush 16, 2) := by decide +kernel
theorem d_B17_4 : decode prog_68_method_8_code 4 = .ok (.iushr, 1) := by decide +kernel
theorem d_B17_5 : decode prog_68_method_8_code 5 = .ok (.ixor, 1) := by decide +kernel
theorem d_B17_6 : decode prog_68_method_8_code 6 = .ok (.istore_n 1, 1) := by decide +kernel
theorem d_B17_7 : decode prog_68_method_8_code 7 = .ok (.iload_n 1, 1) := by decide +kernel
theorem d_B17_8 : decode prog_68_method_8_code 8 = .ok (.ldc 76, 2) := by decide +kernel
theorem d_B17_10 : decode prog_68_method_8_code 10 = .ok (.imul, 1) := by decide +kernel
theorem d_B17_11 : decode prog_68_method_8_code 11 = .ok (.istore_n 1, 1) := by decide +kernel
theorem d_B17_12 : decode prog_68_method_8_code 12 = .ok (.iload_n 1, 1) := by decide +kernel
theorem d_B17_13 : decode prog_68_method_8_code 13 = .ok (.iload_n 1, 1) := by decide +kernel
theorem d_B17_14 : decode prog_68_method_8_code 14 = .ok (.bipush 13, 2) := by decide +kernel
theorem d_B17_16 : decode prog_68_method_8_code 16 = .ok (.iushr, 1) := by decide +kernel
theorem d_B17_17 : decode prog_68_method_8_code 17 = .ok (.ixor, 1) := by decide +kernel
theorem d_B17_18 : decode prog_68_method_8_code 18 = .ok (.istore_n 1, 1) := by decide +kernel
theorem d_B17_19 : decode prog_68_method_8_code 19 = .ok (.iload_n 1, 1) := by decide +kernel
theorem d_B17_20 : decode prog_68_method_8_code 20 = .ok (.ldc 77, 2) := by decide +kernel
theorem d_B17_22 : decode prog_68_method_8_code 22 = .ok (.imul, 1) := by decide +kernel
theorem d_B17_23 : decode prog_68_method_8_code 23 = .ok (.istore_n 1, 1) := by decide +kernel
theorem d_B17_24 : decode prog_68_method_8_code 24 = .ok (.iload_n 1, 1) := by decide +kernel
theorem d_B17_25 : decode prog_68_method_8_code 25 = .ok (.iload_n 1, 1) := by decide +kernel
theorem d_B17_26 : decode prog_68_method_8_code 26 = .ok (.bipush 16, 2) := by decide +kernel
theorem d_B17_28 : decode prog_68_method_8_code 28 = .ok (.iushr, 1) := by decide +kernel
theorem d_B17_29 : decode prog_68_method_8_code 29 = .ok (.ixor, 1) := by decide +kernel
theorem d_B17_30 : decode prog_68_method_8_code 30 = .ok (.ireturn, 1) := by decide +kernel
set_option maxRecDepth 65536 in
set_option maxHeartbeats 40000000 in
theorem own_rmSp (l : Launch) (Z : State) (a0 : Array Value) (hw : ∀ d ∈ tables_1, d.before a0 Z = true) (ws : List Jvm.Cond) (p0 : Int32) (h0 : Heap) (n0 : Nat) (Z0 : n0 ≤ h0.size) : own_M l Z (⟨"com/example/rollcall/rollcall/users/CaselessIndex", "spread", "(I)I"⟩ : MethodName) prog_68_method_8_code 2 (some .int) ws ({ frames := 0, cells := 0, slots := 0, locals := 0 } : Room) #[.int p0] h0 (own_QI (own_sp p0) h0 n0) := by
  refine own_begin (n0 := n0) (f0 := mkF ⟨0, 0⟩ 0 #[iv p0, .unset] []) (plainFor_of_name own_pn4) (fun m => ef_1_2 m _ rfl) ?_
  intro p e s m below meth c s₁ Bd hZ hx hby hml hown hnm X0 e0 N0
  exact own_ret (v := some (.int (((((p0 ^^^ ((p0.toUInt32 >>> ((16 : Int32) &&& 31).toUInt32).toInt32)) * (-2048144789 : Int32)) ^^^ ((((p0 ^^^ ((p0.toUInt32 >>> ((16 : Int32) &&& 31).toUInt32).toInt32)) * (-2048144789 : Int32)).toUInt32 >>> ((13 : Int32) &&& 31).toUInt32).toInt32)) * (-1028477387 : Int32)) ^^^ ((((((p0 ^^^ ((p0.toUInt32 >>> ((16 : Int32) &&& 31).toUInt32).toInt32)) * (-2048144789 : Int32)) ^^^ ((((p0 ^^^ ((p0.toUInt32 >>> ((16 : Int32) &&& 31).toUInt32).toInt32)) * (-2048144789 : Int32)).toUInt32 >>> ((13 : Int32) &&& 31).toUInt32).toInt32)) * (-1028477387 : Int32)).toUInt32 >>> ((16 : Int32) &&& 31).toUInt32).toInt32)))) X0 e0 Bd.notSynchronized (nv Bd.returns) (fun fs hr => xiloadN X0 hx hby rfl d_B17_0 rfl (xiloadN X0 hx hby rfl d_B17_1 rfl (xbipush X0 hx hby rfl d_B17_2 (show Steps p.tables e below (s₁.setTop (mkF m 4 #[iv p0, .unset] [.int 16, .int p0, .int p0])) _ from XS.iushr X0.here hx rfl (hb hby d_B17_4) rfl (XS.ixor X0.here hx rfl (hb hby d_B17_5) rfl (xistoreN X0 hx hby rfl d_B17_6 rfl (l' := #[iv p0, iv (p0 ^^^ ((p0.toUInt32 >>> ((16 : Int32) &&& 31).toUInt32).toInt32))]) rfl (xiloadN X0 hx hby rfl d_B17_7 rfl (X0.ldcInt hx hown (mvT hZ (wd hw 40 rfl)) (g := (mkF m 8 #[iv p0, iv (p0 ^^^ ((p0.toUInt32 >>> ((16 : Int32) &&& 31).toUInt32).toInt32))] [(.int (p0 ^^^ ((p0.toUInt32 >>> ((16 : Int32) &&& 31).toUInt32).toInt32)))])) rfl (hb hby d_B17_8) _ (ximul X0 hx hby rfl d_B17_10 rfl (show Steps p.tables e below (s₁.setTop (mkF m 11 #[iv p0, iv (p0 ^^^ ((p0.toUInt32 >>> ((16 : Int32) &&& 31).toUInt32).toInt32))] [(.int ((p0 ^^^ ((p0.toUInt32 >>> ((16 : Int32) &&& 31).toUInt32).toInt32)) * (-2048144789 : Int32)))])) _ from xistoreN X0 hx hby rfl d_B17_11 rfl (l' := #[iv p0, iv ((p0 ^^^ ((p0.toUInt32 >>> ((16 : Int32) &&& 31).toUInt32).toInt32)) * (-2048144789 : Int32))]) rfl (xiloadN X0 hx hby rfl d_B17_12 rfl (xiloadN X0 hx hby rfl d_B17_13 rfl (xbipush X0 hx hby rfl d_B17_14 (show Steps p.tables e below (s₁.setTop (mkF m 16 #[iv p0, iv ((p0 ^^^ ((p0.toUInt32 >>> ((16 : Int32) &&& 31).toUInt32).toInt32)) * (-2048144789 : Int32))] [.int 13, (.int ((p0 ^^^ ((p0.toUInt32 >>> ((16 : Int32) &&& 31).toUInt32).toInt32)) * (-2048144789 : Int32))), (.int ((p0 ^^^ ((p0.toUInt32 >>> ((16 : Int32) &&& 31).toUInt32).toInt32)) * (-2048144789 : Int32)))])) _ from XS.iushr X0.here hx rfl (hb hby d_B17_16) rfl (XS.ixor X0.here hx rfl (hb hby d_B17_17) rfl (xistoreN X0 hx hby rfl d_B17_18 rfl (l' := #[iv p0, iv (((p0 ^^^ ((p0.toUInt32 >>> ((16 : Int32) &&& 31).toUInt32).toInt32)) * (-2048144789 : Int32)) ^^^ ((((p0 ^^^ ((p0.toUInt32 >>> ((16 : Int32) &&& 31).toUInt32).toInt32)) * (-2048144789 : Int32)).toUInt32 >>> ((13 : Int32) &&& 31).toUInt32).toInt32))]) rfl (xiloadN X0 hx hby rfl d_B17_19 rfl (X0.ldcInt hx hown (mvT hZ (wd hw 41 rfl)) (g := (mkF m 20 #[iv p0, iv (((p0 ^^^ ((p0.toUInt32 >>> ((16 : Int32) &&& 31).toUInt32).toInt32)) * (-2048144789 : Int32)) ^^^ ((((p0 ^^^ ((p0.toUInt32 >>> ((16 : Int32) &&& 31).toUInt32).toInt32)) * (-2048144789 : Int32)).toUInt32 >>> ((13 : Int32) &&& 31).toUInt32).toInt32))] [(.int (((p0 ^^^ ((p0.toUInt32 >>> ((16 : Int32) &&& 31).toUInt32).toInt32)) * (-2048144789 : Int32)) ^^^ ((((p0 ^^^ ((p0.toUInt32 >>> ((16 : Int32) &&& 31).toUInt32).toInt32)) * (-2048144789 : Int32)).toUInt32 >>> ((13 : Int32) &&& 31).toUInt32).toInt32)))])) rfl (hb hby d_B17_20) _ (ximul X0 hx hby rfl d_B17_22 rfl (show Steps p.tables e below (s₁.setTop (mkF m 23 #[iv p0, iv (((p0 ^^^ ((p0.toUInt32 >>> ((16 : Int32) &&& 31).toUInt32).toInt32)) * (-2048144789 : Int32)) ^^^ ((((p0 ^^^ ((p0.toUInt32 >>> ((16 : Int32) &&& 31).toUInt32).toInt32)) * (-2048144789 : Int32)).toUInt32 >>> ((13 : Int32) &&& 31).toUInt32).toInt32))] [(.int ((((p0 ^^^ ((p0.toUInt32 >>> ((16 : Int32) &&& 31).toUInt32).toInt32)) * (-2048144789 : Int32)) ^^^ ((((p0 ^^^ ((p0.toUInt32 >>> ((16 : Int32) &&& 31).toUInt32).toInt32)) * (-2048144789 : Int32)).toUInt32 >>> ((13 : Int32) &&& 31).toUInt32).toInt32)) * (-1028477387 : Int32)))])) _ from xistoreN X0 hx hby rfl d_B17_23 rfl (l' := #[iv p0, iv ((((p0 ^^^ ((p0.toUInt32 >>> ((16 : Int32) &&& 31).toUInt32).toInt32)) * (-2048144789 : Int32)) ^^^ ((((p0 ^^^ ((p0.toUInt32 >>> ((16 : Int32) &&& 31).toUInt32).toInt32)) * (-2048144789 : Int32)).toUInt32 >>> ((13 : Int32) &&& 31).toUInt32).toInt32)) * (-1028477387 : Int32))]) rfl (xiloadN X0 hx hby rfl d_B17_24 rfl (xiloadN X0 hx hby rfl d_B17_25 rfl (xbipush X0 hx hby rfl d_B17_26 (show Steps p.tables e below (s₁.setTop (mkF m 28 #[iv p0, iv ((((p0 ^^^ ((p0.toUInt32 >>> ((16 : Int32) &&& 31).toUInt32).toInt32)) * (-2048144789 : Int32)) ^^^ ((((p0 ^^^ ((p0.toUInt32 >>> ((16 : Int32) &&& 31).toUInt32).toInt32)) * (-2048144789 : Int32)).toUInt32 >>> ((13 : Int32) &&& 31).toUInt32).toInt32)) * (-1028477387 : Int32))] [.int 16, (.int ((((p0 ^^^ ((p0.toUInt32 >>> ((16 : Int32) &&& 31).toUInt32).toInt32)) * (-2048144789 : Int32)) ^^^ ((((p0 ^^^ ((p0.toUInt32 >>> ((16 : Int32) &&& 31).toUInt32).toInt32)) * (-2048144789 : Int32)).toUInt32 >>> ((13 : Int32) &&& 31).toUInt32).toInt32)) * (-1028477387 : Int32))), (.int ((((p0 ^^^ ((p0.toUInt32 >>> ((16 : Int32) &&& 31).toUInt32).toInt32)) * (-2048144789 : Int32)) ^^^ ((((p0 ^^^ ((p0.toUInt32 >>> ((16 : Int32) &&& 31).toUInt32).toInt32)) * (-2048144789 : Int32)).toUInt32 >>> ((13 : Int32) &&& 31).toUInt32).toInt32)) * (-1028477387 : Int32)))])) _ from XS.iushr X0.here hx rfl (hb hby d_B17_28) rfl (XS.ixor X0.here hx rfl (hb hby d_B17_29) rfl (retI X0 hx Bd.returns (hb hby d_B17_30) hr)))))))))))))))))))))))))) ⟨rfl, N0, rfl⟩ (by decide)
def own_HH (z x0 x1 x2 x3 x4 x5 : Int32) : Int32 := if (0 : Int32) < z then if (1 : Int32) < z then if (2 : Int32) < z then if (3 : Int32) < z then if (4 : Int32) < z then if (5 : Int32) < z then (((31 : Int32) * (((31 : Int32) * (((31 : Int32) * (((31 : Int32) * (((31 : Int32) * ((0 : Int32) + x0)) + x1)) + x2)) + x3)) + x4)) + x5) else (((31 : Int32) * (((31 : Int32) * (((31 : Int32) * (((31 : Int32) * ((0 : Int32) + x0)) + x1)) + x2)) + x3)) + x4) else (((31 : Int32) * (((31 : Int32) * (((31 : Int32) * ((0 : Int32) + x0)) + x1)) + x2)) + x3) else (((31 : Int32) * (((31 : Int32) * ((0 : Int32) + x0)) + x1)) + x2) else (((31 : Int32) * ((0 : Int32) + x0)) + x1) else ((0 : Int32) + x0) else (0 : Int32)
def own_QH (r : Int32) (h0 : Heap) (n0 : Nat) (v : Option Value) (h : Heap) (L : List Loc) : Prop := v = some (.int r) ∧ Fr n0 L ∧ h0.size ≤ h.size
theorem d_B18_0 : decode jdk_48_method_5_code 0 = .ok (.iload_n 2, 1) := by decide +kernel
theorem d_B18_1 : decode jdk_48_method_5_code 1 = .ok (.iload_n 3, 1) := by decide +kernel
theorem d_B18_2 : decode jdk_48_method_5_code 2 = .ok (.iadd, 1) := by decide +kernel
theorem d_B18_3 : decode jdk_48_method_5_code 3 = .ok (.istore 4, 2) := by decide +kernel
theorem d_B18_5 : decode jdk_48_method_5_code 5 = .ok (.iload_n 2, 1) := by decide +kernel
theorem d_B18_6 : decode jdk_48_method_5_code 6 = .ok (.istore 5, 2) := by decide +kernel
theorem d_B18_8 : decode jdk_48_method_5_code 8 = .ok (.iload 5, 2) := by decide +kernel
theorem d_B18_10 : decode jdk_48_method_5_code 10 = .ok (.iload 4, 2) := by decide +kernel
theorem d_B18_12 : decode jdk_48_method_5_code 12 = .ok (.if_icmp .ge 23, 3) := by decide +kernel
theorem d_B18_15 : decode jdk_48_method_5_code 15 = .ok (.bipush 31, 2) := by decide +kernel
theorem d_B18_17 : decode jdk_48_method_5_code 17 = .ok (.iload_n 0, 1) := by decide +kernel
theorem d_B18_18 : decode jdk_48_method_5_code 18 = .ok (.imul, 1) := by decide +kernel
theorem d_B18_19 : decode jdk_48_method_5_code 19 = .ok (.aload_n 1, 1) := by decide +kernel
theorem d_B18_20 : decode jdk_48_method_5_code 20 = .ok (.iload 5, 2) := by decide +kernel
theorem d_B18_22 : decode jdk_48_method_5_code 22 = .ok (.baload, 1) := by decide +kernel
theorem d_B18_23 : decode jdk_48_method_5_code 23 = .ok (.sipush 255, 3) := by decide +kernel
theorem d_B18_26 : decode jdk_48_method_5_code 26 = .ok (.iand, 1) := by decide +kernel
theorem d_B18_27 : decode jdk_48_method_5_code 27 = .ok (.iadd, 1) := by decide +kernel
theorem d_B18_28 : decode jdk_48_method_5_code 28 = .ok (.istore_n 0, 1) := by decide +kernel
theorem d_B18_29 : decode jdk_48_method_5_code 29 = .ok (.iinc 5 1, 3) := by decide +kernel
theorem d_B18_32 : decode jdk_48_method_5_code 32 = .ok (.goto (-24), 3) := by decide +kernel
theorem d_B18_35 : decode jdk_48_method_5_code 35 = .ok (.iload_n 0, 1) := by decide +kernel
theorem d_B18_36 : decode jdk_48_method_5_code 36 = .ok (.ireturn, 1) := by decide +kernel
set_option maxRecDepth 65536 in
set_option maxHeartbeats 40000000 in
theorem own_rmSh (l : Launch) (Z : State) (a0 : Array Value) (hw : ∀ d ∈ tables_1, d.before a0 Z = true) (ws : List Jvm.Cond) (b0 : Addr) (z : Int32) (kb : ClassId) (x0 x1 x2 x3 x4 x5 : Int32) (h0 : Heap) (n0 : Nat) (Z0 : n0 ≤ h0.size) (V_b0 : Arv Z h0 b0 kb .byte z [(.int (own_b x0)), (.int (own_b x1)), (.int (own_b x2)), (.int (own_b x3)), (.int (own_b x4)), (.int (own_b x5))] (.int 0)) (h0z : ¬ z < (0 : Int32)) (hNz : ¬ (6 : Int32) < z) (l_x0 : ¬ x0 < (0 : Int32)) (u_x0 : ¬ (255 : Int32) < x0) (l_x1 : ¬ x1 < (0 : Int32)) (u_x1 : ¬ (255 : Int32) < x1) (l_x2 : ¬ x2 < (0 : Int32)) (u_x2 : ¬ (255 : Int32) < x2) (l_x3 : ¬ x3 < (0 : Int32)) (u_x3 : ¬ (255 : Int32) < x3) (l_x4 : ¬ x4 < (0 : Int32)) (u_x4 : ¬ (255 : Int32) < x4) (l_x5 : ¬ x5 < (0 : Int32)) (u_x5 : ¬ (255 : Int32) < x5) : own_M l Z (⟨"jdk/internal/util/ArraysSupport", "signedHashCode", "(I[BII)I"⟩ : MethodName) jdk_48_method_5_code 6 (some .int) ws ({ frames := 0, cells := 0, slots := 0, locals := 0 } : Room) #[.int 0, .ref b0, .int 0, .int z] h0 (own_QI (own_HH z x0 x1 x2 x3 x4 x5) h0 n0) := by
  refine own_begin (n0 := n0) (f0 := mkF ⟨0, 0⟩ 0 #[iv 0, rv b0, iv 0, iv z, .unset, .unset] []) (plainFor_of_name own_pn5) (fun m => ef_1111_6 m _ _ _ _ rfl rfl rfl rfl) ?_
  intro p e s m below meth c s₁ Bd hZ hx hby hml hown hnm X0 e0 N0
  refine own_go (b := s₁.setTop (mkF m 3 #[iv 0, rv b0, iv 0, iv z, .unset, .unset] [(.int ((0 : Int32) + z))])) (fun t k => xiloadN X0 hx hby rfl d_B18_0 rfl (xiloadN X0 hx hby rfl d_B18_1 rfl (xiadd X0 hx hby rfl d_B18_2 rfl k))) ?_
  rw [own_zadd z]
  refine own_go (b := s₁.setTop (mkF m 12 #[iv 0, rv b0, iv 0, iv z, iv z, iv 0] [.int z, .int 0])) (fun t k => xistore X0 hx hby rfl d_B18_3 rfl (l' := #[iv 0, rv b0, iv 0, iv z, iv z, .unset]) rfl (xiloadN X0 hx hby rfl d_B18_5 rfl (xistore X0 hx hby rfl d_B18_6 rfl (l' := #[iv 0, rv b0, iv 0, iv z, iv z, iv 0]) rfl (xiload X0 hx hby rfl d_B18_8 rfl (xiload X0 hx hby rfl d_B18_10 rfl k))))) ?_
  by_cases hc12_1 : (0 : Int32) < z
  · obtain ⟨cl2, Ar2, -, Sz2, M2, Hs2, Gs2⟩ := id V_b0
    have hin2 := inb_of (j := (0 : Int32)) Sz2 ⟨by decide, hc12_1⟩
    refine own_go (b := s₁.setTop (mkF m 12 #[iv ((0 : Int32) + ((own_b x0) &&& (255 : Int32))), rv b0, iv 0, iv z, iv z, iv 1] [.int z, .int 1])) (fun t k => xicmpNo X0 hx hby rfl d_B18_12 rfl (tlt hc12_1).2.1 (xbipush X0 hx hby rfl d_B18_15 (xiloadN X0 hx hby rfl d_B18_17 rfl (show Steps p.tables e below (s₁.setTop (mkF m 18 #[iv 0, rv b0, iv 0, iv z, iv z, iv 0] [.int 0, .int 31])) _ from ximul X0 hx hby rfl d_B18_18 rfl (xaloadN X0 hx hby rfl d_B18_19 rfl rfl (xiload X0 hx hby rfl d_B18_20 rfl (X0.baloadBytes hx (j := (0 : Int32)) (v := (.int (own_b x0))) (own_in e0 Ar2.1) (State.isArrayOf_alike hZ.alike Ar2.2.1) Ar2.2.2 hin2 (Has.at Hs2 hin2 rfl) (g := (mkF m 22 #[iv 0, rv b0, iv 0, iv z, iv z, iv 0] [.int 0, .ref b0, .int 0])) rfl rfl (hb hby d_B18_22) _ (xsipush X0 hx hby rfl d_B18_23 (show Steps p.tables e below (s₁.setTop (mkF m 26 #[iv 0, rv b0, iv 0, iv z, iv z, iv 0] [.int 255, (.int (own_b x0)), .int 0])) _ from xiand X0 hx hby rfl d_B18_26 rfl (xiadd X0 hx hby rfl d_B18_27 rfl (xistoreN X0 hx hby rfl d_B18_28 rfl (l' := #[iv ((0 : Int32) + ((own_b x0) &&& (255 : Int32))), rv b0, iv 0, iv z, iv z, iv 0]) rfl (xiinc X0 hx hby rfl d_B18_29 rfl (l' := #[iv ((0 : Int32) + ((own_b x0) &&& (255 : Int32))), rv b0, iv 0, iv z, iv z, iv 1]) rfl (xgoto X0 hx hby rfl 32 8 rfl d_B18_32 (by decide) (by decide) (xiload X0 hx hby rfl d_B18_8 rfl (show Steps p.tables e below (s₁.setTop (mkF m 10 #[iv ((0 : Int32) + ((own_b x0) &&& (255 : Int32))), rv b0, iv 0, iv z, iv z, iv 1] [.int 1])) _ from xiload X0 hx hby rfl d_B18_10 rfl k))))))))))))))) ?_
    by_cases hc12_3 : (1 : Int32) < z
    · obtain ⟨cl4, Ar4, -, Sz4, M4, Hs4, Gs4⟩ := id V_b0
      have hin4 := inb_of (j := (1 : Int32)) Sz4 ⟨by decide, hc12_3⟩
      refine own_go (b := s₁.setTop (mkF m 12 #[iv (((31 : Int32) * ((0 : Int32) + ((own_b x0) &&& (255 : Int32)))) + ((own_b x1) &&& (255 : Int32))), rv b0, iv 0, iv z, iv z, iv 2] [.int z, .int 2])) (fun t k => xicmpNo X0 hx hby rfl d_B18_12 rfl (tlt hc12_3).2.1 (xbipush X0 hx hby rfl d_B18_15 (xiloadN X0 hx hby rfl d_B18_17 rfl (show Steps p.tables e below (s₁.setTop (mkF m 18 #[iv ((0 : Int32) + ((own_b x0) &&& (255 : Int32))), rv b0, iv 0, iv z, iv z, iv 1] [(.int ((0 : Int32) + ((own_b x0) &&& (255 : Int32)))), .int 31])) _ from ximul X0 hx hby rfl d_B18_18 rfl (xaloadN X0 hx hby rfl d_B18_19 rfl rfl (xiload X0 hx hby rfl d_B18_20 rfl (X0.baloadBytes hx (j := (1 : Int32)) (v := (.int (own_b x1))) (own_in e0 Ar4.1) (State.isArrayOf_alike hZ.alike Ar4.2.1) Ar4.2.2 hin4 (Has.at Hs4 hin4 rfl) (g := (mkF m 22 #[iv ((0 : Int32) + ((own_b x0) &&& (255 : Int32))), rv b0, iv 0, iv z, iv z, iv 1] [.int 1, .ref b0, (.int ((31 : Int32) * ((0 : Int32) + ((own_b x0) &&& (255 : Int32)))))])) rfl rfl (hb hby d_B18_22) _ (xsipush X0 hx hby rfl d_B18_23 (show Steps p.tables e below (s₁.setTop (mkF m 26 #[iv ((0 : Int32) + ((own_b x0) &&& (255 : Int32))), rv b0, iv 0, iv z, iv z, iv 1] [.int 255, (.int (own_b x1)), (.int ((31 : Int32) * ((0 : Int32) + ((own_b x0) &&& (255 : Int32)))))])) _ from xiand X0 hx hby rfl d_B18_26 rfl (xiadd X0 hx hby rfl d_B18_27 rfl (xistoreN X0 hx hby rfl d_B18_28 rfl (l' := #[iv (((31 : Int32) * ((0 : Int32) + ((own_b x0) &&& (255 : Int32)))) + ((own_b x1) &&& (255 : Int32))), rv b0, iv 0, iv z, iv z, iv 1]) rfl (xiinc X0 hx hby rfl d_B18_29 rfl (l' := #[iv (((31 : Int32) * ((0 : Int32) + ((own_b x0) &&& (255 : Int32)))) + ((own_b x1) &&& (255 : Int32))), rv b0, iv 0, iv z, iv z, iv 2]) rfl (xgoto X0 hx hby rfl 32 8 rfl d_B18_32 (by decide) (by decide) (xiload X0 hx hby rfl d_B18_8 rfl (show Steps p.tables e below (s₁.setTop (mkF m 10 #[iv (((31 : Int32) * ((0 : Int32) + ((own_b x0) &&& (255 : Int32)))) + ((own_b x1) &&& (255 : Int32))), rv b0, iv 0, iv z, iv z, iv 2] [.int 2])) _ from xiload X0 hx hby rfl d_B18_10 rfl k))))))))))))))) ?_
      by_cases hc12_5 : (2 : Int32) < z
      · obtain ⟨cl6, Ar6, -, Sz6, M6, Hs6, Gs6⟩ := id V_b0
        have hin6 := inb_of (j := (2 : Int32)) Sz6 ⟨by decide, hc12_5⟩
        refine own_go (b := s₁.setTop (mkF m 12 #[iv (((31 : Int32) * (((31 : Int32) * ((0 : Int32) + ((own_b x0) &&& (255 : Int32)))) + ((own_b x1) &&& (255 : Int32)))) + ((own_b x2) &&& (255 : Int32))), rv b0, iv 0, iv z, iv z, iv 3] [.int z, .int 3])) (fun t k => xicmpNo X0 hx hby rfl d_B18_12 rfl (tlt hc12_5).2.1 (xbipush X0 hx hby rfl d_B18_15 (xiloadN X0 hx hby rfl d_B18_17 rfl (show Steps p.tables e below (s₁.setTop (mkF m 18 #[iv (((31 : Int32) * ((0 : Int32) + ((own_b x0) &&& (255 : Int32)))) + ((own_b x1) &&& (255 : Int32))), rv b0, iv 0, iv z, iv z, iv 2] [(.int (((31 : Int32) * ((0 : Int32) + ((own_b x0) &&& (255 : Int32)))) + ((own_b x1) &&& (255 : Int32)))), .int 31])) _ from ximul X0 hx hby rfl d_B18_18 rfl (xaloadN X0 hx hby rfl d_B18_19 rfl rfl (xiload X0 hx hby rfl d_B18_20 rfl (X0.baloadBytes hx (j := (2 : Int32)) (v := (.int (own_b x2))) (own_in e0 Ar6.1) (State.isArrayOf_alike hZ.alike Ar6.2.1) Ar6.2.2 hin6 (Has.at Hs6 hin6 rfl) (g := (mkF m 22 #[iv (((31 : Int32) * ((0 : Int32) + ((own_b x0) &&& (255 : Int32)))) + ((own_b x1) &&& (255 : Int32))), rv b0, iv 0, iv z, iv z, iv 2] [.int 2, .ref b0, (.int ((31 : Int32) * (((31 : Int32) * ((0 : Int32) + ((own_b x0) &&& (255 : Int32)))) + ((own_b x1) &&& (255 : Int32)))))])) rfl rfl (hb hby d_B18_22) _ (xsipush X0 hx hby rfl d_B18_23 (show Steps p.tables e below (s₁.setTop (mkF m 26 #[iv (((31 : Int32) * ((0 : Int32) + ((own_b x0) &&& (255 : Int32)))) + ((own_b x1) &&& (255 : Int32))), rv b0, iv 0, iv z, iv z, iv 2] [.int 255, (.int (own_b x2)), (.int ((31 : Int32) * (((31 : Int32) * ((0 : Int32) + ((own_b x0) &&& (255 : Int32)))) + ((own_b x1) &&& (255 : Int32)))))])) _ from xiand X0 hx hby rfl d_B18_26 rfl (xiadd X0 hx hby rfl d_B18_27 rfl (xistoreN X0 hx hby rfl d_B18_28 rfl (l' := #[iv (((31 : Int32) * (((31 : Int32) * ((0 : Int32) + ((own_b x0) &&& (255 : Int32)))) + ((own_b x1) &&& (255 : Int32)))) + ((own_b x2) &&& (255 : Int32))), rv b0, iv 0, iv z, iv z, iv 2]) rfl (xiinc X0 hx hby rfl d_B18_29 rfl (l' := #[iv (((31 : Int32) * (((31 : Int32) * ((0 : Int32) + ((own_b x0) &&& (255 : Int32)))) + ((own_b x1) &&& (255 : Int32)))) + ((own_b x2) &&& (255 : Int32))), rv b0, iv 0, iv z, iv z, iv 3]) rfl (xgoto X0 hx hby rfl 32 8 rfl d_B18_32 (by decide) (by decide) (xiload X0 hx hby rfl d_B18_8 rfl (show Steps p.tables e below (s₁.setTop (mkF m 10 #[iv (((31 : Int32) * (((31 : Int32) * ((0 : Int32) + ((own_b x0) &&& (255 : Int32)))) + ((own_b x1) &&& (255 : Int32)))) + ((own_b x2) &&& (255 : Int32))), rv b0, iv 0, iv z, iv z, iv 3] [.int 3])) _ from xiload X0 hx hby rfl d_B18_10 rfl k))))))))))))))) ?_
        by_cases hc12_7 : (3 : Int32) < z
        · obtain ⟨cl8, Ar8, -, Sz8, M8, Hs8, Gs8⟩ := id V_b0
          have hin8 := inb_of (j := (3 : Int32)) Sz8 ⟨by decide, hc12_7⟩
          refine own_go (b := s₁.setTop (mkF m 12 #[iv (((31 : Int32) * (((31 : Int32) * (((31 : Int32) * ((0 : Int32) + ((own_b x0) &&& (255 : Int32)))) + ((own_b x1) &&& (255 : Int32)))) + ((own_b x2) &&& (255 : Int32)))) + ((own_b x3) &&& (255 : Int32))), rv b0, iv 0, iv z, iv z, iv 4] [.int z, .int 4])) (fun t k => xicmpNo X0 hx hby rfl d_B18_12 rfl (tlt hc12_7).2.1 (xbipush X0 hx hby rfl d_B18_15 (xiloadN X0 hx hby rfl d_B18_17 rfl (show Steps p.tables e below (s₁.setTop (mkF m 18 #[iv (((31 : Int32) * (((31 : Int32) * ((0 : Int32) + ((own_b x0) &&& (255 : Int32)))) + ((own_b x1) &&& (255 : Int32)))) + ((own_b x2) &&& (255 : Int32))), rv b0, iv 0, iv z, iv z, iv 3] [(.int (((31 : Int32) * (((31 : Int32) * ((0 : Int32) + ((own_b x0) &&& (255 : Int32)))) + ((own_b x1) &&& (255 : Int32)))) + ((own_b x2) &&& (255 : Int32)))), .int 31])) _ from ximul X0 hx hby rfl d_B18_18 rfl (xaloadN X0 hx hby rfl d_B18_19 rfl rfl (xiload X0 hx hby rfl d_B18_20 rfl (X0.baloadBytes hx (j := (3 : Int32)) (v := (.int (own_b x3))) (own_in e0 Ar8.1) (State.isArrayOf_alike hZ.alike Ar8.2.1) Ar8.2.2 hin8 (Has.at Hs8 hin8 rfl) (g := (mkF m 22 #[iv (((31 : Int32) * (((31 : Int32) * ((0 : Int32) + ((own_b x0) &&& (255 : Int32)))) + ((own_b x1) &&& (255 : Int32)))) + ((own_b x2) &&& (255 : Int32))), rv b0, iv 0, iv z, iv z, iv 3] [.int 3, .ref b0, (.int ((31 : Int32) * (((31 : Int32) * (((31 : Int32) * ((0 : Int32) + ((own_b x0) &&& (255 : Int32)))) + ((own_b x1) &&& (255 : Int32)))) + ((own_b x2) &&& (255 : Int32)))))])) rfl rfl (hb hby d_B18_22) _ (xsipush X0 hx hby rfl d_B18_23 (show Steps p.tables e below (s₁.setTop (mkF m 26 #[iv (((31 : Int32) * (((31 : Int32) * ((0 : Int32) + ((own_b x0) &&& (255 : Int32)))) + ((own_b x1) &&& (255 : Int32)))) + ((own_b x2) &&& (255 : Int32))), rv b0, iv 0, iv z, iv z, iv 3] [.int 255, (.int (own_b x3)), (.int ((31 : Int32) * (((31 : Int32) * (((31 : Int32) * ((0 : Int32) + ((own_b x0) &&& (255 : Int32)))) + ((own_b x1) &&& (255 : Int32)))) + ((own_b x2) &&& (255 : Int32)))))])) _ from xiand X0 hx hby rfl d_B18_26 rfl (xiadd X0 hx hby rfl d_B18_27 rfl (xistoreN X0 hx hby rfl d_B18_28 rfl (l' := #[iv (((31 : Int32) * (((31 : Int32) * (((31 : Int32) * ((0 : Int32) + ((own_b x0) &&& (255 : Int32)))) + ((own_b x1) &&& (255 : Int32)))) + ((own_b x2) &&& (255 : Int32)))) + ((own_b x3) &&& (255 : Int32))), rv b0, iv 0, iv z, iv z, iv 3]) rfl (xiinc X0 hx hby rfl d_B18_29 rfl (l' := #[iv (((31 : Int32) * (((31 : Int32) * (((31 : Int32) * ((0 : Int32) + ((own_b x0) &&& (255 : Int32)))) + ((own_b x1) &&& (255 : Int32)))) + ((own_b x2) &&& (255 : Int32)))) + ((own_b x3) &&& (255 : Int32))), rv b0, iv 0, iv z, iv z, iv 4]) rfl (xgoto X0 hx hby rfl 32 8 rfl d_B18_32 (by decide) (by decide) (xiload X0 hx hby rfl d_B18_8 rfl (show Steps p.tables e below (s₁.setTop (mkF m 10 #[iv (((31 : Int32) * (((31 : Int32) * (((31 : Int32) * ((0 : Int32) + ((own_b x0) &&& (255 : Int32)))) + ((own_b x1) &&& (255 : Int32)))) + ((own_b x2) &&& (255 : Int32)))) + ((own_b x3) &&& (255 : Int32))), rv b0, iv 0, iv z, iv z, iv 4] [.int 4])) _ from xiload X0 hx hby rfl d_B18_10 rfl k))))))))))))))) ?_
          by_cases hc12_9 : (4 : Int32) < z
          · obtain ⟨cl10, Ar10, -, Sz10, M10, Hs10, Gs10⟩ := id V_b0
            have hin10 := inb_of (j := (4 : Int32)) Sz10 ⟨by decide, hc12_9⟩
            refine own_go (b := s₁.setTop (mkF m 12 #[iv (((31 : Int32) * (((31 : Int32) * (((31 : Int32) * (((31 : Int32) * ((0 : Int32) + ((own_b x0) &&& (255 : Int32)))) + ((own_b x1) &&& (255 : Int32)))) + ((own_b x2) &&& (255 : Int32)))) + ((own_b x3) &&& (255 : Int32)))) + ((own_b x4) &&& (255 : Int32))), rv b0, iv 0, iv z, iv z, iv 5] [.int z, .int 5])) (fun t k => xicmpNo X0 hx hby rfl d_B18_12 rfl (tlt hc12_9).2.1 (xbipush X0 hx hby rfl d_B18_15 (xiloadN X0 hx hby rfl d_B18_17 rfl (show Steps p.tables e below (s₁.setTop (mkF m 18 #[iv (((31 : Int32) * (((31 : Int32) * (((31 : Int32) * ((0 : Int32) + ((own_b x0) &&& (255 : Int32)))) + ((own_b x1) &&& (255 : Int32)))) + ((own_b x2) &&& (255 : Int32)))) + ((own_b x3) &&& (255 : Int32))), rv b0, iv 0, iv z, iv z, iv 4] [(.int (((31 : Int32) * (((31 : Int32) * (((31 : Int32) * ((0 : Int32) + ((own_b x0) &&& (255 : Int32)))) + ((own_b x1) &&& (255 : Int32)))) + ((own_b x2) &&& (255 : Int32)))) + ((own_b x3) &&& (255 : Int32)))), .int 31])) _ from ximul X0 hx hby rfl d_B18_18 rfl (xaloadN X0 hx hby rfl d_B18_19 rfl rfl (xiload X0 hx hby rfl d_B18_20 rfl (X0.baloadBytes hx (j := (4 : Int32)) (v := (.int (own_b x4))) (own_in e0 Ar10.1) (State.isArrayOf_alike hZ.alike Ar10.2.1) Ar10.2.2 hin10 (Has.at Hs10 hin10 rfl) (g := (mkF m 22 #[iv (((31 : Int32) * (((31 : Int32) * (((31 : Int32) * ((0 : Int32) + ((own_b x0) &&& (255 : Int32)))) + ((own_b x1) &&& (255 : Int32)))) + ((own_b x2) &&& (255 : Int32)))) + ((own_b x3) &&& (255 : Int32))), rv b0, iv 0, iv z, iv z, iv 4] [.int 4, .ref b0, (.int ((31 : Int32) * (((31 : Int32) * (((31 : Int32) * (((31 : Int32) * ((0 : Int32) + ((own_b x0) &&& (255 : Int32)))) + ((own_b x1) &&& (255 : Int32)))) + ((own_b x2) &&& (255 : Int32)))) + ((own_b x3) &&& (255 : Int32)))))])) rfl rfl (hb hby d_B18_22) _ (xsipush X0 hx hby rfl d_B18_23 (show Steps p.tables e below (s₁.setTop (mkF m 26 #[iv (((31 : Int32) * (((31 : Int32) * (((31 : Int32) * ((0 : Int32) + ((own_b x0) &&& (255 : Int32)))) + ((own_b x1) &&& (255 : Int32)))) + ((own_b x2) &&& (255 : Int32)))) + ((own_b x3) &&& (255 : Int32))), rv b0, iv 0, iv z, iv z, iv 4] [.int 255, (.int (own_b x4)), (.int ((31 : Int32) * (((31 : Int32) * (((31 : Int32) * (((31 : Int32) * ((0 : Int32) + ((own_b x0) &&& (255 : Int32)))) + ((own_b x1) &&& (255 : Int32)))) + ((own_b x2) &&& (255 : Int32)))) + ((own_b x3) &&& (255 : Int32)))))])) _ from xiand X0 hx hby rfl d_B18_26 rfl (xiadd X0 hx hby rfl d_B18_27 rfl (xistoreN X0 hx hby rfl d_B18_28 rfl (l' := #[iv (((31 : Int32) * (((31 : Int32) * (((31 : Int32) * (((31 : Int32) * ((0 : Int32) + ((own_b x0) &&& (255 : Int32)))) + ((own_b x1) &&& (255 : Int32)))) + ((own_b x2) &&& (255 : Int32)))) + ((own_b x3) &&& (255 : Int32)))) + ((own_b x4) &&& (255 : Int32))), rv b0, iv 0, iv z, iv z, iv 4]) rfl (xiinc X0 hx hby rfl d_B18_29 rfl (l' := #[iv (((31 : Int32) * (((31 : Int32) * (((31 : Int32) * (((31 : Int32) * ((0 : Int32) + ((own_b x0) &&& (255 : Int32)))) + ((own_b x1) &&& (255 : Int32)))) + ((own_b x2) &&& (255 : Int32)))) + ((own_b x3) &&& (255 : Int32)))) + ((own_b x4) &&& (255 : Int32))), rv b0, iv 0, iv z, iv z, iv 5]) rfl (xgoto X0 hx hby rfl 32 8 rfl d_B18_32 (by decide) (by decide) (xiload X0 hx hby rfl d_B18_8 rfl (show Steps p.tables e below (s₁.setTop (mkF m 10 #[iv (((31 : Int32) * (((31 : Int32) * (((31 : Int32) * (((31 : Int32) * ((0 : Int32) + ((own_b x0) &&& (255 : Int32)))) + ((own_b x1) &&& (255 : Int32)))) + ((own_b x2) &&& (255 : Int32)))) + ((own_b x3) &&& (255 : Int32)))) + ((own_b x4) &&& (255 : Int32))), rv b0, iv 0, iv z, iv z, iv 5] [.int 5])) _ from xiload X0 hx hby rfl d_B18_10 rfl k))))))))))))))) ?_
            by_cases hc12_11 : (5 : Int32) < z
            · obtain ⟨cl12, Ar12, -, Sz12, M12, Hs12, Gs12⟩ := id V_b0
              have hin12 := inb_of (j := (5 : Int32)) Sz12 ⟨by decide, hc12_11⟩
              exact own_ret (v := some (.int (((31 : Int32) * (((31 : Int32) * (((31 : Int32) * (((31 : Int32) * (((31 : Int32) * ((0 : Int32) + ((own_b x0) &&& (255 : Int32)))) + ((own_b x1) &&& (255 : Int32)))) + ((own_b x2) &&& (255 : Int32)))) + ((own_b x3) &&& (255 : Int32)))) + ((own_b x4) &&& (255 : Int32)))) + ((own_b x5) &&& (255 : Int32))))) X0 e0 Bd.notSynchronized (nv Bd.returns) (fun fs hr => xicmpNo X0 hx hby rfl d_B18_12 rfl (tlt hc12_11).2.1 (xbipush X0 hx hby rfl d_B18_15 (xiloadN X0 hx hby rfl d_B18_17 rfl (show Steps p.tables e below (s₁.setTop (mkF m 18 #[iv (((31 : Int32) * (((31 : Int32) * (((31 : Int32) * (((31 : Int32) * ((0 : Int32) + ((own_b x0) &&& (255 : Int32)))) + ((own_b x1) &&& (255 : Int32)))) + ((own_b x2) &&& (255 : Int32)))) + ((own_b x3) &&& (255 : Int32)))) + ((own_b x4) &&& (255 : Int32))), rv b0, iv 0, iv z, iv z, iv 5] [(.int (((31 : Int32) * (((31 : Int32) * (((31 : Int32) * (((31 : Int32) * ((0 : Int32) + ((own_b x0) &&& (255 : Int32)))) + ((own_b x1) &&& (255 : Int32)))) + ((own_b x2) &&& (255 : Int32)))) + ((own_b x3) &&& (255 : Int32)))) + ((own_b x4) &&& (255 : Int32)))), .int 31])) _ from ximul X0 hx hby rfl d_B18_18 rfl (xaloadN X0 hx hby rfl d_B18_19 rfl rfl (xiload X0 hx hby rfl d_B18_20 rfl (X0.baloadBytes hx (j := (5 : Int32)) (v := (.int (own_b x5))) (own_in e0 Ar12.1) (State.isArrayOf_alike hZ.alike Ar12.2.1) Ar12.2.2 hin12 (Has.at Hs12 hin12 rfl) (g := (mkF m 22 #[iv (((31 : Int32) * (((31 : Int32) * (((31 : Int32) * (((31 : Int32) * ((0 : Int32) + ((own_b x0) &&& (255 : Int32)))) + ((own_b x1) &&& (255 : Int32)))) + ((own_b x2) &&& (255 : Int32)))) + ((own_b x3) &&& (255 : Int32)))) + ((own_b x4) &&& (255 : Int32))), rv b0, iv 0, iv z, iv z, iv 5] [.int 5, .ref b0, (.int ((31 : Int32) * (((31 : Int32) * (((31 : Int32) * (((31 : Int32) * (((31 : Int32) * ((0 : Int32) + ((own_b x0) &&& (255 : Int32)))) + ((own_b x1) &&& (255 : Int32)))) + ((own_b x2) &&& (255 : Int32)))) + ((own_b x3) &&& (255 : Int32)))) + ((own_b x4) &&& (255 : Int32)))))])) rfl rfl (hb hby d_B18_22) _ (xsipush X0 hx hby rfl d_B18_23 (show Steps p.tables e below (s₁.setTop (mkF m 26 #[iv (((31 : Int32) * (((31 : Int32) * (((31 : Int32) * (((31 : Int32) * ((0 : Int32) + ((own_b x0) &&& (255 : Int32)))) + ((own_b x1) &&& (255 : Int32)))) + ((own_b x2) &&& (255 : Int32)))) + ((own_b x3) &&& (255 : Int32)))) + ((own_b x4) &&& (255 : Int32))), rv b0, iv 0, iv z, iv z, iv 5] [.int 255, (.int (own_b x5)), (.int ((31 : Int32) * (((31 : Int32) * (((31 : Int32) * (((31 : Int32) * (((31 : Int32) * ((0 : Int32) + ((own_b x0) &&& (255 : Int32)))) + ((own_b x1) &&& (255 : Int32)))) + ((own_b x2) &&& (255 : Int32)))) + ((own_b x3) &&& (255 : Int32)))) + ((own_b x4) &&& (255 : Int32)))))])) _ from xiand X0 hx hby rfl d_B18_26 rfl (xiadd X0 hx hby rfl d_B18_27 rfl (xistoreN X0 hx hby rfl d_B18_28 rfl (l' := #[iv (((31 : Int32) * (((31 : Int32) * (((31 : Int32) * (((31 : Int32) * (((31 : Int32) * ((0 : Int32) + ((own_b x0) &&& (255 : Int32)))) + ((own_b x1) &&& (255 : Int32)))) + ((own_b x2) &&& (255 : Int32)))) + ((own_b x3) &&& (255 : Int32)))) + ((own_b x4) &&& (255 : Int32)))) + ((own_b x5) &&& (255 : Int32))), rv b0, iv 0, iv z, iv z, iv 5]) rfl (xiinc X0 hx hby rfl d_B18_29 rfl (l' := #[iv (((31 : Int32) * (((31 : Int32) * (((31 : Int32) * (((31 : Int32) * (((31 : Int32) * ((0 : Int32) + ((own_b x0) &&& (255 : Int32)))) + ((own_b x1) &&& (255 : Int32)))) + ((own_b x2) &&& (255 : Int32)))) + ((own_b x3) &&& (255 : Int32)))) + ((own_b x4) &&& (255 : Int32)))) + ((own_b x5) &&& (255 : Int32))), rv b0, iv 0, iv z, iv z, iv 6]) rfl (xgoto X0 hx hby rfl 32 8 rfl d_B18_32 (by decide) (by decide) (xiload X0 hx hby rfl d_B18_8 rfl (show Steps p.tables e below (s₁.setTop (mkF m 10 #[iv (((31 : Int32) * (((31 : Int32) * (((31 : Int32) * (((31 : Int32) * (((31 : Int32) * ((0 : Int32) + ((own_b x0) &&& (255 : Int32)))) + ((own_b x1) &&& (255 : Int32)))) + ((own_b x2) &&& (255 : Int32)))) + ((own_b x3) &&& (255 : Int32)))) + ((own_b x4) &&& (255 : Int32)))) + ((own_b x5) &&& (255 : Int32))), rv b0, iv 0, iv z, iv z, iv 6] [.int 6])) _ from xiload X0 hx hby rfl d_B18_10 rfl (xicmpYes X0 hx hby rfl 12 35 rfl d_B18_12 rfl (flt (hNz : ¬ ((6 : Int32) < z))).2.1 (by decide) (by decide) (xiloadN X0 hx hby rfl d_B18_35 rfl (retI X0 hx Bd.returns (hb hby d_B18_36) hr)))))))))))))))))) ⟨by rw [own_b255 l_x0 u_x0, own_b255 l_x1 u_x1, own_b255 l_x2 u_x2, own_b255 l_x3 u_x3, own_b255 l_x4 u_x4, own_b255 l_x5 u_x5, own_HH, if_pos hc12_1, if_pos hc12_3, if_pos hc12_5, if_pos hc12_7, if_pos hc12_9, if_pos hc12_11], N0, rfl⟩ (by decide)
            · exact own_ret (v := some (.int (((31 : Int32) * (((31 : Int32) * (((31 : Int32) * (((31 : Int32) * ((0 : Int32) + ((own_b x0) &&& (255 : Int32)))) + ((own_b x1) &&& (255 : Int32)))) + ((own_b x2) &&& (255 : Int32)))) + ((own_b x3) &&& (255 : Int32)))) + ((own_b x4) &&& (255 : Int32))))) X0 e0 Bd.notSynchronized (nv Bd.returns) (fun fs hr => xicmpYes X0 hx hby rfl 12 35 rfl d_B18_12 rfl (flt hc12_11).2.1 (by decide) (by decide) (xiloadN X0 hx hby rfl d_B18_35 rfl (retI X0 hx Bd.returns (hb hby d_B18_36) hr))) ⟨by rw [own_b255 l_x0 u_x0, own_b255 l_x1 u_x1, own_b255 l_x2 u_x2, own_b255 l_x3 u_x3, own_b255 l_x4 u_x4, own_HH, if_pos hc12_1, if_pos hc12_3, if_pos hc12_5, if_pos hc12_7, if_pos hc12_9, if_neg hc12_11], N0, rfl⟩ (by decide)
          · exact own_ret (v := some (.int (((31 : Int32) * (((31 : Int32) * (((31 : Int32) * ((0 : Int32) + ((own_b x0) &&& (255 : Int32)))) + ((own_b x1) &&& (255 : Int32)))) + ((own_b x2) &&& (255 : Int32)))) + ((own_b x3) &&& (255 : Int32))))) X0 e0 Bd.notSynchronized (nv Bd.returns) (fun fs hr => xicmpYes X0 hx hby rfl 12 35 rfl d_B18_12 rfl (flt hc12_9).2.1 (by decide) (by decide) (xiloadN X0 hx hby rfl d_B18_35 rfl (retI X0 hx Bd.returns (hb hby d_B18_36) hr))) ⟨by rw [own_b255 l_x0 u_x0, own_b255 l_x1 u_x1, own_b255 l_x2 u_x2, own_b255 l_x3 u_x3, own_HH, if_pos hc12_1, if_pos hc12_3, if_pos hc12_5, if_pos hc12_7, if_neg hc12_9], N0, rfl⟩ (by decide)
        · exact own_ret (v := some (.int (((31 : Int32) * (((31 : Int32) * ((0 : Int32) + ((own_b x0) &&& (255 : Int32)))) + ((own_b x1) &&& (255 : Int32)))) + ((own_b x2) &&& (255 : Int32))))) X0 e0 Bd.notSynchronized (nv Bd.returns) (fun fs hr => xicmpYes X0 hx hby rfl 12 35 rfl d_B18_12 rfl (flt hc12_7).2.1 (by decide) (by decide) (xiloadN X0 hx hby rfl d_B18_35 rfl (retI X0 hx Bd.returns (hb hby d_B18_36) hr))) ⟨by rw [own_b255 l_x0 u_x0, own_b255 l_x1 u_x1, own_b255 l_x2 u_x2, own_HH, if_pos hc12_1, if_pos hc12_3, if_pos hc12_5, if_neg hc12_7], N0, rfl⟩ (by decide)
      · exact own_ret (v := some (.int (((31 : Int32) * ((0 : Int32) + ((own_b x0) &&& (255 : Int32)))) + ((own_b x1) &&& (255 : Int32))))) X0 e0 Bd.notSynchronized (nv Bd.returns) (fun fs hr => xicmpYes X0 hx hby rfl 12 35 rfl d_B18_12 rfl (flt hc12_5).2.1 (by decide) (by decide) (xiloadN X0 hx hby rfl d_B18_35 rfl (retI X0 hx Bd.returns (hb hby d_B18_36) hr))) ⟨by rw [own_b255 l_x0 u_x0, own_b255 l_x1 u_x1, own_HH, if_pos hc12_1, if_pos hc12_3, if_neg hc12_5], N0, rfl⟩ (by decide)
    · exact own_ret (v := some (.int ((0 : Int32) + ((own_b x0) &&& (255 : Int32))))) X0 e0 Bd.notSynchronized (nv Bd.returns) (fun fs hr => xicmpYes X0 hx hby rfl 12 35 rfl d_B18_12 rfl (flt hc12_3).2.1 (by decide) (by decide) (xiloadN X0 hx hby rfl d_B18_35 rfl (retI X0 hx Bd.returns (hb hby d_B18_36) hr))) ⟨by rw [own_b255 l_x0 u_x0, own_HH, if_pos hc12_1, if_neg hc12_3], N0, rfl⟩ (by decide)
  · exact own_ret (v := some (.int 0)) X0 e0 Bd.notSynchronized (nv Bd.returns) (fun fs hr => xicmpYes X0 hx hby rfl 12 35 rfl d_B18_12 rfl (flt hc12_1).2.1 (by decide) (by decide) (xiloadN X0 hx hby rfl d_B18_35 rfl (retI X0 hx Bd.returns (hb hby d_B18_36) hr))) ⟨by rw [own_HH, if_neg hc12_1], N0, rfl⟩ (by decide)
theorem d_B19_0 : decode jdk_48_method_4_code 0 = .ok (.iload 4, 2) := by decide +kernel
theorem d_B19_2 : decode jdk_48_method_4_code 2 = .ok (.tableswitch 127 4 10 #[42, 55, 127, 127, 88, 101, 114], 42) := by decide +kernel
theorem d_B19_44 : decode jdk_48_method_4_code 44 = .ok (.iload_n 3, 1) := by decide +kernel
theorem d_B19_45 : decode jdk_48_method_4_code 45 = .ok (.aload_n 0, 1) := by decide +kernel
theorem d_B19_46 : decode jdk_48_method_4_code 46 = .ok (.checkcast 60, 3) := by decide +kernel
theorem d_B19_49 : decode jdk_48_method_4_code 49 = .ok (.iload_n 1, 1) := by decide +kernel
theorem d_B19_50 : decode jdk_48_method_4_code 50 = .ok (.iload_n 2, 1) := by decide +kernel
theorem d_B19_51 : decode jdk_48_method_4_code 51 = .ok (.invokestatic 62, 3) := by decide +kernel
theorem d_B19_54 : decode jdk_48_method_4_code 54 = .ok (.goto 103, 3) := by decide +kernel
theorem d_B19_157 : decode jdk_48_method_4_code 157 = .ok (.ireturn, 1) := by decide +kernel
set_option maxRecDepth 65536 in
set_option maxHeartbeats 40000000 in
theorem own_rmVh (l : Launch) (Z : State) (a0 : Array Value) (hw : ∀ d ∈ tables_1, d.before a0 Z = true) (ws : List Jvm.Cond) (b0 : Addr) (z : Int32) (kb : ClassId) (x0 x1 x2 x3 x4 x5 : Int32) (h0 : Heap) (n0 : Nat) (Z0 : n0 ≤ h0.size) (V_b0 : Arv Z h0 b0 kb .byte z [(.int (own_b x0)), (.int (own_b x1)), (.int (own_b x2)), (.int (own_b x3)), (.int (own_b x4)), (.int (own_b x5))] (.int 0)) (E_b0 : Exa Z h0 b0 "[B") (h0z : ¬ z < (0 : Int32)) (hNz : ¬ (6 : Int32) < z) (l_x0 : ¬ x0 < (0 : Int32)) (u_x0 : ¬ (255 : Int32) < x0) (l_x1 : ¬ x1 < (0 : Int32)) (u_x1 : ¬ (255 : Int32) < x1) (l_x2 : ¬ x2 < (0 : Int32)) (u_x2 : ¬ (255 : Int32) < x2) (l_x3 : ¬ x3 < (0 : Int32)) (u_x3 : ¬ (255 : Int32) < x3) (l_x4 : ¬ x4 < (0 : Int32)) (u_x4 : ¬ (255 : Int32) < x4) (l_x5 : ¬ x5 < (0 : Int32)) (u_x5 : ¬ (255 : Int32) < x5) : own_M l Z (⟨"jdk/internal/util/ArraysSupport", "vectorizedHashCode", "(Ljava/lang/Object;IIII)I"⟩ : MethodName) jdk_48_method_4_code 5 (some .int) ws ({ frames := 1, cells := 0, slots := 0, locals := 17 } : Room) #[.ref b0, .int 0, .int z, .int 0, .int 4] h0 (own_QI (own_HH z x0 x1 x2 x3 x4 x5) h0 n0) := by
  refine own_begin (n0 := n0) (f0 := mkF ⟨0, 0⟩ 0 #[rv b0, iv 0, iv z, iv 0, iv 4] []) (plainFor_of_name own_pn5) (fun m => ef_11111_5 m _ _ _ _ _ rfl rfl rfl rfl rfl) ?_
  intro p e s m below meth c s₁ Bd hZ hx hby hml hown hnm X0 e0 N0
  obtain ⟨T1, X1, e1, st1⟩ := castY X0 hx hZ hown (wd hw 112 rfl) e0 (Ins.self E_b0) (g := (mkF m 46 #[rv b0, iv 0, iv z, iv 0, iv 4] [.ref b0, .int 0])) rfl rfl (hb hby d_B19_46)
  refine own_go (b := T1.setTop (mkF m 51 #[rv b0, iv 0, iv z, iv 0, iv 4] [.int z, .int 0, .ref b0, .int 0])) (fun t k => xiload X0 hx hby rfl d_B19_0 rfl (X0.tableswitchIn hx (g := (mkF m 2 #[rv b0, iv 0, iv z, iv 0, iv 4] [.int 4])) rfl rfl (hb hby d_B19_2) (by decide) (off := 42) (by decide) (by show (0 : Int) ≤ ((2 : Nat) : Int) + 42; decide) _ (xiloadN X0 hx hby rfl d_B19_44 rfl (xaloadN X0 hx hby rfl d_B19_45 rfl rfl (st1 _ (xiloadN X1 hx hby rfl d_B19_49 rfl (show Steps p.tables e below (T1.setTop (mkF m 50 #[rv b0, iv 0, iv z, iv 0, iv 4] [.int 0, .ref b0, .int 0])) _ from xiloadN X1 hx hby rfl d_B19_50 rfl k))))))) ?_
  refine own_cs X1 hx hZ hown hml e1 (wd hw 114 rfl) (wd hw 115 rfl) (wd hw 110 rfl) (wd hw 116 rfl) (own_rmSh l Z a0 hw [] b0 z kb x0 x1 x2 x3 x4 x5 h0 n0 Z0 V_b0 h0z hNz l_x0 u_x0 l_x1 u_x1 l_x2 u_x2 l_x3 u_x3 l_x4 u_x4 l_x5 u_x5) own_pd16 (hb hby d_B19_51) 0 [] rfl ⟨rfl, rfl, rfl, rfl, rfl⟩ (by decide) ?_
  rintro T2 L2 v2 X2 hQ2
  obtain ⟨rfl, N2q, e2⟩ := hQ2
  have N2 := Fr.app N0 N2q
  exact own_ret (v := some (.int (own_HH z x0 x1 x2 x3 x4 x5))) X2 e2 Bd.notSynchronized (nv Bd.returns) (fun fs hr => xgoto X2 hx hby rfl 54 157 rfl d_B19_54 (by decide) (by decide) (retI X2 hx Bd.returns (hb hby d_B19_157) hr)) ⟨rfl, N2, rfl⟩ (by decide)
theorem d_B20_0 : decode jdk_43_method_21_code 0 = .ok (.aload_n 0, 1) := by decide +kernel
theorem d_B20_1 : decode jdk_43_method_21_code 1 = .ok (.arraylength, 1) := by decide +kernel
theorem d_B20_2 : decode jdk_43_method_21_code 2 = .ok (.lookupswitch 40 #[(0, 26), (1, 30)], 26) := by decide +kernel
theorem d_B20_28 : decode jdk_43_method_21_code 28 = .ok (.iconst 0, 1) := by decide +kernel
theorem d_B20_29 : decode jdk_43_method_21_code 29 = .ok (.goto 22, 3) := by decide +kernel
theorem d_B20_32 : decode jdk_43_method_21_code 32 = .ok (.aload_n 0, 1) := by decide +kernel
theorem d_B20_33 : decode jdk_43_method_21_code 33 = .ok (.iconst 0, 1) := by decide +kernel
theorem d_B20_34 : decode jdk_43_method_21_code 34 = .ok (.baload, 1) := by decide +kernel
theorem d_B20_35 : decode jdk_43_method_21_code 35 = .ok (.sipush 255, 3) := by decide +kernel
theorem d_B20_38 : decode jdk_43_method_21_code 38 = .ok (.iand, 1) := by decide +kernel
theorem d_B20_39 : decode jdk_43_method_21_code 39 = .ok (.goto 12, 3) := by decide +kernel
theorem d_B20_42 : decode jdk_43_method_21_code 42 = .ok (.aload_n 0, 1) := by decide +kernel
theorem d_B20_43 : decode jdk_43_method_21_code 43 = .ok (.iconst 0, 1) := by decide +kernel
theorem d_B20_44 : decode jdk_43_method_21_code 44 = .ok (.aload_n 0, 1) := by decide +kernel
theorem d_B20_45 : decode jdk_43_method_21_code 45 = .ok (.arraylength, 1) := by decide +kernel
theorem d_B20_46 : decode jdk_43_method_21_code 46 = .ok (.iconst 0, 1) := by decide +kernel
theorem d_B20_47 : decode jdk_43_method_21_code 47 = .ok (.iconst 4, 1) := by decide +kernel
theorem d_B20_48 : decode jdk_43_method_21_code 48 = .ok (.invokestatic 84, 3) := by decide +kernel
theorem d_B20_51 : decode jdk_43_method_21_code 51 = .ok (.ireturn, 1) := by decide +kernel
set_option maxRecDepth 65536 in
set_option maxHeartbeats 40000000 in
theorem own_rmLh (l : Launch) (Z : State) (a0 : Array Value) (hw : ∀ d ∈ tables_1, d.before a0 Z = true) (ws : List Jvm.Cond) (b0 : Addr) (kb : ClassId) (z : Int32) (x0 x1 x2 x3 x4 x5 : Int32) (h0 : Heap) (n0 : Nat) (Z0 : n0 ≤ h0.size) (V_b0 : Arv Z h0 b0 kb .byte z [(.int (own_b x0)), (.int (own_b x1)), (.int (own_b x2)), (.int (own_b x3)), (.int (own_b x4)), (.int (own_b x5))] (.int 0)) (E_b0 : Exa Z h0 b0 "[B") (h0z : ¬ z < (0 : Int32)) (hNz : ¬ (6 : Int32) < z) (l_x0 : ¬ x0 < (0 : Int32)) (u_x0 : ¬ (255 : Int32) < x0) (l_x1 : ¬ x1 < (0 : Int32)) (u_x1 : ¬ (255 : Int32) < x1) (l_x2 : ¬ x2 < (0 : Int32)) (u_x2 : ¬ (255 : Int32) < x2) (l_x3 : ¬ x3 < (0 : Int32)) (u_x3 : ¬ (255 : Int32) < x3) (l_x4 : ¬ x4 < (0 : Int32)) (u_x4 : ¬ (255 : Int32) < x4) (l_x5 : ¬ x5 < (0 : Int32)) (u_x5 : ¬ (255 : Int32) < x5) : own_M l Z (⟨"java/lang/StringLatin1", "hashCode", "([B)I"⟩ : MethodName) jdk_43_method_21_code 1 (some .int) ws ({ frames := 2, cells := 0, slots := 0, locals := 33 } : Room) #[.ref b0] h0 (own_QI (own_HH z x0 x1 x2 x3 x4 x5) h0 n0) := by
  refine own_begin (n0 := n0) (f0 := mkF ⟨0, 0⟩ 0 #[rv b0] []) (plainFor_of_name own_pn3) (fun m => ef_1_1 m _ rfl) ?_
  intro p e s m below meth c s₁ Bd hZ hx hby hml hown hnm X0 e0 N0
  obtain ⟨cl1, Ar1, -, Sz1, M1, -, -⟩ := id V_b0
  refine own_go (b := s₁.setTop (mkF m 2 #[rv b0] [.int z])) (fun t k => ?_) ?_
  · refine xaloadN X0 hx hby rfl d_B20_0 rfl rfl (X0.arraylength hx (own_in e0 Ar1.1) (State.isArrayOf_alike hZ.alike Ar1.2.1) (g := (mkF m 1 #[rv b0] [.ref b0])) rfl rfl (hb hby d_B20_1) _ ?_)
    rw [len_of Sz1 M1]
    exact k
  by_cases hk0_2 : z = (0 : Int32)
  · refine own_go (b := s₁.setTop (mkF m 28 #[rv b0] [])) (fun t k => X0.lookupswitchHit hx (g := (mkF m 2 #[rv b0] [.int z])) rfl rfl (hb hby d_B20_2) (by decide) (a := 0) (off := 26) (by rw [hk0_2]; rfl) (by show (0 : Int) ≤ ((2 : Nat) : Int) + 26; decide) t k) ?_
    exact own_ret (v := some (.int 0)) X0 e0 Bd.notSynchronized (nv Bd.returns) (fun fs hr => xiconst X0 hx hby rfl d_B20_28 (xgoto X0 hx hby rfl 29 51 rfl d_B20_29 (by decide) (by decide) (retI X0 hx Bd.returns (hb hby d_B20_51) hr))) ⟨by rw [own_HH, if_neg (own_e0 hk0_2)], N0, rfl⟩ (by decide)
  by_cases hk1_3 : z = (1 : Int32)
  · refine own_go (b := s₁.setTop (mkF m 32 #[rv b0] [])) (fun t k => X0.lookupswitchHit hx (g := (mkF m 2 #[rv b0] [.int z])) rfl rfl (hb hby d_B20_2) (by decide) (a := 1) (off := 30) (by rw [hk1_3]; rfl) (by show (0 : Int) ≤ ((2 : Nat) : Int) + 30; decide) t k) ?_
    obtain ⟨cl4, Ar4, -, Sz4, M4, Hs4, Gs4⟩ := id V_b0
    have hin4 := inb_of (j := (0 : Int32)) Sz4 ⟨by decide, (own_e1 hk1_3).1⟩
    exact own_ret (v := some (.int ((own_b x0) &&& (255 : Int32)))) X0 e0 Bd.notSynchronized (nv Bd.returns) (fun fs hr => xaloadN X0 hx hby rfl d_B20_32 rfl rfl (xiconst X0 hx hby rfl d_B20_33 (X0.baloadBytes hx (j := (0 : Int32)) (v := (.int (own_b x0))) (own_in e0 Ar4.1) (State.isArrayOf_alike hZ.alike Ar4.2.1) Ar4.2.2 hin4 (Has.at Hs4 hin4 rfl) (g := (mkF m 34 #[rv b0] [.int 0, .ref b0])) rfl rfl (hb hby d_B20_34) _ (xsipush X0 hx hby rfl d_B20_35 (show Steps p.tables e below (s₁.setTop (mkF m 38 #[rv b0] [.int 255, (.int (own_b x0))])) _ from xiand X0 hx hby rfl d_B20_38 rfl (xgoto X0 hx hby rfl 39 51 rfl d_B20_39 (by decide) (by decide) (retI X0 hx Bd.returns (hb hby d_B20_51) hr))))))) ⟨by rw [own_b255 l_x0 u_x0, own_HH, if_pos (own_e1 hk1_3).1, if_neg (own_e1 hk1_3).2, own_zadd], N0, rfl⟩ (by decide)
  refine own_go (b := s₁.setTop (mkF m 42 #[rv b0] [])) (fun t k => X0.lookupswitchMiss hx (g := (mkF m 2 #[rv b0] [.int z])) rfl rfl (hb hby d_B20_2) (by decide) (own_miss hk0_2 hk1_3) (by show (0 : Int) ≤ ((2 : Nat) : Int) + 40; decide) t k) ?_
  obtain ⟨cl5, Ar5, -, Sz5, M5, -, -⟩ := id V_b0
  refine own_go (b := s₁.setTop (mkF m 48 #[rv b0] [.int 4, .int 0, .int z, .int 0, .ref b0])) (fun t k => ?_) ?_
  · refine xaloadN X0 hx hby rfl d_B20_42 rfl rfl (xiconst X0 hx hby rfl d_B20_43 (xaloadN X0 hx hby rfl d_B20_44 rfl rfl (X0.arraylength hx (own_in e0 Ar5.1) (State.isArrayOf_alike hZ.alike Ar5.2.1) (g := (mkF m 45 #[rv b0] [.ref b0, .int 0, .ref b0])) rfl rfl (hb hby d_B20_45) _ ?_)))
    rw [len_of Sz5 M5]
    refine xiconst X0 hx hby rfl d_B20_46 (xiconst X0 hx hby rfl d_B20_47 k)
  refine own_cs X0 hx hZ hown hml e0 (wd hw 108 rfl) (wd hw 109 rfl) (wd hw 110 rfl) (wd hw 111 rfl) (own_rmVh l Z a0 hw [] b0 z kb x0 x1 x2 x3 x4 x5 h0 n0 Z0 V_b0 E_b0 h0z hNz l_x0 u_x0 l_x1 u_x1 l_x2 u_x2 l_x3 u_x3 l_x4 u_x4 l_x5 u_x5) own_pd17 (hb hby d_B20_48) 0 [] rfl ⟨rfl, rfl, rfl, rfl, rfl⟩ (by decide) ?_
  rintro T6 L6 v6 X6 hQ6
  obtain ⟨rfl, N6q, e6⟩ := hQ6
  have N6 := Fr.app N0 N6q
  exact own_ret (v := some (.int (own_HH z x0 x1 x2 x3 x4 x5))) X6 e6 Bd.notSynchronized (nv Bd.returns) (fun fs hr => (retI X6 hx Bd.returns (hb hby d_B20_51) hr)) ⟨rfl, N6, rfl⟩ (by decide)
set_option maxRecDepth 65536 in
set_option maxHeartbeats 40000000 in
theorem own_rmLh0 (l : Launch) (Z : State) (a0 : Array Value) (hw : ∀ d ∈ tables_1, d.before a0 Z = true) (ws : List Jvm.Cond) (b0 : Addr) (kb : ClassId) (h0 : Heap) (n0 : Nat) (Z0 : n0 ≤ h0.size) (V_b0 : Arv Z h0 b0 kb .byte (0 : Int32) [] (.int 0)) : own_M l Z (⟨"java/lang/StringLatin1", "hashCode", "([B)I"⟩ : MethodName) jdk_43_method_21_code 1 (some .int) ws ({ frames := 0, cells := 0, slots := 0, locals := 0 } : Room) #[.ref b0] h0 (own_QI (0 : Int32) h0 n0) := by
  refine own_begin (n0 := n0) (f0 := mkF ⟨0, 0⟩ 0 #[rv b0] []) (plainFor_of_name own_pn3) (fun m => ef_1_1 m _ rfl) ?_
  intro p e s m below meth c s₁ Bd hZ hx hby hml hown hnm X0 e0 N0
  obtain ⟨cl1, Ar1, -, Sz1, M1, -, -⟩ := id V_b0
  refine own_ret (v := some (.int 0)) X0 e0 Bd.notSynchronized (nv Bd.returns) (fun fs hr => ?_) ⟨rfl, N0, rfl⟩ (by decide)
  refine xaloadN X0 hx hby rfl d_B20_0 rfl rfl (X0.arraylength hx (own_in e0 Ar1.1) (State.isArrayOf_alike hZ.alike Ar1.2.1) (g := (mkF m 1 #[rv b0] [.ref b0])) rfl rfl (hb hby d_B20_1) _ ?_)
  rw [len_of Sz1 M1]
  refine X0.lookupswitchHit hx (g := (mkF m 2 #[rv b0] [.int 0])) rfl rfl (hb hby d_B20_2) (by decide) (a := 0) (off := 26) (by decide) (by show (0 : Int) ≤ ((2 : Nat) : Int) + 26; decide) _ (xiconst X0 hx hby rfl d_B20_28 (xgoto X0 hx hby rfl 29 51 rfl d_B20_29 (by decide) (by decide) (retI X0 hx Bd.returns (hb hby d_B20_51) hr)))
theorem d_B21_0 : decode jdk_42_method_78_code 0 = .ok (.aload_n 0, 1) := by decide +kernel
theorem d_B21_1 : decode jdk_42_method_78_code 1 = .ok (.getfield 19, 3) := by decide +kernel
theorem d_B21_4 : decode jdk_42_method_78_code 4 = .ok (.istore_n 1, 1) := by decide +kernel
theorem d_B21_5 : decode jdk_42_method_78_code 5 = .ok (.iload_n 1, 1) := by decide +kernel
theorem d_B21_6 : decode jdk_42_method_78_code 6 = .ok (.ifCond .ne 52, 3) := by decide +kernel
theorem d_B21_9 : decode jdk_42_method_78_code 9 = .ok (.aload_n 0, 1) := by decide +kernel
theorem d_B21_10 : decode jdk_42_method_78_code 10 = .ok (.getfield 23, 3) := by decide +kernel
theorem d_B21_13 : decode jdk_42_method_78_code 13 = .ok (.ifCond .ne 45, 3) := by decide +kernel
theorem d_B21_16 : decode jdk_42_method_78_code 16 = .ok (.aload_n 0, 1) := by decide +kernel
theorem d_B21_17 : decode jdk_42_method_78_code 17 = .ok (.invokevirtual 492, 3) := by decide +kernel
theorem d_B21_20 : decode jdk_42_method_78_code 20 = .ok (.ifCond .eq 13, 3) := by decide +kernel
theorem d_B21_23 : decode jdk_42_method_78_code 23 = .ok (.aload_n 0, 1) := by decide +kernel
theorem d_B21_24 : decode jdk_42_method_78_code 24 = .ok (.getfield 9, 3) := by decide +kernel
theorem d_B21_27 : decode jdk_42_method_78_code 27 = .ok (.invokestatic 628, 3) := by decide +kernel
theorem d_B21_30 : decode jdk_42_method_78_code 30 = .ok (.goto 10, 3) := by decide +kernel
theorem d_B21_40 : decode jdk_42_method_78_code 40 = .ok (.istore_n 1, 1) := by decide +kernel
theorem d_B21_41 : decode jdk_42_method_78_code 41 = .ok (.iload_n 1, 1) := by decide +kernel
theorem d_B21_42 : decode jdk_42_method_78_code 42 = .ok (.ifCond .ne 11, 3) := by decide +kernel
theorem d_B21_45 : decode jdk_42_method_78_code 45 = .ok (.aload_n 0, 1) := by decide +kernel
theorem d_B21_46 : decode jdk_42_method_78_code 46 = .ok (.iconst 1, 1) := by decide +kernel
theorem d_B21_47 : decode jdk_42_method_78_code 47 = .ok (.putfield 23, 3) := by decide +kernel
theorem d_B21_50 : decode jdk_42_method_78_code 50 = .ok (.goto 8, 3) := by decide +kernel
theorem d_B21_53 : decode jdk_42_method_78_code 53 = .ok (.aload_n 0, 1) := by decide +kernel
theorem d_B21_54 : decode jdk_42_method_78_code 54 = .ok (.iload_n 1, 1) := by decide +kernel
theorem d_B21_55 : decode jdk_42_method_78_code 55 = .ok (.putfield 19, 3) := by decide +kernel
theorem d_B21_58 : decode jdk_42_method_78_code 58 = .ok (.iload_n 1, 1) := by decide +kernel
theorem d_B21_59 : decode jdk_42_method_78_code 59 = .ok (.ireturn, 1) := by decide +kernel
set_option maxRecDepth 65536 in
set_option maxHeartbeats 40000000 in
theorem own_rmHc (l : Launch) (Z : State) (a0 : Array Value) (hw : ∀ d ∈ tables_1, d.before a0 Z = true) (ws : List Jvm.Cond) (b0 : Addr) (v0 : Addr) (kv : ClassId) (z : Int32) (cs : Int32) (x0 x1 x2 x3 x4 x5 : Int32) (h0 : Heap) (n0 : Nat) (Z0 : n0 ≤ h0.size) (E_b0 : Exa Z h0 b0 "java/lang/String") (F_cb0 : Fld Z h0 b0 "java/lang/String" "coder" "B" (.int 0)) (F_vb0 : Fld Z h0 b0 "java/lang/String" "value" "[B" (.ref v0)) (V_v0 : Arv Z h0 v0 kv .byte z [(.int (own_b x0)), (.int (own_b x1)), (.int (own_b x2)), (.int (own_b x3)), (.int (own_b x4)), (.int (own_b x5))] (.int 0)) (F_hb0 : Fld Z h0 b0 "java/lang/String" "hash" "I" (.int 0)) (F_zb0 : Fld Z h0 b0 "java/lang/String" "hashIsZero" "Z" (.int 0)) (E_v0 : Exa Z h0 v0 "[B") (S_cs : Sta Z h0 "java/lang/String" "COMPACT_STRINGS" "Z" (.int cs)) (hcs : ¬ cs = (0 : Int32)) (g_0 : n0 ≤ b0) (h0z : ¬ z < (0 : Int32)) (hNz : ¬ (6 : Int32) < z) (l_x0 : ¬ x0 < (0 : Int32)) (u_x0 : ¬ (255 : Int32) < x0) (l_x1 : ¬ x1 < (0 : Int32)) (u_x1 : ¬ (255 : Int32) < x1) (l_x2 : ¬ x2 < (0 : Int32)) (u_x2 : ¬ (255 : Int32) < x2) (l_x3 : ¬ x3 < (0 : Int32)) (u_x3 : ¬ (255 : Int32) < x3) (l_x4 : ¬ x4 < (0 : Int32)) (u_x4 : ¬ (255 : Int32) < x4) (l_x5 : ¬ x5 < (0 : Int32)) (u_x5 : ¬ (255 : Int32) < x5) : own_M l Z (⟨"java/lang/String", "hashCode", "()I"⟩ : MethodName) jdk_42_method_78_code 2 (some .int) ws ({ frames := 3, cells := 0, slots := 0, locals := 45 } : Room) #[.ref b0] h0 (own_QH (own_HH z x0 x1 x2 x3 x4 x5) h0 n0) := by
  refine own_begin (n0 := n0) (f0 := mkF ⟨0, 0⟩ 0 #[rv b0, .unset] []) (plainFor_of_name own_pn0) (fun m => ef_1_2 m _ rfl) ?_
  intro p e s m below meth c s₁ Bd hZ hx hby hml hown hnm X0 e0 N0
  obtain ⟨T1, X1, e1, st1⟩ := getF X0 hx hZ hown (host := "") (Or.inl (wd hw 68 rfl)) Via.refl e0 F_hb0 (g := (mkF m 1 #[rv b0, .unset] [.ref b0])) rfl rfl (hb hby d_B21_1)
  obtain ⟨T2, X2, e2, st2⟩ := getF X1 hx hZ hown (host := "") (Or.inl (wd hw 70 rfl)) Via.refl e1 F_zb0 (g := (mkF m 10 #[rv b0, iv 0] [.ref b0])) rfl rfl (hb hby d_B21_10)
  refine own_go (b := T2.setTop (mkF m 17 #[rv b0, iv 0] [.ref b0])) (fun t k => xaloadN X0 hx hby rfl d_B21_0 rfl rfl (st1 _ (xistoreN X1 hx hby rfl d_B21_4 rfl (l' := #[rv b0, iv 0]) rfl (xiloadN X1 hx hby rfl d_B21_5 rfl (xifNo X1 hx hby rfl d_B21_6 rfl ((if0 _ _).trans (teq ((by decide) : (0 : Int32) = (0 : Int32))).2) (xaloadN X1 hx hby rfl d_B21_9 rfl rfl (show Steps p.tables e below (T1.setTop (mkF m 10 #[rv b0, iv 0] [.ref b0])) _ from st2 _ (xifNo X2 hx hby rfl d_B21_13 rfl ((if0 _ _).trans (teq ((by decide) : (0 : Int32) = (0 : Int32))).2) (xaloadN X2 hx hby rfl d_B21_16 rfl rfl k))))))))) ?_
  refine own_cv X2 hx hZ hown hml e2 (wd hw 72 rfl) (wd hw 73 rfl) (wd hw 75 rfl) (wd hw 74 rfl) (wd hw 15 rfl) (wd hw 76 rfl) E_b0 (own_rmIl l Z a0 hw [] b0 cs h0 n0 Z0 F_cb0 S_cs hcs) own_pd7 (hb hby d_B21_17) 0 [] rfl rfl ⟨rfl, rfl, rfl, rfl, rfl⟩ (by decide) ?_
  rintro T3 L3 v3 X3 hQ3
  obtain ⟨rfl, N3q, e3⟩ := hQ3
  have N3 := Fr.app N0 N3q
  obtain ⟨T4, X4, e4, st4⟩ := getF X3 hx hZ hown (host := "") (Or.inl (wd hw 31 rfl)) Via.refl e3 F_vb0 (g := (mkF m 24 #[rv b0, iv 0] [.ref b0])) rfl rfl (hb hby d_B21_24)
  refine own_go (b := T4.setTop (mkF m 27 #[rv b0, iv 0] [.ref v0])) (fun t k => xifNo X3 hx hby rfl d_B21_20 rfl ((if0 _ _).trans (feq ((by decide) : ¬ ((1 : Int32) = (0 : Int32)))).1) (xaloadN X3 hx hby rfl d_B21_23 rfl rfl (st4 _ k))) ?_
  refine own_cs X4 hx hZ hown hml e4 (wd hw 77 rfl) (wd hw 78 rfl) (wd hw 79 rfl) (wd hw 80 rfl) (own_rmLh l Z a0 hw [] v0 kv z x0 x1 x2 x3 x4 x5 h0 n0 Z0 V_v0 E_v0 h0z hNz l_x0 u_x0 l_x1 u_x1 l_x2 u_x2 l_x3 u_x3 l_x4 u_x4 l_x5 u_x5) own_pd18 (hb hby d_B21_27) 0 [] rfl ⟨rfl, rfl, rfl, rfl, rfl⟩ (by decide) ?_
  rintro T5 L5 v5 X5 hQ5
  obtain ⟨rfl, N5q, e5⟩ := hQ5
  have N5 := Fr.app N3 N5q
  refine own_go (b := T5.setTop (mkF m 42 #[rv b0, iv (own_HH z x0 x1 x2 x3 x4 x5)] [(.int (own_HH z x0 x1 x2 x3 x4 x5))])) (fun t k => xgoto X5 hx hby rfl 30 40 rfl d_B21_30 (by decide) (by decide) (xistoreN X5 hx hby rfl d_B21_40 rfl (l' := #[rv b0, iv (own_HH z x0 x1 x2 x3 x4 x5)]) rfl (xiloadN X5 hx hby rfl d_B21_41 rfl k))) ?_
  by_cases hc42_6 : (own_HH z x0 x1 x2 x3 x4 x5) = (0 : Int32)
  · obtain ⟨T7, h7, X7, e7, W7, st7⟩ := putFN X5 hx hZ hown (wd hw 70 rfl) Via.refl e5 F_zb0 E_b0 (Or.inl (wd hw 71 rfl)) (wd hw 14 rfl) (ty := .boolean) (v' := (.int (nar .boolean (1 : Int32)))) (by decide) rfl (fits_nar_bool _) (g := (mkF m 47 #[rv b0, iv (own_HH z x0 x1 x2 x3 x4 x5)] [.int 1, .ref b0])) rfl rfl (hb hby d_B21_47)
    have E_b0_7 := E_b0.wr W7
    have F_b0_hash_7 := F_hb0.other W7 (Or.inr (slot_ne (Or.inl (wd hw 69 rfl)) (Or.inl (wd hw 71 rfl)) (by decide) (t := .int) (t' := .boolean) (by decide) (by decide)))
    have K7 := (Keep.refl h0 [b0]).wr W7 (Or.inl (List.mem_of_getElem? (i := 0) rfl))
    have N7 := Fr.snoc X7 N5 g_0
    have F_b0_hashIsZero_7 := F_zb0.same W7
    exact own_ret (v := some (.int (own_HH z x0 x1 x2 x3 x4 x5))) X7 e7 Bd.notSynchronized (nv Bd.returns) (fun fs hr => xifNo X5 hx hby rfl d_B21_42 rfl ((if0 _ _).trans (teq hc42_6).2) (xaloadN X5 hx hby rfl d_B21_45 rfl rfl (xiconst X5 hx hby rfl d_B21_46 (st7 _ (xgoto X7 hx hby rfl 50 58 rfl d_B21_50 (by decide) (by decide) (xiloadN X7 hx hby rfl d_B21_58 rfl (retI X7 hx Bd.returns (hb hby d_B21_59) hr))))))) ⟨rfl, N7, K7.1⟩ (by decide)
  · obtain ⟨T8, h8, X8, e8, W8, st8⟩ := putF X5 hx hZ hown (host := "") (Or.inl (wd hw 68 rfl)) Via.refl e5 F_hb0 E_b0 (Or.inl (wd hw 69 rfl)) (wd hw 14 rfl) (ty := .int) (by decide) rfl rfl (g := (mkF m 55 #[rv b0, iv (own_HH z x0 x1 x2 x3 x4 x5)] [(.int (own_HH z x0 x1 x2 x3 x4 x5)), .ref b0])) rfl rfl (hb hby d_B21_55)
    have E_b0_8 := E_b0.wr W8
    have F_b0_hashIsZero_8 := F_zb0.other W8 (Or.inr (slot_ne (Or.inl (wd hw 71 rfl)) (Or.inl (wd hw 69 rfl)) (by decide) (t := .boolean) (t' := .int) (by decide) (by decide)))
    have K8 := (Keep.refl h0 [b0]).wr W8 (Or.inl (List.mem_of_getElem? (i := 0) rfl))
    have N8 := Fr.snoc X8 N5 g_0
    have F_b0_hash_8 := F_hb0.same W8
    exact own_ret (v := some (.int (own_HH z x0 x1 x2 x3 x4 x5))) X8 e8 Bd.notSynchronized (nv Bd.returns) (fun fs hr => xifYes X5 hx hby rfl 42 53 rfl d_B21_42 rfl ((if0 _ _).trans (feq hc42_6).2) (by decide) (by decide) (xaloadN X5 hx hby rfl d_B21_53 rfl rfl (xiloadN X5 hx hby rfl d_B21_54 rfl (st8 _ (xiloadN X8 hx hby rfl d_B21_58 rfl (retI X8 hx Bd.returns (hb hby d_B21_59) hr)))))) ⟨rfl, N8, K8.1⟩ (by decide)
theorem d_B22_0 : decode prog_68_method_6_code 0 = .ok (.aload_n 0, 1) := by decide +kernel
theorem d_B22_1 : decode prog_68_method_6_code 1 = .ok (.invokevirtual 62, 3) := by decide +kernel
theorem d_B22_4 : decode prog_68_method_6_code 4 = .ok (.invokestatic 68, 3) := by decide +kernel
theorem d_B22_7 : decode prog_68_method_6_code 7 = .ok (.ireturn, 1) := by decide +kernel
set_option maxRecDepth 65536 in
set_option maxHeartbeats 40000000 in
theorem own_rmHs (l : Launch) (Z : State) (a0 : Array Value) (hw : ∀ d ∈ tables_1, d.before a0 Z = true) (ws : List Jvm.Cond) (b0 : Addr) (v0 : Addr) (kv : ClassId) (z : Int32) (cs : Int32) (x0 x1 x2 x3 x4 x5 : Int32) (h0 : Heap) (n0 : Nat) (Z0 : n0 ≤ h0.size) (E_b0 : Exa Z h0 b0 "java/lang/String") (F_cb0 : Fld Z h0 b0 "java/lang/String" "coder" "B" (.int 0)) (F_vb0 : Fld Z h0 b0 "java/lang/String" "value" "[B" (.ref v0)) (V_v0 : Arv Z h0 v0 kv .byte z [(.int (own_b x0)), (.int (own_b x1)), (.int (own_b x2)), (.int (own_b x3)), (.int (own_b x4)), (.int (own_b x5))] (.int 0)) (F_hb0 : Fld Z h0 b0 "java/lang/String" "hash" "I" (.int 0)) (F_zb0 : Fld Z h0 b0 "java/lang/String" "hashIsZero" "Z" (.int 0)) (E_v0 : Exa Z h0 v0 "[B") (S_cs : Sta Z h0 "java/lang/String" "COMPACT_STRINGS" "Z" (.int cs)) (hcs : ¬ cs = (0 : Int32)) (g_0 : n0 ≤ b0) (h0z : ¬ z < (0 : Int32)) (hNz : ¬ (6 : Int32) < z) (l_x0 : ¬ x0 < (0 : Int32)) (u_x0 : ¬ (255 : Int32) < x0) (l_x1 : ¬ x1 < (0 : Int32)) (u_x1 : ¬ (255 : Int32) < x1) (l_x2 : ¬ x2 < (0 : Int32)) (u_x2 : ¬ (255 : Int32) < x2) (l_x3 : ¬ x3 < (0 : Int32)) (u_x3 : ¬ (255 : Int32) < x3) (l_x4 : ¬ x4 < (0 : Int32)) (u_x4 : ¬ (255 : Int32) < x4) (l_x5 : ¬ x5 < (0 : Int32)) (u_x5 : ¬ (255 : Int32) < x5) : own_M l Z (⟨"com/example/rollcall/rollcall/users/CaselessIndex", "hash", "(Ljava/lang/String;)I"⟩ : MethodName) prog_68_method_6_code 1 (some .int) ws ({ frames := 4, cells := 0, slots := 0, locals := 58 } : Room) #[.ref b0] h0 (own_QH (own_sp (own_HH z x0 x1 x2 x3 x4 x5)) h0 n0) := by
  refine own_begin (n0 := n0) (f0 := mkF ⟨0, 0⟩ 0 #[rv b0] []) (plainFor_of_name own_pn4) (fun m => ef_1_1 m _ rfl) ?_
  intro p e s m below meth c s₁ Bd hZ hx hby hml hown hnm X0 e0 N0
  refine own_go (b := s₁.setTop (mkF m 1 #[rv b0] [.ref b0])) (fun t k => xaloadN X0 hx hby rfl d_B22_0 rfl rfl k) ?_
  refine own_cv X0 hx hZ hown hml e0 (wd hw 63 rfl) (wd hw 64 rfl) (wd hw 66 rfl) (wd hw 65 rfl) (wd hw 15 rfl) (wd hw 67 rfl) E_b0 (own_rmHc l Z a0 hw [] b0 v0 kv z cs x0 x1 x2 x3 x4 x5 h0 n0 Z0 E_b0 F_cb0 F_vb0 V_v0 F_hb0 F_zb0 E_v0 S_cs hcs g_0 h0z hNz l_x0 u_x0 l_x1 u_x1 l_x2 u_x2 l_x3 u_x3 l_x4 u_x4 l_x5 u_x5) own_pd11 (hb hby d_B22_1) 0 [] rfl rfl ⟨rfl, rfl, rfl, rfl, rfl⟩ (by decide) ?_
  rintro T1 L1 v1 X1 hQ1
  obtain ⟨rfl, N1q, hz1⟩ := hQ1
  have N1 := Fr.app N0 N1q
  refine own_go (b := T1.setTop (mkF m 4 #[rv b0] [(.int (own_HH z x0 x1 x2 x3 x4 x5))])) (fun t k => ?_) ?_
  · exact k
  refine own_cs X1 hx hZ hown hml rfl (wd hw 37 rfl) (wd hw 38 rfl) (wd hw 35 rfl) (wd hw 39 rfl) (own_rmSp l Z a0 hw [] (own_HH z x0 x1 x2 x3 x4 x5) T1.heap n0 (Nat.le_trans Z0 hz1) ) own_pd19 (hb hby d_B22_4) 0 [] rfl ⟨rfl, rfl, rfl, rfl, rfl⟩ (by decide) ?_
  rintro T2 L2 v2 X2 hQ2
  obtain ⟨rfl, N2q, e2⟩ := hQ2
  have N2 := Fr.app N1 N2q
  exact own_ret (v := some (.int (own_sp (own_HH z x0 x1 x2 x3 x4 x5)))) X2 e2 Bd.notSynchronized (nv Bd.returns) (fun fs hr => (retI X2 hx Bd.returns (hb hby d_B22_7) hr)) ⟨rfl, N2, hz1⟩ (by decide)
set_option maxRecDepth 65536 in
set_option maxHeartbeats 40000000 in
theorem own_rmHc0 (l : Launch) (Z : State) (a0 : Array Value) (hw : ∀ d ∈ tables_1, d.before a0 Z = true) (ws : List Jvm.Cond) (b0 : Addr) (v0 : Addr) (kv : ClassId) (cs : Int32) (h0 : Heap) (n0 : Nat) (Z0 : n0 ≤ h0.size) (E_b0 : Exa Z h0 b0 "java/lang/String") (F_cb0 : Fld Z h0 b0 "java/lang/String" "coder" "B" (.int 0)) (F_vb0 : Fld Z h0 b0 "java/lang/String" "value" "[B" (.ref v0)) (V_v0 : Arv Z h0 v0 kv .byte (0 : Int32) [] (.int 0)) (F_hb0 : Fld Z h0 b0 "java/lang/String" "hash" "I" (.int 0)) (F_zb0 : Fld Z h0 b0 "java/lang/String" "hashIsZero" "Z" (.int 0)) (S_cs : Sta Z h0 "java/lang/String" "COMPACT_STRINGS" "Z" (.int cs)) (hcs : ¬ cs = (0 : Int32)) (g_0 : n0 ≤ b0) : own_M l Z (⟨"java/lang/String", "hashCode", "()I"⟩ : MethodName) jdk_42_method_78_code 2 (some .int) ws ({ frames := 1, cells := 0, slots := 0, locals := 12 } : Room) #[.ref b0] h0 (own_QH (0 : Int32) h0 n0) := by
  refine own_begin (n0 := n0) (f0 := mkF ⟨0, 0⟩ 0 #[rv b0, .unset] []) (plainFor_of_name own_pn0) (fun m => ef_1_2 m _ rfl) ?_
  intro p e s m below meth c s₁ Bd hZ hx hby hml hown hnm X0 e0 N0
  obtain ⟨T1, X1, e1, st1⟩ := getF X0 hx hZ hown (host := "") (Or.inl (wd hw 68 rfl)) Via.refl e0 F_hb0 (g := (mkF m 1 #[rv b0, .unset] [.ref b0])) rfl rfl (hb hby d_B21_1)
  obtain ⟨T2, X2, e2, st2⟩ := getF X1 hx hZ hown (host := "") (Or.inl (wd hw 70 rfl)) Via.refl e1 F_zb0 (g := (mkF m 10 #[rv b0, iv 0] [.ref b0])) rfl rfl (hb hby d_B21_10)
  refine own_go (b := T2.setTop (mkF m 17 #[rv b0, iv 0] [.ref b0])) (fun t k => xaloadN X0 hx hby rfl d_B21_0 rfl rfl (st1 _ (xistoreN X1 hx hby rfl d_B21_4 rfl (l' := #[rv b0, iv 0]) rfl (xiloadN X1 hx hby rfl d_B21_5 rfl (xifNo X1 hx hby rfl d_B21_6 rfl ((if0 _ _).trans (teq ((by decide) : (0 : Int32) = (0 : Int32))).2) (xaloadN X1 hx hby rfl d_B21_9 rfl rfl (show Steps p.tables e below (T1.setTop (mkF m 10 #[rv b0, iv 0] [.ref b0])) _ from st2 _ (xifNo X2 hx hby rfl d_B21_13 rfl ((if0 _ _).trans (teq ((by decide) : (0 : Int32) = (0 : Int32))).2) (xaloadN X2 hx hby rfl d_B21_16 rfl rfl k))))))))) ?_
  refine own_cv X2 hx hZ hown hml e2 (wd hw 72 rfl) (wd hw 73 rfl) (wd hw 75 rfl) (wd hw 74 rfl) (wd hw 15 rfl) (wd hw 76 rfl) E_b0 (own_rmIl l Z a0 hw [] b0 cs h0 n0 Z0 F_cb0 S_cs hcs) own_pd7 (hb hby d_B21_17) 0 [] rfl rfl ⟨rfl, rfl, rfl, rfl, rfl⟩ (by decide) ?_
  rintro T3 L3 v3 X3 hQ3
  obtain ⟨rfl, N3q, e3⟩ := hQ3
  have N3 := Fr.app N0 N3q
  obtain ⟨T4, X4, e4, st4⟩ := getF X3 hx hZ hown (host := "") (Or.inl (wd hw 31 rfl)) Via.refl e3 F_vb0 (g := (mkF m 24 #[rv b0, iv 0] [.ref b0])) rfl rfl (hb hby d_B21_24)
  refine own_go (b := T4.setTop (mkF m 27 #[rv b0, iv 0] [.ref v0])) (fun t k => xifNo X3 hx hby rfl d_B21_20 rfl ((if0 _ _).trans (feq ((by decide) : ¬ ((1 : Int32) = (0 : Int32)))).1) (xaloadN X3 hx hby rfl d_B21_23 rfl rfl (st4 _ k))) ?_
  refine own_cs X4 hx hZ hown hml e4 (wd hw 77 rfl) (wd hw 78 rfl) (wd hw 79 rfl) (wd hw 80 rfl) (own_rmLh0 l Z a0 hw [] v0 kv h0 n0 Z0 V_v0 ) own_pd18 (hb hby d_B21_27) 0 [] rfl ⟨rfl, rfl, rfl, rfl, rfl⟩ (by decide) ?_
  rintro T5 L5 v5 X5 hQ5
  obtain ⟨rfl, N5q, e5⟩ := hQ5
  have N5 := Fr.app N3 N5q
  obtain ⟨T6, h6, X6, e6, W6, st6⟩ := putFN X5 hx hZ hown (wd hw 70 rfl) Via.refl e5 F_zb0 E_b0 (Or.inl (wd hw 71 rfl)) (wd hw 14 rfl) (ty := .boolean) (v' := (.int (nar .boolean (1 : Int32)))) (by decide) rfl (fits_nar_bool _) (g := (mkF m 47 #[rv b0, iv 0] [.int 1, .ref b0])) rfl rfl (hb hby d_B21_47)
  have E_b0_6 := E_b0.wr W6
  have F_b0_hash_6 := F_hb0.other W6 (Or.inr (slot_ne (Or.inl (wd hw 69 rfl)) (Or.inl (wd hw 71 rfl)) (by decide) (t := .int) (t' := .boolean) (by decide) (by decide)))
  have K6 := (Keep.refl h0 [b0]).wr W6 (Or.inl (List.mem_of_getElem? (i := 0) rfl))
  have N6 := Fr.snoc X6 N5 g_0
  have F_b0_hashIsZero_6 := F_zb0.same W6
  exact own_ret (v := some (.int 0)) X6 e6 Bd.notSynchronized (nv Bd.returns) (fun fs hr => xgoto X5 hx hby rfl 30 40 rfl d_B21_30 (by decide) (by decide) (xistoreN X5 hx hby rfl d_B21_40 rfl (l' := #[rv b0, iv 0]) rfl (xiloadN X5 hx hby rfl d_B21_41 rfl (xifNo X5 hx hby rfl d_B21_42 rfl ((if0 _ _).trans (teq ((by decide) : (0 : Int32) = (0 : Int32))).2) (xaloadN X5 hx hby rfl d_B21_45 rfl rfl (xiconst X5 hx hby rfl d_B21_46 (show Steps p.tables e below (T5.setTop (mkF m 47 #[rv b0, iv 0] [.int 1, .ref b0])) _ from st6 _ (xgoto X6 hx hby rfl 50 58 rfl d_B21_50 (by decide) (by decide) (xiloadN X6 hx hby rfl d_B21_58 rfl (retI X6 hx Bd.returns (hb hby d_B21_59) hr)))))))))) ⟨rfl, N6, K6.1⟩ (by decide)
set_option maxRecDepth 65536 in
set_option maxHeartbeats 40000000 in
theorem own_rmHs0 (l : Launch) (Z : State) (a0 : Array Value) (hw : ∀ d ∈ tables_1, d.before a0 Z = true) (ws : List Jvm.Cond) (b0 : Addr) (v0 : Addr) (kv : ClassId) (cs : Int32) (h0 : Heap) (n0 : Nat) (Z0 : n0 ≤ h0.size) (E_b0 : Exa Z h0 b0 "java/lang/String") (F_cb0 : Fld Z h0 b0 "java/lang/String" "coder" "B" (.int 0)) (F_vb0 : Fld Z h0 b0 "java/lang/String" "value" "[B" (.ref v0)) (V_v0 : Arv Z h0 v0 kv .byte (0 : Int32) [] (.int 0)) (F_hb0 : Fld Z h0 b0 "java/lang/String" "hash" "I" (.int 0)) (F_zb0 : Fld Z h0 b0 "java/lang/String" "hashIsZero" "Z" (.int 0)) (S_cs : Sta Z h0 "java/lang/String" "COMPACT_STRINGS" "Z" (.int cs)) (hcs : ¬ cs = (0 : Int32)) (g_0 : n0 ≤ b0) : own_M l Z (⟨"com/example/rollcall/rollcall/users/CaselessIndex", "hash", "(Ljava/lang/String;)I"⟩ : MethodName) prog_68_method_6_code 1 (some .int) ws ({ frames := 2, cells := 0, slots := 0, locals := 25 } : Room) #[.ref b0] h0 (own_QH (own_sp (0 : Int32)) h0 n0) := by
  refine own_begin (n0 := n0) (f0 := mkF ⟨0, 0⟩ 0 #[rv b0] []) (plainFor_of_name own_pn4) (fun m => ef_1_1 m _ rfl) ?_
  intro p e s m below meth c s₁ Bd hZ hx hby hml hown hnm X0 e0 N0
  refine own_go (b := s₁.setTop (mkF m 1 #[rv b0] [.ref b0])) (fun t k => xaloadN X0 hx hby rfl d_B22_0 rfl rfl k) ?_
  refine own_cv X0 hx hZ hown hml e0 (wd hw 63 rfl) (wd hw 64 rfl) (wd hw 66 rfl) (wd hw 65 rfl) (wd hw 15 rfl) (wd hw 67 rfl) E_b0 (own_rmHc0 l Z a0 hw [] b0 v0 kv cs h0 n0 Z0 E_b0 F_cb0 F_vb0 V_v0 F_hb0 F_zb0 S_cs hcs g_0 ) own_pd11 (hb hby d_B22_1) 0 [] rfl rfl ⟨rfl, rfl, rfl, rfl, rfl⟩ (by decide) ?_
  rintro T1 L1 v1 X1 hQ1
  obtain ⟨rfl, N1q, hz1⟩ := hQ1
  have N1 := Fr.app N0 N1q
  refine own_go (b := T1.setTop (mkF m 4 #[rv b0] [.int 0])) (fun t k => ?_) ?_
  · exact k
  refine own_cs X1 hx hZ hown hml rfl (wd hw 37 rfl) (wd hw 38 rfl) (wd hw 35 rfl) (wd hw 39 rfl) (own_rmSp l Z a0 hw [] (0 : Int32) T1.heap n0 (Nat.le_trans Z0 hz1) ) own_pd19 (hb hby d_B22_4) 0 [] rfl ⟨rfl, rfl, rfl, rfl, rfl⟩ (by decide) ?_
  rintro T2 L2 v2 X2 hQ2
  obtain ⟨rfl, N2q, e2⟩ := hQ2
  have N2 := Fr.app N1 N2q
  exact own_ret (v := some (.int (own_sp (0 : Int32)))) X2 e2 Bd.notSynchronized (nv Bd.returns) (fun fs hr => (retI X2 hx Bd.returns (hb hby d_B22_7) hr)) ⟨rfl, N2, hz1⟩ (by decide)
def own_AH (n z0 z1 z2 z3 z4 z5 : Int32) : Int64 := if (0 : Int32) < n then (if z0 < (0 : Int32) then (-1 : Int64) else if (1 : Int32) < n then (if z1 < (0 : Int32) then (-1 : Int64) else if (2 : Int32) < n then (if z2 < (0 : Int32) then (-1 : Int64) else if (3 : Int32) < n then (if z3 < (0 : Int32) then (-1 : Int64) else if (4 : Int32) < n then (if z4 < (0 : Int32) then (-1 : Int64) else if (5 : Int32) < n then (if z5 < (0 : Int32) then (-1 : Int64) else ((own_sp (((31 : Int32) * (((31 : Int32) * (((31 : Int32) * (((31 : Int32) * (((31 : Int32) * ((0 : Int32) + (own_lo z0))) + (own_lo z1))) + (own_lo z2))) + (own_lo z3))) + (own_lo z4))) + (own_lo z5))).toInt64 &&& (4294967295 : Int64))) else ((own_sp (((31 : Int32) * (((31 : Int32) * (((31 : Int32) * (((31 : Int32) * ((0 : Int32) + (own_lo z0))) + (own_lo z1))) + (own_lo z2))) + (own_lo z3))) + (own_lo z4))).toInt64 &&& (4294967295 : Int64))) else ((own_sp (((31 : Int32) * (((31 : Int32) * (((31 : Int32) * ((0 : Int32) + (own_lo z0))) + (own_lo z1))) + (own_lo z2))) + (own_lo z3))).toInt64 &&& (4294967295 : Int64))) else ((own_sp (((31 : Int32) * (((31 : Int32) * ((0 : Int32) + (own_lo z0))) + (own_lo z1))) + (own_lo z2))).toInt64 &&& (4294967295 : Int64))) else ((own_sp (((31 : Int32) * ((0 : Int32) + (own_lo z0))) + (own_lo z1))).toInt64 &&& (4294967295 : Int64))) else ((own_sp ((0 : Int32) + (own_lo z0))).toInt64 &&& (4294967295 : Int64))) else ((own_sp (0 : Int32)).toInt64 &&& (4294967295 : Int64))
theorem own_AHm0 {n z0 z1 z2 z3 z4 z5 : Int32} (c0 : (0 : Int32) < n) (h : z0 < (0 : Int32)) : own_AH n z0 z1 z2 z3 z4 z5 = (-1 : Int64) := by
  unfold own_AH
  rw [if_pos c0, if_pos h]
theorem own_AHm1 {n z0 z1 z2 z3 z4 z5 : Int32} (c0 : (0 : Int32) < n) (c1 : (1 : Int32) < n) (h : z1 < (0 : Int32)) : own_AH n z0 z1 z2 z3 z4 z5 = (-1 : Int64) := by
  unfold own_AH
  by_cases h0 : z0 < (0 : Int32)
  · rw [if_pos c0, if_pos h0]
  rw [if_pos c0, if_neg h0, if_pos c1, if_pos h]
theorem own_AHm2 {n z0 z1 z2 z3 z4 z5 : Int32} (c0 : (0 : Int32) < n) (c1 : (1 : Int32) < n) (c2 : (2 : Int32) < n) (h : z2 < (0 : Int32)) : own_AH n z0 z1 z2 z3 z4 z5 = (-1 : Int64) := by
  unfold own_AH
  by_cases h0 : z0 < (0 : Int32)
  · rw [if_pos c0, if_pos h0]
  by_cases h1 : z1 < (0 : Int32)
  · rw [if_pos c0, if_neg h0, if_pos c1, if_pos h1]
  rw [if_pos c0, if_neg h0, if_pos c1, if_neg h1, if_pos c2, if_pos h]
theorem own_AHm3 {n z0 z1 z2 z3 z4 z5 : Int32} (c0 : (0 : Int32) < n) (c1 : (1 : Int32) < n) (c2 : (2 : Int32) < n) (c3 : (3 : Int32) < n) (h : z3 < (0 : Int32)) : own_AH n z0 z1 z2 z3 z4 z5 = (-1 : Int64) := by
  unfold own_AH
  by_cases h0 : z0 < (0 : Int32)
  · rw [if_pos c0, if_pos h0]
  by_cases h1 : z1 < (0 : Int32)
  · rw [if_pos c0, if_neg h0, if_pos c1, if_pos h1]
  by_cases h2 : z2 < (0 : Int32)
  · rw [if_pos c0, if_neg h0, if_pos c1, if_neg h1, if_pos c2, if_pos h2]
  rw [if_pos c0, if_neg h0, if_pos c1, if_neg h1, if_pos c2, if_neg h2, if_pos c3, if_pos h]
theorem own_AHm4 {n z0 z1 z2 z3 z4 z5 : Int32} (c0 : (0 : Int32) < n) (c1 : (1 : Int32) < n) (c2 : (2 : Int32) < n) (c3 : (3 : Int32) < n) (c4 : (4 : Int32) < n) (h : z4 < (0 : Int32)) : own_AH n z0 z1 z2 z3 z4 z5 = (-1 : Int64) := by
  unfold own_AH
  by_cases h0 : z0 < (0 : Int32)
  · rw [if_pos c0, if_pos h0]
  by_cases h1 : z1 < (0 : Int32)
  · rw [if_pos c0, if_neg h0, if_pos c1, if_pos h1]
  by_cases h2 : z2 < (0 : Int32)
  · rw [if_pos c0, if_neg h0, if_pos c1, if_neg h1, if_pos c2, if_pos h2]
  by_cases h3 : z3 < (0 : Int32)
  · rw [if_pos c0, if_neg h0, if_pos c1, if_neg h1, if_pos c2, if_neg h2, if_pos c3, if_pos h3]
  rw [if_pos c0, if_neg h0, if_pos c1, if_neg h1, if_pos c2, if_neg h2, if_pos c3, if_neg h3, if_pos c4, if_pos h]
theorem own_AHm5 {n z0 z1 z2 z3 z4 z5 : Int32} (c0 : (0 : Int32) < n) (c1 : (1 : Int32) < n) (c2 : (2 : Int32) < n) (c3 : (3 : Int32) < n) (c4 : (4 : Int32) < n) (c5 : (5 : Int32) < n) (h : z5 < (0 : Int32)) : own_AH n z0 z1 z2 z3 z4 z5 = (-1 : Int64) := by
  unfold own_AH
  by_cases h0 : z0 < (0 : Int32)
  · rw [if_pos c0, if_pos h0]
  by_cases h1 : z1 < (0 : Int32)
  · rw [if_pos c0, if_neg h0, if_pos c1, if_pos h1]
  by_cases h2 : z2 < (0 : Int32)
  · rw [if_pos c0, if_neg h0, if_pos c1, if_neg h1, if_pos c2, if_pos h2]
  by_cases h3 : z3 < (0 : Int32)
  · rw [if_pos c0, if_neg h0, if_pos c1, if_neg h1, if_pos c2, if_neg h2, if_pos c3, if_pos h3]
  by_cases h4 : z4 < (0 : Int32)
  · rw [if_pos c0, if_neg h0, if_pos c1, if_neg h1, if_pos c2, if_neg h2, if_pos c3, if_neg h3, if_pos c4, if_pos h4]
  rw [if_pos c0, if_neg h0, if_pos c1, if_neg h1, if_pos c2, if_neg h2, if_pos c3, if_neg h3, if_pos c4, if_neg h4, if_pos c5, if_pos h]
theorem own_AHp {n z0 z1 z2 z3 z4 z5 : Int32} (h6 : ¬ (6 : Int32) < n) (h0 : (0 : Int32) < n → ¬ z0 < (0 : Int32)) (u0 : ¬ (127 : Int32) < z0) (h1 : (1 : Int32) < n → ¬ z1 < (0 : Int32)) (u1 : ¬ (127 : Int32) < z1) (h2 : (2 : Int32) < n → ¬ z2 < (0 : Int32)) (u2 : ¬ (127 : Int32) < z2) (h3 : (3 : Int32) < n → ¬ z3 < (0 : Int32)) (u3 : ¬ (127 : Int32) < z3) (h4 : (4 : Int32) < n → ¬ z4 < (0 : Int32)) (u4 : ¬ (127 : Int32) < z4) (h5 : (5 : Int32) < n → ¬ z5 < (0 : Int32)) (u5 : ¬ (127 : Int32) < z5) : own_AH n z0 z1 z2 z3 z4 z5 = (((own_sp (own_HH n (own_lo (own_c z0)) (own_lo (own_c z1)) (own_lo (own_c z2)) (own_lo (own_c z3)) (own_lo (own_c z4)) (own_lo (own_c z5)))).toInt64) &&& (4294967295 : Int64)) := by
  unfold own_AH own_HH
  by_cases c0 : (0 : Int32) < n
  · by_cases c1 : (1 : Int32) < n
    · by_cases c2 : (2 : Int32) < n
      · by_cases c3 : (3 : Int32) < n
        · by_cases c4 : (4 : Int32) < n
          · by_cases c5 : (5 : Int32) < n
            · simp only [if_pos c0, if_neg (h0 c0), if_pos c1, if_neg (h1 c1), if_pos c2, if_neg (h2 c2), if_pos c3, if_neg (h3 c3), if_pos c4, if_neg (h4 c4), if_pos c5, if_neg (h5 c5), if_pos c0, if_pos c1, if_pos c2, if_pos c3, if_pos c4, if_pos c5, own_cy (h0 c0) u0, own_cy (h1 c1) u1, own_cy (h2 c2) u2, own_cy (h3 c3) u3, own_cy (h4 c4) u4, own_cy (h5 c5) u5]
            · simp only [if_pos c0, if_neg (h0 c0), if_pos c1, if_neg (h1 c1), if_pos c2, if_neg (h2 c2), if_pos c3, if_neg (h3 c3), if_pos c4, if_neg (h4 c4), if_neg c5, if_pos c0, if_pos c1, if_pos c2, if_pos c3, if_pos c4, if_neg c5, own_cy (h0 c0) u0, own_cy (h1 c1) u1, own_cy (h2 c2) u2, own_cy (h3 c3) u3, own_cy (h4 c4) u4]
          · simp only [if_pos c0, if_neg (h0 c0), if_pos c1, if_neg (h1 c1), if_pos c2, if_neg (h2 c2), if_pos c3, if_neg (h3 c3), if_neg c4, if_pos c0, if_pos c1, if_pos c2, if_pos c3, if_neg c4, own_cy (h0 c0) u0, own_cy (h1 c1) u1, own_cy (h2 c2) u2, own_cy (h3 c3) u3]
        · simp only [if_pos c0, if_neg (h0 c0), if_pos c1, if_neg (h1 c1), if_pos c2, if_neg (h2 c2), if_neg c3, if_pos c0, if_pos c1, if_pos c2, if_neg c3, own_cy (h0 c0) u0, own_cy (h1 c1) u1, own_cy (h2 c2) u2]
      · simp only [if_pos c0, if_neg (h0 c0), if_pos c1, if_neg (h1 c1), if_neg c2, if_pos c0, if_pos c1, if_neg c2, own_cy (h0 c0) u0, own_cy (h1 c1) u1]
    · simp only [if_pos c0, if_neg (h0 c0), if_neg c1, if_pos c0, if_neg c1, own_cy (h0 c0) u0]
  · simp only [if_neg c0, if_neg c0]
theorem d_B23_0 : decode prog_68_method_7_code 0 = .ok (.iconst 0, 1) := by decide +kernel
theorem d_B23_1 : decode prog_68_method_7_code 1 = .ok (.istore_n 3, 1) := by decide +kernel
theorem d_B23_2 : decode prog_68_method_7_code 2 = .ok (.iload_n 1, 1) := by decide +kernel
theorem d_B23_3 : decode prog_68_method_7_code 3 = .ok (.istore 4, 2) := by decide +kernel
theorem d_B23_5 : decode prog_68_method_7_code 5 = .ok (.iload 4, 2) := by decide +kernel
theorem d_B23_7 : decode prog_68_method_7_code 7 = .ok (.iload_n 1, 1) := by decide +kernel
theorem d_B23_8 : decode prog_68_method_7_code 8 = .ok (.iload_n 2, 1) := by decide +kernel
theorem d_B23_9 : decode prog_68_method_7_code 9 = .ok (.iadd, 1) := by decide +kernel
theorem d_B23_10 : decode prog_68_method_7_code 10 = .ok (.if_icmp .ge 49, 3) := by decide +kernel
theorem d_B23_13 : decode prog_68_method_7_code 13 = .ok (.aload_n 0, 1) := by decide +kernel
theorem d_B23_14 : decode prog_68_method_7_code 14 = .ok (.iload 4, 2) := by decide +kernel
theorem d_B23_16 : decode prog_68_method_7_code 16 = .ok (.baload, 1) := by decide +kernel
theorem d_B23_17 : decode prog_68_method_7_code 17 = .ok (.istore 5, 2) := by decide +kernel
theorem d_B23_19 : decode prog_68_method_7_code 19 = .ok (.iload 5, 2) := by decide +kernel
theorem d_B23_21 : decode prog_68_method_7_code 21 = .ok (.ifCond .ge 7, 3) := by decide +kernel
theorem d_B23_24 : decode prog_68_method_7_code 24 = .ok (.ldc2_w 72, 3) := by decide +kernel
theorem d_B23_27 : decode prog_68_method_7_code 27 = .ok (.lreturn, 1) := by decide +kernel
theorem d_B23_28 : decode prog_68_method_7_code 28 = .ok (.iload 5, 2) := by decide +kernel
theorem d_B23_30 : decode prog_68_method_7_code 30 = .ok (.bipush 65, 2) := by decide +kernel
theorem d_B23_32 : decode prog_68_method_7_code 32 = .ok (.if_icmp .lt 13, 3) := by decide +kernel
theorem d_B23_35 : decode prog_68_method_7_code 35 = .ok (.iload 5, 2) := by decide +kernel
theorem d_B23_37 : decode prog_68_method_7_code 37 = .ok (.bipush 90, 2) := by decide +kernel
theorem d_B23_39 : decode prog_68_method_7_code 39 = .ok (.if_icmp .gt 6, 3) := by decide +kernel
theorem d_B23_42 : decode prog_68_method_7_code 42 = .ok (.iinc 5 32, 3) := by decide +kernel
theorem d_B23_45 : decode prog_68_method_7_code 45 = .ok (.bipush 31, 2) := by decide +kernel
theorem d_B23_47 : decode prog_68_method_7_code 47 = .ok (.iload_n 3, 1) := by decide +kernel
theorem d_B23_48 : decode prog_68_method_7_code 48 = .ok (.imul, 1) := by decide +kernel
theorem d_B23_49 : decode prog_68_method_7_code 49 = .ok (.iload 5, 2) := by decide +kernel
theorem d_B23_51 : decode prog_68_method_7_code 51 = .ok (.iadd, 1) := by decide +kernel
theorem d_B23_52 : decode prog_68_method_7_code 52 = .ok (.istore_n 3, 1) := by decide +kernel
theorem d_B23_53 : decode prog_68_method_7_code 53 = .ok (.iinc 4 1, 3) := by decide +kernel
theorem d_B23_56 : decode prog_68_method_7_code 56 = .ok (.goto (-51), 3) := by decide +kernel
theorem d_B23_59 : decode prog_68_method_7_code 59 = .ok (.iload_n 3, 1) := by decide +kernel
theorem d_B23_60 : decode prog_68_method_7_code 60 = .ok (.invokestatic 68, 3) := by decide +kernel
theorem d_B23_63 : decode prog_68_method_7_code 63 = .ok (.i2l, 1) := by decide +kernel
theorem d_B23_64 : decode prog_68_method_7_code 64 = .ok (.ldc2_w 74, 3) := by decide +kernel
theorem d_B23_67 : decode prog_68_method_7_code 67 = .ok (.land, 1) := by decide +kernel
theorem d_B23_68 : decode prog_68_method_7_code 68 = .ok (.lreturn, 1) := by decide +kernel
set_option maxRecDepth 65536 in
set_option maxHeartbeats 40000000 in
theorem own_rmAh (l : Launch) (Z : State) (a0 : Array Value) (hw : ∀ d ∈ tables_1, d.before a0 Z = true) (ws : List Jvm.Cond) (b0 : Addr) (p1 : Int32) (p2 : Int32) (kb : ClassId) (vs : List Value) (z0 z1 z2 z3 z4 z5 : Int32) (h0 : Heap) (n0 : Nat) (Z0 : n0 ≤ h0.size) (V_b0 : Arv Z h0 b0 kb .byte (6 : Int32) vs (.int 0)) (e_0 : p1 < (p1 + p2) ↔ (0 : Int32) < p2) (d_0 : (0 : Int32) < p2 → ¬ p1 < (0 : Int32) ∧ p1 < (6 : Int32) ∧ List.getD vs (p1).toNatClampNeg (.int 0) = .int z0) (e_1 : (p1 + (1 : Int32)) < (p1 + p2) ↔ (1 : Int32) < p2) (d_1 : (1 : Int32) < p2 → ¬ (p1 + (1 : Int32)) < (0 : Int32) ∧ (p1 + (1 : Int32)) < (6 : Int32) ∧ List.getD vs ((p1 + (1 : Int32))).toNatClampNeg (.int 0) = .int z1) (e_2 : ((p1 + (1 : Int32)) + (1 : Int32)) < (p1 + p2) ↔ (2 : Int32) < p2) (d_2 : (2 : Int32) < p2 → ¬ ((p1 + (1 : Int32)) + (1 : Int32)) < (0 : Int32) ∧ ((p1 + (1 : Int32)) + (1 : Int32)) < (6 : Int32) ∧ List.getD vs (((p1 + (1 : Int32)) + (1 : Int32))).toNatClampNeg (.int 0) = .int z2) (e_3 : (((p1 + (1 : Int32)) + (1 : Int32)) + (1 : Int32)) < (p1 + p2) ↔ (3 : Int32) < p2) (d_3 : (3 : Int32) < p2 → ¬ (((p1 + (1 : Int32)) + (1 : Int32)) + (1 : Int32)) < (0 : Int32) ∧ (((p1 + (1 : Int32)) + (1 : Int32)) + (1 : Int32)) < (6 : Int32) ∧ List.getD vs ((((p1 + (1 : Int32)) + (1 : Int32)) + (1 : Int32))).toNatClampNeg (.int 0) = .int z3) (e_4 : ((((p1 + (1 : Int32)) + (1 : Int32)) + (1 : Int32)) + (1 : Int32)) < (p1 + p2) ↔ (4 : Int32) < p2) (d_4 : (4 : Int32) < p2 → ¬ ((((p1 + (1 : Int32)) + (1 : Int32)) + (1 : Int32)) + (1 : Int32)) < (0 : Int32) ∧ ((((p1 + (1 : Int32)) + (1 : Int32)) + (1 : Int32)) + (1 : Int32)) < (6 : Int32) ∧ List.getD vs (((((p1 + (1 : Int32)) + (1 : Int32)) + (1 : Int32)) + (1 : Int32))).toNatClampNeg (.int 0) = .int z4) (e_5 : (((((p1 + (1 : Int32)) + (1 : Int32)) + (1 : Int32)) + (1 : Int32)) + (1 : Int32)) < (p1 + p2) ↔ (5 : Int32) < p2) (d_5 : (5 : Int32) < p2 → ¬ (((((p1 + (1 : Int32)) + (1 : Int32)) + (1 : Int32)) + (1 : Int32)) + (1 : Int32)) < (0 : Int32) ∧ (((((p1 + (1 : Int32)) + (1 : Int32)) + (1 : Int32)) + (1 : Int32)) + (1 : Int32)) < (6 : Int32) ∧ List.getD vs ((((((p1 + (1 : Int32)) + (1 : Int32)) + (1 : Int32)) + (1 : Int32)) + (1 : Int32))).toNatClampNeg (.int 0) = .int z5) (e_6 : ¬ ((((((p1 + (1 : Int32)) + (1 : Int32)) + (1 : Int32)) + (1 : Int32)) + (1 : Int32)) + (1 : Int32)) < (p1 + p2)) : own_M l Z (⟨"com/example/rollcall/rollcall/users/CaselessIndex", "asciiHash", "([BII)J"⟩ : MethodName) prog_68_method_7_code 6 (some .long) ws ({ frames := 1, cells := 0, slots := 0, locals := 13 } : Room) #[.ref b0, .int p1, .int p2] h0 (own_QJ (own_AH p2 z0 z1 z2 z3 z4 z5) h0 n0) := by
  refine own_begin (n0 := n0) (f0 := mkF ⟨0, 0⟩ 0 #[rv b0, iv p1, iv p2, .unset, .unset, .unset] []) (plainFor_of_name own_pn4) (fun m => ef_111_6 m _ _ _ rfl rfl rfl) ?_
  intro p e s m below meth c s₁ Bd hZ hx hby hml hown hnm X0 e0 N0
  refine own_go (b := s₁.setTop (mkF m 10 #[rv b0, iv p1, iv p2, iv 0, iv p1, .unset] [(.int (p1 + p2)), .int p1])) (fun t k => xiconst X0 hx hby rfl d_B23_0 (xistoreN X0 hx hby rfl d_B23_1 rfl (l' := #[rv b0, iv p1, iv p2, iv 0, .unset, .unset]) rfl (xiloadN X0 hx hby rfl d_B23_2 rfl (xistore X0 hx hby rfl d_B23_3 rfl (l' := #[rv b0, iv p1, iv p2, iv 0, iv p1, .unset]) rfl (xiload X0 hx hby rfl d_B23_5 rfl (xiloadN X0 hx hby rfl d_B23_7 rfl (show Steps p.tables e below (s₁.setTop (mkF m 8 #[rv b0, iv p1, iv p2, iv 0, iv p1, .unset] [.int p1, .int p1])) _ from xiloadN X0 hx hby rfl d_B23_8 rfl (xiadd X0 hx hby rfl d_B23_9 rfl k)))))))) ?_
  by_cases hc10_1 : p1 < (p1 + p2)
  · obtain ⟨cl2, Ar2, -, Sz2, M2, Hs2, Gs2⟩ := id V_b0
    have hin2 := inb_of (j := p1) Sz2 ⟨(d_0 (e_0.mp hc10_1)).1, (d_0 (e_0.mp hc10_1)).2.1⟩
    have hat2 := Has.at Hs2 hin2 (d_0 (e_0.mp hc10_1)).2.2
    refine own_go (b := s₁.setTop (mkF m 21 #[rv b0, iv p1, iv p2, iv 0, iv p1, iv z0] [.int z0])) (fun t k => xicmpNo X0 hx hby rfl d_B23_10 rfl (tlt hc10_1).2.1 (xaloadN X0 hx hby rfl d_B23_13 rfl rfl (xiload X0 hx hby rfl d_B23_14 rfl (X0.baloadBytes hx (j := p1) (v := (.int z0)) (own_in e0 Ar2.1) (State.isArrayOf_alike hZ.alike Ar2.2.1) Ar2.2.2 hin2 hat2 (g := (mkF m 16 #[rv b0, iv p1, iv p2, iv 0, iv p1, .unset] [.int p1, .ref b0])) rfl rfl (hb hby d_B23_16) _ (xistore X0 hx hby rfl d_B23_17 rfl (l' := #[rv b0, iv p1, iv p2, iv 0, iv p1, iv z0]) rfl (xiload X0 hx hby rfl d_B23_19 rfl k)))))) ?_
    clear Ar2 Sz2 M2 Hs2 Gs2 hin2 hat2
    by_cases hc21_3 : z0 < (0 : Int32)
    · exact own_ret (v := some (.long (-1 : Int64))) X0 e0 Bd.notSynchronized (nv Bd.returns) (fun fs hr => xifNo X0 hx hby rfl d_B23_21 rfl ((if0 _ _).trans (tlt hc21_3).2.1) (X0.ldc2Long hx hown (mvT hZ (wd hw 130 rfl)) (g := (mkF m 24 #[rv b0, iv p1, iv p2, iv 0, iv p1, iv z0] [])) rfl (hb hby d_B23_24) _ (retL X0 hx Bd.returns (hb hby d_B23_27) hr))) ⟨by rw [own_AH, if_pos (e_0.mp hc10_1), if_pos hc21_3], N0, rfl⟩ (by decide)
    · refine own_go (b := s₁.setTop (mkF m 28 #[rv b0, iv p1, iv p2, iv 0, iv p1, iv z0] [])) (fun t k => xifYes X0 hx hby rfl 21 28 rfl d_B23_21 rfl ((if0 _ _).trans (flt hc21_3).2.1) (by decide) (by decide) k) ?_
      refine own_go (b := s₁.setTop (mkF m 45 #[rv b0, iv p1, iv p2, iv 0, iv p1, iv (own_lo z0)] [])) (fun t k => ?_) ?_
      · skip
        by_cases hqa : z0 < (65 : Int32)
        · rw [own_lo1 hqa] at k
          refine xiload X0 hx hby rfl d_B23_28 rfl (xbipush X0 hx hby rfl d_B23_30 (xicmpYes X0 hx hby rfl 32 45 rfl d_B23_32 rfl (tlt (hqa : z0 < (65 : Int32))).1 (by decide) (by decide) k))
        · by_cases hqb : (90 : Int32) < z0
          · rw [own_lo2 hqa hqb] at k
            refine xiload X0 hx hby rfl d_B23_28 rfl (xbipush X0 hx hby rfl d_B23_30 (xicmpNo X0 hx hby rfl d_B23_32 rfl (flt (hqa : ¬ (z0 < (65 : Int32)))).1 (xiload X0 hx hby rfl d_B23_35 rfl (xbipush X0 hx hby rfl d_B23_37 (xicmpYes X0 hx hby rfl 39 45 rfl d_B23_39 rfl (tlt (hqb : (90 : Int32) < z0)).2.2.1 (by decide) (by decide) k)))))
          · rw [own_lo3 hqa hqb] at k
            refine xiload X0 hx hby rfl d_B23_28 rfl (xbipush X0 hx hby rfl d_B23_30 (xicmpNo X0 hx hby rfl d_B23_32 rfl (flt (hqa : ¬ (z0 < (65 : Int32)))).1 (xiload X0 hx hby rfl d_B23_35 rfl (xbipush X0 hx hby rfl d_B23_37 (xicmpNo X0 hx hby rfl d_B23_39 rfl (flt (hqb : ¬ ((90 : Int32) < z0))).2.2.1 (show Steps p.tables e below (s₁.setTop (mkF m 42 #[rv b0, iv p1, iv p2, iv 0, iv p1, iv z0] [])) _ from xiinc X0 hx hby rfl d_B23_42 rfl (l' := #[rv b0, iv p1, iv p2, iv 0, iv p1, iv (z0 + (32 : Int32))]) rfl k))))))
      refine own_go (b := s₁.setTop (mkF m 10 #[rv b0, iv p1, iv p2, iv ((0 : Int32) + (own_lo z0)), iv (p1 + (1 : Int32)), iv (own_lo z0)] [(.int (p1 + p2)), (.int (p1 + (1 : Int32)))])) (fun t k => xbipush X0 hx hby rfl d_B23_45 (xiloadN X0 hx hby rfl d_B23_47 rfl (show Steps p.tables e below (s₁.setTop (mkF m 48 #[rv b0, iv p1, iv p2, iv 0, iv p1, iv (own_lo z0)] [.int 0, .int 31])) _ from ximul X0 hx hby rfl d_B23_48 rfl (xiload X0 hx hby rfl d_B23_49 rfl (xiadd X0 hx hby rfl d_B23_51 rfl (xistoreN X0 hx hby rfl d_B23_52 rfl (l' := #[rv b0, iv p1, iv p2, iv ((0 : Int32) + (own_lo z0)), iv p1, iv (own_lo z0)]) rfl (xiinc X0 hx hby rfl d_B23_53 rfl (l' := #[rv b0, iv p1, iv p2, iv ((0 : Int32) + (own_lo z0)), iv (p1 + (1 : Int32)), iv (own_lo z0)]) rfl (xgoto X0 hx hby rfl 56 5 rfl d_B23_56 (by decide) (by decide) (show Steps p.tables e below (s₁.setTop (mkF m 5 #[rv b0, iv p1, iv p2, iv ((0 : Int32) + (own_lo z0)), iv (p1 + (1 : Int32)), iv (own_lo z0)] [])) _ from xiload X0 hx hby rfl d_B23_5 rfl (xiloadN X0 hx hby rfl d_B23_7 rfl (xiloadN X0 hx hby rfl d_B23_8 rfl (xiadd X0 hx hby rfl d_B23_9 rfl k)))))))))))) ?_
      by_cases hc10_4 : (p1 + (1 : Int32)) < (p1 + p2)
      · obtain ⟨cl5, Ar5, -, Sz5, M5, Hs5, Gs5⟩ := id V_b0
        have hin5 := inb_of (j := (p1 + (1 : Int32))) Sz5 ⟨(d_1 (e_1.mp hc10_4)).1, (d_1 (e_1.mp hc10_4)).2.1⟩
        have hat5 := Has.at Hs5 hin5 (d_1 (e_1.mp hc10_4)).2.2
        refine own_go (b := s₁.setTop (mkF m 21 #[rv b0, iv p1, iv p2, iv ((0 : Int32) + (own_lo z0)), iv (p1 + (1 : Int32)), iv z1] [.int z1])) (fun t k => xicmpNo X0 hx hby rfl d_B23_10 rfl (tlt hc10_4).2.1 (xaloadN X0 hx hby rfl d_B23_13 rfl rfl (xiload X0 hx hby rfl d_B23_14 rfl (X0.baloadBytes hx (j := (p1 + (1 : Int32))) (v := (.int z1)) (own_in e0 Ar5.1) (State.isArrayOf_alike hZ.alike Ar5.2.1) Ar5.2.2 hin5 hat5 (g := (mkF m 16 #[rv b0, iv p1, iv p2, iv ((0 : Int32) + (own_lo z0)), iv (p1 + (1 : Int32)), iv (own_lo z0)] [(.int (p1 + (1 : Int32))), .ref b0])) rfl rfl (hb hby d_B23_16) _ (xistore X0 hx hby rfl d_B23_17 rfl (l' := #[rv b0, iv p1, iv p2, iv ((0 : Int32) + (own_lo z0)), iv (p1 + (1 : Int32)), iv z1]) rfl (xiload X0 hx hby rfl d_B23_19 rfl k)))))) ?_
        clear Ar5 Sz5 M5 Hs5 Gs5 hin5 hat5
        by_cases hc21_6 : z1 < (0 : Int32)
        · exact own_ret (v := some (.long (-1 : Int64))) X0 e0 Bd.notSynchronized (nv Bd.returns) (fun fs hr => xifNo X0 hx hby rfl d_B23_21 rfl ((if0 _ _).trans (tlt hc21_6).2.1) (X0.ldc2Long hx hown (mvT hZ (wd hw 130 rfl)) (g := (mkF m 24 #[rv b0, iv p1, iv p2, iv ((0 : Int32) + (own_lo z0)), iv (p1 + (1 : Int32)), iv z1] [])) rfl (hb hby d_B23_24) _ (retL X0 hx Bd.returns (hb hby d_B23_27) hr))) ⟨by rw [own_AH, if_pos (e_0.mp hc10_1), if_neg hc21_3, if_pos (e_1.mp hc10_4), if_pos hc21_6], N0, rfl⟩ (by decide)
        · refine own_go (b := s₁.setTop (mkF m 28 #[rv b0, iv p1, iv p2, iv ((0 : Int32) + (own_lo z0)), iv (p1 + (1 : Int32)), iv z1] [])) (fun t k => xifYes X0 hx hby rfl 21 28 rfl d_B23_21 rfl ((if0 _ _).trans (flt hc21_6).2.1) (by decide) (by decide) k) ?_
          refine own_go (b := s₁.setTop (mkF m 45 #[rv b0, iv p1, iv p2, iv ((0 : Int32) + (own_lo z0)), iv (p1 + (1 : Int32)), iv (own_lo z1)] [])) (fun t k => ?_) ?_
          · skip
            by_cases hqa : z1 < (65 : Int32)
            · rw [own_lo1 hqa] at k
              refine xiload X0 hx hby rfl d_B23_28 rfl (xbipush X0 hx hby rfl d_B23_30 (xicmpYes X0 hx hby rfl 32 45 rfl d_B23_32 rfl (tlt (hqa : z1 < (65 : Int32))).1 (by decide) (by decide) k))
            · by_cases hqb : (90 : Int32) < z1
              · rw [own_lo2 hqa hqb] at k
                refine xiload X0 hx hby rfl d_B23_28 rfl (xbipush X0 hx hby rfl d_B23_30 (xicmpNo X0 hx hby rfl d_B23_32 rfl (flt (hqa : ¬ (z1 < (65 : Int32)))).1 (xiload X0 hx hby rfl d_B23_35 rfl (xbipush X0 hx hby rfl d_B23_37 (xicmpYes X0 hx hby rfl 39 45 rfl d_B23_39 rfl (tlt (hqb : (90 : Int32) < z1)).2.2.1 (by decide) (by decide) k)))))
              · rw [own_lo3 hqa hqb] at k
                refine xiload X0 hx hby rfl d_B23_28 rfl (xbipush X0 hx hby rfl d_B23_30 (xicmpNo X0 hx hby rfl d_B23_32 rfl (flt (hqa : ¬ (z1 < (65 : Int32)))).1 (xiload X0 hx hby rfl d_B23_35 rfl (xbipush X0 hx hby rfl d_B23_37 (xicmpNo X0 hx hby rfl d_B23_39 rfl (flt (hqb : ¬ ((90 : Int32) < z1))).2.2.1 (show Steps p.tables e below (s₁.setTop (mkF m 42 #[rv b0, iv p1, iv p2, iv ((0 : Int32) + (own_lo z0)), iv (p1 + (1 : Int32)), iv z1] [])) _ from xiinc X0 hx hby rfl d_B23_42 rfl (l' := #[rv b0, iv p1, iv p2, iv ((0 : Int32) + (own_lo z0)), iv (p1 + (1 : Int32)), iv (z1 + (32 : Int32))]) rfl k))))))
          refine own_go (b := s₁.setTop (mkF m 10 #[rv b0, iv p1, iv p2, iv (((31 : Int32) * ((0 : Int32) + (own_lo z0))) + (own_lo z1)), iv ((p1 + (1 : Int32)) + (1 : Int32)), iv (own_lo z1)] [(.int (p1 + p2)), (.int ((p1 + (1 : Int32)) + (1 : Int32)))])) (fun t k => xbipush X0 hx hby rfl d_B23_45 (xiloadN X0 hx hby rfl d_B23_47 rfl (show Steps p.tables e below (s₁.setTop (mkF m 48 #[rv b0, iv p1, iv p2, iv ((0 : Int32) + (own_lo z0)), iv (p1 + (1 : Int32)), iv (own_lo z1)] [(.int ((0 : Int32) + (own_lo z0))), .int 31])) _ from ximul X0 hx hby rfl d_B23_48 rfl (xiload X0 hx hby rfl d_B23_49 rfl (xiadd X0 hx hby rfl d_B23_51 rfl (xistoreN X0 hx hby rfl d_B23_52 rfl (l' := #[rv b0, iv p1, iv p2, iv (((31 : Int32) * ((0 : Int32) + (own_lo z0))) + (own_lo z1)), iv (p1 + (1 : Int32)), iv (own_lo z1)]) rfl (xiinc X0 hx hby rfl d_B23_53 rfl (l' := #[rv b0, iv p1, iv p2, iv (((31 : Int32) * ((0 : Int32) + (own_lo z0))) + (own_lo z1)), iv ((p1 + (1 : Int32)) + (1 : Int32)), iv (own_lo z1)]) rfl (xgoto X0 hx hby rfl 56 5 rfl d_B23_56 (by decide) (by decide) (show Steps p.tables e below (s₁.setTop (mkF m 5 #[rv b0, iv p1, iv p2, iv (((31 : Int32) * ((0 : Int32) + (own_lo z0))) + (own_lo z1)), iv ((p1 + (1 : Int32)) + (1 : Int32)), iv (own_lo z1)] [])) _ from xiload X0 hx hby rfl d_B23_5 rfl (xiloadN X0 hx hby rfl d_B23_7 rfl (xiloadN X0 hx hby rfl d_B23_8 rfl (xiadd X0 hx hby rfl d_B23_9 rfl k)))))))))))) ?_
          by_cases hc10_7 : ((p1 + (1 : Int32)) + (1 : Int32)) < (p1 + p2)
          · obtain ⟨cl8, Ar8, -, Sz8, M8, Hs8, Gs8⟩ := id V_b0
            have hin8 := inb_of (j := ((p1 + (1 : Int32)) + (1 : Int32))) Sz8 ⟨(d_2 (e_2.mp hc10_7)).1, (d_2 (e_2.mp hc10_7)).2.1⟩
            have hat8 := Has.at Hs8 hin8 (d_2 (e_2.mp hc10_7)).2.2
            refine own_go (b := s₁.setTop (mkF m 21 #[rv b0, iv p1, iv p2, iv (((31 : Int32) * ((0 : Int32) + (own_lo z0))) + (own_lo z1)), iv ((p1 + (1 : Int32)) + (1 : Int32)), iv z2] [.int z2])) (fun t k => xicmpNo X0 hx hby rfl d_B23_10 rfl (tlt hc10_7).2.1 (xaloadN X0 hx hby rfl d_B23_13 rfl rfl (xiload X0 hx hby rfl d_B23_14 rfl (X0.baloadBytes hx (j := ((p1 + (1 : Int32)) + (1 : Int32))) (v := (.int z2)) (own_in e0 Ar8.1) (State.isArrayOf_alike hZ.alike Ar8.2.1) Ar8.2.2 hin8 hat8 (g := (mkF m 16 #[rv b0, iv p1, iv p2, iv (((31 : Int32) * ((0 : Int32) + (own_lo z0))) + (own_lo z1)), iv ((p1 + (1 : Int32)) + (1 : Int32)), iv (own_lo z1)] [(.int ((p1 + (1 : Int32)) + (1 : Int32))), .ref b0])) rfl rfl (hb hby d_B23_16) _ (xistore X0 hx hby rfl d_B23_17 rfl (l' := #[rv b0, iv p1, iv p2, iv (((31 : Int32) * ((0 : Int32) + (own_lo z0))) + (own_lo z1)), iv ((p1 + (1 : Int32)) + (1 : Int32)), iv z2]) rfl (xiload X0 hx hby rfl d_B23_19 rfl k)))))) ?_
            clear Ar8 Sz8 M8 Hs8 Gs8 hin8 hat8
            by_cases hc21_9 : z2 < (0 : Int32)
            · exact own_ret (v := some (.long (-1 : Int64))) X0 e0 Bd.notSynchronized (nv Bd.returns) (fun fs hr => xifNo X0 hx hby rfl d_B23_21 rfl ((if0 _ _).trans (tlt hc21_9).2.1) (X0.ldc2Long hx hown (mvT hZ (wd hw 130 rfl)) (g := (mkF m 24 #[rv b0, iv p1, iv p2, iv (((31 : Int32) * ((0 : Int32) + (own_lo z0))) + (own_lo z1)), iv ((p1 + (1 : Int32)) + (1 : Int32)), iv z2] [])) rfl (hb hby d_B23_24) _ (retL X0 hx Bd.returns (hb hby d_B23_27) hr))) ⟨by rw [own_AH, if_pos (e_0.mp hc10_1), if_neg hc21_3, if_pos (e_1.mp hc10_4), if_neg hc21_6, if_pos (e_2.mp hc10_7), if_pos hc21_9], N0, rfl⟩ (by decide)
            · refine own_go (b := s₁.setTop (mkF m 28 #[rv b0, iv p1, iv p2, iv (((31 : Int32) * ((0 : Int32) + (own_lo z0))) + (own_lo z1)), iv ((p1 + (1 : Int32)) + (1 : Int32)), iv z2] [])) (fun t k => xifYes X0 hx hby rfl 21 28 rfl d_B23_21 rfl ((if0 _ _).trans (flt hc21_9).2.1) (by decide) (by decide) k) ?_
              refine own_go (b := s₁.setTop (mkF m 45 #[rv b0, iv p1, iv p2, iv (((31 : Int32) * ((0 : Int32) + (own_lo z0))) + (own_lo z1)), iv ((p1 + (1 : Int32)) + (1 : Int32)), iv (own_lo z2)] [])) (fun t k => ?_) ?_
              · skip
                by_cases hqa : z2 < (65 : Int32)
                · rw [own_lo1 hqa] at k
                  refine xiload X0 hx hby rfl d_B23_28 rfl (xbipush X0 hx hby rfl d_B23_30 (xicmpYes X0 hx hby rfl 32 45 rfl d_B23_32 rfl (tlt (hqa : z2 < (65 : Int32))).1 (by decide) (by decide) k))
                · by_cases hqb : (90 : Int32) < z2
                  · rw [own_lo2 hqa hqb] at k
                    refine xiload X0 hx hby rfl d_B23_28 rfl (xbipush X0 hx hby rfl d_B23_30 (xicmpNo X0 hx hby rfl d_B23_32 rfl (flt (hqa : ¬ (z2 < (65 : Int32)))).1 (xiload X0 hx hby rfl d_B23_35 rfl (xbipush X0 hx hby rfl d_B23_37 (xicmpYes X0 hx hby rfl 39 45 rfl d_B23_39 rfl (tlt (hqb : (90 : Int32) < z2)).2.2.1 (by decide) (by decide) k)))))
                  · rw [own_lo3 hqa hqb] at k
                    refine xiload X0 hx hby rfl d_B23_28 rfl (xbipush X0 hx hby rfl d_B23_30 (xicmpNo X0 hx hby rfl d_B23_32 rfl (flt (hqa : ¬ (z2 < (65 : Int32)))).1 (xiload X0 hx hby rfl d_B23_35 rfl (xbipush X0 hx hby rfl d_B23_37 (xicmpNo X0 hx hby rfl d_B23_39 rfl (flt (hqb : ¬ ((90 : Int32) < z2))).2.2.1 (show Steps p.tables e below (s₁.setTop (mkF m 42 #[rv b0, iv p1, iv p2, iv (((31 : Int32) * ((0 : Int32) + (own_lo z0))) + (own_lo z1)), iv ((p1 + (1 : Int32)) + (1 : Int32)), iv z2] [])) _ from xiinc X0 hx hby rfl d_B23_42 rfl (l' := #[rv b0, iv p1, iv p2, iv (((31 : Int32) * ((0 : Int32) + (own_lo z0))) + (own_lo z1)), iv ((p1 + (1 : Int32)) + (1 : Int32)), iv (z2 + (32 : Int32))]) rfl k))))))
              refine own_go (b := s₁.setTop (mkF m 10 #[rv b0, iv p1, iv p2, iv (((31 : Int32) * (((31 : Int32) * ((0 : Int32) + (own_lo z0))) + (own_lo z1))) + (own_lo z2)), iv (((p1 + (1 : Int32)) + (1 : Int32)) + (1 : Int32)), iv (own_lo z2)] [(.int (p1 + p2)), (.int (((p1 + (1 : Int32)) + (1 : Int32)) + (1 : Int32)))])) (fun t k => xbipush X0 hx hby rfl d_B23_45 (xiloadN X0 hx hby rfl d_B23_47 rfl (show Steps p.tables e below (s₁.setTop (mkF m 48 #[rv b0, iv p1, iv p2, iv (((31 : Int32) * ((0 : Int32) + (own_lo z0))) + (own_lo z1)), iv ((p1 + (1 : Int32)) + (1 : Int32)), iv (own_lo z2)] [(.int (((31 : Int32) * ((0 : Int32) + (own_lo z0))) + (own_lo z1))), .int 31])) _ from ximul X0 hx hby rfl d_B23_48 rfl (xiload X0 hx hby rfl d_B23_49 rfl (xiadd X0 hx hby rfl d_B23_51 rfl (xistoreN X0 hx hby rfl d_B23_52 rfl (l' := #[rv b0, iv p1, iv p2, iv (((31 : Int32) * (((31 : Int32) * ((0 : Int32) + (own_lo z0))) + (own_lo z1))) + (own_lo z2)), iv ((p1 + (1 : Int32)) + (1 : Int32)), iv (own_lo z2)]) rfl (xiinc X0 hx hby rfl d_B23_53 rfl (l' := #[rv b0, iv p1, iv p2, iv (((31 : Int32) * (((31 : Int32) * ((0 : Int32) + (own_lo z0))) + (own_lo z1))) + (own_lo z2)), iv (((p1 + (1 : Int32)) + (1 : Int32)) + (1 : Int32)), iv (own_lo z2)]) rfl (xgoto X0 hx hby rfl 56 5 rfl d_B23_56 (by decide) (by decide) (show Steps p.tables e below (s₁.setTop (mkF m 5 #[rv b0, iv p1, iv p2, iv (((31 : Int32) * (((31 : Int32) * ((0 : Int32) + (own_lo z0))) + (own_lo z1))) + (own_lo z2)), iv (((p1 + (1 : Int32)) + (1 : Int32)) + (1 : Int32)), iv (own_lo z2)] [])) _ from xiload X0 hx hby rfl d_B23_5 rfl (xiloadN X0 hx hby rfl d_B23_7 rfl (xiloadN X0 hx hby rfl d_B23_8 rfl (xiadd X0 hx hby rfl d_B23_9 rfl k)))))))))))) ?_
              by_cases hc10_10 : (((p1 + (1 : Int32)) + (1 : Int32)) + (1 : Int32)) < (p1 + p2)
              · obtain ⟨cl11, Ar11, -, Sz11, M11, Hs11, Gs11⟩ := id V_b0
                have hin11 := inb_of (j := (((p1 + (1 : Int32)) + (1 : Int32)) + (1 : Int32))) Sz11 ⟨(d_3 (e_3.mp hc10_10)).1, (d_3 (e_3.mp hc10_10)).2.1⟩
                have hat11 := Has.at Hs11 hin11 (d_3 (e_3.mp hc10_10)).2.2
                refine own_go (b := s₁.setTop (mkF m 21 #[rv b0, iv p1, iv p2, iv (((31 : Int32) * (((31 : Int32) * ((0 : Int32) + (own_lo z0))) + (own_lo z1))) + (own_lo z2)), iv (((p1 + (1 : Int32)) + (1 : Int32)) + (1 : Int32)), iv z3] [.int z3])) (fun t k => xicmpNo X0 hx hby rfl d_B23_10 rfl (tlt hc10_10).2.1 (xaloadN X0 hx hby rfl d_B23_13 rfl rfl (xiload X0 hx hby rfl d_B23_14 rfl (X0.baloadBytes hx (j := (((p1 + (1 : Int32)) + (1 : Int32)) + (1 : Int32))) (v := (.int z3)) (own_in e0 Ar11.1) (State.isArrayOf_alike hZ.alike Ar11.2.1) Ar11.2.2 hin11 hat11 (g := (mkF m 16 #[rv b0, iv p1, iv p2, iv (((31 : Int32) * (((31 : Int32) * ((0 : Int32) + (own_lo z0))) + (own_lo z1))) + (own_lo z2)), iv (((p1 + (1 : Int32)) + (1 : Int32)) + (1 : Int32)), iv (own_lo z2)] [(.int (((p1 + (1 : Int32)) + (1 : Int32)) + (1 : Int32))), .ref b0])) rfl rfl (hb hby d_B23_16) _ (xistore X0 hx hby rfl d_B23_17 rfl (l' := #[rv b0, iv p1, iv p2, iv (((31 : Int32) * (((31 : Int32) * ((0 : Int32) + (own_lo z0))) + (own_lo z1))) + (own_lo z2)), iv (((p1 + (1 : Int32)) + (1 : Int32)) + (1 : Int32)), iv z3]) rfl (xiload X0 hx hby rfl d_B23_19 rfl k)))))) ?_
                clear Ar11 Sz11 M11 Hs11 Gs11 hin11 hat11
                by_cases hc21_12 : z3 < (0 : Int32)
                · exact own_ret (v := some (.long (-1 : Int64))) X0 e0 Bd.notSynchronized (nv Bd.returns) (fun fs hr => xifNo X0 hx hby rfl d_B23_21 rfl ((if0 _ _).trans (tlt hc21_12).2.1) (X0.ldc2Long hx hown (mvT hZ (wd hw 130 rfl)) (g := (mkF m 24 #[rv b0, iv p1, iv p2, iv (((31 : Int32) * (((31 : Int32) * ((0 : Int32) + (own_lo z0))) + (own_lo z1))) + (own_lo z2)), iv (((p1 + (1 : Int32)) + (1 : Int32)) + (1 : Int32)), iv z3] [])) rfl (hb hby d_B23_24) _ (retL X0 hx Bd.returns (hb hby d_B23_27) hr))) ⟨by rw [own_AH, if_pos (e_0.mp hc10_1), if_neg hc21_3, if_pos (e_1.mp hc10_4), if_neg hc21_6, if_pos (e_2.mp hc10_7), if_neg hc21_9, if_pos (e_3.mp hc10_10), if_pos hc21_12], N0, rfl⟩ (by decide)
                · refine own_go (b := s₁.setTop (mkF m 28 #[rv b0, iv p1, iv p2, iv (((31 : Int32) * (((31 : Int32) * ((0 : Int32) + (own_lo z0))) + (own_lo z1))) + (own_lo z2)), iv (((p1 + (1 : Int32)) + (1 : Int32)) + (1 : Int32)), iv z3] [])) (fun t k => xifYes X0 hx hby rfl 21 28 rfl d_B23_21 rfl ((if0 _ _).trans (flt hc21_12).2.1) (by decide) (by decide) k) ?_
                  refine own_go (b := s₁.setTop (mkF m 45 #[rv b0, iv p1, iv p2, iv (((31 : Int32) * (((31 : Int32) * ((0 : Int32) + (own_lo z0))) + (own_lo z1))) + (own_lo z2)), iv (((p1 + (1 : Int32)) + (1 : Int32)) + (1 : Int32)), iv (own_lo z3)] [])) (fun t k => ?_) ?_
                  · skip
                    by_cases hqa : z3 < (65 : Int32)
                    · rw [own_lo1 hqa] at k
                      refine xiload X0 hx hby rfl d_B23_28 rfl (xbipush X0 hx hby rfl d_B23_30 (xicmpYes X0 hx hby rfl 32 45 rfl d_B23_32 rfl (tlt (hqa : z3 < (65 : Int32))).1 (by decide) (by decide) k))
                    · by_cases hqb : (90 : Int32) < z3
                      · rw [own_lo2 hqa hqb] at k
                        refine xiload X0 hx hby rfl d_B23_28 rfl (xbipush X0 hx hby rfl d_B23_30 (xicmpNo X0 hx hby rfl d_B23_32 rfl (flt (hqa : ¬ (z3 < (65 : Int32)))).1 (xiload X0 hx hby rfl d_B23_35 rfl (xbipush X0 hx hby rfl d_B23_37 (xicmpYes X0 hx hby rfl 39 45 rfl d_B23_39 rfl (tlt (hqb : (90 : Int32) < z3)).2.2.1 (by decide) (by decide) k)))))
                      · rw [own_lo3 hqa hqb] at k
                        refine xiload X0 hx hby rfl d_B23_28 rfl (xbipush X0 hx hby rfl d_B23_30 (xicmpNo X0 hx hby rfl d_B23_32 rfl (flt (hqa : ¬ (z3 < (65 : Int32)))).1 (xiload X0 hx hby rfl d_B23_35 rfl (xbipush X0 hx hby rfl d_B23_37 (xicmpNo X0 hx hby rfl d_B23_39 rfl (flt (hqb : ¬ ((90 : Int32) < z3))).2.2.1 (show Steps p.tables e below (s₁.setTop (mkF m 42 #[rv b0, iv p1, iv p2, iv (((31 : Int32) * (((31 : Int32) * ((0 : Int32) + (own_lo z0))) + (own_lo z1))) + (own_lo z2)), iv (((p1 + (1 : Int32)) + (1 : Int32)) + (1 : Int32)), iv z3] [])) _ from xiinc X0 hx hby rfl d_B23_42 rfl (l' := #[rv b0, iv p1, iv p2, iv (((31 : Int32) * (((31 : Int32) * ((0 : Int32) + (own_lo z0))) + (own_lo z1))) + (own_lo z2)), iv (((p1 + (1 : Int32)) + (1 : Int32)) + (1 : Int32)), iv (z3 + (32 : Int32))]) rfl k))))))
                  refine own_go (b := s₁.setTop (mkF m 10 #[rv b0, iv p1, iv p2, iv (((31 : Int32) * (((31 : Int32) * (((31 : Int32) * ((0 : Int32) + (own_lo z0))) + (own_lo z1))) + (own_lo z2))) + (own_lo z3)), iv ((((p1 + (1 : Int32)) + (1 : Int32)) + (1 : Int32)) + (1 : Int32)), iv (own_lo z3)] [(.int (p1 + p2)), (.int ((((p1 + (1 : Int32)) + (1 : Int32)) + (1 : Int32)) + (1 : Int32)))])) (fun t k => xbipush X0 hx hby rfl d_B23_45 (xiloadN X0 hx hby rfl d_B23_47 rfl (show Steps p.tables e below (s₁.setTop (mkF m 48 #[rv b0, iv p1, iv p2, iv (((31 : Int32) * (((31 : Int32) * ((0 : Int32) + (own_lo z0))) + (own_lo z1))) + (own_lo z2)), iv (((p1 + (1 : Int32)) + (1 : Int32)) + (1 : Int32)), iv (own_lo z3)] [(.int (((31 : Int32) * (((31 : Int32) * ((0 : Int32) + (own_lo z0))) + (own_lo z1))) + (own_lo z2))), .int 31])) _ from ximul X0 hx hby rfl d_B23_48 rfl (xiload X0 hx hby rfl d_B23_49 rfl (xiadd X0 hx hby rfl d_B23_51 rfl (xistoreN X0 hx hby rfl d_B23_52 rfl (l' := #[rv b0, iv p1, iv p2, iv (((31 : Int32) * (((31 : Int32) * (((31 : Int32) * ((0 : Int32) + (own_lo z0))) + (own_lo z1))) + (own_lo z2))) + (own_lo z3)), iv (((p1 + (1 : Int32)) + (1 : Int32)) + (1 : Int32)), iv (own_lo z3)]) rfl (xiinc X0 hx hby rfl d_B23_53 rfl (l' := #[rv b0, iv p1, iv p2, iv (((31 : Int32) * (((31 : Int32) * (((31 : Int32) * ((0 : Int32) + (own_lo z0))) + (own_lo z1))) + (own_lo z2))) + (own_lo z3)), iv ((((p1 + (1 : Int32)) + (1 : Int32)) + (1 : Int32)) + (1 : Int32)), iv (own_lo z3)]) rfl (xgoto X0 hx hby rfl 56 5 rfl d_B23_56 (by decide) (by decide) (show Steps p.tables e below (s₁.setTop (mkF m 5 #[rv b0, iv p1, iv p2, iv (((31 : Int32) * (((31 : Int32) * (((31 : Int32) * ((0 : Int32) + (own_lo z0))) + (own_lo z1))) + (own_lo z2))) + (own_lo z3)), iv ((((p1 + (1 : Int32)) + (1 : Int32)) + (1 : Int32)) + (1 : Int32)), iv (own_lo z3)] [])) _ from xiload X0 hx hby rfl d_B23_5 rfl (xiloadN X0 hx hby rfl d_B23_7 rfl (xiloadN X0 hx hby rfl d_B23_8 rfl (xiadd X0 hx hby rfl d_B23_9 rfl k)))))))))))) ?_
                  by_cases hc10_13 : ((((p1 + (1 : Int32)) + (1 : Int32)) + (1 : Int32)) + (1 : Int32)) < (p1 + p2)
                  · obtain ⟨cl14, Ar14, -, Sz14, M14, Hs14, Gs14⟩ := id V_b0
                    have hin14 := inb_of (j := ((((p1 + (1 : Int32)) + (1 : Int32)) + (1 : Int32)) + (1 : Int32))) Sz14 ⟨(d_4 (e_4.mp hc10_13)).1, (d_4 (e_4.mp hc10_13)).2.1⟩
                    have hat14 := Has.at Hs14 hin14 (d_4 (e_4.mp hc10_13)).2.2
                    refine own_go (b := s₁.setTop (mkF m 21 #[rv b0, iv p1, iv p2, iv (((31 : Int32) * (((31 : Int32) * (((31 : Int32) * ((0 : Int32) + (own_lo z0))) + (own_lo z1))) + (own_lo z2))) + (own_lo z3)), iv ((((p1 + (1 : Int32)) + (1 : Int32)) + (1 : Int32)) + (1 : Int32)), iv z4] [.int z4])) (fun t k => xicmpNo X0 hx hby rfl d_B23_10 rfl (tlt hc10_13).2.1 (xaloadN X0 hx hby rfl d_B23_13 rfl rfl (xiload X0 hx hby rfl d_B23_14 rfl (X0.baloadBytes hx (j := ((((p1 + (1 : Int32)) + (1 : Int32)) + (1 : Int32)) + (1 : Int32))) (v := (.int z4)) (own_in e0 Ar14.1) (State.isArrayOf_alike hZ.alike Ar14.2.1) Ar14.2.2 hin14 hat14 (g := (mkF m 16 #[rv b0, iv p1, iv p2, iv (((31 : Int32) * (((31 : Int32) * (((31 : Int32) * ((0 : Int32) + (own_lo z0))) + (own_lo z1))) + (own_lo z2))) + (own_lo z3)), iv ((((p1 + (1 : Int32)) + (1 : Int32)) + (1 : Int32)) + (1 : Int32)), iv (own_lo z3)] [(.int ((((p1 + (1 : Int32)) + (1 : Int32)) + (1 : Int32)) + (1 : Int32))), .ref b0])) rfl rfl (hb hby d_B23_16) _ (xistore X0 hx hby rfl d_B23_17 rfl (l' := #[rv b0, iv p1, iv p2, iv (((31 : Int32) * (((31 : Int32) * (((31 : Int32) * ((0 : Int32) + (own_lo z0))) + (own_lo z1))) + (own_lo z2))) + (own_lo z3)), iv ((((p1 + (1 : Int32)) + (1 : Int32)) + (1 : Int32)) + (1 : Int32)), iv z4]) rfl (xiload X0 hx hby rfl d_B23_19 rfl k)))))) ?_
                    clear Ar14 Sz14 M14 Hs14 Gs14 hin14 hat14
                    by_cases hc21_15 : z4 < (0 : Int32)
                    · exact own_ret (v := some (.long (-1 : Int64))) X0 e0 Bd.notSynchronized (nv Bd.returns) (fun fs hr => xifNo X0 hx hby rfl d_B23_21 rfl ((if0 _ _).trans (tlt hc21_15).2.1) (X0.ldc2Long hx hown (mvT hZ (wd hw 130 rfl)) (g := (mkF m 24 #[rv b0, iv p1, iv p2, iv (((31 : Int32) * (((31 : Int32) * (((31 : Int32) * ((0 : Int32) + (own_lo z0))) + (own_lo z1))) + (own_lo z2))) + (own_lo z3)), iv ((((p1 + (1 : Int32)) + (1 : Int32)) + (1 : Int32)) + (1 : Int32)), iv z4] [])) rfl (hb hby d_B23_24) _ (retL X0 hx Bd.returns (hb hby d_B23_27) hr))) ⟨by rw [own_AH, if_pos (e_0.mp hc10_1), if_neg hc21_3, if_pos (e_1.mp hc10_4), if_neg hc21_6, if_pos (e_2.mp hc10_7), if_neg hc21_9, if_pos (e_3.mp hc10_10), if_neg hc21_12, if_pos (e_4.mp hc10_13), if_pos hc21_15], N0, rfl⟩ (by decide)
                    · refine own_go (b := s₁.setTop (mkF m 28 #[rv b0, iv p1, iv p2, iv (((31 : Int32) * (((31 : Int32) * (((31 : Int32) * ((0 : Int32) + (own_lo z0))) + (own_lo z1))) + (own_lo z2))) + (own_lo z3)), iv ((((p1 + (1 : Int32)) + (1 : Int32)) + (1 : Int32)) + (1 : Int32)), iv z4] [])) (fun t k => xifYes X0 hx hby rfl 21 28 rfl d_B23_21 rfl ((if0 _ _).trans (flt hc21_15).2.1) (by decide) (by decide) k) ?_
                      refine own_go (b := s₁.setTop (mkF m 45 #[rv b0, iv p1, iv p2, iv (((31 : Int32) * (((31 : Int32) * (((31 : Int32) * ((0 : Int32) + (own_lo z0))) + (own_lo z1))) + (own_lo z2))) + (own_lo z3)), iv ((((p1 + (1 : Int32)) + (1 : Int32)) + (1 : Int32)) + (1 : Int32)), iv (own_lo z4)] [])) (fun t k => ?_) ?_
                      · skip
                        by_cases hqa : z4 < (65 : Int32)
                        · rw [own_lo1 hqa] at k
                          refine xiload X0 hx hby rfl d_B23_28 rfl (xbipush X0 hx hby rfl d_B23_30 (xicmpYes X0 hx hby rfl 32 45 rfl d_B23_32 rfl (tlt (hqa : z4 < (65 : Int32))).1 (by decide) (by decide) k))
                        · by_cases hqb : (90 : Int32) < z4
                          · rw [own_lo2 hqa hqb] at k
                            refine xiload X0 hx hby rfl d_B23_28 rfl (xbipush X0 hx hby rfl d_B23_30 (xicmpNo X0 hx hby rfl d_B23_32 rfl (flt (hqa : ¬ (z4 < (65 : Int32)))).1 (xiload X0 hx hby rfl d_B23_35 rfl (xbipush X0 hx hby rfl d_B23_37 (xicmpYes X0 hx hby rfl 39 45 rfl d_B23_39 rfl (tlt (hqb : (90 : Int32) < z4)).2.2.1 (by decide) (by decide) k)))))
                          · rw [own_lo3 hqa hqb] at k
                            refine xiload X0 hx hby rfl d_B23_28 rfl (xbipush X0 hx hby rfl d_B23_30 (xicmpNo X0 hx hby rfl d_B23_32 rfl (flt (hqa : ¬ (z4 < (65 : Int32)))).1 (xiload X0 hx hby rfl d_B23_35 rfl (xbipush X0 hx hby rfl d_B23_37 (xicmpNo X0 hx hby rfl d_B23_39 rfl (flt (hqb : ¬ ((90 : Int32) < z4))).2.2.1 (show Steps p.tables e below (s₁.setTop (mkF m 42 #[rv b0, iv p1, iv p2, iv (((31 : Int32) * (((31 : Int32) * (((31 : Int32) * ((0 : Int32) + (own_lo z0))) + (own_lo z1))) + (own_lo z2))) + (own_lo z3)), iv ((((p1 + (1 : Int32)) + (1 : Int32)) + (1 : Int32)) + (1 : Int32)), iv z4] [])) _ from xiinc X0 hx hby rfl d_B23_42 rfl (l' := #[rv b0, iv p1, iv p2, iv (((31 : Int32) * (((31 : Int32) * (((31 : Int32) * ((0 : Int32) + (own_lo z0))) + (own_lo z1))) + (own_lo z2))) + (own_lo z3)), iv ((((p1 + (1 : Int32)) + (1 : Int32)) + (1 : Int32)) + (1 : Int32)), iv (z4 + (32 : Int32))]) rfl k))))))
                      refine own_go (b := s₁.setTop (mkF m 10 #[rv b0, iv p1, iv p2, iv (((31 : Int32) * (((31 : Int32) * (((31 : Int32) * (((31 : Int32) * ((0 : Int32) + (own_lo z0))) + (own_lo z1))) + (own_lo z2))) + (own_lo z3))) + (own_lo z4)), iv (((((p1 + (1 : Int32)) + (1 : Int32)) + (1 : Int32)) + (1 : Int32)) + (1 : Int32)), iv (own_lo z4)] [(.int (p1 + p2)), (.int (((((p1 + (1 : Int32)) + (1 : Int32)) + (1 : Int32)) + (1 : Int32)) + (1 : Int32)))])) (fun t k => xbipush X0 hx hby rfl d_B23_45 (xiloadN X0 hx hby rfl d_B23_47 rfl (show Steps p.tables e below (s₁.setTop (mkF m 48 #[rv b0, iv p1, iv p2, iv (((31 : Int32) * (((31 : Int32) * (((31 : Int32) * ((0 : Int32) + (own_lo z0))) + (own_lo z1))) + (own_lo z2))) + (own_lo z3)), iv ((((p1 + (1 : Int32)) + (1 : Int32)) + (1 : Int32)) + (1 : Int32)), iv (own_lo z4)] [(.int (((31 : Int32) * (((31 : Int32) * (((31 : Int32) * ((0 : Int32) + (own_lo z0))) + (own_lo z1))) + (own_lo z2))) + (own_lo z3))), .int 31])) _ from ximul X0 hx hby rfl d_B23_48 rfl (xiload X0 hx hby rfl d_B23_49 rfl (xiadd X0 hx hby rfl d_B23_51 rfl (xistoreN X0 hx hby rfl d_B23_52 rfl (l' := #[rv b0, iv p1, iv p2, iv (((31 : Int32) * (((31 : Int32) * (((31 : Int32) * (((31 : Int32) * ((0 : Int32) + (own_lo z0))) + (own_lo z1))) + (own_lo z2))) + (own_lo z3))) + (own_lo z4)), iv ((((p1 + (1 : Int32)) + (1 : Int32)) + (1 : Int32)) + (1 : Int32)), iv (own_lo z4)]) rfl (xiinc X0 hx hby rfl d_B23_53 rfl (l' := #[rv b0, iv p1, iv p2, iv (((31 : Int32) * (((31 : Int32) * (((31 : Int32) * (((31 : Int32) * ((0 : Int32) + (own_lo z0))) + (own_lo z1))) + (own_lo z2))) + (own_lo z3))) + (own_lo z4)), iv (((((p1 + (1 : Int32)) + (1 : Int32)) + (1 : Int32)) + (1 : Int32)) + (1 : Int32)), iv (own_lo z4)]) rfl (xgoto X0 hx hby rfl 56 5 rfl d_B23_56 (by decide) (by decide) (show Steps p.tables e below (s₁.setTop (mkF m 5 #[rv b0, iv p1, iv p2, iv (((31 : Int32) * (((31 : Int32) * (((31 : Int32) * (((31 : Int32) * ((0 : Int32) + (own_lo z0))) + (own_lo z1))) + (own_lo z2))) + (own_lo z3))) + (own_lo z4)), iv (((((p1 + (1 : Int32)) + (1 : Int32)) + (1 : Int32)) + (1 : Int32)) + (1 : Int32)), iv (own_lo z4)] [])) _ from xiload X0 hx hby rfl d_B23_5 rfl (xiloadN X0 hx hby rfl d_B23_7 rfl (xiloadN X0 hx hby rfl d_B23_8 rfl (xiadd X0 hx hby rfl d_B23_9 rfl k)))))))))))) ?_
                      by_cases hc10_16 : (((((p1 + (1 : Int32)) + (1 : Int32)) + (1 : Int32)) + (1 : Int32)) + (1 : Int32)) < (p1 + p2)
                      · obtain ⟨cl17, Ar17, -, Sz17, M17, Hs17, Gs17⟩ := id V_b0
                        have hin17 := inb_of (j := (((((p1 + (1 : Int32)) + (1 : Int32)) + (1 : Int32)) + (1 : Int32)) + (1 : Int32))) Sz17 ⟨(d_5 (e_5.mp hc10_16)).1, (d_5 (e_5.mp hc10_16)).2.1⟩
                        have hat17 := Has.at Hs17 hin17 (d_5 (e_5.mp hc10_16)).2.2
                        refine own_go (b := s₁.setTop (mkF m 21 #[rv b0, iv p1, iv p2, iv (((31 : Int32) * (((31 : Int32) * (((31 : Int32) * (((31 : Int32) * ((0 : Int32) + (own_lo z0))) + (own_lo z1))) + (own_lo z2))) + (own_lo z3))) + (own_lo z4)), iv (((((p1 + (1 : Int32)) + (1 : Int32)) + (1 : Int32)) + (1 : Int32)) + (1 : Int32)), iv z5] [.int z5])) (fun t k => xicmpNo X0 hx hby rfl d_B23_10 rfl (tlt hc10_16).2.1 (xaloadN X0 hx hby rfl d_B23_13 rfl rfl (xiload X0 hx hby rfl d_B23_14 rfl (X0.baloadBytes hx (j := (((((p1 + (1 : Int32)) + (1 : Int32)) + (1 : Int32)) + (1 : Int32)) + (1 : Int32))) (v := (.int z5)) (own_in e0 Ar17.1) (State.isArrayOf_alike hZ.alike Ar17.2.1) Ar17.2.2 hin17 hat17 (g := (mkF m 16 #[rv b0, iv p1, iv p2, iv (((31 : Int32) * (((31 : Int32) * (((31 : Int32) * (((31 : Int32) * ((0 : Int32) + (own_lo z0))) + (own_lo z1))) + (own_lo z2))) + (own_lo z3))) + (own_lo z4)), iv (((((p1 + (1 : Int32)) + (1 : Int32)) + (1 : Int32)) + (1 : Int32)) + (1 : Int32)), iv (own_lo z4)] [(.int (((((p1 + (1 : Int32)) + (1 : Int32)) + (1 : Int32)) + (1 : Int32)) + (1 : Int32))), .ref b0])) rfl rfl (hb hby d_B23_16) _ (xistore X0 hx hby rfl d_B23_17 rfl (l' := #[rv b0, iv p1, iv p2, iv (((31 : Int32) * (((31 : Int32) * (((31 : Int32) * (((31 : Int32) * ((0 : Int32) + (own_lo z0))) + (own_lo z1))) + (own_lo z2))) + (own_lo z3))) + (own_lo z4)), iv (((((p1 + (1 : Int32)) + (1 : Int32)) + (1 : Int32)) + (1 : Int32)) + (1 : Int32)), iv z5]) rfl (xiload X0 hx hby rfl d_B23_19 rfl k)))))) ?_
                        clear Ar17 Sz17 M17 Hs17 Gs17 hin17 hat17
                        by_cases hc21_18 : z5 < (0 : Int32)
                        · exact own_ret (v := some (.long (-1 : Int64))) X0 e0 Bd.notSynchronized (nv Bd.returns) (fun fs hr => xifNo X0 hx hby rfl d_B23_21 rfl ((if0 _ _).trans (tlt hc21_18).2.1) (X0.ldc2Long hx hown (mvT hZ (wd hw 130 rfl)) (g := (mkF m 24 #[rv b0, iv p1, iv p2, iv (((31 : Int32) * (((31 : Int32) * (((31 : Int32) * (((31 : Int32) * ((0 : Int32) + (own_lo z0))) + (own_lo z1))) + (own_lo z2))) + (own_lo z3))) + (own_lo z4)), iv (((((p1 + (1 : Int32)) + (1 : Int32)) + (1 : Int32)) + (1 : Int32)) + (1 : Int32)), iv z5] [])) rfl (hb hby d_B23_24) _ (retL X0 hx Bd.returns (hb hby d_B23_27) hr))) ⟨by rw [own_AH, if_pos (e_0.mp hc10_1), if_neg hc21_3, if_pos (e_1.mp hc10_4), if_neg hc21_6, if_pos (e_2.mp hc10_7), if_neg hc21_9, if_pos (e_3.mp hc10_10), if_neg hc21_12, if_pos (e_4.mp hc10_13), if_neg hc21_15, if_pos (e_5.mp hc10_16), if_pos hc21_18], N0, rfl⟩ (by decide)
                        · refine own_go (b := s₁.setTop (mkF m 28 #[rv b0, iv p1, iv p2, iv (((31 : Int32) * (((31 : Int32) * (((31 : Int32) * (((31 : Int32) * ((0 : Int32) + (own_lo z0))) + (own_lo z1))) + (own_lo z2))) + (own_lo z3))) + (own_lo z4)), iv (((((p1 + (1 : Int32)) + (1 : Int32)) + (1 : Int32)) + (1 : Int32)) + (1 : Int32)), iv z5] [])) (fun t k => xifYes X0 hx hby rfl 21 28 rfl d_B23_21 rfl ((if0 _ _).trans (flt hc21_18).2.1) (by decide) (by decide) k) ?_
                          refine own_go (b := s₁.setTop (mkF m 45 #[rv b0, iv p1, iv p2, iv (((31 : Int32) * (((31 : Int32) * (((31 : Int32) * (((31 : Int32) * ((0 : Int32) + (own_lo z0))) + (own_lo z1))) + (own_lo z2))) + (own_lo z3))) + (own_lo z4)), iv (((((p1 + (1 : Int32)) + (1 : Int32)) + (1 : Int32)) + (1 : Int32)) + (1 : Int32)), iv (own_lo z5)] [])) (fun t k => ?_) ?_
                          · skip
                            by_cases hqa : z5 < (65 : Int32)
                            · rw [own_lo1 hqa] at k
                              refine xiload X0 hx hby rfl d_B23_28 rfl (xbipush X0 hx hby rfl d_B23_30 (xicmpYes X0 hx hby rfl 32 45 rfl d_B23_32 rfl (tlt (hqa : z5 < (65 : Int32))).1 (by decide) (by decide) k))
                            · by_cases hqb : (90 : Int32) < z5
                              · rw [own_lo2 hqa hqb] at k
                                refine xiload X0 hx hby rfl d_B23_28 rfl (xbipush X0 hx hby rfl d_B23_30 (xicmpNo X0 hx hby rfl d_B23_32 rfl (flt (hqa : ¬ (z5 < (65 : Int32)))).1 (xiload X0 hx hby rfl d_B23_35 rfl (xbipush X0 hx hby rfl d_B23_37 (xicmpYes X0 hx hby rfl 39 45 rfl d_B23_39 rfl (tlt (hqb : (90 : Int32) < z5)).2.2.1 (by decide) (by decide) k)))))
                              · rw [own_lo3 hqa hqb] at k
                                refine xiload X0 hx hby rfl d_B23_28 rfl (xbipush X0 hx hby rfl d_B23_30 (xicmpNo X0 hx hby rfl d_B23_32 rfl (flt (hqa : ¬ (z5 < (65 : Int32)))).1 (xiload X0 hx hby rfl d_B23_35 rfl (xbipush X0 hx hby rfl d_B23_37 (xicmpNo X0 hx hby rfl d_B23_39 rfl (flt (hqb : ¬ ((90 : Int32) < z5))).2.2.1 (show Steps p.tables e below (s₁.setTop (mkF m 42 #[rv b0, iv p1, iv p2, iv (((31 : Int32) * (((31 : Int32) * (((31 : Int32) * (((31 : Int32) * ((0 : Int32) + (own_lo z0))) + (own_lo z1))) + (own_lo z2))) + (own_lo z3))) + (own_lo z4)), iv (((((p1 + (1 : Int32)) + (1 : Int32)) + (1 : Int32)) + (1 : Int32)) + (1 : Int32)), iv z5] [])) _ from xiinc X0 hx hby rfl d_B23_42 rfl (l' := #[rv b0, iv p1, iv p2, iv (((31 : Int32) * (((31 : Int32) * (((31 : Int32) * (((31 : Int32) * ((0 : Int32) + (own_lo z0))) + (own_lo z1))) + (own_lo z2))) + (own_lo z3))) + (own_lo z4)), iv (((((p1 + (1 : Int32)) + (1 : Int32)) + (1 : Int32)) + (1 : Int32)) + (1 : Int32)), iv (z5 + (32 : Int32))]) rfl k))))))
                          refine own_go (b := s₁.setTop (mkF m 60 #[rv b0, iv p1, iv p2, iv (((31 : Int32) * (((31 : Int32) * (((31 : Int32) * (((31 : Int32) * (((31 : Int32) * ((0 : Int32) + (own_lo z0))) + (own_lo z1))) + (own_lo z2))) + (own_lo z3))) + (own_lo z4))) + (own_lo z5)), iv ((((((p1 + (1 : Int32)) + (1 : Int32)) + (1 : Int32)) + (1 : Int32)) + (1 : Int32)) + (1 : Int32)), iv (own_lo z5)] [(.int (((31 : Int32) * (((31 : Int32) * (((31 : Int32) * (((31 : Int32) * (((31 : Int32) * ((0 : Int32) + (own_lo z0))) + (own_lo z1))) + (own_lo z2))) + (own_lo z3))) + (own_lo z4))) + (own_lo z5)))])) (fun t k => xbipush X0 hx hby rfl d_B23_45 (xiloadN X0 hx hby rfl d_B23_47 rfl (show Steps p.tables e below (s₁.setTop (mkF m 48 #[rv b0, iv p1, iv p2, iv (((31 : Int32) * (((31 : Int32) * (((31 : Int32) * (((31 : Int32) * ((0 : Int32) + (own_lo z0))) + (own_lo z1))) + (own_lo z2))) + (own_lo z3))) + (own_lo z4)), iv (((((p1 + (1 : Int32)) + (1 : Int32)) + (1 : Int32)) + (1 : Int32)) + (1 : Int32)), iv (own_lo z5)] [(.int (((31 : Int32) * (((31 : Int32) * (((31 : Int32) * (((31 : Int32) * ((0 : Int32) + (own_lo z0))) + (own_lo z1))) + (own_lo z2))) + (own_lo z3))) + (own_lo z4))), .int 31])) _ from ximul X0 hx hby rfl d_B23_48 rfl (xiload X0 hx hby rfl d_B23_49 rfl (xiadd X0 hx hby rfl d_B23_51 rfl (xistoreN X0 hx hby rfl d_B23_52 rfl (l' := #[rv b0, iv p1, iv p2, iv (((31 : Int32) * (((31 : Int32) * (((31 : Int32) * (((31 : Int32) * (((31 : Int32) * ((0 : Int32) + (own_lo z0))) + (own_lo z1))) + (own_lo z2))) + (own_lo z3))) + (own_lo z4))) + (own_lo z5)), iv (((((p1 + (1 : Int32)) + (1 : Int32)) + (1 : Int32)) + (1 : Int32)) + (1 : Int32)), iv (own_lo z5)]) rfl (xiinc X0 hx hby rfl d_B23_53 rfl (l' := #[rv b0, iv p1, iv p2, iv (((31 : Int32) * (((31 : Int32) * (((31 : Int32) * (((31 : Int32) * (((31 : Int32) * ((0 : Int32) + (own_lo z0))) + (own_lo z1))) + (own_lo z2))) + (own_lo z3))) + (own_lo z4))) + (own_lo z5)), iv ((((((p1 + (1 : Int32)) + (1 : Int32)) + (1 : Int32)) + (1 : Int32)) + (1 : Int32)) + (1 : Int32)), iv (own_lo z5)]) rfl (xgoto X0 hx hby rfl 56 5 rfl d_B23_56 (by decide) (by decide) (show Steps p.tables e below (s₁.setTop (mkF m 5 #[rv b0, iv p1, iv p2, iv (((31 : Int32) * (((31 : Int32) * (((31 : Int32) * (((31 : Int32) * (((31 : Int32) * ((0 : Int32) + (own_lo z0))) + (own_lo z1))) + (own_lo z2))) + (own_lo z3))) + (own_lo z4))) + (own_lo z5)), iv ((((((p1 + (1 : Int32)) + (1 : Int32)) + (1 : Int32)) + (1 : Int32)) + (1 : Int32)) + (1 : Int32)), iv (own_lo z5)] [])) _ from xiload X0 hx hby rfl d_B23_5 rfl (xiloadN X0 hx hby rfl d_B23_7 rfl (xiloadN X0 hx hby rfl d_B23_8 rfl (xiadd X0 hx hby rfl d_B23_9 rfl (xicmpYes X0 hx hby rfl 10 59 rfl d_B23_10 rfl (flt (e_6 : ¬ (((((((p1 + (1 : Int32)) + (1 : Int32)) + (1 : Int32)) + (1 : Int32)) + (1 : Int32)) + (1 : Int32)) < (p1 + p2)))).2.1 (by decide) (by decide) (xiloadN X0 hx hby rfl d_B23_59 rfl k)))))))))))))) ?_
                          refine own_cs X0 hx hZ hown hml e0 (wd hw 37 rfl) (wd hw 38 rfl) (wd hw 35 rfl) (wd hw 39 rfl) (own_rmSp l Z a0 hw [] (((31 : Int32) * (((31 : Int32) * (((31 : Int32) * (((31 : Int32) * (((31 : Int32) * ((0 : Int32) + (own_lo z0))) + (own_lo z1))) + (own_lo z2))) + (own_lo z3))) + (own_lo z4))) + (own_lo z5)) h0 n0 Z0 ) own_pd19 (hb hby d_B23_60) 0 [] rfl ⟨rfl, rfl, rfl, rfl, rfl⟩ (by decide) ?_
                          rintro T19 L19 v19 X19 hQ19
                          obtain ⟨rfl, N19q, e19⟩ := hQ19
                          have N19 := Fr.app N0 N19q
                          exact own_ret (v := some (.long (((own_sp (((31 : Int32) * (((31 : Int32) * (((31 : Int32) * (((31 : Int32) * (((31 : Int32) * ((0 : Int32) + (own_lo z0))) + (own_lo z1))) + (own_lo z2))) + (own_lo z3))) + (own_lo z4))) + (own_lo z5))).toInt64) &&& (4294967295 : Int64)))) X19 e19 Bd.notSynchronized (nv Bd.returns) (fun fs hr => XS.i2l X19.here hx rfl (hb hby d_B23_63) rfl (X19.ldc2Long hx hown (mvT hZ (wd hw 42 rfl)) (g := (mkF m 64 #[rv b0, iv p1, iv p2, iv (((31 : Int32) * (((31 : Int32) * (((31 : Int32) * (((31 : Int32) * (((31 : Int32) * ((0 : Int32) + (own_lo z0))) + (own_lo z1))) + (own_lo z2))) + (own_lo z3))) + (own_lo z4))) + (own_lo z5)), iv ((((((p1 + (1 : Int32)) + (1 : Int32)) + (1 : Int32)) + (1 : Int32)) + (1 : Int32)) + (1 : Int32)), iv (own_lo z5)] [(.long ((own_sp (((31 : Int32) * (((31 : Int32) * (((31 : Int32) * (((31 : Int32) * (((31 : Int32) * ((0 : Int32) + (own_lo z0))) + (own_lo z1))) + (own_lo z2))) + (own_lo z3))) + (own_lo z4))) + (own_lo z5))).toInt64))])) rfl (hb hby d_B23_64) _ (XS.land X19.here hx rfl (hb hby d_B23_67) rfl (retL X19 hx Bd.returns (hb hby d_B23_68) hr)))) ⟨by rw [own_AH, if_pos (e_0.mp hc10_1), if_neg hc21_3, if_pos (e_1.mp hc10_4), if_neg hc21_6, if_pos (e_2.mp hc10_7), if_neg hc21_9, if_pos (e_3.mp hc10_10), if_neg hc21_12, if_pos (e_4.mp hc10_13), if_neg hc21_15, if_pos (e_5.mp hc10_16), if_neg hc21_18], N19, rfl⟩ (by decide)
                      · refine own_go (b := s₁.setTop (mkF m 60 #[rv b0, iv p1, iv p2, iv (((31 : Int32) * (((31 : Int32) * (((31 : Int32) * (((31 : Int32) * ((0 : Int32) + (own_lo z0))) + (own_lo z1))) + (own_lo z2))) + (own_lo z3))) + (own_lo z4)), iv (((((p1 + (1 : Int32)) + (1 : Int32)) + (1 : Int32)) + (1 : Int32)) + (1 : Int32)), iv (own_lo z4)] [(.int (((31 : Int32) * (((31 : Int32) * (((31 : Int32) * (((31 : Int32) * ((0 : Int32) + (own_lo z0))) + (own_lo z1))) + (own_lo z2))) + (own_lo z3))) + (own_lo z4)))])) (fun t k => xicmpYes X0 hx hby rfl 10 59 rfl d_B23_10 rfl (flt hc10_16).2.1 (by decide) (by decide) (xiloadN X0 hx hby rfl d_B23_59 rfl k)) ?_
                        refine own_cs X0 hx hZ hown hml e0 (wd hw 37 rfl) (wd hw 38 rfl) (wd hw 35 rfl) (wd hw 39 rfl) (own_rmSp l Z a0 hw [] (((31 : Int32) * (((31 : Int32) * (((31 : Int32) * (((31 : Int32) * ((0 : Int32) + (own_lo z0))) + (own_lo z1))) + (own_lo z2))) + (own_lo z3))) + (own_lo z4)) h0 n0 Z0 ) own_pd19 (hb hby d_B23_60) 0 [] rfl ⟨rfl, rfl, rfl, rfl, rfl⟩ (by decide) ?_
                        rintro T20 L20 v20 X20 hQ20
                        obtain ⟨rfl, N20q, e20⟩ := hQ20
                        have N20 := Fr.app N0 N20q
                        exact own_ret (v := some (.long (((own_sp (((31 : Int32) * (((31 : Int32) * (((31 : Int32) * (((31 : Int32) * ((0 : Int32) + (own_lo z0))) + (own_lo z1))) + (own_lo z2))) + (own_lo z3))) + (own_lo z4))).toInt64) &&& (4294967295 : Int64)))) X20 e20 Bd.notSynchronized (nv Bd.returns) (fun fs hr => XS.i2l X20.here hx rfl (hb hby d_B23_63) rfl (X20.ldc2Long hx hown (mvT hZ (wd hw 42 rfl)) (g := (mkF m 64 #[rv b0, iv p1, iv p2, iv (((31 : Int32) * (((31 : Int32) * (((31 : Int32) * (((31 : Int32) * ((0 : Int32) + (own_lo z0))) + (own_lo z1))) + (own_lo z2))) + (own_lo z3))) + (own_lo z4)), iv (((((p1 + (1 : Int32)) + (1 : Int32)) + (1 : Int32)) + (1 : Int32)) + (1 : Int32)), iv (own_lo z4)] [(.long ((own_sp (((31 : Int32) * (((31 : Int32) * (((31 : Int32) * (((31 : Int32) * ((0 : Int32) + (own_lo z0))) + (own_lo z1))) + (own_lo z2))) + (own_lo z3))) + (own_lo z4))).toInt64))])) rfl (hb hby d_B23_64) _ (XS.land X20.here hx rfl (hb hby d_B23_67) rfl (retL X20 hx Bd.returns (hb hby d_B23_68) hr)))) ⟨by rw [own_AH, if_pos (e_0.mp hc10_1), if_neg hc21_3, if_pos (e_1.mp hc10_4), if_neg hc21_6, if_pos (e_2.mp hc10_7), if_neg hc21_9, if_pos (e_3.mp hc10_10), if_neg hc21_12, if_pos (e_4.mp hc10_13), if_neg hc21_15, if_neg (mt e_5.mpr hc10_16)], N20, rfl⟩ (by decide)
                  · refine own_go (b := s₁.setTop (mkF m 60 #[rv b0, iv p1, iv p2, iv (((31 : Int32) * (((31 : Int32) * (((31 : Int32) * ((0 : Int32) + (own_lo z0))) + (own_lo z1))) + (own_lo z2))) + (own_lo z3)), iv ((((p1 + (1 : Int32)) + (1 : Int32)) + (1 : Int32)) + (1 : Int32)), iv (own_lo z3)] [(.int (((31 : Int32) * (((31 : Int32) * (((31 : Int32) * ((0 : Int32) + (own_lo z0))) + (own_lo z1))) + (own_lo z2))) + (own_lo z3)))])) (fun t k => xicmpYes X0 hx hby rfl 10 59 rfl d_B23_10 rfl (flt hc10_13).2.1 (by decide) (by decide) (xiloadN X0 hx hby rfl d_B23_59 rfl k)) ?_
                    refine own_cs X0 hx hZ hown hml e0 (wd hw 37 rfl) (wd hw 38 rfl) (wd hw 35 rfl) (wd hw 39 rfl) (own_rmSp l Z a0 hw [] (((31 : Int32) * (((31 : Int32) * (((31 : Int32) * ((0 : Int32) + (own_lo z0))) + (own_lo z1))) + (own_lo z2))) + (own_lo z3)) h0 n0 Z0 ) own_pd19 (hb hby d_B23_60) 0 [] rfl ⟨rfl, rfl, rfl, rfl, rfl⟩ (by decide) ?_
                    rintro T21 L21 v21 X21 hQ21
                    obtain ⟨rfl, N21q, e21⟩ := hQ21
                    have N21 := Fr.app N0 N21q
                    exact own_ret (v := some (.long (((own_sp (((31 : Int32) * (((31 : Int32) * (((31 : Int32) * ((0 : Int32) + (own_lo z0))) + (own_lo z1))) + (own_lo z2))) + (own_lo z3))).toInt64) &&& (4294967295 : Int64)))) X21 e21 Bd.notSynchronized (nv Bd.returns) (fun fs hr => XS.i2l X21.here hx rfl (hb hby d_B23_63) rfl (X21.ldc2Long hx hown (mvT hZ (wd hw 42 rfl)) (g := (mkF m 64 #[rv b0, iv p1, iv p2, iv (((31 : Int32) * (((31 : Int32) * (((31 : Int32) * ((0 : Int32) + (own_lo z0))) + (own_lo z1))) + (own_lo z2))) + (own_lo z3)), iv ((((p1 + (1 : Int32)) + (1 : Int32)) + (1 : Int32)) + (1 : Int32)), iv (own_lo z3)] [(.long ((own_sp (((31 : Int32) * (((31 : Int32) * (((31 : Int32) * ((0 : Int32) + (own_lo z0))) + (own_lo z1))) + (own_lo z2))) + (own_lo z3))).toInt64))])) rfl (hb hby d_B23_64) _ (XS.land X21.here hx rfl (hb hby d_B23_67) rfl (retL X21 hx Bd.returns (hb hby d_B23_68) hr)))) ⟨by rw [own_AH, if_pos (e_0.mp hc10_1), if_neg hc21_3, if_pos (e_1.mp hc10_4), if_neg hc21_6, if_pos (e_2.mp hc10_7), if_neg hc21_9, if_pos (e_3.mp hc10_10), if_neg hc21_12, if_neg (mt e_4.mpr hc10_13)], N21, rfl⟩ (by decide)
              · refine own_go (b := s₁.setTop (mkF m 60 #[rv b0, iv p1, iv p2, iv (((31 : Int32) * (((31 : Int32) * ((0 : Int32) + (own_lo z0))) + (own_lo z1))) + (own_lo z2)), iv (((p1 + (1 : Int32)) + (1 : Int32)) + (1 : Int32)), iv (own_lo z2)] [(.int (((31 : Int32) * (((31 : Int32) * ((0 : Int32) + (own_lo z0))) + (own_lo z1))) + (own_lo z2)))])) (fun t k => xicmpYes X0 hx hby rfl 10 59 rfl d_B23_10 rfl (flt hc10_10).2.1 (by decide) (by decide) (xiloadN X0 hx hby rfl d_B23_59 rfl k)) ?_
                refine own_cs X0 hx hZ hown hml e0 (wd hw 37 rfl) (wd hw 38 rfl) (wd hw 35 rfl) (wd hw 39 rfl) (own_rmSp l Z a0 hw [] (((31 : Int32) * (((31 : Int32) * ((0 : Int32) + (own_lo z0))) + (own_lo z1))) + (own_lo z2)) h0 n0 Z0 ) own_pd19 (hb hby d_B23_60) 0 [] rfl ⟨rfl, rfl, rfl, rfl, rfl⟩ (by decide) ?_
                rintro T22 L22 v22 X22 hQ22
                obtain ⟨rfl, N22q, e22⟩ := hQ22
                have N22 := Fr.app N0 N22q
                exact own_ret (v := some (.long (((own_sp (((31 : Int32) * (((31 : Int32) * ((0 : Int32) + (own_lo z0))) + (own_lo z1))) + (own_lo z2))).toInt64) &&& (4294967295 : Int64)))) X22 e22 Bd.notSynchronized (nv Bd.returns) (fun fs hr => XS.i2l X22.here hx rfl (hb hby d_B23_63) rfl (X22.ldc2Long hx hown (mvT hZ (wd hw 42 rfl)) (g := (mkF m 64 #[rv b0, iv p1, iv p2, iv (((31 : Int32) * (((31 : Int32) * ((0 : Int32) + (own_lo z0))) + (own_lo z1))) + (own_lo z2)), iv (((p1 + (1 : Int32)) + (1 : Int32)) + (1 : Int32)), iv (own_lo z2)] [(.long ((own_sp (((31 : Int32) * (((31 : Int32) * ((0 : Int32) + (own_lo z0))) + (own_lo z1))) + (own_lo z2))).toInt64))])) rfl (hb hby d_B23_64) _ (XS.land X22.here hx rfl (hb hby d_B23_67) rfl (retL X22 hx Bd.returns (hb hby d_B23_68) hr)))) ⟨by rw [own_AH, if_pos (e_0.mp hc10_1), if_neg hc21_3, if_pos (e_1.mp hc10_4), if_neg hc21_6, if_pos (e_2.mp hc10_7), if_neg hc21_9, if_neg (mt e_3.mpr hc10_10)], N22, rfl⟩ (by decide)
          · refine own_go (b := s₁.setTop (mkF m 60 #[rv b0, iv p1, iv p2, iv (((31 : Int32) * ((0 : Int32) + (own_lo z0))) + (own_lo z1)), iv ((p1 + (1 : Int32)) + (1 : Int32)), iv (own_lo z1)] [(.int (((31 : Int32) * ((0 : Int32) + (own_lo z0))) + (own_lo z1)))])) (fun t k => xicmpYes X0 hx hby rfl 10 59 rfl d_B23_10 rfl (flt hc10_7).2.1 (by decide) (by decide) (xiloadN X0 hx hby rfl d_B23_59 rfl k)) ?_
            refine own_cs X0 hx hZ hown hml e0 (wd hw 37 rfl) (wd hw 38 rfl) (wd hw 35 rfl) (wd hw 39 rfl) (own_rmSp l Z a0 hw [] (((31 : Int32) * ((0 : Int32) + (own_lo z0))) + (own_lo z1)) h0 n0 Z0 ) own_pd19 (hb hby d_B23_60) 0 [] rfl ⟨rfl, rfl, rfl, rfl, rfl⟩ (by decide) ?_
            rintro T23 L23 v23 X23 hQ23
            obtain ⟨rfl, N23q, e23⟩ := hQ23
            have N23 := Fr.app N0 N23q
            exact own_ret (v := some (.long (((own_sp (((31 : Int32) * ((0 : Int32) + (own_lo z0))) + (own_lo z1))).toInt64) &&& (4294967295 : Int64)))) X23 e23 Bd.notSynchronized (nv Bd.returns) (fun fs hr => XS.i2l X23.here hx rfl (hb hby d_B23_63) rfl (X23.ldc2Long hx hown (mvT hZ (wd hw 42 rfl)) (g := (mkF m 64 #[rv b0, iv p1, iv p2, iv (((31 : Int32) * ((0 : Int32) + (own_lo z0))) + (own_lo z1)), iv ((p1 + (1 : Int32)) + (1 : Int32)), iv (own_lo z1)] [(.long ((own_sp (((31 : Int32) * ((0 : Int32) + (own_lo z0))) + (own_lo z1))).toInt64))])) rfl (hb hby d_B23_64) _ (XS.land X23.here hx rfl (hb hby d_B23_67) rfl (retL X23 hx Bd.returns (hb hby d_B23_68) hr)))) ⟨by rw [own_AH, if_pos (e_0.mp hc10_1), if_neg hc21_3, if_pos (e_1.mp hc10_4), if_neg hc21_6, if_neg (mt e_2.mpr hc10_7)], N23, rfl⟩ (by decide)
      · refine own_go (b := s₁.setTop (mkF m 60 #[rv b0, iv p1, iv p2, iv ((0 : Int32) + (own_lo z0)), iv (p1 + (1 : Int32)), iv (own_lo z0)] [(.int ((0 : Int32) + (own_lo z0)))])) (fun t k => xicmpYes X0 hx hby rfl 10 59 rfl d_B23_10 rfl (flt hc10_4).2.1 (by decide) (by decide) (xiloadN X0 hx hby rfl d_B23_59 rfl k)) ?_
        refine own_cs X0 hx hZ hown hml e0 (wd hw 37 rfl) (wd hw 38 rfl) (wd hw 35 rfl) (wd hw 39 rfl) (own_rmSp l Z a0 hw [] ((0 : Int32) + (own_lo z0)) h0 n0 Z0 ) own_pd19 (hb hby d_B23_60) 0 [] rfl ⟨rfl, rfl, rfl, rfl, rfl⟩ (by decide) ?_
        rintro T24 L24 v24 X24 hQ24
        obtain ⟨rfl, N24q, e24⟩ := hQ24
        have N24 := Fr.app N0 N24q
        exact own_ret (v := some (.long (((own_sp ((0 : Int32) + (own_lo z0))).toInt64) &&& (4294967295 : Int64)))) X24 e24 Bd.notSynchronized (nv Bd.returns) (fun fs hr => XS.i2l X24.here hx rfl (hb hby d_B23_63) rfl (X24.ldc2Long hx hown (mvT hZ (wd hw 42 rfl)) (g := (mkF m 64 #[rv b0, iv p1, iv p2, iv ((0 : Int32) + (own_lo z0)), iv (p1 + (1 : Int32)), iv (own_lo z0)] [(.long ((own_sp ((0 : Int32) + (own_lo z0))).toInt64))])) rfl (hb hby d_B23_64) _ (XS.land X24.here hx rfl (hb hby d_B23_67) rfl (retL X24 hx Bd.returns (hb hby d_B23_68) hr)))) ⟨by rw [own_AH, if_pos (e_0.mp hc10_1), if_neg hc21_3, if_neg (mt e_1.mpr hc10_4)], N24, rfl⟩ (by decide)
  · refine own_go (b := s₁.setTop (mkF m 60 #[rv b0, iv p1, iv p2, iv 0, iv p1, .unset] [.int 0])) (fun t k => xicmpYes X0 hx hby rfl 10 59 rfl d_B23_10 rfl (flt hc10_1).2.1 (by decide) (by decide) (xiloadN X0 hx hby rfl d_B23_59 rfl k)) ?_
    refine own_cs X0 hx hZ hown hml e0 (wd hw 37 rfl) (wd hw 38 rfl) (wd hw 35 rfl) (wd hw 39 rfl) (own_rmSp l Z a0 hw [] (0 : Int32) h0 n0 Z0 ) own_pd19 (hb hby d_B23_60) 0 [] rfl ⟨rfl, rfl, rfl, rfl, rfl⟩ (by decide) ?_
    rintro T25 L25 v25 X25 hQ25
    obtain ⟨rfl, N25q, e25⟩ := hQ25
    have N25 := Fr.app N0 N25q
    exact own_ret (v := some (.long (((own_sp (0 : Int32)).toInt64) &&& (4294967295 : Int64)))) X25 e25 Bd.notSynchronized (nv Bd.returns) (fun fs hr => XS.i2l X25.here hx rfl (hb hby d_B23_63) rfl (X25.ldc2Long hx hown (mvT hZ (wd hw 42 rfl)) (g := (mkF m 64 #[rv b0, iv p1, iv p2, iv 0, iv p1, .unset] [(.long ((own_sp (0 : Int32)).toInt64))])) rfl (hb hby d_B23_64) _ (XS.land X25.here hx rfl (hb hby d_B23_67) rfl (retL X25 hx Bd.returns (hb hby d_B23_68) hr)))) ⟨by rw [own_AH, if_neg (mt e_0.mpr hc10_1)], N25, rfl⟩ (by decide)
theorem d_B24_0 : decode method_3_code 0 = .ok (.iload_n 1, 1) := by decide +kernel
theorem d_B24_1 : decode method_3_code 1 = .ok (.iload_n 2, 1) := by decide +kernel
theorem d_B24_2 : decode method_3_code 2 = .ok (.if_icmp .lt 20, 3) := by decide +kernel
theorem d_B24_5 : decode method_3_code 5 = .ok (.iload_n 1, 1) := by decide +kernel
theorem d_B24_6 : decode method_3_code 6 = .ok (.iload_n 2, 1) := by decide +kernel
theorem d_B24_7 : decode method_3_code 7 = .ok (.iload_n 3, 1) := by decide +kernel
theorem d_B24_8 : decode method_3_code 8 = .ok (.iadd, 1) := by decide +kernel
theorem d_B24_9 : decode method_3_code 9 = .ok (.if_icmp .ge 13, 3) := by decide +kernel
theorem d_B24_12 : decode method_3_code 12 = .ok (.aload_n 0, 1) := by decide +kernel
theorem d_B24_13 : decode method_3_code 13 = .ok (.iload_n 1, 1) := by decide +kernel
theorem d_B24_14 : decode method_3_code 14 = .ok (.baload, 1) := by decide +kernel
theorem d_B24_15 : decode method_3_code 15 = .ok (.ifCond .ge 7, 3) := by decide +kernel
theorem d_B24_18 : decode method_3_code 18 = .ok (.iconst 1, 1) := by decide +kernel
theorem d_B24_19 : decode method_3_code 19 = .ok (.goto 4, 3) := by decide +kernel
theorem d_B24_22 : decode method_3_code 22 = .ok (.iconst 0, 1) := by decide +kernel
theorem d_B24_23 : decode method_3_code 23 = .ok (.ireturn, 1) := by decide +kernel
set_option maxRecDepth 65536 in
set_option maxHeartbeats 40000000 in
theorem own_rmB_0 (l : Launch) (Z : State) (a0 : Array Value) (hw : ∀ d ∈ tables_1, d.before a0 Z = true) (ws : List Jvm.Cond) (b0 : Addr) (p2 : Int32) (p3 : Int32) (kb : ClassId) (y0 y1 y2 y3 y4 y5 : Int32) (h0 : Heap) (n0 : Nat) (Z0 : n0 ≤ h0.size) (V_b0 : Arv Z h0 b0 kb .byte (6 : Int32) [.int y0, .int y1, .int y2, .int y3, .int y4, .int y5] (.int 0)) : own_M l Z y5N method_3_code 4 (some .boolean) ws ({ frames := 0, cells := 0, slots := 0, locals := 0 } : Room) #[.ref b0, .int 0, .int p2, .int p3] h0 (own_QI (own_bd (0 : Int32) p2 p3 y0) h0 n0) := by
  refine own_begin (n0 := n0) (f0 := mkF ⟨0, 0⟩ 0 #[rv b0, iv 0, iv p2, iv p3] []) (plainFor_of_name own_pn6) (fun m => ef_1111_4 m _ _ _ _ rfl rfl rfl rfl) ?_
  intro p e s m below meth c s₁ Bd hZ hx hby hml hown hnm X0 e0 N0
  refine own_go (b := s₁.setTop (mkF m 2 #[rv b0, iv 0, iv p2, iv p3] [.int p2, .int 0])) (fun t k => xiloadN X0 hx hby rfl d_B24_0 rfl (xiloadN X0 hx hby rfl d_B24_1 rfl k)) ?_
  by_cases hc2_1 : (0 : Int32) < p2
  · exact own_ret (v := some (.int 0)) X0 e0 Bd.notSynchronized (nv Bd.returns) (fun fs hr => xicmpYes X0 hx hby rfl 2 22 rfl d_B24_2 rfl (tlt hc2_1).1 (by decide) (by decide) (xiconst X0 hx hby rfl d_B24_22 (retN X0 hx (t := .boolean) Bd.returns (by simp) (hb hby d_B24_23) hr))) ⟨by rw [own_bd, if_pos hc2_1], N0, rfl⟩ (by decide)
  · refine own_go (b := s₁.setTop (mkF m 9 #[rv b0, iv 0, iv p2, iv p3] [(.int (p2 + p3)), .int 0])) (fun t k => xicmpNo X0 hx hby rfl d_B24_2 rfl (flt hc2_1).1 (xiloadN X0 hx hby rfl d_B24_5 rfl (xiloadN X0 hx hby rfl d_B24_6 rfl (xiloadN X0 hx hby rfl d_B24_7 rfl (xiadd X0 hx hby rfl d_B24_8 rfl k))))) ?_
    by_cases hc9_2 : (0 : Int32) < (p2 + p3)
    · obtain ⟨cl3, Ar3, -, Sz3, M3, Hs3, Gs3⟩ := id V_b0
      have hin3 := inb_of (j := (0 : Int32)) Sz3 ⟨by decide, by decide⟩
      refine own_go (b := s₁.setTop (mkF m 15 #[rv b0, iv 0, iv p2, iv p3] [.int y0])) (fun t k => xicmpNo X0 hx hby rfl d_B24_9 rfl (tlt hc9_2).2.1 (xaloadN X0 hx hby rfl d_B24_12 rfl rfl (xiloadN X0 hx hby rfl d_B24_13 rfl (X0.baloadBytes hx (j := (0 : Int32)) (v := (.int y0)) (own_in e0 Ar3.1) (State.isArrayOf_alike hZ.alike Ar3.2.1) Ar3.2.2 hin3 (Has.at Hs3 hin3 rfl) (g := (mkF m 14 #[rv b0, iv 0, iv p2, iv p3] [.int 0, .ref b0])) rfl rfl (hb hby d_B24_14) _ k)))) ?_
      by_cases hc15_4 : y0 < (0 : Int32)
      · exact own_ret (v := some (.int 1)) X0 e0 Bd.notSynchronized (nv Bd.returns) (fun fs hr => xifNo X0 hx hby rfl d_B24_15 rfl ((if0 _ _).trans (tlt hc15_4).2.1) (xiconst X0 hx hby rfl d_B24_18 (xgoto X0 hx hby rfl 19 23 rfl d_B24_19 (by decide) (by decide) (retN X0 hx (t := .boolean) Bd.returns (by simp) (hb hby d_B24_23) hr)))) ⟨by rw [own_bd, if_neg hc2_1, if_pos hc9_2, if_pos hc15_4], N0, rfl⟩ (by decide)
      · exact own_ret (v := some (.int 0)) X0 e0 Bd.notSynchronized (nv Bd.returns) (fun fs hr => xifYes X0 hx hby rfl 15 22 rfl d_B24_15 rfl ((if0 _ _).trans (flt hc15_4).2.1) (by decide) (by decide) (xiconst X0 hx hby rfl d_B24_22 (retN X0 hx (t := .boolean) Bd.returns (by simp) (hb hby d_B24_23) hr))) ⟨by rw [own_bd, if_neg hc2_1, if_pos hc9_2, if_neg hc15_4], N0, rfl⟩ (by decide)
    · exact own_ret (v := some (.int 0)) X0 e0 Bd.notSynchronized (nv Bd.returns) (fun fs hr => xicmpYes X0 hx hby rfl 9 22 rfl d_B24_9 rfl (flt hc9_2).2.1 (by decide) (by decide) (xiconst X0 hx hby rfl d_B24_22 (retN X0 hx (t := .boolean) Bd.returns (by simp) (hb hby d_B24_23) hr))) ⟨by rw [own_bd, if_neg hc2_1, if_neg hc9_2], N0, rfl⟩ (by decide)
set_option maxRecDepth 65536 in
set_option maxHeartbeats 40000000 in
theorem own_rmB_1 (l : Launch) (Z : State) (a0 : Array Value) (hw : ∀ d ∈ tables_1, d.before a0 Z = true) (ws : List Jvm.Cond) (b0 : Addr) (p2 : Int32) (p3 : Int32) (kb : ClassId) (y0 y1 y2 y3 y4 y5 : Int32) (h0 : Heap) (n0 : Nat) (Z0 : n0 ≤ h0.size) (V_b0 : Arv Z h0 b0 kb .byte (6 : Int32) [.int y0, .int y1, .int y2, .int y3, .int y4, .int y5] (.int 0)) : own_M l Z y5N method_3_code 4 (some .boolean) ws ({ frames := 0, cells := 0, slots := 0, locals := 0 } : Room) #[.ref b0, .int 1, .int p2, .int p3] h0 (own_QI (own_bd (1 : Int32) p2 p3 y1) h0 n0) := by
  refine own_begin (n0 := n0) (f0 := mkF ⟨0, 0⟩ 0 #[rv b0, iv 1, iv p2, iv p3] []) (plainFor_of_name own_pn6) (fun m => ef_1111_4 m _ _ _ _ rfl rfl rfl rfl) ?_
  intro p e s m below meth c s₁ Bd hZ hx hby hml hown hnm X0 e0 N0
  refine own_go (b := s₁.setTop (mkF m 2 #[rv b0, iv 1, iv p2, iv p3] [.int p2, .int 1])) (fun t k => xiloadN X0 hx hby rfl d_B24_0 rfl (xiloadN X0 hx hby rfl d_B24_1 rfl k)) ?_
  by_cases hc2_1 : (1 : Int32) < p2
  · exact own_ret (v := some (.int 0)) X0 e0 Bd.notSynchronized (nv Bd.returns) (fun fs hr => xicmpYes X0 hx hby rfl 2 22 rfl d_B24_2 rfl (tlt hc2_1).1 (by decide) (by decide) (xiconst X0 hx hby rfl d_B24_22 (retN X0 hx (t := .boolean) Bd.returns (by simp) (hb hby d_B24_23) hr))) ⟨by rw [own_bd, if_pos hc2_1], N0, rfl⟩ (by decide)
  · refine own_go (b := s₁.setTop (mkF m 9 #[rv b0, iv 1, iv p2, iv p3] [(.int (p2 + p3)), .int 1])) (fun t k => xicmpNo X0 hx hby rfl d_B24_2 rfl (flt hc2_1).1 (xiloadN X0 hx hby rfl d_B24_5 rfl (xiloadN X0 hx hby rfl d_B24_6 rfl (xiloadN X0 hx hby rfl d_B24_7 rfl (xiadd X0 hx hby rfl d_B24_8 rfl k))))) ?_
    by_cases hc9_2 : (1 : Int32) < (p2 + p3)
    · obtain ⟨cl3, Ar3, -, Sz3, M3, Hs3, Gs3⟩ := id V_b0
      have hin3 := inb_of (j := (1 : Int32)) Sz3 ⟨by decide, by decide⟩
      refine own_go (b := s₁.setTop (mkF m 15 #[rv b0, iv 1, iv p2, iv p3] [.int y1])) (fun t k => xicmpNo X0 hx hby rfl d_B24_9 rfl (tlt hc9_2).2.1 (xaloadN X0 hx hby rfl d_B24_12 rfl rfl (xiloadN X0 hx hby rfl d_B24_13 rfl (X0.baloadBytes hx (j := (1 : Int32)) (v := (.int y1)) (own_in e0 Ar3.1) (State.isArrayOf_alike hZ.alike Ar3.2.1) Ar3.2.2 hin3 (Has.at Hs3 hin3 rfl) (g := (mkF m 14 #[rv b0, iv 1, iv p2, iv p3] [.int 1, .ref b0])) rfl rfl (hb hby d_B24_14) _ k)))) ?_
      by_cases hc15_4 : y1 < (0 : Int32)
      · exact own_ret (v := some (.int 1)) X0 e0 Bd.notSynchronized (nv Bd.returns) (fun fs hr => xifNo X0 hx hby rfl d_B24_15 rfl ((if0 _ _).trans (tlt hc15_4).2.1) (xiconst X0 hx hby rfl d_B24_18 (xgoto X0 hx hby rfl 19 23 rfl d_B24_19 (by decide) (by decide) (retN X0 hx (t := .boolean) Bd.returns (by simp) (hb hby d_B24_23) hr)))) ⟨by rw [own_bd, if_neg hc2_1, if_pos hc9_2, if_pos hc15_4], N0, rfl⟩ (by decide)
      · exact own_ret (v := some (.int 0)) X0 e0 Bd.notSynchronized (nv Bd.returns) (fun fs hr => xifYes X0 hx hby rfl 15 22 rfl d_B24_15 rfl ((if0 _ _).trans (flt hc15_4).2.1) (by decide) (by decide) (xiconst X0 hx hby rfl d_B24_22 (retN X0 hx (t := .boolean) Bd.returns (by simp) (hb hby d_B24_23) hr))) ⟨by rw [own_bd, if_neg hc2_1, if_pos hc9_2, if_neg hc15_4], N0, rfl⟩ (by decide)
    · exact own_ret (v := some (.int 0)) X0 e0 Bd.notSynchronized (nv Bd.returns) (fun fs hr => xicmpYes X0 hx hby rfl 9 22 rfl d_B24_9 rfl (flt hc9_2).2.1 (by decide) (by decide) (xiconst X0 hx hby rfl d_B24_22 (retN X0 hx (t := .boolean) Bd.returns (by simp) (hb hby d_B24_23) hr))) ⟨by rw [own_bd, if_neg hc2_1, if_neg hc9_2], N0, rfl⟩ (by decide)
set_option maxRecDepth 65536 in
set_option maxHeartbeats 40000000 in
theorem own_rmB_2 (l : Launch) (Z : State) (a0 : Array Value) (hw : ∀ d ∈ tables_1, d.before a0 Z = true) (ws : List Jvm.Cond) (b0 : Addr) (p2 : Int32) (p3 : Int32) (kb : ClassId) (y0 y1 y2 y3 y4 y5 : Int32) (h0 : Heap) (n0 : Nat) (Z0 : n0 ≤ h0.size) (V_b0 : Arv Z h0 b0 kb .byte (6 : Int32) [.int y0, .int y1, .int y2, .int y3, .int y4, .int y5] (.int 0)) : own_M l Z y5N method_3_code 4 (some .boolean) ws ({ frames := 0, cells := 0, slots := 0, locals := 0 } : Room) #[.ref b0, .int 2, .int p2, .int p3] h0 (own_QI (own_bd (2 : Int32) p2 p3 y2) h0 n0) := by
  refine own_begin (n0 := n0) (f0 := mkF ⟨0, 0⟩ 0 #[rv b0, iv 2, iv p2, iv p3] []) (plainFor_of_name own_pn6) (fun m => ef_1111_4 m _ _ _ _ rfl rfl rfl rfl) ?_
  intro p e s m below meth c s₁ Bd hZ hx hby hml hown hnm X0 e0 N0
  refine own_go (b := s₁.setTop (mkF m 2 #[rv b0, iv 2, iv p2, iv p3] [.int p2, .int 2])) (fun t k => xiloadN X0 hx hby rfl d_B24_0 rfl (xiloadN X0 hx hby rfl d_B24_1 rfl k)) ?_
  by_cases hc2_1 : (2 : Int32) < p2
  · exact own_ret (v := some (.int 0)) X0 e0 Bd.notSynchronized (nv Bd.returns) (fun fs hr => xicmpYes X0 hx hby rfl 2 22 rfl d_B24_2 rfl (tlt hc2_1).1 (by decide) (by decide) (xiconst X0 hx hby rfl d_B24_22 (retN X0 hx (t := .boolean) Bd.returns (by simp) (hb hby d_B24_23) hr))) ⟨by rw [own_bd, if_pos hc2_1], N0, rfl⟩ (by decide)
  · refine own_go (b := s₁.setTop (mkF m 9 #[rv b0, iv 2, iv p2, iv p3] [(.int (p2 + p3)), .int 2])) (fun t k => xicmpNo X0 hx hby rfl d_B24_2 rfl (flt hc2_1).1 (xiloadN X0 hx hby rfl d_B24_5 rfl (xiloadN X0 hx hby rfl d_B24_6 rfl (xiloadN X0 hx hby rfl d_B24_7 rfl (xiadd X0 hx hby rfl d_B24_8 rfl k))))) ?_
    by_cases hc9_2 : (2 : Int32) < (p2 + p3)
    · obtain ⟨cl3, Ar3, -, Sz3, M3, Hs3, Gs3⟩ := id V_b0
      have hin3 := inb_of (j := (2 : Int32)) Sz3 ⟨by decide, by decide⟩
      refine own_go (b := s₁.setTop (mkF m 15 #[rv b0, iv 2, iv p2, iv p3] [.int y2])) (fun t k => xicmpNo X0 hx hby rfl d_B24_9 rfl (tlt hc9_2).2.1 (xaloadN X0 hx hby rfl d_B24_12 rfl rfl (xiloadN X0 hx hby rfl d_B24_13 rfl (X0.baloadBytes hx (j := (2 : Int32)) (v := (.int y2)) (own_in e0 Ar3.1) (State.isArrayOf_alike hZ.alike Ar3.2.1) Ar3.2.2 hin3 (Has.at Hs3 hin3 rfl) (g := (mkF m 14 #[rv b0, iv 2, iv p2, iv p3] [.int 2, .ref b0])) rfl rfl (hb hby d_B24_14) _ k)))) ?_
      by_cases hc15_4 : y2 < (0 : Int32)
      · exact own_ret (v := some (.int 1)) X0 e0 Bd.notSynchronized (nv Bd.returns) (fun fs hr => xifNo X0 hx hby rfl d_B24_15 rfl ((if0 _ _).trans (tlt hc15_4).2.1) (xiconst X0 hx hby rfl d_B24_18 (xgoto X0 hx hby rfl 19 23 rfl d_B24_19 (by decide) (by decide) (retN X0 hx (t := .boolean) Bd.returns (by simp) (hb hby d_B24_23) hr)))) ⟨by rw [own_bd, if_neg hc2_1, if_pos hc9_2, if_pos hc15_4], N0, rfl⟩ (by decide)
      · exact own_ret (v := some (.int 0)) X0 e0 Bd.notSynchronized (nv Bd.returns) (fun fs hr => xifYes X0 hx hby rfl 15 22 rfl d_B24_15 rfl ((if0 _ _).trans (flt hc15_4).2.1) (by decide) (by decide) (xiconst X0 hx hby rfl d_B24_22 (retN X0 hx (t := .boolean) Bd.returns (by simp) (hb hby d_B24_23) hr))) ⟨by rw [own_bd, if_neg hc2_1, if_pos hc9_2, if_neg hc15_4], N0, rfl⟩ (by decide)
    · exact own_ret (v := some (.int 0)) X0 e0 Bd.notSynchronized (nv Bd.returns) (fun fs hr => xicmpYes X0 hx hby rfl 9 22 rfl d_B24_9 rfl (flt hc9_2).2.1 (by decide) (by decide) (xiconst X0 hx hby rfl d_B24_22 (retN X0 hx (t := .boolean) Bd.returns (by simp) (hb hby d_B24_23) hr))) ⟨by rw [own_bd, if_neg hc2_1, if_neg hc9_2], N0, rfl⟩ (by decide)
set_option maxRecDepth 65536 in
set_option maxHeartbeats 40000000 in
theorem own_rmB_3 (l : Launch) (Z : State) (a0 : Array Value) (hw : ∀ d ∈ tables_1, d.before a0 Z = true) (ws : List Jvm.Cond) (b0 : Addr) (p2 : Int32) (p3 : Int32) (kb : ClassId) (y0 y1 y2 y3 y4 y5 : Int32) (h0 : Heap) (n0 : Nat) (Z0 : n0 ≤ h0.size) (V_b0 : Arv Z h0 b0 kb .byte (6 : Int32) [.int y0, .int y1, .int y2, .int y3, .int y4, .int y5] (.int 0)) : own_M l Z y5N method_3_code 4 (some .boolean) ws ({ frames := 0, cells := 0, slots := 0, locals := 0 } : Room) #[.ref b0, .int 3, .int p2, .int p3] h0 (own_QI (own_bd (3 : Int32) p2 p3 y3) h0 n0) := by
  refine own_begin (n0 := n0) (f0 := mkF ⟨0, 0⟩ 0 #[rv b0, iv 3, iv p2, iv p3] []) (plainFor_of_name own_pn6) (fun m => ef_1111_4 m _ _ _ _ rfl rfl rfl rfl) ?_
  intro p e s m below meth c s₁ Bd hZ hx hby hml hown hnm X0 e0 N0
  refine own_go (b := s₁.setTop (mkF m 2 #[rv b0, iv 3, iv p2, iv p3] [.int p2, .int 3])) (fun t k => xiloadN X0 hx hby rfl d_B24_0 rfl (xiloadN X0 hx hby rfl d_B24_1 rfl k)) ?_
  by_cases hc2_1 : (3 : Int32) < p2
  · exact own_ret (v := some (.int 0)) X0 e0 Bd.notSynchronized (nv Bd.returns) (fun fs hr => xicmpYes X0 hx hby rfl 2 22 rfl d_B24_2 rfl (tlt hc2_1).1 (by decide) (by decide) (xiconst X0 hx hby rfl d_B24_22 (retN X0 hx (t := .boolean) Bd.returns (by simp) (hb hby d_B24_23) hr))) ⟨by rw [own_bd, if_pos hc2_1], N0, rfl⟩ (by decide)
  · refine own_go (b := s₁.setTop (mkF m 9 #[rv b0, iv 3, iv p2, iv p3] [(.int (p2 + p3)), .int 3])) (fun t k => xicmpNo X0 hx hby rfl d_B24_2 rfl (flt hc2_1).1 (xiloadN X0 hx hby rfl d_B24_5 rfl (xiloadN X0 hx hby rfl d_B24_6 rfl (xiloadN X0 hx hby rfl d_B24_7 rfl (xiadd X0 hx hby rfl d_B24_8 rfl k))))) ?_
    by_cases hc9_2 : (3 : Int32) < (p2 + p3)
    · obtain ⟨cl3, Ar3, -, Sz3, M3, Hs3, Gs3⟩ := id V_b0
      have hin3 := inb_of (j := (3 : Int32)) Sz3 ⟨by decide, by decide⟩
      refine own_go (b := s₁.setTop (mkF m 15 #[rv b0, iv 3, iv p2, iv p3] [.int y3])) (fun t k => xicmpNo X0 hx hby rfl d_B24_9 rfl (tlt hc9_2).2.1 (xaloadN X0 hx hby rfl d_B24_12 rfl rfl (xiloadN X0 hx hby rfl d_B24_13 rfl (X0.baloadBytes hx (j := (3 : Int32)) (v := (.int y3)) (own_in e0 Ar3.1) (State.isArrayOf_alike hZ.alike Ar3.2.1) Ar3.2.2 hin3 (Has.at Hs3 hin3 rfl) (g := (mkF m 14 #[rv b0, iv 3, iv p2, iv p3] [.int 3, .ref b0])) rfl rfl (hb hby d_B24_14) _ k)))) ?_
      by_cases hc15_4 : y3 < (0 : Int32)
      · exact own_ret (v := some (.int 1)) X0 e0 Bd.notSynchronized (nv Bd.returns) (fun fs hr => xifNo X0 hx hby rfl d_B24_15 rfl ((if0 _ _).trans (tlt hc15_4).2.1) (xiconst X0 hx hby rfl d_B24_18 (xgoto X0 hx hby rfl 19 23 rfl d_B24_19 (by decide) (by decide) (retN X0 hx (t := .boolean) Bd.returns (by simp) (hb hby d_B24_23) hr)))) ⟨by rw [own_bd, if_neg hc2_1, if_pos hc9_2, if_pos hc15_4], N0, rfl⟩ (by decide)
      · exact own_ret (v := some (.int 0)) X0 e0 Bd.notSynchronized (nv Bd.returns) (fun fs hr => xifYes X0 hx hby rfl 15 22 rfl d_B24_15 rfl ((if0 _ _).trans (flt hc15_4).2.1) (by decide) (by decide) (xiconst X0 hx hby rfl d_B24_22 (retN X0 hx (t := .boolean) Bd.returns (by simp) (hb hby d_B24_23) hr))) ⟨by rw [own_bd, if_neg hc2_1, if_pos hc9_2, if_neg hc15_4], N0, rfl⟩ (by decide)
    · exact own_ret (v := some (.int 0)) X0 e0 Bd.notSynchronized (nv Bd.returns) (fun fs hr => xicmpYes X0 hx hby rfl 9 22 rfl d_B24_9 rfl (flt hc9_2).2.1 (by decide) (by decide) (xiconst X0 hx hby rfl d_B24_22 (retN X0 hx (t := .boolean) Bd.returns (by simp) (hb hby d_B24_23) hr))) ⟨by rw [own_bd, if_neg hc2_1, if_neg hc9_2], N0, rfl⟩ (by decide)
set_option maxRecDepth 65536 in
set_option maxHeartbeats 40000000 in
theorem own_rmB_4 (l : Launch) (Z : State) (a0 : Array Value) (hw : ∀ d ∈ tables_1, d.before a0 Z = true) (ws : List Jvm.Cond) (b0 : Addr) (p2 : Int32) (p3 : Int32) (kb : ClassId) (y0 y1 y2 y3 y4 y5 : Int32) (h0 : Heap) (n0 : Nat) (Z0 : n0 ≤ h0.size) (V_b0 : Arv Z h0 b0 kb .byte (6 : Int32) [.int y0, .int y1, .int y2, .int y3, .int y4, .int y5] (.int 0)) : own_M l Z y5N method_3_code 4 (some .boolean) ws ({ frames := 0, cells := 0, slots := 0, locals := 0 } : Room) #[.ref b0, .int 4, .int p2, .int p3] h0 (own_QI (own_bd (4 : Int32) p2 p3 y4) h0 n0) := by
  refine own_begin (n0 := n0) (f0 := mkF ⟨0, 0⟩ 0 #[rv b0, iv 4, iv p2, iv p3] []) (plainFor_of_name own_pn6) (fun m => ef_1111_4 m _ _ _ _ rfl rfl rfl rfl) ?_
  intro p e s m below meth c s₁ Bd hZ hx hby hml hown hnm X0 e0 N0
  refine own_go (b := s₁.setTop (mkF m 2 #[rv b0, iv 4, iv p2, iv p3] [.int p2, .int 4])) (fun t k => xiloadN X0 hx hby rfl d_B24_0 rfl (xiloadN X0 hx hby rfl d_B24_1 rfl k)) ?_
  by_cases hc2_1 : (4 : Int32) < p2
  · exact own_ret (v := some (.int 0)) X0 e0 Bd.notSynchronized (nv Bd.returns) (fun fs hr => xicmpYes X0 hx hby rfl 2 22 rfl d_B24_2 rfl (tlt hc2_1).1 (by decide) (by decide) (xiconst X0 hx hby rfl d_B24_22 (retN X0 hx (t := .boolean) Bd.returns (by simp) (hb hby d_B24_23) hr))) ⟨by rw [own_bd, if_pos hc2_1], N0, rfl⟩ (by decide)
  · refine own_go (b := s₁.setTop (mkF m 9 #[rv b0, iv 4, iv p2, iv p3] [(.int (p2 + p3)), .int 4])) (fun t k => xicmpNo X0 hx hby rfl d_B24_2 rfl (flt hc2_1).1 (xiloadN X0 hx hby rfl d_B24_5 rfl (xiloadN X0 hx hby rfl d_B24_6 rfl (xiloadN X0 hx hby rfl d_B24_7 rfl (xiadd X0 hx hby rfl d_B24_8 rfl k))))) ?_
    by_cases hc9_2 : (4 : Int32) < (p2 + p3)
    · obtain ⟨cl3, Ar3, -, Sz3, M3, Hs3, Gs3⟩ := id V_b0
      have hin3 := inb_of (j := (4 : Int32)) Sz3 ⟨by decide, by decide⟩
      refine own_go (b := s₁.setTop (mkF m 15 #[rv b0, iv 4, iv p2, iv p3] [.int y4])) (fun t k => xicmpNo X0 hx hby rfl d_B24_9 rfl (tlt hc9_2).2.1 (xaloadN X0 hx hby rfl d_B24_12 rfl rfl (xiloadN X0 hx hby rfl d_B24_13 rfl (X0.baloadBytes hx (j := (4 : Int32)) (v := (.int y4)) (own_in e0 Ar3.1) (State.isArrayOf_alike hZ.alike Ar3.2.1) Ar3.2.2 hin3 (Has.at Hs3 hin3 rfl) (g := (mkF m 14 #[rv b0, iv 4, iv p2, iv p3] [.int 4, .ref b0])) rfl rfl (hb hby d_B24_14) _ k)))) ?_
      by_cases hc15_4 : y4 < (0 : Int32)
      · exact own_ret (v := some (.int 1)) X0 e0 Bd.notSynchronized (nv Bd.returns) (fun fs hr => xifNo X0 hx hby rfl d_B24_15 rfl ((if0 _ _).trans (tlt hc15_4).2.1) (xiconst X0 hx hby rfl d_B24_18 (xgoto X0 hx hby rfl 19 23 rfl d_B24_19 (by decide) (by decide) (retN X0 hx (t := .boolean) Bd.returns (by simp) (hb hby d_B24_23) hr)))) ⟨by rw [own_bd, if_neg hc2_1, if_pos hc9_2, if_pos hc15_4], N0, rfl⟩ (by decide)
      · exact own_ret (v := some (.int 0)) X0 e0 Bd.notSynchronized (nv Bd.returns) (fun fs hr => xifYes X0 hx hby rfl 15 22 rfl d_B24_15 rfl ((if0 _ _).trans (flt hc15_4).2.1) (by decide) (by decide) (xiconst X0 hx hby rfl d_B24_22 (retN X0 hx (t := .boolean) Bd.returns (by simp) (hb hby d_B24_23) hr))) ⟨by rw [own_bd, if_neg hc2_1, if_pos hc9_2, if_neg hc15_4], N0, rfl⟩ (by decide)
    · exact own_ret (v := some (.int 0)) X0 e0 Bd.notSynchronized (nv Bd.returns) (fun fs hr => xicmpYes X0 hx hby rfl 9 22 rfl d_B24_9 rfl (flt hc9_2).2.1 (by decide) (by decide) (xiconst X0 hx hby rfl d_B24_22 (retN X0 hx (t := .boolean) Bd.returns (by simp) (hb hby d_B24_23) hr))) ⟨by rw [own_bd, if_neg hc2_1, if_neg hc9_2], N0, rfl⟩ (by decide)
set_option maxRecDepth 65536 in
set_option maxHeartbeats 40000000 in
theorem own_rmB_5 (l : Launch) (Z : State) (a0 : Array Value) (hw : ∀ d ∈ tables_1, d.before a0 Z = true) (ws : List Jvm.Cond) (b0 : Addr) (p2 : Int32) (p3 : Int32) (kb : ClassId) (y0 y1 y2 y3 y4 y5 : Int32) (h0 : Heap) (n0 : Nat) (Z0 : n0 ≤ h0.size) (V_b0 : Arv Z h0 b0 kb .byte (6 : Int32) [.int y0, .int y1, .int y2, .int y3, .int y4, .int y5] (.int 0)) : own_M l Z y5N method_3_code 4 (some .boolean) ws ({ frames := 0, cells := 0, slots := 0, locals := 0 } : Room) #[.ref b0, .int 5, .int p2, .int p3] h0 (own_QI (own_bd (5 : Int32) p2 p3 y5) h0 n0) := by
  refine own_begin (n0 := n0) (f0 := mkF ⟨0, 0⟩ 0 #[rv b0, iv 5, iv p2, iv p3] []) (plainFor_of_name own_pn6) (fun m => ef_1111_4 m _ _ _ _ rfl rfl rfl rfl) ?_
  intro p e s m below meth c s₁ Bd hZ hx hby hml hown hnm X0 e0 N0
  refine own_go (b := s₁.setTop (mkF m 2 #[rv b0, iv 5, iv p2, iv p3] [.int p2, .int 5])) (fun t k => xiloadN X0 hx hby rfl d_B24_0 rfl (xiloadN X0 hx hby rfl d_B24_1 rfl k)) ?_
  by_cases hc2_1 : (5 : Int32) < p2
  · exact own_ret (v := some (.int 0)) X0 e0 Bd.notSynchronized (nv Bd.returns) (fun fs hr => xicmpYes X0 hx hby rfl 2 22 rfl d_B24_2 rfl (tlt hc2_1).1 (by decide) (by decide) (xiconst X0 hx hby rfl d_B24_22 (retN X0 hx (t := .boolean) Bd.returns (by simp) (hb hby d_B24_23) hr))) ⟨by rw [own_bd, if_pos hc2_1], N0, rfl⟩ (by decide)
  · refine own_go (b := s₁.setTop (mkF m 9 #[rv b0, iv 5, iv p2, iv p3] [(.int (p2 + p3)), .int 5])) (fun t k => xicmpNo X0 hx hby rfl d_B24_2 rfl (flt hc2_1).1 (xiloadN X0 hx hby rfl d_B24_5 rfl (xiloadN X0 hx hby rfl d_B24_6 rfl (xiloadN X0 hx hby rfl d_B24_7 rfl (xiadd X0 hx hby rfl d_B24_8 rfl k))))) ?_
    by_cases hc9_2 : (5 : Int32) < (p2 + p3)
    · obtain ⟨cl3, Ar3, -, Sz3, M3, Hs3, Gs3⟩ := id V_b0
      have hin3 := inb_of (j := (5 : Int32)) Sz3 ⟨by decide, by decide⟩
      refine own_go (b := s₁.setTop (mkF m 15 #[rv b0, iv 5, iv p2, iv p3] [.int y5])) (fun t k => xicmpNo X0 hx hby rfl d_B24_9 rfl (tlt hc9_2).2.1 (xaloadN X0 hx hby rfl d_B24_12 rfl rfl (xiloadN X0 hx hby rfl d_B24_13 rfl (X0.baloadBytes hx (j := (5 : Int32)) (v := (.int y5)) (own_in e0 Ar3.1) (State.isArrayOf_alike hZ.alike Ar3.2.1) Ar3.2.2 hin3 (Has.at Hs3 hin3 rfl) (g := (mkF m 14 #[rv b0, iv 5, iv p2, iv p3] [.int 5, .ref b0])) rfl rfl (hb hby d_B24_14) _ k)))) ?_
      by_cases hc15_4 : y5 < (0 : Int32)
      · exact own_ret (v := some (.int 1)) X0 e0 Bd.notSynchronized (nv Bd.returns) (fun fs hr => xifNo X0 hx hby rfl d_B24_15 rfl ((if0 _ _).trans (tlt hc15_4).2.1) (xiconst X0 hx hby rfl d_B24_18 (xgoto X0 hx hby rfl 19 23 rfl d_B24_19 (by decide) (by decide) (retN X0 hx (t := .boolean) Bd.returns (by simp) (hb hby d_B24_23) hr)))) ⟨by rw [own_bd, if_neg hc2_1, if_pos hc9_2, if_pos hc15_4], N0, rfl⟩ (by decide)
      · exact own_ret (v := some (.int 0)) X0 e0 Bd.notSynchronized (nv Bd.returns) (fun fs hr => xifYes X0 hx hby rfl 15 22 rfl d_B24_15 rfl ((if0 _ _).trans (flt hc15_4).2.1) (by decide) (by decide) (xiconst X0 hx hby rfl d_B24_22 (retN X0 hx (t := .boolean) Bd.returns (by simp) (hb hby d_B24_23) hr))) ⟨by rw [own_bd, if_neg hc2_1, if_pos hc9_2, if_neg hc15_4], N0, rfl⟩ (by decide)
    · exact own_ret (v := some (.int 0)) X0 e0 Bd.notSynchronized (nv Bd.returns) (fun fs hr => xicmpYes X0 hx hby rfl 9 22 rfl d_B24_9 rfl (flt hc9_2).2.1 (by decide) (by decide) (xiconst X0 hx hby rfl d_B24_22 (retN X0 hx (t := .boolean) Bd.returns (by simp) (hb hby d_B24_23) hr))) ⟨by rw [own_bd, if_neg hc2_1, if_neg hc9_2], N0, rfl⟩ (by decide)
theorem d_B25_0 : decode method_5_code 0 = .ok (.iload_n 0, 1) := by decide +kernel
theorem d_B25_1 : decode method_5_code 1 = .ok (.ifCond .ne 7, 3) := by decide +kernel
theorem d_B25_4 : decode method_5_code 4 = .ok (.iconst 0, 1) := by decide +kernel
theorem d_B25_5 : decode method_5_code 5 = .ok (.newarray .char, 2) := by decide +kernel
theorem d_B25_7 : decode method_5_code 7 = .ok (.areturn, 1) := by decide +kernel
theorem d_B25_8 : decode method_5_code 8 = .ok (.iload_n 0, 1) := by decide +kernel
theorem d_B25_9 : decode method_5_code 9 = .ok (.iconst 1, 1) := by decide +kernel
theorem d_B25_10 : decode method_5_code 10 = .ok (.if_icmp .ne 7, 3) := by decide +kernel
theorem d_B25_13 : decode method_5_code 13 = .ok (.iconst 1, 1) := by decide +kernel
theorem d_B25_14 : decode method_5_code 14 = .ok (.newarray .char, 2) := by decide +kernel
theorem d_B25_16 : decode method_5_code 16 = .ok (.areturn, 1) := by decide +kernel
theorem d_B25_17 : decode method_5_code 17 = .ok (.iload_n 0, 1) := by decide +kernel
theorem d_B25_18 : decode method_5_code 18 = .ok (.iconst 2, 1) := by decide +kernel
theorem d_B25_19 : decode method_5_code 19 = .ok (.if_icmp .ne 7, 3) := by decide +kernel
theorem d_B25_22 : decode method_5_code 22 = .ok (.iconst 2, 1) := by decide +kernel
theorem d_B25_23 : decode method_5_code 23 = .ok (.newarray .char, 2) := by decide +kernel
theorem d_B25_25 : decode method_5_code 25 = .ok (.areturn, 1) := by decide +kernel
theorem d_B25_26 : decode method_5_code 26 = .ok (.iload_n 0, 1) := by decide +kernel
theorem d_B25_27 : decode method_5_code 27 = .ok (.iconst 3, 1) := by decide +kernel
theorem d_B25_28 : decode method_5_code 28 = .ok (.if_icmp .ne 7, 3) := by decide +kernel
theorem d_B25_31 : decode method_5_code 31 = .ok (.iconst 3, 1) := by decide +kernel
theorem d_B25_32 : decode method_5_code 32 = .ok (.newarray .char, 2) := by decide +kernel
theorem d_B25_34 : decode method_5_code 34 = .ok (.areturn, 1) := by decide +kernel
theorem d_B25_35 : decode method_5_code 35 = .ok (.iload_n 0, 1) := by decide +kernel
theorem d_B25_36 : decode method_5_code 36 = .ok (.iconst 4, 1) := by decide +kernel
theorem d_B25_37 : decode method_5_code 37 = .ok (.if_icmp .ne 7, 3) := by decide +kernel
theorem d_B25_40 : decode method_5_code 40 = .ok (.iconst 4, 1) := by decide +kernel
theorem d_B25_41 : decode method_5_code 41 = .ok (.newarray .char, 2) := by decide +kernel
theorem d_B25_43 : decode method_5_code 43 = .ok (.areturn, 1) := by decide +kernel
theorem d_B25_44 : decode method_5_code 44 = .ok (.iload_n 0, 1) := by decide +kernel
theorem d_B25_45 : decode method_5_code 45 = .ok (.iconst 5, 1) := by decide +kernel
theorem d_B25_46 : decode method_5_code 46 = .ok (.if_icmp .ne 7, 3) := by decide +kernel
theorem d_B25_49 : decode method_5_code 49 = .ok (.iconst 5, 1) := by decide +kernel
theorem d_B25_50 : decode method_5_code 50 = .ok (.newarray .char, 2) := by decide +kernel
theorem d_B25_52 : decode method_5_code 52 = .ok (.areturn, 1) := by decide +kernel
theorem d_B25_53 : decode method_5_code 53 = .ok (.bipush 6, 2) := by decide +kernel
theorem d_B25_55 : decode method_5_code 55 = .ok (.newarray .char, 2) := by decide +kernel
theorem d_B25_57 : decode method_5_code 57 = .ok (.areturn, 1) := by decide +kernel
set_option maxRecDepth 65536 in
set_option maxHeartbeats 40000000 in
theorem own_rmSz (l : Launch) (Z : State) (a0 : Array Value) (hw : ∀ d ∈ tables_1, d.before a0 Z = true) (ws : List Jvm.Cond) (p0 : Int32) (h0 : Heap) (n0 : Nat) (Z0 : n0 ≤ h0.size) (hn7 : p0 = (0 : Int32) ∨ p0 = (1 : Int32) ∨ p0 = (2 : Int32) ∨ p0 = (3 : Int32) ∨ p0 = (4 : Int32) ∨ p0 = (5 : Int32) ∨ p0 = (6 : Int32)) : own_M l Z (⟨"com/example/rollcall/rollcall/users/CaselessIndexAsciiHashPinLaw", "sized", "(I)[C"⟩ : MethodName) method_5_code 1 (some (.array .char)) ws ({ frames := 0, cells := 1, slots := 6, locals := 0 } : Room) #[.int p0] h0 (own_QC Z p0 [.int 0, .int 0, .int 0, .int 0, .int 0, .int 0] h0 n0) := by
  refine own_begin (n0 := n0) (f0 := mkF ⟨0, 0⟩ 0 #[iv p0] []) (plainFor_of_name own_pn6) (fun m => ef_1_1 m _ rfl) ?_
  intro p e s m below meth c s₁ Bd hZ hx hby hml hown hnm X0 e0 N0
  refine own_go (b := s₁.setTop (mkF m 0 #[iv p0] [])) (fun t k => k) ?_
  rcases hn7 with rfl | rfl | rfl | rfl | rfl | rfl | rfl
  · obtain ⟨T1, h1, k1, X1, e1, E1, A1, st1⟩ := newP X0 hx hZ (wd hw 9 rfl) e0 (g := (mkF m 5 #[iv 0] [.int 0])) rfl (hb hby d_B25_5) rfl (by decide) (cap := 0) (by decide) (by decide) (by decide) (by decide)
    obtain ⟨b1, g1⟩ : ∃ z, z = h0.size := ⟨_, rfl⟩
    rw [← g1] at A1 st1
    have new_b1 : n0 ≤ b1 := Nat.le_trans Z0 (Nat.le_of_eq g1.symm)
    have sz_b1 : h0.size ≤ b1 := Nat.le_trans (Keep.refl h0 []).1 (Nat.le_of_eq g1.symm)
    have K1 := (Keep.refl h0 []).ext E1
    have V_b1 : Arv Z h1 b1 k1 .char (0 : Int32) [] (.int 0) := (Arv.new A1 (by decide)).pad (pad_rep [] (.int 0) 0)
    exact own_ret (v := some (.ref b1)) X1 e1 Bd.notSynchronized (nv Bd.returns) (fun fs hr => xiloadN X0 hx hby rfl d_B25_0 rfl (xifNo X0 hx hby rfl d_B25_1 rfl ((if0 _ _).trans (teq ((by decide) : (0 : Int32) = (0 : Int32))).2) (xiconst X0 hx hby rfl d_B25_4 (st1 _ (retA X1 hx Bd.returns (hb hby d_B25_7) hr))))) ⟨_, _, rfl, N0, K1, own_cut (j := (0 : Int32)) V_b1 0 rfl (by decide) rfl, sz_b1⟩ (by decide)
  · obtain ⟨T2, h2, k2, X2, e2, E2, A2, st2⟩ := newP X0 hx hZ (wd hw 9 rfl) e0 (g := (mkF m 14 #[iv 1] [.int 1])) rfl (hb hby d_B25_14) rfl (by decide) (cap := 1) (by decide) (by decide) (by decide) (by decide)
    obtain ⟨b2, g2⟩ : ∃ z, z = h0.size := ⟨_, rfl⟩
    rw [← g2] at A2 st2
    have new_b2 : n0 ≤ b2 := Nat.le_trans Z0 (Nat.le_of_eq g2.symm)
    have sz_b2 : h0.size ≤ b2 := Nat.le_trans (Keep.refl h0 []).1 (Nat.le_of_eq g2.symm)
    have K2 := (Keep.refl h0 []).ext E2
    have V_b2 : Arv Z h2 b2 k2 .char (1 : Int32) [.int 0] (.int 0) := (Arv.new A2 (by decide)).pad (pad_rep [] (.int 0) 1)
    exact own_ret (v := some (.ref b2)) X2 e2 Bd.notSynchronized (nv Bd.returns) (fun fs hr => xiloadN X0 hx hby rfl d_B25_0 rfl (xifYes X0 hx hby rfl 1 8 rfl d_B25_1 rfl ((if0 _ _).trans (feq ((by decide) : ¬ ((1 : Int32) = (0 : Int32)))).2) (by decide) (by decide) (xiloadN X0 hx hby rfl d_B25_8 rfl (xiconst X0 hx hby rfl d_B25_9 (xicmpNo X0 hx hby rfl d_B25_10 rfl (teq ((by decide) : (1 : Int32) = (1 : Int32))).2 (xiconst X0 hx hby rfl d_B25_13 (show Steps p.tables e below (s₁.setTop (mkF m 14 #[iv 1] [.int 1])) _ from st2 _ (retA X2 hx Bd.returns (hb hby d_B25_16) hr)))))))) ⟨_, _, rfl, N0, K2, own_cut (j := (1 : Int32)) V_b2 1 rfl (by decide) rfl, sz_b2⟩ (by decide)
  · obtain ⟨T3, h3, k3, X3, e3, E3, A3, st3⟩ := newP X0 hx hZ (wd hw 9 rfl) e0 (g := (mkF m 23 #[iv 2] [.int 2])) rfl (hb hby d_B25_23) rfl (by decide) (cap := 2) (by decide) (by decide) (by decide) (by decide)
    obtain ⟨b3, g3⟩ : ∃ z, z = h0.size := ⟨_, rfl⟩
    rw [← g3] at A3 st3
    have new_b3 : n0 ≤ b3 := Nat.le_trans Z0 (Nat.le_of_eq g3.symm)
    have sz_b3 : h0.size ≤ b3 := Nat.le_trans (Keep.refl h0 []).1 (Nat.le_of_eq g3.symm)
    have K3 := (Keep.refl h0 []).ext E3
    have V_b3 : Arv Z h3 b3 k3 .char (2 : Int32) [.int 0, .int 0] (.int 0) := (Arv.new A3 (by decide)).pad (pad_rep [] (.int 0) 2)
    exact own_ret (v := some (.ref b3)) X3 e3 Bd.notSynchronized (nv Bd.returns) (fun fs hr => xiloadN X0 hx hby rfl d_B25_0 rfl (xifYes X0 hx hby rfl 1 8 rfl d_B25_1 rfl ((if0 _ _).trans (feq ((by decide) : ¬ ((2 : Int32) = (0 : Int32)))).2) (by decide) (by decide) (xiloadN X0 hx hby rfl d_B25_8 rfl (xiconst X0 hx hby rfl d_B25_9 (xicmpYes X0 hx hby rfl 10 17 rfl d_B25_10 rfl (feq ((by decide) : ¬ ((2 : Int32) = (1 : Int32)))).2 (by decide) (by decide) (xiloadN X0 hx hby rfl d_B25_17 rfl (show Steps p.tables e below (s₁.setTop (mkF m 18 #[iv 2] [.int 2])) _ from xiconst X0 hx hby rfl d_B25_18 (xicmpNo X0 hx hby rfl d_B25_19 rfl (teq ((by decide) : (2 : Int32) = (2 : Int32))).2 (xiconst X0 hx hby rfl d_B25_22 (st3 _ (retA X3 hx Bd.returns (hb hby d_B25_25) hr))))))))))) ⟨_, _, rfl, N0, K3, own_cut (j := (2 : Int32)) V_b3 2 rfl (by decide) rfl, sz_b3⟩ (by decide)
  · obtain ⟨T4, h4, k4, X4, e4, E4, A4, st4⟩ := newP X0 hx hZ (wd hw 9 rfl) e0 (g := (mkF m 32 #[iv 3] [.int 3])) rfl (hb hby d_B25_32) rfl (by decide) (cap := 3) (by decide) (by decide) (by decide) (by decide)
    obtain ⟨b4, g4⟩ : ∃ z, z = h0.size := ⟨_, rfl⟩
    rw [← g4] at A4 st4
    have new_b4 : n0 ≤ b4 := Nat.le_trans Z0 (Nat.le_of_eq g4.symm)
    have sz_b4 : h0.size ≤ b4 := Nat.le_trans (Keep.refl h0 []).1 (Nat.le_of_eq g4.symm)
    have K4 := (Keep.refl h0 []).ext E4
    have V_b4 : Arv Z h4 b4 k4 .char (3 : Int32) [.int 0, .int 0, .int 0] (.int 0) := (Arv.new A4 (by decide)).pad (pad_rep [] (.int 0) 3)
    exact own_ret (v := some (.ref b4)) X4 e4 Bd.notSynchronized (nv Bd.returns) (fun fs hr => xiloadN X0 hx hby rfl d_B25_0 rfl (xifYes X0 hx hby rfl 1 8 rfl d_B25_1 rfl ((if0 _ _).trans (feq ((by decide) : ¬ ((3 : Int32) = (0 : Int32)))).2) (by decide) (by decide) (xiloadN X0 hx hby rfl d_B25_8 rfl (xiconst X0 hx hby rfl d_B25_9 (xicmpYes X0 hx hby rfl 10 17 rfl d_B25_10 rfl (feq ((by decide) : ¬ ((3 : Int32) = (1 : Int32)))).2 (by decide) (by decide) (xiloadN X0 hx hby rfl d_B25_17 rfl (show Steps p.tables e below (s₁.setTop (mkF m 18 #[iv 3] [.int 3])) _ from xiconst X0 hx hby rfl d_B25_18 (xicmpYes X0 hx hby rfl 19 26 rfl d_B25_19 rfl (feq ((by decide) : ¬ ((3 : Int32) = (2 : Int32)))).2 (by decide) (by decide) (xiloadN X0 hx hby rfl d_B25_26 rfl (xiconst X0 hx hby rfl d_B25_27 (xicmpNo X0 hx hby rfl d_B25_28 rfl (teq ((by decide) : (3 : Int32) = (3 : Int32))).2 (xiconst X0 hx hby rfl d_B25_31 (show Steps p.tables e below (s₁.setTop (mkF m 32 #[iv 3] [.int 3])) _ from st4 _ (retA X4 hx Bd.returns (hb hby d_B25_34) hr)))))))))))))) ⟨_, _, rfl, N0, K4, own_cut (j := (3 : Int32)) V_b4 3 rfl (by decide) rfl, sz_b4⟩ (by decide)
  · obtain ⟨T5, h5, k5, X5, e5, E5, A5, st5⟩ := newP X0 hx hZ (wd hw 9 rfl) e0 (g := (mkF m 41 #[iv 4] [.int 4])) rfl (hb hby d_B25_41) rfl (by decide) (cap := 4) (by decide) (by decide) (by decide) (by decide)
    obtain ⟨b5, g5⟩ : ∃ z, z = h0.size := ⟨_, rfl⟩
    rw [← g5] at A5 st5
    have new_b5 : n0 ≤ b5 := Nat.le_trans Z0 (Nat.le_of_eq g5.symm)
    have sz_b5 : h0.size ≤ b5 := Nat.le_trans (Keep.refl h0 []).1 (Nat.le_of_eq g5.symm)
    have K5 := (Keep.refl h0 []).ext E5
    have V_b5 : Arv Z h5 b5 k5 .char (4 : Int32) [.int 0, .int 0, .int 0, .int 0] (.int 0) := (Arv.new A5 (by decide)).pad (pad_rep [] (.int 0) 4)
    exact own_ret (v := some (.ref b5)) X5 e5 Bd.notSynchronized (nv Bd.returns) (fun fs hr => xiloadN X0 hx hby rfl d_B25_0 rfl (xifYes X0 hx hby rfl 1 8 rfl d_B25_1 rfl ((if0 _ _).trans (feq ((by decide) : ¬ ((4 : Int32) = (0 : Int32)))).2) (by decide) (by decide) (xiloadN X0 hx hby rfl d_B25_8 rfl (xiconst X0 hx hby rfl d_B25_9 (xicmpYes X0 hx hby rfl 10 17 rfl d_B25_10 rfl (feq ((by decide) : ¬ ((4 : Int32) = (1 : Int32)))).2 (by decide) (by decide) (xiloadN X0 hx hby rfl d_B25_17 rfl (show Steps p.tables e below (s₁.setTop (mkF m 18 #[iv 4] [.int 4])) _ from xiconst X0 hx hby rfl d_B25_18 (xicmpYes X0 hx hby rfl 19 26 rfl d_B25_19 rfl (feq ((by decide) : ¬ ((4 : Int32) = (2 : Int32)))).2 (by decide) (by decide) (xiloadN X0 hx hby rfl d_B25_26 rfl (xiconst X0 hx hby rfl d_B25_27 (xicmpYes X0 hx hby rfl 28 35 rfl d_B25_28 rfl (feq ((by decide) : ¬ ((4 : Int32) = (3 : Int32)))).2 (by decide) (by decide) (xiloadN X0 hx hby rfl d_B25_35 rfl (show Steps p.tables e below (s₁.setTop (mkF m 36 #[iv 4] [.int 4])) _ from xiconst X0 hx hby rfl d_B25_36 (xicmpNo X0 hx hby rfl d_B25_37 rfl (teq ((by decide) : (4 : Int32) = (4 : Int32))).2 (xiconst X0 hx hby rfl d_B25_40 (st5 _ (retA X5 hx Bd.returns (hb hby d_B25_43) hr))))))))))))))))) ⟨_, _, rfl, N0, K5, own_cut (j := (4 : Int32)) V_b5 4 rfl (by decide) rfl, sz_b5⟩ (by decide)
  · obtain ⟨T6, h6, k6, X6, e6, E6, A6, st6⟩ := newP X0 hx hZ (wd hw 9 rfl) e0 (g := (mkF m 50 #[iv 5] [.int 5])) rfl (hb hby d_B25_50) rfl (by decide) (cap := 5) (by decide) (by decide) (by decide) (by decide)
    obtain ⟨b6, g6⟩ : ∃ z, z = h0.size := ⟨_, rfl⟩
    rw [← g6] at A6 st6
    have new_b6 : n0 ≤ b6 := Nat.le_trans Z0 (Nat.le_of_eq g6.symm)
    have sz_b6 : h0.size ≤ b6 := Nat.le_trans (Keep.refl h0 []).1 (Nat.le_of_eq g6.symm)
    have K6 := (Keep.refl h0 []).ext E6
    have V_b6 : Arv Z h6 b6 k6 .char (5 : Int32) [.int 0, .int 0, .int 0, .int 0, .int 0] (.int 0) := (Arv.new A6 (by decide)).pad (pad_rep [] (.int 0) 5)
    exact own_ret (v := some (.ref b6)) X6 e6 Bd.notSynchronized (nv Bd.returns) (fun fs hr => xiloadN X0 hx hby rfl d_B25_0 rfl (xifYes X0 hx hby rfl 1 8 rfl d_B25_1 rfl ((if0 _ _).trans (feq ((by decide) : ¬ ((5 : Int32) = (0 : Int32)))).2) (by decide) (by decide) (xiloadN X0 hx hby rfl d_B25_8 rfl (xiconst X0 hx hby rfl d_B25_9 (xicmpYes X0 hx hby rfl 10 17 rfl d_B25_10 rfl (feq ((by decide) : ¬ ((5 : Int32) = (1 : Int32)))).2 (by decide) (by decide) (xiloadN X0 hx hby rfl d_B25_17 rfl (show Steps p.tables e below (s₁.setTop (mkF m 18 #[iv 5] [.int 5])) _ from xiconst X0 hx hby rfl d_B25_18 (xicmpYes X0 hx hby rfl 19 26 rfl d_B25_19 rfl (feq ((by decide) : ¬ ((5 : Int32) = (2 : Int32)))).2 (by decide) (by decide) (xiloadN X0 hx hby rfl d_B25_26 rfl (xiconst X0 hx hby rfl d_B25_27 (xicmpYes X0 hx hby rfl 28 35 rfl d_B25_28 rfl (feq ((by decide) : ¬ ((5 : Int32) = (3 : Int32)))).2 (by decide) (by decide) (xiloadN X0 hx hby rfl d_B25_35 rfl (show Steps p.tables e below (s₁.setTop (mkF m 36 #[iv 5] [.int 5])) _ from xiconst X0 hx hby rfl d_B25_36 (xicmpYes X0 hx hby rfl 37 44 rfl d_B25_37 rfl (feq ((by decide) : ¬ ((5 : Int32) = (4 : Int32)))).2 (by decide) (by decide) (xiloadN X0 hx hby rfl d_B25_44 rfl (xiconst X0 hx hby rfl d_B25_45 (xicmpNo X0 hx hby rfl d_B25_46 rfl (teq ((by decide) : (5 : Int32) = (5 : Int32))).2 (xiconst X0 hx hby rfl d_B25_49 (show Steps p.tables e below (s₁.setTop (mkF m 50 #[iv 5] [.int 5])) _ from st6 _ (retA X6 hx Bd.returns (hb hby d_B25_52) hr)))))))))))))))))))) ⟨_, _, rfl, N0, K6, own_cut (j := (5 : Int32)) V_b6 5 rfl (by decide) rfl, sz_b6⟩ (by decide)
  · obtain ⟨T7, h7, k7, X7, e7, E7, A7, st7⟩ := newP X0 hx hZ (wd hw 9 rfl) e0 (g := (mkF m 55 #[iv 6] [.int 6])) rfl (hb hby d_B25_55) rfl (by decide) (cap := 6) (by decide) (by decide) (by decide) (by decide)
    obtain ⟨b7, g7⟩ : ∃ z, z = h0.size := ⟨_, rfl⟩
    rw [← g7] at A7 st7
    have new_b7 : n0 ≤ b7 := Nat.le_trans Z0 (Nat.le_of_eq g7.symm)
    have sz_b7 : h0.size ≤ b7 := Nat.le_trans (Keep.refl h0 []).1 (Nat.le_of_eq g7.symm)
    have K7 := (Keep.refl h0 []).ext E7
    have V_b7 : Arv Z h7 b7 k7 .char (6 : Int32) [.int 0, .int 0, .int 0, .int 0, .int 0, .int 0] (.int 0) := (Arv.new A7 (by decide)).pad (pad_rep [] (.int 0) 6)
    exact own_ret (v := some (.ref b7)) X7 e7 Bd.notSynchronized (nv Bd.returns) (fun fs hr => xiloadN X0 hx hby rfl d_B25_0 rfl (xifYes X0 hx hby rfl 1 8 rfl d_B25_1 rfl ((if0 _ _).trans (feq ((by decide) : ¬ ((6 : Int32) = (0 : Int32)))).2) (by decide) (by decide) (xiloadN X0 hx hby rfl d_B25_8 rfl (xiconst X0 hx hby rfl d_B25_9 (xicmpYes X0 hx hby rfl 10 17 rfl d_B25_10 rfl (feq ((by decide) : ¬ ((6 : Int32) = (1 : Int32)))).2 (by decide) (by decide) (xiloadN X0 hx hby rfl d_B25_17 rfl (show Steps p.tables e below (s₁.setTop (mkF m 18 #[iv 6] [.int 6])) _ from xiconst X0 hx hby rfl d_B25_18 (xicmpYes X0 hx hby rfl 19 26 rfl d_B25_19 rfl (feq ((by decide) : ¬ ((6 : Int32) = (2 : Int32)))).2 (by decide) (by decide) (xiloadN X0 hx hby rfl d_B25_26 rfl (xiconst X0 hx hby rfl d_B25_27 (xicmpYes X0 hx hby rfl 28 35 rfl d_B25_28 rfl (feq ((by decide) : ¬ ((6 : Int32) = (3 : Int32)))).2 (by decide) (by decide) (xiloadN X0 hx hby rfl d_B25_35 rfl (show Steps p.tables e below (s₁.setTop (mkF m 36 #[iv 6] [.int 6])) _ from xiconst X0 hx hby rfl d_B25_36 (xicmpYes X0 hx hby rfl 37 44 rfl d_B25_37 rfl (feq ((by decide) : ¬ ((6 : Int32) = (4 : Int32)))).2 (by decide) (by decide) (xiloadN X0 hx hby rfl d_B25_44 rfl (xiconst X0 hx hby rfl d_B25_45 (xicmpYes X0 hx hby rfl 46 53 rfl d_B25_46 rfl (feq ((by decide) : ¬ ((6 : Int32) = (5 : Int32)))).2 (by decide) (by decide) (xbipush X0 hx hby rfl d_B25_53 (show Steps p.tables e below (s₁.setTop (mkF m 55 #[iv 6] [.int 6])) _ from st7 _ (retA X7 hx Bd.returns (hb hby d_B25_57) hr)))))))))))))))))))) ⟨_, _, rfl, N0, K7, own_cut (j := (6 : Int32)) V_b7 6 rfl (by decide) rfl, sz_b7⟩ (by decide)
theorem d_B26_0 : decode method_4_code 0 = .ok (.iload_n 3, 1) := by decide +kernel
theorem d_B26_1 : decode method_4_code 1 = .ok (.aload_n 0, 1) := by decide +kernel
theorem d_B26_2 : decode method_4_code 2 = .ok (.arraylength, 1) := by decide +kernel
theorem d_B26_3 : decode method_4_code 3 = .ok (.if_icmp .ge 20, 3) := by decide +kernel
theorem d_B26_6 : decode method_4_code 6 = .ok (.aload_n 1, 1) := by decide +kernel
theorem d_B26_7 : decode method_4_code 7 = .ok (.iload_n 2, 1) := by decide +kernel
theorem d_B26_8 : decode method_4_code 8 = .ok (.iload_n 3, 1) := by decide +kernel
theorem d_B26_9 : decode method_4_code 9 = .ok (.iadd, 1) := by decide +kernel
theorem d_B26_10 : decode method_4_code 10 = .ok (.baload, 1) := by decide +kernel
theorem d_B26_11 : decode method_4_code 11 = .ok (.ifCond .lt 12, 3) := by decide +kernel
theorem d_B26_14 : decode method_4_code 14 = .ok (.aload_n 0, 1) := by decide +kernel
theorem d_B26_15 : decode method_4_code 15 = .ok (.iload_n 3, 1) := by decide +kernel
theorem d_B26_16 : decode method_4_code 16 = .ok (.aload_n 1, 1) := by decide +kernel
theorem d_B26_17 : decode method_4_code 17 = .ok (.iload_n 2, 1) := by decide +kernel
theorem d_B26_18 : decode method_4_code 18 = .ok (.iload_n 3, 1) := by decide +kernel
theorem d_B26_19 : decode method_4_code 19 = .ok (.iadd, 1) := by decide +kernel
theorem d_B26_20 : decode method_4_code 20 = .ok (.baload, 1) := by decide +kernel
theorem d_B26_21 : decode method_4_code 21 = .ok (.i2c, 1) := by decide +kernel
theorem d_B26_22 : decode method_4_code 22 = .ok (.castore, 1) := by decide +kernel
theorem d_B26_23 : decode method_4_code 23 = .ok (.return_, 1) := by decide +kernel
set_option maxRecDepth 65536 in
set_option maxHeartbeats 40000000 in
theorem own_rmP_0 (l : Launch) (Z : State) (a0 : Array Value) (hw : ∀ d ∈ tables_1, d.before a0 Z = true) (ws : List Jvm.Cond) (b0 : Addr) (b1 : Addr) (p2 : Int32) (kc kb : ClassId) (z : Int32) (vs : List Value) (y : Int32) (h0 : Heap) (n0 : Nat) (Z0 : n0 ≤ h0.size) (V_b0 : Arv Z h0 b0 kc .char z [.int 0, .int 0, .int 0, .int 0, .int 0, .int 0] (.int 0)) (V_b1 : Arv Z h0 b1 kb .byte (6 : Int32) vs (.int 0)) (hne : b1 ≠ b0) (g_0 : n0 ≤ b0) (hd : (0 : Int32) < z → ¬ (p2 + (0 : Int32)) < (0 : Int32) ∧ (p2 + (0 : Int32)) < (6 : Int32) ∧ List.getD vs ((p2 + (0 : Int32))).toNatClampNeg (.int 0) = .int y) : own_M l Z y6N method_4_code 4 none ws ({ frames := 0, cells := 0, slots := 0, locals := 0 } : Room) #[.ref b0, .ref b1, .int p2, .int 0] h0 (own_QP Z b0 kc z [(.int (own_c y)), .int 0, .int 0, .int 0, .int 0, .int 0] h0 n0) := by
  refine own_begin (n0 := n0) (f0 := mkF ⟨0, 0⟩ 0 #[rv b0, rv b1, iv p2, iv 0] []) (plainFor_of_name own_pn6) (fun m => ef_1111_4 m _ _ _ _ rfl rfl rfl rfl) ?_
  intro p e s m below meth c s₁ Bd hZ hx hby hml hown hnm X0 e0 N0
  obtain ⟨cl1, Ar1, -, Sz1, M1, -, -⟩ := id V_b0
  refine own_go (b := s₁.setTop (mkF m 3 #[rv b0, rv b1, iv p2, iv 0] [.int z, .int 0])) (fun t k => ?_) ?_
  · refine xiloadN X0 hx hby rfl d_B26_0 rfl (xaloadN X0 hx hby rfl d_B26_1 rfl rfl (X0.arraylength hx (own_in e0 Ar1.1) (State.isArrayOf_alike hZ.alike Ar1.2.1) (g := (mkF m 2 #[rv b0, rv b1, iv p2, iv 0] [.ref b0, .int 0])) rfl rfl (hb hby d_B26_2) _ ?_))
    rw [len_of Sz1 M1]
    exact k
  by_cases hc3_2 : (0 : Int32) < z
  · obtain ⟨cl3, Ar3, -, Sz3, M3, Hs3, Gs3⟩ := id V_b1
    have hin3 := inb_of (j := (p2 + (0 : Int32))) Sz3 ⟨(hd hc3_2).1, (hd hc3_2).2.1⟩
    have hat3 := Has.at Hs3 hin3 (hd hc3_2).2.2
    refine own_go (b := s₁.setTop (mkF m 11 #[rv b0, rv b1, iv p2, iv 0] [.int y])) (fun t k => xicmpNo X0 hx hby rfl d_B26_3 rfl (tlt hc3_2).2.1 (xaloadN X0 hx hby rfl d_B26_6 rfl rfl (xiloadN X0 hx hby rfl d_B26_7 rfl (xiloadN X0 hx hby rfl d_B26_8 rfl (xiadd X0 hx hby rfl d_B26_9 rfl (X0.baloadBytes hx (j := (p2 + (0 : Int32))) (v := (.int y)) (own_in e0 Ar3.1) (State.isArrayOf_alike hZ.alike Ar3.2.1) Ar3.2.2 hin3 hat3 (g := (mkF m 10 #[rv b0, rv b1, iv p2, iv 0] [(.int (p2 + (0 : Int32))), .ref b1])) rfl rfl (hb hby d_B26_10) _ k)))))) ?_
    by_cases hc11_4 : y < (0 : Int32)
    · exact own_ret (v := none) X0 e0 Bd.notSynchronized (fun _ => rfl) (fun fs hr => xifYes X0 hx hby rfl 11 23 rfl d_B26_11 rfl ((if0 _ _).trans (tlt hc11_4).1) (by decide) (by decide) (X0.returnOut hx Bd.returns (hb hby d_B26_23) hr)) ⟨rfl, N0, (Keep.refl h0 [b0]), (by rw [own_cp hc11_4]; exact V_b0)⟩ (by decide)
    · obtain ⟨cl5, Ar5, -, Sz5, M5, Hs5, Gs5⟩ := id V_b1
      have hin5 := inb_of (j := (p2 + (0 : Int32))) Sz5 ⟨(hd hc3_2).1, (hd hc3_2).2.1⟩
      have hat5 := Has.at Hs5 hin5 (hd hc3_2).2.2
      obtain ⟨cl6, Ar6, q6, Sz6, M6, Hs6, Gs6⟩ := id V_b0
      have hin6 := inb_of (j := (0 : Int32)) Sz6 ⟨by decide, hc3_2⟩
      obtain ⟨T7, h7, X7, e7, W7, st7⟩ := stC X0 hx hZ e0 Ar6 (j := (0 : Int32)) hin6 (g := (mkF m 22 #[rv b0, rv b1, iv p2, iv 0] [(.int (y.toUInt32.toUInt16.toUInt32.toInt32)), .int 0, .ref b0])) rfl rfl (hb hby d_B26_22)
      have V_b1_7 := V_b1.other W7 hne
      have K7 := (Keep.refl h0 [b0]).wr W7 (Or.inl (List.mem_of_getElem? (i := 0) rfl))
      have N7 := Fr.snoc X7 N0 g_0
      have V_b0_7 := Arv.set Ar6 q6 Sz6 M6 Hs6 Gs6 (fits_nar_char _) W7 0 rfl (Nat.le_of_ble_eq_true rfl)
      exact own_ret (v := none) X7 e7 Bd.notSynchronized (fun _ => rfl) (fun fs hr => xifNo X0 hx hby rfl d_B26_11 rfl ((if0 _ _).trans (flt hc11_4).1) (xaloadN X0 hx hby rfl d_B26_14 rfl rfl (xiloadN X0 hx hby rfl d_B26_15 rfl (xaloadN X0 hx hby rfl d_B26_16 rfl rfl (xiloadN X0 hx hby rfl d_B26_17 rfl (xiloadN X0 hx hby rfl d_B26_18 rfl (show Steps p.tables e below (s₁.setTop (mkF m 19 #[rv b0, rv b1, iv p2, iv 0] [.int 0, .int p2, .ref b1, .int 0, .ref b0])) _ from xiadd X0 hx hby rfl d_B26_19 rfl (X0.baloadBytes hx (j := (p2 + (0 : Int32))) (v := (.int y)) (own_in e0 Ar5.1) (State.isArrayOf_alike hZ.alike Ar5.2.1) Ar5.2.2 hin5 hat5 (g := (mkF m 20 #[rv b0, rv b1, iv p2, iv 0] [(.int (p2 + (0 : Int32))), .ref b1, .int 0, .ref b0])) rfl rfl (hb hby d_B26_20) _ (XS.i2c X0.here hx rfl (hb hby d_B26_21) rfl (st7 _ (X7.returnOut hx Bd.returns (hb hby d_B26_23) hr))))))))))) ⟨rfl, N7, K7, (by rw [own_cn hc11_4]; exact V_b0_7)⟩ (by decide)
  · exact own_ret (v := none) X0 e0 Bd.notSynchronized (fun _ => rfl) (fun fs hr => xicmpYes X0 hx hby rfl 3 23 rfl d_B26_3 rfl (flt hc3_2).2.1 (by decide) (by decide) (X0.returnOut hx Bd.returns (hb hby d_B26_23) hr)) ⟨rfl, N0, (Keep.refl h0 [b0]), own_cut (j := (0 : Int32)) V_b0 0 rfl hc3_2 (by simp only [List.set_cons_zero, List.set_cons_succ, List.take_succ_cons, List.take_zero] <;> rfl)⟩ (by decide)
set_option maxRecDepth 65536 in
set_option maxHeartbeats 40000000 in
theorem own_rmP_1 (l : Launch) (Z : State) (a0 : Array Value) (hw : ∀ d ∈ tables_1, d.before a0 Z = true) (ws : List Jvm.Cond) (b0 : Addr) (b1 : Addr) (p2 : Int32) (kc kb : ClassId) (z : Int32) (vs : List Value) (y : Int32) (x0 : Int32) (h0 : Heap) (n0 : Nat) (Z0 : n0 ≤ h0.size) (V_b0 : Arv Z h0 b0 kc .char z [.int x0, .int 0, .int 0, .int 0, .int 0, .int 0] (.int 0)) (V_b1 : Arv Z h0 b1 kb .byte (6 : Int32) vs (.int 0)) (hne : b1 ≠ b0) (g_0 : n0 ≤ b0) (hd : (1 : Int32) < z → ¬ (p2 + (1 : Int32)) < (0 : Int32) ∧ (p2 + (1 : Int32)) < (6 : Int32) ∧ List.getD vs ((p2 + (1 : Int32))).toNatClampNeg (.int 0) = .int y) : own_M l Z y6N method_4_code 4 none ws ({ frames := 0, cells := 0, slots := 0, locals := 0 } : Room) #[.ref b0, .ref b1, .int p2, .int 1] h0 (own_QP Z b0 kc z [.int x0, (.int (own_c y)), .int 0, .int 0, .int 0, .int 0] h0 n0) := by
  refine own_begin (n0 := n0) (f0 := mkF ⟨0, 0⟩ 0 #[rv b0, rv b1, iv p2, iv 1] []) (plainFor_of_name own_pn6) (fun m => ef_1111_4 m _ _ _ _ rfl rfl rfl rfl) ?_
  intro p e s m below meth c s₁ Bd hZ hx hby hml hown hnm X0 e0 N0
  obtain ⟨cl1, Ar1, -, Sz1, M1, -, -⟩ := id V_b0
  refine own_go (b := s₁.setTop (mkF m 3 #[rv b0, rv b1, iv p2, iv 1] [.int z, .int 1])) (fun t k => ?_) ?_
  · refine xiloadN X0 hx hby rfl d_B26_0 rfl (xaloadN X0 hx hby rfl d_B26_1 rfl rfl (X0.arraylength hx (own_in e0 Ar1.1) (State.isArrayOf_alike hZ.alike Ar1.2.1) (g := (mkF m 2 #[rv b0, rv b1, iv p2, iv 1] [.ref b0, .int 1])) rfl rfl (hb hby d_B26_2) _ ?_))
    rw [len_of Sz1 M1]
    exact k
  by_cases hc3_2 : (1 : Int32) < z
  · obtain ⟨cl3, Ar3, -, Sz3, M3, Hs3, Gs3⟩ := id V_b1
    have hin3 := inb_of (j := (p2 + (1 : Int32))) Sz3 ⟨(hd hc3_2).1, (hd hc3_2).2.1⟩
    have hat3 := Has.at Hs3 hin3 (hd hc3_2).2.2
    refine own_go (b := s₁.setTop (mkF m 11 #[rv b0, rv b1, iv p2, iv 1] [.int y])) (fun t k => xicmpNo X0 hx hby rfl d_B26_3 rfl (tlt hc3_2).2.1 (xaloadN X0 hx hby rfl d_B26_6 rfl rfl (xiloadN X0 hx hby rfl d_B26_7 rfl (xiloadN X0 hx hby rfl d_B26_8 rfl (xiadd X0 hx hby rfl d_B26_9 rfl (X0.baloadBytes hx (j := (p2 + (1 : Int32))) (v := (.int y)) (own_in e0 Ar3.1) (State.isArrayOf_alike hZ.alike Ar3.2.1) Ar3.2.2 hin3 hat3 (g := (mkF m 10 #[rv b0, rv b1, iv p2, iv 1] [(.int (p2 + (1 : Int32))), .ref b1])) rfl rfl (hb hby d_B26_10) _ k)))))) ?_
    by_cases hc11_4 : y < (0 : Int32)
    · exact own_ret (v := none) X0 e0 Bd.notSynchronized (fun _ => rfl) (fun fs hr => xifYes X0 hx hby rfl 11 23 rfl d_B26_11 rfl ((if0 _ _).trans (tlt hc11_4).1) (by decide) (by decide) (X0.returnOut hx Bd.returns (hb hby d_B26_23) hr)) ⟨rfl, N0, (Keep.refl h0 [b0]), (by rw [own_cp hc11_4]; exact V_b0)⟩ (by decide)
    · obtain ⟨cl5, Ar5, -, Sz5, M5, Hs5, Gs5⟩ := id V_b1
      have hin5 := inb_of (j := (p2 + (1 : Int32))) Sz5 ⟨(hd hc3_2).1, (hd hc3_2).2.1⟩
      have hat5 := Has.at Hs5 hin5 (hd hc3_2).2.2
      obtain ⟨cl6, Ar6, q6, Sz6, M6, Hs6, Gs6⟩ := id V_b0
      have hin6 := inb_of (j := (1 : Int32)) Sz6 ⟨by decide, hc3_2⟩
      obtain ⟨T7, h7, X7, e7, W7, st7⟩ := stC X0 hx hZ e0 Ar6 (j := (1 : Int32)) hin6 (g := (mkF m 22 #[rv b0, rv b1, iv p2, iv 1] [(.int (y.toUInt32.toUInt16.toUInt32.toInt32)), .int 1, .ref b0])) rfl rfl (hb hby d_B26_22)
      have V_b1_7 := V_b1.other W7 hne
      have K7 := (Keep.refl h0 [b0]).wr W7 (Or.inl (List.mem_of_getElem? (i := 0) rfl))
      have N7 := Fr.snoc X7 N0 g_0
      have V_b0_7 := Arv.set Ar6 q6 Sz6 M6 Hs6 Gs6 (fits_nar_char _) W7 1 rfl (Nat.le_of_ble_eq_true rfl)
      exact own_ret (v := none) X7 e7 Bd.notSynchronized (fun _ => rfl) (fun fs hr => xifNo X0 hx hby rfl d_B26_11 rfl ((if0 _ _).trans (flt hc11_4).1) (xaloadN X0 hx hby rfl d_B26_14 rfl rfl (xiloadN X0 hx hby rfl d_B26_15 rfl (xaloadN X0 hx hby rfl d_B26_16 rfl rfl (xiloadN X0 hx hby rfl d_B26_17 rfl (xiloadN X0 hx hby rfl d_B26_18 rfl (show Steps p.tables e below (s₁.setTop (mkF m 19 #[rv b0, rv b1, iv p2, iv 1] [.int 1, .int p2, .ref b1, .int 1, .ref b0])) _ from xiadd X0 hx hby rfl d_B26_19 rfl (X0.baloadBytes hx (j := (p2 + (1 : Int32))) (v := (.int y)) (own_in e0 Ar5.1) (State.isArrayOf_alike hZ.alike Ar5.2.1) Ar5.2.2 hin5 hat5 (g := (mkF m 20 #[rv b0, rv b1, iv p2, iv 1] [(.int (p2 + (1 : Int32))), .ref b1, .int 1, .ref b0])) rfl rfl (hb hby d_B26_20) _ (XS.i2c X0.here hx rfl (hb hby d_B26_21) rfl (st7 _ (X7.returnOut hx Bd.returns (hb hby d_B26_23) hr))))))))))) ⟨rfl, N7, K7, (by rw [own_cn hc11_4]; exact V_b0_7)⟩ (by decide)
  · exact own_ret (v := none) X0 e0 Bd.notSynchronized (fun _ => rfl) (fun fs hr => xicmpYes X0 hx hby rfl 3 23 rfl d_B26_3 rfl (flt hc3_2).2.1 (by decide) (by decide) (X0.returnOut hx Bd.returns (hb hby d_B26_23) hr)) ⟨rfl, N0, (Keep.refl h0 [b0]), own_cut (j := (1 : Int32)) V_b0 1 rfl hc3_2 (by simp only [List.set_cons_zero, List.set_cons_succ, List.take_succ_cons, List.take_zero] <;> rfl)⟩ (by decide)
set_option maxRecDepth 65536 in
set_option maxHeartbeats 40000000 in
theorem own_rmP_2 (l : Launch) (Z : State) (a0 : Array Value) (hw : ∀ d ∈ tables_1, d.before a0 Z = true) (ws : List Jvm.Cond) (b0 : Addr) (b1 : Addr) (p2 : Int32) (kc kb : ClassId) (z : Int32) (vs : List Value) (y : Int32) (x0 x1 : Int32) (h0 : Heap) (n0 : Nat) (Z0 : n0 ≤ h0.size) (V_b0 : Arv Z h0 b0 kc .char z [.int x0, .int x1, .int 0, .int 0, .int 0, .int 0] (.int 0)) (V_b1 : Arv Z h0 b1 kb .byte (6 : Int32) vs (.int 0)) (hne : b1 ≠ b0) (g_0 : n0 ≤ b0) (hd : (2 : Int32) < z → ¬ (p2 + (2 : Int32)) < (0 : Int32) ∧ (p2 + (2 : Int32)) < (6 : Int32) ∧ List.getD vs ((p2 + (2 : Int32))).toNatClampNeg (.int 0) = .int y) : own_M l Z y6N method_4_code 4 none ws ({ frames := 0, cells := 0, slots := 0, locals := 0 } : Room) #[.ref b0, .ref b1, .int p2, .int 2] h0 (own_QP Z b0 kc z [.int x0, .int x1, (.int (own_c y)), .int 0, .int 0, .int 0] h0 n0) := by
  refine own_begin (n0 := n0) (f0 := mkF ⟨0, 0⟩ 0 #[rv b0, rv b1, iv p2, iv 2] []) (plainFor_of_name own_pn6) (fun m => ef_1111_4 m _ _ _ _ rfl rfl rfl rfl) ?_
  intro p e s m below meth c s₁ Bd hZ hx hby hml hown hnm X0 e0 N0
  obtain ⟨cl1, Ar1, -, Sz1, M1, -, -⟩ := id V_b0
  refine own_go (b := s₁.setTop (mkF m 3 #[rv b0, rv b1, iv p2, iv 2] [.int z, .int 2])) (fun t k => ?_) ?_
  · refine xiloadN X0 hx hby rfl d_B26_0 rfl (xaloadN X0 hx hby rfl d_B26_1 rfl rfl (X0.arraylength hx (own_in e0 Ar1.1) (State.isArrayOf_alike hZ.alike Ar1.2.1) (g := (mkF m 2 #[rv b0, rv b1, iv p2, iv 2] [.ref b0, .int 2])) rfl rfl (hb hby d_B26_2) _ ?_))
    rw [len_of Sz1 M1]
    exact k
  by_cases hc3_2 : (2 : Int32) < z
  · obtain ⟨cl3, Ar3, -, Sz3, M3, Hs3, Gs3⟩ := id V_b1
    have hin3 := inb_of (j := (p2 + (2 : Int32))) Sz3 ⟨(hd hc3_2).1, (hd hc3_2).2.1⟩
    have hat3 := Has.at Hs3 hin3 (hd hc3_2).2.2
    refine own_go (b := s₁.setTop (mkF m 11 #[rv b0, rv b1, iv p2, iv 2] [.int y])) (fun t k => xicmpNo X0 hx hby rfl d_B26_3 rfl (tlt hc3_2).2.1 (xaloadN X0 hx hby rfl d_B26_6 rfl rfl (xiloadN X0 hx hby rfl d_B26_7 rfl (xiloadN X0 hx hby rfl d_B26_8 rfl (xiadd X0 hx hby rfl d_B26_9 rfl (X0.baloadBytes hx (j := (p2 + (2 : Int32))) (v := (.int y)) (own_in e0 Ar3.1) (State.isArrayOf_alike hZ.alike Ar3.2.1) Ar3.2.2 hin3 hat3 (g := (mkF m 10 #[rv b0, rv b1, iv p2, iv 2] [(.int (p2 + (2 : Int32))), .ref b1])) rfl rfl (hb hby d_B26_10) _ k)))))) ?_
    by_cases hc11_4 : y < (0 : Int32)
    · exact own_ret (v := none) X0 e0 Bd.notSynchronized (fun _ => rfl) (fun fs hr => xifYes X0 hx hby rfl 11 23 rfl d_B26_11 rfl ((if0 _ _).trans (tlt hc11_4).1) (by decide) (by decide) (X0.returnOut hx Bd.returns (hb hby d_B26_23) hr)) ⟨rfl, N0, (Keep.refl h0 [b0]), (by rw [own_cp hc11_4]; exact V_b0)⟩ (by decide)
    · obtain ⟨cl5, Ar5, -, Sz5, M5, Hs5, Gs5⟩ := id V_b1
      have hin5 := inb_of (j := (p2 + (2 : Int32))) Sz5 ⟨(hd hc3_2).1, (hd hc3_2).2.1⟩
      have hat5 := Has.at Hs5 hin5 (hd hc3_2).2.2
      obtain ⟨cl6, Ar6, q6, Sz6, M6, Hs6, Gs6⟩ := id V_b0
      have hin6 := inb_of (j := (2 : Int32)) Sz6 ⟨by decide, hc3_2⟩
      obtain ⟨T7, h7, X7, e7, W7, st7⟩ := stC X0 hx hZ e0 Ar6 (j := (2 : Int32)) hin6 (g := (mkF m 22 #[rv b0, rv b1, iv p2, iv 2] [(.int (y.toUInt32.toUInt16.toUInt32.toInt32)), .int 2, .ref b0])) rfl rfl (hb hby d_B26_22)
      have V_b1_7 := V_b1.other W7 hne
      have K7 := (Keep.refl h0 [b0]).wr W7 (Or.inl (List.mem_of_getElem? (i := 0) rfl))
      have N7 := Fr.snoc X7 N0 g_0
      have V_b0_7 := Arv.set Ar6 q6 Sz6 M6 Hs6 Gs6 (fits_nar_char _) W7 2 rfl (Nat.le_of_ble_eq_true rfl)
      exact own_ret (v := none) X7 e7 Bd.notSynchronized (fun _ => rfl) (fun fs hr => xifNo X0 hx hby rfl d_B26_11 rfl ((if0 _ _).trans (flt hc11_4).1) (xaloadN X0 hx hby rfl d_B26_14 rfl rfl (xiloadN X0 hx hby rfl d_B26_15 rfl (xaloadN X0 hx hby rfl d_B26_16 rfl rfl (xiloadN X0 hx hby rfl d_B26_17 rfl (xiloadN X0 hx hby rfl d_B26_18 rfl (show Steps p.tables e below (s₁.setTop (mkF m 19 #[rv b0, rv b1, iv p2, iv 2] [.int 2, .int p2, .ref b1, .int 2, .ref b0])) _ from xiadd X0 hx hby rfl d_B26_19 rfl (X0.baloadBytes hx (j := (p2 + (2 : Int32))) (v := (.int y)) (own_in e0 Ar5.1) (State.isArrayOf_alike hZ.alike Ar5.2.1) Ar5.2.2 hin5 hat5 (g := (mkF m 20 #[rv b0, rv b1, iv p2, iv 2] [(.int (p2 + (2 : Int32))), .ref b1, .int 2, .ref b0])) rfl rfl (hb hby d_B26_20) _ (XS.i2c X0.here hx rfl (hb hby d_B26_21) rfl (st7 _ (X7.returnOut hx Bd.returns (hb hby d_B26_23) hr))))))))))) ⟨rfl, N7, K7, (by rw [own_cn hc11_4]; exact V_b0_7)⟩ (by decide)
  · exact own_ret (v := none) X0 e0 Bd.notSynchronized (fun _ => rfl) (fun fs hr => xicmpYes X0 hx hby rfl 3 23 rfl d_B26_3 rfl (flt hc3_2).2.1 (by decide) (by decide) (X0.returnOut hx Bd.returns (hb hby d_B26_23) hr)) ⟨rfl, N0, (Keep.refl h0 [b0]), own_cut (j := (2 : Int32)) V_b0 2 rfl hc3_2 (by simp only [List.set_cons_zero, List.set_cons_succ, List.take_succ_cons, List.take_zero] <;> rfl)⟩ (by decide)
set_option maxRecDepth 65536 in
set_option maxHeartbeats 40000000 in
theorem own_rmP_3 (l : Launch) (Z : State) (a0 : Array Value) (hw : ∀ d ∈ tables_1, d.before a0 Z = true) (ws : List Jvm.Cond) (b0 : Addr) (b1 : Addr) (p2 : Int32) (kc kb : ClassId) (z : Int32) (vs : List Value) (y : Int32) (x0 x1 x2 : Int32) (h0 : Heap) (n0 : Nat) (Z0 : n0 ≤ h0.size) (V_b0 : Arv Z h0 b0 kc .char z [.int x0, .int x1, .int x2, .int 0, .int 0, .int 0] (.int 0)) (V_b1 : Arv Z h0 b1 kb .byte (6 : Int32) vs (.int 0)) (hne : b1 ≠ b0) (g_0 : n0 ≤ b0) (hd : (3 : Int32) < z → ¬ (p2 + (3 : Int32)) < (0 : Int32) ∧ (p2 + (3 : Int32)) < (6 : Int32) ∧ List.getD vs ((p2 + (3 : Int32))).toNatClampNeg (.int 0) = .int y) : own_M l Z y6N method_4_code 4 none ws ({ frames := 0, cells := 0, slots := 0, locals := 0 } : Room) #[.ref b0, .ref b1, .int p2, .int 3] h0 (own_QP Z b0 kc z [.int x0, .int x1, .int x2, (.int (own_c y)), .int 0, .int 0] h0 n0) := by
  refine own_begin (n0 := n0) (f0 := mkF ⟨0, 0⟩ 0 #[rv b0, rv b1, iv p2, iv 3] []) (plainFor_of_name own_pn6) (fun m => ef_1111_4 m _ _ _ _ rfl rfl rfl rfl) ?_
  intro p e s m below meth c s₁ Bd hZ hx hby hml hown hnm X0 e0 N0
  obtain ⟨cl1, Ar1, -, Sz1, M1, -, -⟩ := id V_b0
  refine own_go (b := s₁.setTop (mkF m 3 #[rv b0, rv b1, iv p2, iv 3] [.int z, .int 3])) (fun t k => ?_) ?_
  · refine xiloadN X0 hx hby rfl d_B26_0 rfl (xaloadN X0 hx hby rfl d_B26_1 rfl rfl (X0.arraylength hx (own_in e0 Ar1.1) (State.isArrayOf_alike hZ.alike Ar1.2.1) (g := (mkF m 2 #[rv b0, rv b1, iv p2, iv 3] [.ref b0, .int 3])) rfl rfl (hb hby d_B26_2) _ ?_))
    rw [len_of Sz1 M1]
    exact k
  by_cases hc3_2 : (3 : Int32) < z
  · obtain ⟨cl3, Ar3, -, Sz3, M3, Hs3, Gs3⟩ := id V_b1
    have hin3 := inb_of (j := (p2 + (3 : Int32))) Sz3 ⟨(hd hc3_2).1, (hd hc3_2).2.1⟩
    have hat3 := Has.at Hs3 hin3 (hd hc3_2).2.2
    refine own_go (b := s₁.setTop (mkF m 11 #[rv b0, rv b1, iv p2, iv 3] [.int y])) (fun t k => xicmpNo X0 hx hby rfl d_B26_3 rfl (tlt hc3_2).2.1 (xaloadN X0 hx hby rfl d_B26_6 rfl rfl (xiloadN X0 hx hby rfl d_B26_7 rfl (xiloadN X0 hx hby rfl d_B26_8 rfl (xiadd X0 hx hby rfl d_B26_9 rfl (X0.baloadBytes hx (j := (p2 + (3 : Int32))) (v := (.int y)) (own_in e0 Ar3.1) (State.isArrayOf_alike hZ.alike Ar3.2.1) Ar3.2.2 hin3 hat3 (g := (mkF m 10 #[rv b0, rv b1, iv p2, iv 3] [(.int (p2 + (3 : Int32))), .ref b1])) rfl rfl (hb hby d_B26_10) _ k)))))) ?_
    by_cases hc11_4 : y < (0 : Int32)
    · exact own_ret (v := none) X0 e0 Bd.notSynchronized (fun _ => rfl) (fun fs hr => xifYes X0 hx hby rfl 11 23 rfl d_B26_11 rfl ((if0 _ _).trans (tlt hc11_4).1) (by decide) (by decide) (X0.returnOut hx Bd.returns (hb hby d_B26_23) hr)) ⟨rfl, N0, (Keep.refl h0 [b0]), (by rw [own_cp hc11_4]; exact V_b0)⟩ (by decide)
    · obtain ⟨cl5, Ar5, -, Sz5, M5, Hs5, Gs5⟩ := id V_b1
      have hin5 := inb_of (j := (p2 + (3 : Int32))) Sz5 ⟨(hd hc3_2).1, (hd hc3_2).2.1⟩
      have hat5 := Has.at Hs5 hin5 (hd hc3_2).2.2
      obtain ⟨cl6, Ar6, q6, Sz6, M6, Hs6, Gs6⟩ := id V_b0
      have hin6 := inb_of (j := (3 : Int32)) Sz6 ⟨by decide, hc3_2⟩
      obtain ⟨T7, h7, X7, e7, W7, st7⟩ := stC X0 hx hZ e0 Ar6 (j := (3 : Int32)) hin6 (g := (mkF m 22 #[rv b0, rv b1, iv p2, iv 3] [(.int (y.toUInt32.toUInt16.toUInt32.toInt32)), .int 3, .ref b0])) rfl rfl (hb hby d_B26_22)
      have V_b1_7 := V_b1.other W7 hne
      have K7 := (Keep.refl h0 [b0]).wr W7 (Or.inl (List.mem_of_getElem? (i := 0) rfl))
      have N7 := Fr.snoc X7 N0 g_0
      have V_b0_7 := Arv.set Ar6 q6 Sz6 M6 Hs6 Gs6 (fits_nar_char _) W7 3 rfl (Nat.le_of_ble_eq_true rfl)
      exact own_ret (v := none) X7 e7 Bd.notSynchronized (fun _ => rfl) (fun fs hr => xifNo X0 hx hby rfl d_B26_11 rfl ((if0 _ _).trans (flt hc11_4).1) (xaloadN X0 hx hby rfl d_B26_14 rfl rfl (xiloadN X0 hx hby rfl d_B26_15 rfl (xaloadN X0 hx hby rfl d_B26_16 rfl rfl (xiloadN X0 hx hby rfl d_B26_17 rfl (xiloadN X0 hx hby rfl d_B26_18 rfl (show Steps p.tables e below (s₁.setTop (mkF m 19 #[rv b0, rv b1, iv p2, iv 3] [.int 3, .int p2, .ref b1, .int 3, .ref b0])) _ from xiadd X0 hx hby rfl d_B26_19 rfl (X0.baloadBytes hx (j := (p2 + (3 : Int32))) (v := (.int y)) (own_in e0 Ar5.1) (State.isArrayOf_alike hZ.alike Ar5.2.1) Ar5.2.2 hin5 hat5 (g := (mkF m 20 #[rv b0, rv b1, iv p2, iv 3] [(.int (p2 + (3 : Int32))), .ref b1, .int 3, .ref b0])) rfl rfl (hb hby d_B26_20) _ (XS.i2c X0.here hx rfl (hb hby d_B26_21) rfl (st7 _ (X7.returnOut hx Bd.returns (hb hby d_B26_23) hr))))))))))) ⟨rfl, N7, K7, (by rw [own_cn hc11_4]; exact V_b0_7)⟩ (by decide)
  · exact own_ret (v := none) X0 e0 Bd.notSynchronized (fun _ => rfl) (fun fs hr => xicmpYes X0 hx hby rfl 3 23 rfl d_B26_3 rfl (flt hc3_2).2.1 (by decide) (by decide) (X0.returnOut hx Bd.returns (hb hby d_B26_23) hr)) ⟨rfl, N0, (Keep.refl h0 [b0]), own_cut (j := (3 : Int32)) V_b0 3 rfl hc3_2 (by simp only [List.set_cons_zero, List.set_cons_succ, List.take_succ_cons, List.take_zero] <;> rfl)⟩ (by decide)
set_option maxRecDepth 65536 in
set_option maxHeartbeats 40000000 in
theorem own_rmP_4 (l : Launch) (Z : State) (a0 : Array Value) (hw : ∀ d ∈ tables_1, d.before a0 Z = true) (ws : List Jvm.Cond) (b0 : Addr) (b1 : Addr) (p2 : Int32) (kc kb : ClassId) (z : Int32) (vs : List Value) (y : Int32) (x0 x1 x2 x3 : Int32) (h0 : Heap) (n0 : Nat) (Z0 : n0 ≤ h0.size) (V_b0 : Arv Z h0 b0 kc .char z [.int x0, .int x1, .int x2, .int x3, .int 0, .int 0] (.int 0)) (V_b1 : Arv Z h0 b1 kb .byte (6 : Int32) vs (.int 0)) (hne : b1 ≠ b0) (g_0 : n0 ≤ b0) (hd : (4 : Int32) < z → ¬ (p2 + (4 : Int32)) < (0 : Int32) ∧ (p2 + (4 : Int32)) < (6 : Int32) ∧ List.getD vs ((p2 + (4 : Int32))).toNatClampNeg (.int 0) = .int y) : own_M l Z y6N method_4_code 4 none ws ({ frames := 0, cells := 0, slots := 0, locals := 0 } : Room) #[.ref b0, .ref b1, .int p2, .int 4] h0 (own_QP Z b0 kc z [.int x0, .int x1, .int x2, .int x3, (.int (own_c y)), .int 0] h0 n0) := by
  refine own_begin (n0 := n0) (f0 := mkF ⟨0, 0⟩ 0 #[rv b0, rv b1, iv p2, iv 4] []) (plainFor_of_name own_pn6) (fun m => ef_1111_4 m _ _ _ _ rfl rfl rfl rfl) ?_
  intro p e s m below meth c s₁ Bd hZ hx hby hml hown hnm X0 e0 N0
  obtain ⟨cl1, Ar1, -, Sz1, M1, -, -⟩ := id V_b0
  refine own_go (b := s₁.setTop (mkF m 3 #[rv b0, rv b1, iv p2, iv 4] [.int z, .int 4])) (fun t k => ?_) ?_
  · refine xiloadN X0 hx hby rfl d_B26_0 rfl (xaloadN X0 hx hby rfl d_B26_1 rfl rfl (X0.arraylength hx (own_in e0 Ar1.1) (State.isArrayOf_alike hZ.alike Ar1.2.1) (g := (mkF m 2 #[rv b0, rv b1, iv p2, iv 4] [.ref b0, .int 4])) rfl rfl (hb hby d_B26_2) _ ?_))
    rw [len_of Sz1 M1]
    exact k
  by_cases hc3_2 : (4 : Int32) < z
  · obtain ⟨cl3, Ar3, -, Sz3, M3, Hs3, Gs3⟩ := id V_b1
    have hin3 := inb_of (j := (p2 + (4 : Int32))) Sz3 ⟨(hd hc3_2).1, (hd hc3_2).2.1⟩
    have hat3 := Has.at Hs3 hin3 (hd hc3_2).2.2
    refine own_go (b := s₁.setTop (mkF m 11 #[rv b0, rv b1, iv p2, iv 4] [.int y])) (fun t k => xicmpNo X0 hx hby rfl d_B26_3 rfl (tlt hc3_2).2.1 (xaloadN X0 hx hby rfl d_B26_6 rfl rfl (xiloadN X0 hx hby rfl d_B26_7 rfl (xiloadN X0 hx hby rfl d_B26_8 rfl (xiadd X0 hx hby rfl d_B26_9 rfl (X0.baloadBytes hx (j := (p2 + (4 : Int32))) (v := (.int y)) (own_in e0 Ar3.1) (State.isArrayOf_alike hZ.alike Ar3.2.1) Ar3.2.2 hin3 hat3 (g := (mkF m 10 #[rv b0, rv b1, iv p2, iv 4] [(.int (p2 + (4 : Int32))), .ref b1])) rfl rfl (hb hby d_B26_10) _ k)))))) ?_
    by_cases hc11_4 : y < (0 : Int32)
    · exact own_ret (v := none) X0 e0 Bd.notSynchronized (fun _ => rfl) (fun fs hr => xifYes X0 hx hby rfl 11 23 rfl d_B26_11 rfl ((if0 _ _).trans (tlt hc11_4).1) (by decide) (by decide) (X0.returnOut hx Bd.returns (hb hby d_B26_23) hr)) ⟨rfl, N0, (Keep.refl h0 [b0]), (by rw [own_cp hc11_4]; exact V_b0)⟩ (by decide)
    · obtain ⟨cl5, Ar5, -, Sz5, M5, Hs5, Gs5⟩ := id V_b1
      have hin5 := inb_of (j := (p2 + (4 : Int32))) Sz5 ⟨(hd hc3_2).1, (hd hc3_2).2.1⟩
      have hat5 := Has.at Hs5 hin5 (hd hc3_2).2.2
      obtain ⟨cl6, Ar6, q6, Sz6, M6, Hs6, Gs6⟩ := id V_b0
      have hin6 := inb_of (j := (4 : Int32)) Sz6 ⟨by decide, hc3_2⟩
      obtain ⟨T7, h7, X7, e7, W7, st7⟩ := stC X0 hx hZ e0 Ar6 (j := (4 : Int32)) hin6 (g := (mkF m 22 #[rv b0, rv b1, iv p2, iv 4] [(.int (y.toUInt32.toUInt16.toUInt32.toInt32)), .int 4, .ref b0])) rfl rfl (hb hby d_B26_22)
      have V_b1_7 := V_b1.other W7 hne
      have K7 := (Keep.refl h0 [b0]).wr W7 (Or.inl (List.mem_of_getElem? (i := 0) rfl))
      have N7 := Fr.snoc X7 N0 g_0
      have V_b0_7 := Arv.set Ar6 q6 Sz6 M6 Hs6 Gs6 (fits_nar_char _) W7 4 rfl (Nat.le_of_ble_eq_true rfl)
      exact own_ret (v := none) X7 e7 Bd.notSynchronized (fun _ => rfl) (fun fs hr => xifNo X0 hx hby rfl d_B26_11 rfl ((if0 _ _).trans (flt hc11_4).1) (xaloadN X0 hx hby rfl d_B26_14 rfl rfl (xiloadN X0 hx hby rfl d_B26_15 rfl (xaloadN X0 hx hby rfl d_B26_16 rfl rfl (xiloadN X0 hx hby rfl d_B26_17 rfl (xiloadN X0 hx hby rfl d_B26_18 rfl (show Steps p.tables e below (s₁.setTop (mkF m 19 #[rv b0, rv b1, iv p2, iv 4] [.int 4, .int p2, .ref b1, .int 4, .ref b0])) _ from xiadd X0 hx hby rfl d_B26_19 rfl (X0.baloadBytes hx (j := (p2 + (4 : Int32))) (v := (.int y)) (own_in e0 Ar5.1) (State.isArrayOf_alike hZ.alike Ar5.2.1) Ar5.2.2 hin5 hat5 (g := (mkF m 20 #[rv b0, rv b1, iv p2, iv 4] [(.int (p2 + (4 : Int32))), .ref b1, .int 4, .ref b0])) rfl rfl (hb hby d_B26_20) _ (XS.i2c X0.here hx rfl (hb hby d_B26_21) rfl (st7 _ (X7.returnOut hx Bd.returns (hb hby d_B26_23) hr))))))))))) ⟨rfl, N7, K7, (by rw [own_cn hc11_4]; exact V_b0_7)⟩ (by decide)
  · exact own_ret (v := none) X0 e0 Bd.notSynchronized (fun _ => rfl) (fun fs hr => xicmpYes X0 hx hby rfl 3 23 rfl d_B26_3 rfl (flt hc3_2).2.1 (by decide) (by decide) (X0.returnOut hx Bd.returns (hb hby d_B26_23) hr)) ⟨rfl, N0, (Keep.refl h0 [b0]), own_cut (j := (4 : Int32)) V_b0 4 rfl hc3_2 (by simp only [List.set_cons_zero, List.set_cons_succ, List.take_succ_cons, List.take_zero] <;> rfl)⟩ (by decide)
set_option maxRecDepth 65536 in
set_option maxHeartbeats 40000000 in
theorem own_rmP_5 (l : Launch) (Z : State) (a0 : Array Value) (hw : ∀ d ∈ tables_1, d.before a0 Z = true) (ws : List Jvm.Cond) (b0 : Addr) (b1 : Addr) (p2 : Int32) (kc kb : ClassId) (z : Int32) (vs : List Value) (y : Int32) (x0 x1 x2 x3 x4 : Int32) (h0 : Heap) (n0 : Nat) (Z0 : n0 ≤ h0.size) (V_b0 : Arv Z h0 b0 kc .char z [.int x0, .int x1, .int x2, .int x3, .int x4, .int 0] (.int 0)) (V_b1 : Arv Z h0 b1 kb .byte (6 : Int32) vs (.int 0)) (hne : b1 ≠ b0) (g_0 : n0 ≤ b0) (hd : (5 : Int32) < z → ¬ (p2 + (5 : Int32)) < (0 : Int32) ∧ (p2 + (5 : Int32)) < (6 : Int32) ∧ List.getD vs ((p2 + (5 : Int32))).toNatClampNeg (.int 0) = .int y) : own_M l Z y6N method_4_code 4 none ws ({ frames := 0, cells := 0, slots := 0, locals := 0 } : Room) #[.ref b0, .ref b1, .int p2, .int 5] h0 (own_QP Z b0 kc z [.int x0, .int x1, .int x2, .int x3, .int x4, (.int (own_c y))] h0 n0) := by
  refine own_begin (n0 := n0) (f0 := mkF ⟨0, 0⟩ 0 #[rv b0, rv b1, iv p2, iv 5] []) (plainFor_of_name own_pn6) (fun m => ef_1111_4 m _ _ _ _ rfl rfl rfl rfl) ?_
  intro p e s m below meth c s₁ Bd hZ hx hby hml hown hnm X0 e0 N0
  obtain ⟨cl1, Ar1, -, Sz1, M1, -, -⟩ := id V_b0
  refine own_go (b := s₁.setTop (mkF m 3 #[rv b0, rv b1, iv p2, iv 5] [.int z, .int 5])) (fun t k => ?_) ?_
  · refine xiloadN X0 hx hby rfl d_B26_0 rfl (xaloadN X0 hx hby rfl d_B26_1 rfl rfl (X0.arraylength hx (own_in e0 Ar1.1) (State.isArrayOf_alike hZ.alike Ar1.2.1) (g := (mkF m 2 #[rv b0, rv b1, iv p2, iv 5] [.ref b0, .int 5])) rfl rfl (hb hby d_B26_2) _ ?_))
    rw [len_of Sz1 M1]
    exact k
  by_cases hc3_2 : (5 : Int32) < z
  · obtain ⟨cl3, Ar3, -, Sz3, M3, Hs3, Gs3⟩ := id V_b1
    have hin3 := inb_of (j := (p2 + (5 : Int32))) Sz3 ⟨(hd hc3_2).1, (hd hc3_2).2.1⟩
    have hat3 := Has.at Hs3 hin3 (hd hc3_2).2.2
    refine own_go (b := s₁.setTop (mkF m 11 #[rv b0, rv b1, iv p2, iv 5] [.int y])) (fun t k => xicmpNo X0 hx hby rfl d_B26_3 rfl (tlt hc3_2).2.1 (xaloadN X0 hx hby rfl d_B26_6 rfl rfl (xiloadN X0 hx hby rfl d_B26_7 rfl (xiloadN X0 hx hby rfl d_B26_8 rfl (xiadd X0 hx hby rfl d_B26_9 rfl (X0.baloadBytes hx (j := (p2 + (5 : Int32))) (v := (.int y)) (own_in e0 Ar3.1) (State.isArrayOf_alike hZ.alike Ar3.2.1) Ar3.2.2 hin3 hat3 (g := (mkF m 10 #[rv b0, rv b1, iv p2, iv 5] [(.int (p2 + (5 : Int32))), .ref b1])) rfl rfl (hb hby d_B26_10) _ k)))))) ?_
    by_cases hc11_4 : y < (0 : Int32)
    · exact own_ret (v := none) X0 e0 Bd.notSynchronized (fun _ => rfl) (fun fs hr => xifYes X0 hx hby rfl 11 23 rfl d_B26_11 rfl ((if0 _ _).trans (tlt hc11_4).1) (by decide) (by decide) (X0.returnOut hx Bd.returns (hb hby d_B26_23) hr)) ⟨rfl, N0, (Keep.refl h0 [b0]), (by rw [own_cp hc11_4]; exact V_b0)⟩ (by decide)
    · obtain ⟨cl5, Ar5, -, Sz5, M5, Hs5, Gs5⟩ := id V_b1
      have hin5 := inb_of (j := (p2 + (5 : Int32))) Sz5 ⟨(hd hc3_2).1, (hd hc3_2).2.1⟩
      have hat5 := Has.at Hs5 hin5 (hd hc3_2).2.2
      obtain ⟨cl6, Ar6, q6, Sz6, M6, Hs6, Gs6⟩ := id V_b0
      have hin6 := inb_of (j := (5 : Int32)) Sz6 ⟨by decide, hc3_2⟩
      obtain ⟨T7, h7, X7, e7, W7, st7⟩ := stC X0 hx hZ e0 Ar6 (j := (5 : Int32)) hin6 (g := (mkF m 22 #[rv b0, rv b1, iv p2, iv 5] [(.int (y.toUInt32.toUInt16.toUInt32.toInt32)), .int 5, .ref b0])) rfl rfl (hb hby d_B26_22)
      have V_b1_7 := V_b1.other W7 hne
      have K7 := (Keep.refl h0 [b0]).wr W7 (Or.inl (List.mem_of_getElem? (i := 0) rfl))
      have N7 := Fr.snoc X7 N0 g_0
      have V_b0_7 := Arv.set Ar6 q6 Sz6 M6 Hs6 Gs6 (fits_nar_char _) W7 5 rfl (Nat.le_of_ble_eq_true rfl)
      exact own_ret (v := none) X7 e7 Bd.notSynchronized (fun _ => rfl) (fun fs hr => xifNo X0 hx hby rfl d_B26_11 rfl ((if0 _ _).trans (flt hc11_4).1) (xaloadN X0 hx hby rfl d_B26_14 rfl rfl (xiloadN X0 hx hby rfl d_B26_15 rfl (xaloadN X0 hx hby rfl d_B26_16 rfl rfl (xiloadN X0 hx hby rfl d_B26_17 rfl (xiloadN X0 hx hby rfl d_B26_18 rfl (show Steps p.tables e below (s₁.setTop (mkF m 19 #[rv b0, rv b1, iv p2, iv 5] [.int 5, .int p2, .ref b1, .int 5, .ref b0])) _ from xiadd X0 hx hby rfl d_B26_19 rfl (X0.baloadBytes hx (j := (p2 + (5 : Int32))) (v := (.int y)) (own_in e0 Ar5.1) (State.isArrayOf_alike hZ.alike Ar5.2.1) Ar5.2.2 hin5 hat5 (g := (mkF m 20 #[rv b0, rv b1, iv p2, iv 5] [(.int (p2 + (5 : Int32))), .ref b1, .int 5, .ref b0])) rfl rfl (hb hby d_B26_20) _ (XS.i2c X0.here hx rfl (hb hby d_B26_21) rfl (st7 _ (X7.returnOut hx Bd.returns (hb hby d_B26_23) hr))))))))))) ⟨rfl, N7, K7, (by rw [own_cn hc11_4]; exact V_b0_7)⟩ (by decide)
  · exact own_ret (v := none) X0 e0 Bd.notSynchronized (fun _ => rfl) (fun fs hr => xicmpYes X0 hx hby rfl 3 23 rfl d_B26_3 rfl (flt hc3_2).2.1 (by decide) (by decide) (X0.returnOut hx Bd.returns (hb hby d_B26_23) hr)) ⟨rfl, N0, (Keep.refl h0 [b0]), own_cut (j := (5 : Int32)) V_b0 5 rfl hc3_2 (by simp only [List.set_cons_zero, List.set_cons_succ, List.take_succ_cons, List.take_zero] <;> rfl)⟩ (by decide)
def own_Q0 (n0 : Nat) (v : Option Value) (h : Heap) (L : List Loc) : Prop := v = some (.int 1) ∧ Fr n0 L
set_option maxRecDepth 65536 in
set_option maxHeartbeats 40000000 in
theorem own_tE {p : Program} {l : Launch} {e : Env} {Z s s₁ Tq : State} {m : MethodId} {below : List Frame} {meth : Method} {c : Code} {a0 : Array Value} {ws : List Jvm.Cond} {n0 : Nat} {h0 hq : Heap} {Lq : List Loc} {b2 : Addr} {k2 : ClassId} {p0 p1 p2 : Int32} {pf pn y0 y1 y2 y3 y4 y5 : Int32} (hw : ∀ d ∈ tables_1, d.before a0 Z = true) (Bd : BodyLoose p l x (head1 (Jvm.Cond.code x code maxLocals ret :: ws) room_1) code maxLocals ret e s m #[.int p0, .int p1, .int p2] below meth c s₁) (hx : p.tables.exec = Jvm.exec) (hby : c.code = code) (hml : c.maxLocals = 14) (hown : s.vm.findClass "com/example/rollcall/rollcall/users/CaselessIndexAsciiHashPinLaw" = some m.cls) (hZ : Z.Warmed39 s.vm) (Xq : Stand p l e room_1 s m #[.int p0, .int p1, .int p2] below meth c Tq Lq 1 6) (eq0 : Tq.heap = hq) (Nq : Fr n0 Lq) (Z0 : n0 ≤ h0.size) (Kq : Keep h0 hq []) (tV_b2 : Arv Z hq b2 k2 .byte (6 : Int32) [.int y0, .int y1, .int y2, .int y3, .int y4, .int y5] (.int 0)) (new_b2 : n0 ≤ b2) (sz_b2 : h0.size ≤ b2) (hk : ∀ (Tn : State) (Ln : List Loc) (ng : Int32), Stand p l e room_1 s m #[.int p0, .int p1, .int p2] below meth c Tn Ln 1 6 → Tn.heap = hq → Fr n0 Ln → ((ng = (1 : Int32) ∧ (¬ own_bd (0 : Int32) pf pn y0 = (0 : Int32) ∨ ¬ own_bd (1 : Int32) pf pn y1 = (0 : Int32) ∨ ¬ own_bd (2 : Int32) pf pn y2 = (0 : Int32) ∨ ¬ own_bd (3 : Int32) pf pn y3 = (0 : Int32) ∨ ¬ own_bd (4 : Int32) pf pn y4 = (0 : Int32) ∨ ¬ own_bd (5 : Int32) pf pn y5 = (0 : Int32))) ∨ (ng = (0 : Int32) ∧ own_bd (0 : Int32) pf pn y0 = (0 : Int32) ∧ own_bd (1 : Int32) pf pn y1 = (0 : Int32) ∧ own_bd (2 : Int32) pf pn y2 = (0 : Int32) ∧ own_bd (3 : Int32) pf pn y3 = (0 : Int32) ∧ own_bd (4 : Int32) pf pn y4 = (0 : Int32) ∧ own_bd (5 : Int32) pf pn y5 = (0 : Int32))) → ∃ s₂ o, Steps p.tables e below (Tn.setTop (mkF m 193 #[iv p0, iv p1, iv p2, iv (if (p2 &&& (65536 : Int32)) = (0 : Int32) then (255 : Int32) else (127 : Int32)), rv b2, iv pf, iv pn, iv ng, .unset, .unset, .unset, .unset, .unset, .unset] [])) s₂ ∧ s₂.status = .running ∧ Ended s₂ below o ∧ ∃ v L, o = .returned v ∧ own_Q0 n0 v s₂.heap L ∧ ReturnedEndW s o s₂ L room_1.cells room_1.slots) :
    ∃ s₂ o, Steps p.tables e below (Tq.setTop (mkF m 108 #[iv p0, iv p1, iv p2, iv (if (p2 &&& (65536 : Int32)) = (0 : Int32) then (255 : Int32) else (127 : Int32)), rv b2, iv pf, iv pn, .unset, .unset, .unset, .unset, .unset, .unset, .unset] [])) s₂ ∧ s₂.status = .running ∧ Ended s₂ below o ∧ ∃ v L, o = .returned v ∧ own_Q0 n0 v s₂.heap L ∧ ReturnedEndW s o s₂ L room_1.cells room_1.slots := by
  refine own_go (b := Tq.setTop (mkF m 115 #[iv p0, iv p1, iv p2, iv (if (p2 &&& (65536 : Int32)) = (0 : Int32) then (255 : Int32) else (127 : Int32)), rv b2, iv pf, iv pn, .unset, .unset, .unset, .unset, .unset, .unset, .unset] [.int pn, .int pf, .int 0, .ref b2])) (fun t k => xaload Xq hx hby rfl at_108 rfl rfl (xiconst Xq hx hby rfl at_110 (xiload Xq hx hby rfl at_111 rfl (xiload Xq hx hby rfl at_113 rfl k)))) ?_
  refine own_cs Xq hx hZ hown hml eq0 (wd hw 2 rfl) (wd hw 3 rfl) (wd hw 4 rfl) (wd hw 5 rfl) (own_rmB_0 l Z a0 hw [] b2 pf pn k2 y0 y1 y2 y3 y4 y5 hq n0 (Nat.le_trans Z0 Kq.1) tV_b2) own_pd20 (hb hby at_115) 0 [] rfl ⟨rfl, rfl, rfl, rfl, rfl⟩ (by decide) ?_
  rintro T15 L15 v15 X15 hQ15
  obtain ⟨rfl, N15q, e15⟩ := hQ15
  have N15 := Fr.app Nq N15q
  refine own_go (b := T15.setTop (mkF m 118 #[iv p0, iv p1, iv p2, iv (if (p2 &&& (65536 : Int32)) = (0 : Int32) then (255 : Int32) else (127 : Int32)), rv b2, iv pf, iv pn, .unset, .unset, .unset, .unset, .unset, .unset, .unset] [(.int (own_bd (0 : Int32) pf pn y0))])) (fun t k => ?_) ?_
  · exact k
  clear N15q
  by_cases hB0 : own_bd (0 : Int32) pf pn y0 = (0 : Int32)
  · refine own_go (b := T15.setTop (mkF m 128 #[iv p0, iv p1, iv p2, iv (if (p2 &&& (65536 : Int32)) = (0 : Int32) then (255 : Int32) else (127 : Int32)), rv b2, iv pf, iv pn, .unset, .unset, .unset, .unset, .unset, .unset, .unset] [.int pn, .int pf, .int 1, .ref b2])) (fun t k => xifNo X15 hx hby rfl at_118 rfl ((if0 _ _).trans (teq (hB0 : (own_bd (0 : Int32) pf pn y0) = (0 : Int32))).2) (xaload X15 hx hby rfl at_121 rfl rfl (xiconst X15 hx hby rfl at_123 (xiload X15 hx hby rfl at_124 rfl (xiload X15 hx hby rfl at_126 rfl k))))) ?_
    refine own_cs X15 hx hZ hown hml e15 (wd hw 2 rfl) (wd hw 3 rfl) (wd hw 4 rfl) (wd hw 5 rfl) (own_rmB_1 l Z a0 hw [] b2 pf pn k2 y0 y1 y2 y3 y4 y5 hq n0 (Nat.le_trans Z0 Kq.1) tV_b2) own_pd20 (hb hby at_128) 0 [] rfl ⟨rfl, rfl, rfl, rfl, rfl⟩ (by decide) ?_
    rintro T16 L16 v16 X16 hQ16
    obtain ⟨rfl, N16q, e16⟩ := hQ16
    have N16 := Fr.app N15 N16q
    refine own_go (b := T16.setTop (mkF m 131 #[iv p0, iv p1, iv p2, iv (if (p2 &&& (65536 : Int32)) = (0 : Int32) then (255 : Int32) else (127 : Int32)), rv b2, iv pf, iv pn, .unset, .unset, .unset, .unset, .unset, .unset, .unset] [(.int (own_bd (1 : Int32) pf pn y1))])) (fun t k => ?_) ?_
    · exact k
    clear X15 e15 N15 N16q
    by_cases hB1 : own_bd (1 : Int32) pf pn y1 = (0 : Int32)
    · refine own_go (b := T16.setTop (mkF m 141 #[iv p0, iv p1, iv p2, iv (if (p2 &&& (65536 : Int32)) = (0 : Int32) then (255 : Int32) else (127 : Int32)), rv b2, iv pf, iv pn, .unset, .unset, .unset, .unset, .unset, .unset, .unset] [.int pn, .int pf, .int 2, .ref b2])) (fun t k => xifNo X16 hx hby rfl at_131 rfl ((if0 _ _).trans (teq (hB1 : (own_bd (1 : Int32) pf pn y1) = (0 : Int32))).2) (xaload X16 hx hby rfl at_134 rfl rfl (xiconst X16 hx hby rfl at_136 (xiload X16 hx hby rfl at_137 rfl (xiload X16 hx hby rfl at_139 rfl k))))) ?_
      refine own_cs X16 hx hZ hown hml e16 (wd hw 2 rfl) (wd hw 3 rfl) (wd hw 4 rfl) (wd hw 5 rfl) (own_rmB_2 l Z a0 hw [] b2 pf pn k2 y0 y1 y2 y3 y4 y5 hq n0 (Nat.le_trans Z0 Kq.1) tV_b2) own_pd20 (hb hby at_141) 0 [] rfl ⟨rfl, rfl, rfl, rfl, rfl⟩ (by decide) ?_
      rintro T17 L17 v17 X17 hQ17
      obtain ⟨rfl, N17q, e17⟩ := hQ17
      have N17 := Fr.app N16 N17q
      refine own_go (b := T17.setTop (mkF m 144 #[iv p0, iv p1, iv p2, iv (if (p2 &&& (65536 : Int32)) = (0 : Int32) then (255 : Int32) else (127 : Int32)), rv b2, iv pf, iv pn, .unset, .unset, .unset, .unset, .unset, .unset, .unset] [(.int (own_bd (2 : Int32) pf pn y2))])) (fun t k => ?_) ?_
      · exact k
      clear X16 e16 N16 N17q
      by_cases hB2 : own_bd (2 : Int32) pf pn y2 = (0 : Int32)
      · refine own_go (b := T17.setTop (mkF m 154 #[iv p0, iv p1, iv p2, iv (if (p2 &&& (65536 : Int32)) = (0 : Int32) then (255 : Int32) else (127 : Int32)), rv b2, iv pf, iv pn, .unset, .unset, .unset, .unset, .unset, .unset, .unset] [.int pn, .int pf, .int 3, .ref b2])) (fun t k => xifNo X17 hx hby rfl at_144 rfl ((if0 _ _).trans (teq (hB2 : (own_bd (2 : Int32) pf pn y2) = (0 : Int32))).2) (xaload X17 hx hby rfl at_147 rfl rfl (xiconst X17 hx hby rfl at_149 (xiload X17 hx hby rfl at_150 rfl (xiload X17 hx hby rfl at_152 rfl k))))) ?_
        refine own_cs X17 hx hZ hown hml e17 (wd hw 2 rfl) (wd hw 3 rfl) (wd hw 4 rfl) (wd hw 5 rfl) (own_rmB_3 l Z a0 hw [] b2 pf pn k2 y0 y1 y2 y3 y4 y5 hq n0 (Nat.le_trans Z0 Kq.1) tV_b2) own_pd20 (hb hby at_154) 0 [] rfl ⟨rfl, rfl, rfl, rfl, rfl⟩ (by decide) ?_
        rintro T18 L18 v18 X18 hQ18
        obtain ⟨rfl, N18q, e18⟩ := hQ18
        have N18 := Fr.app N17 N18q
        refine own_go (b := T18.setTop (mkF m 157 #[iv p0, iv p1, iv p2, iv (if (p2 &&& (65536 : Int32)) = (0 : Int32) then (255 : Int32) else (127 : Int32)), rv b2, iv pf, iv pn, .unset, .unset, .unset, .unset, .unset, .unset, .unset] [(.int (own_bd (3 : Int32) pf pn y3))])) (fun t k => ?_) ?_
        · exact k
        clear X17 e17 N17 N18q
        by_cases hB3 : own_bd (3 : Int32) pf pn y3 = (0 : Int32)
        · refine own_go (b := T18.setTop (mkF m 167 #[iv p0, iv p1, iv p2, iv (if (p2 &&& (65536 : Int32)) = (0 : Int32) then (255 : Int32) else (127 : Int32)), rv b2, iv pf, iv pn, .unset, .unset, .unset, .unset, .unset, .unset, .unset] [.int pn, .int pf, .int 4, .ref b2])) (fun t k => xifNo X18 hx hby rfl at_157 rfl ((if0 _ _).trans (teq (hB3 : (own_bd (3 : Int32) pf pn y3) = (0 : Int32))).2) (xaload X18 hx hby rfl at_160 rfl rfl (xiconst X18 hx hby rfl at_162 (xiload X18 hx hby rfl at_163 rfl (xiload X18 hx hby rfl at_165 rfl k))))) ?_
          refine own_cs X18 hx hZ hown hml e18 (wd hw 2 rfl) (wd hw 3 rfl) (wd hw 4 rfl) (wd hw 5 rfl) (own_rmB_4 l Z a0 hw [] b2 pf pn k2 y0 y1 y2 y3 y4 y5 hq n0 (Nat.le_trans Z0 Kq.1) tV_b2) own_pd20 (hb hby at_167) 0 [] rfl ⟨rfl, rfl, rfl, rfl, rfl⟩ (by decide) ?_
          rintro T19 L19 v19 X19 hQ19
          obtain ⟨rfl, N19q, e19⟩ := hQ19
          have N19 := Fr.app N18 N19q
          refine own_go (b := T19.setTop (mkF m 170 #[iv p0, iv p1, iv p2, iv (if (p2 &&& (65536 : Int32)) = (0 : Int32) then (255 : Int32) else (127 : Int32)), rv b2, iv pf, iv pn, .unset, .unset, .unset, .unset, .unset, .unset, .unset] [(.int (own_bd (4 : Int32) pf pn y4))])) (fun t k => ?_) ?_
          · exact k
          clear X18 e18 N18 N19q
          by_cases hB4 : own_bd (4 : Int32) pf pn y4 = (0 : Int32)
          · refine own_go (b := T19.setTop (mkF m 180 #[iv p0, iv p1, iv p2, iv (if (p2 &&& (65536 : Int32)) = (0 : Int32) then (255 : Int32) else (127 : Int32)), rv b2, iv pf, iv pn, .unset, .unset, .unset, .unset, .unset, .unset, .unset] [.int pn, .int pf, .int 5, .ref b2])) (fun t k => xifNo X19 hx hby rfl at_170 rfl ((if0 _ _).trans (teq (hB4 : (own_bd (4 : Int32) pf pn y4) = (0 : Int32))).2) (xaload X19 hx hby rfl at_173 rfl rfl (xiconst X19 hx hby rfl at_175 (xiload X19 hx hby rfl at_176 rfl (xiload X19 hx hby rfl at_178 rfl k))))) ?_
            refine own_cs X19 hx hZ hown hml e19 (wd hw 2 rfl) (wd hw 3 rfl) (wd hw 4 rfl) (wd hw 5 rfl) (own_rmB_5 l Z a0 hw [] b2 pf pn k2 y0 y1 y2 y3 y4 y5 hq n0 (Nat.le_trans Z0 Kq.1) tV_b2) own_pd20 (hb hby at_180) 0 [] rfl ⟨rfl, rfl, rfl, rfl, rfl⟩ (by decide) ?_
            rintro T20 L20 v20 X20 hQ20
            obtain ⟨rfl, N20q, e20⟩ := hQ20
            have N20 := Fr.app N19 N20q
            refine own_go (b := T20.setTop (mkF m 183 #[iv p0, iv p1, iv p2, iv (if (p2 &&& (65536 : Int32)) = (0 : Int32) then (255 : Int32) else (127 : Int32)), rv b2, iv pf, iv pn, .unset, .unset, .unset, .unset, .unset, .unset, .unset] [(.int (own_bd (5 : Int32) pf pn y5))])) (fun t k => ?_) ?_
            · exact k
            clear X19 e19 N19 N20q
            by_cases hB5 : own_bd (5 : Int32) pf pn y5 = (0 : Int32)
            · refine own_go (b := T20.setTop (mkF m 193 #[iv p0, iv p1, iv p2, iv (if (p2 &&& (65536 : Int32)) = (0 : Int32) then (255 : Int32) else (127 : Int32)), rv b2, iv pf, iv pn, iv 0, .unset, .unset, .unset, .unset, .unset, .unset] [])) (fun t k => xifYes X20 hx hby rfl 183 190 rfl at_183 rfl ((if0 _ _).trans (teq (hB5 : (own_bd (5 : Int32) pf pn y5) = (0 : Int32))).1) (by decide) (by decide) (xiconst X20 hx hby rfl at_190 (xistore X20 hx hby rfl at_191 rfl (l' := #[iv p0, iv p1, iv p2, iv (if (p2 &&& (65536 : Int32)) = (0 : Int32) then (255 : Int32) else (127 : Int32)), rv b2, iv pf, iv pn, iv 0, .unset, .unset, .unset, .unset, .unset, .unset]) rfl k))) ?_
              exact hk _ _ _ X20 e20 N20 (Or.inr ⟨rfl, hB0, hB1, hB2, hB3, hB4, hB5⟩)
            · refine own_go (b := T20.setTop (mkF m 193 #[iv p0, iv p1, iv p2, iv (if (p2 &&& (65536 : Int32)) = (0 : Int32) then (255 : Int32) else (127 : Int32)), rv b2, iv pf, iv pn, iv 1, .unset, .unset, .unset, .unset, .unset, .unset] [])) (fun t k => xifNo X20 hx hby rfl at_183 rfl ((if0 _ _).trans (feq (hB5 : ¬ ((own_bd (5 : Int32) pf pn y5) = (0 : Int32)))).1) (xiconst X20 hx hby rfl at_186 (xgoto X20 hx hby rfl 187 191 rfl at_187 (by decide) (by decide) (xistore X20 hx hby rfl at_191 rfl (l' := #[iv p0, iv p1, iv p2, iv (if (p2 &&& (65536 : Int32)) = (0 : Int32) then (255 : Int32) else (127 : Int32)), rv b2, iv pf, iv pn, iv 1, .unset, .unset, .unset, .unset, .unset, .unset]) rfl k)))) ?_
              exact hk _ _ _ X20 e20 N20 (Or.inl ⟨rfl, Or.inr (Or.inr (Or.inr (Or.inr (Or.inr (hB5)))))⟩)
          · refine own_go (b := T19.setTop (mkF m 193 #[iv p0, iv p1, iv p2, iv (if (p2 &&& (65536 : Int32)) = (0 : Int32) then (255 : Int32) else (127 : Int32)), rv b2, iv pf, iv pn, iv 1, .unset, .unset, .unset, .unset, .unset, .unset] [])) (fun t k => xifYes X19 hx hby rfl 170 186 rfl at_170 rfl ((if0 _ _).trans (feq (hB4 : ¬ ((own_bd (4 : Int32) pf pn y4) = (0 : Int32)))).2) (by decide) (by decide) (xiconst X19 hx hby rfl at_186 (xgoto X19 hx hby rfl 187 191 rfl at_187 (by decide) (by decide) (xistore X19 hx hby rfl at_191 rfl (l' := #[iv p0, iv p1, iv p2, iv (if (p2 &&& (65536 : Int32)) = (0 : Int32) then (255 : Int32) else (127 : Int32)), rv b2, iv pf, iv pn, iv 1, .unset, .unset, .unset, .unset, .unset, .unset]) rfl k)))) ?_
            exact hk _ _ _ X19 e19 N19 (Or.inl ⟨rfl, Or.inr (Or.inr (Or.inr (Or.inr (Or.inl hB4))))⟩)
        · refine own_go (b := T18.setTop (mkF m 193 #[iv p0, iv p1, iv p2, iv (if (p2 &&& (65536 : Int32)) = (0 : Int32) then (255 : Int32) else (127 : Int32)), rv b2, iv pf, iv pn, iv 1, .unset, .unset, .unset, .unset, .unset, .unset] [])) (fun t k => xifYes X18 hx hby rfl 157 186 rfl at_157 rfl ((if0 _ _).trans (feq (hB3 : ¬ ((own_bd (3 : Int32) pf pn y3) = (0 : Int32)))).2) (by decide) (by decide) (xiconst X18 hx hby rfl at_186 (xgoto X18 hx hby rfl 187 191 rfl at_187 (by decide) (by decide) (xistore X18 hx hby rfl at_191 rfl (l' := #[iv p0, iv p1, iv p2, iv (if (p2 &&& (65536 : Int32)) = (0 : Int32) then (255 : Int32) else (127 : Int32)), rv b2, iv pf, iv pn, iv 1, .unset, .unset, .unset, .unset, .unset, .unset]) rfl k)))) ?_
          exact hk _ _ _ X18 e18 N18 (Or.inl ⟨rfl, Or.inr (Or.inr (Or.inr (Or.inl hB3)))⟩)
      · refine own_go (b := T17.setTop (mkF m 193 #[iv p0, iv p1, iv p2, iv (if (p2 &&& (65536 : Int32)) = (0 : Int32) then (255 : Int32) else (127 : Int32)), rv b2, iv pf, iv pn, iv 1, .unset, .unset, .unset, .unset, .unset, .unset] [])) (fun t k => xifYes X17 hx hby rfl 144 186 rfl at_144 rfl ((if0 _ _).trans (feq (hB2 : ¬ ((own_bd (2 : Int32) pf pn y2) = (0 : Int32)))).2) (by decide) (by decide) (xiconst X17 hx hby rfl at_186 (xgoto X17 hx hby rfl 187 191 rfl at_187 (by decide) (by decide) (xistore X17 hx hby rfl at_191 rfl (l' := #[iv p0, iv p1, iv p2, iv (if (p2 &&& (65536 : Int32)) = (0 : Int32) then (255 : Int32) else (127 : Int32)), rv b2, iv pf, iv pn, iv 1, .unset, .unset, .unset, .unset, .unset, .unset]) rfl k)))) ?_
        exact hk _ _ _ X17 e17 N17 (Or.inl ⟨rfl, Or.inr (Or.inr (Or.inl hB2))⟩)
    · refine own_go (b := T16.setTop (mkF m 193 #[iv p0, iv p1, iv p2, iv (if (p2 &&& (65536 : Int32)) = (0 : Int32) then (255 : Int32) else (127 : Int32)), rv b2, iv pf, iv pn, iv 1, .unset, .unset, .unset, .unset, .unset, .unset] [])) (fun t k => xifYes X16 hx hby rfl 131 186 rfl at_131 rfl ((if0 _ _).trans (feq (hB1 : ¬ ((own_bd (1 : Int32) pf pn y1) = (0 : Int32)))).2) (by decide) (by decide) (xiconst X16 hx hby rfl at_186 (xgoto X16 hx hby rfl 187 191 rfl at_187 (by decide) (by decide) (xistore X16 hx hby rfl at_191 rfl (l' := #[iv p0, iv p1, iv p2, iv (if (p2 &&& (65536 : Int32)) = (0 : Int32) then (255 : Int32) else (127 : Int32)), rv b2, iv pf, iv pn, iv 1, .unset, .unset, .unset, .unset, .unset, .unset]) rfl k)))) ?_
      exact hk _ _ _ X16 e16 N16 (Or.inl ⟨rfl, Or.inr (Or.inl hB1)⟩)
  · refine own_go (b := T15.setTop (mkF m 193 #[iv p0, iv p1, iv p2, iv (if (p2 &&& (65536 : Int32)) = (0 : Int32) then (255 : Int32) else (127 : Int32)), rv b2, iv pf, iv pn, iv 1, .unset, .unset, .unset, .unset, .unset, .unset] [])) (fun t k => xifYes X15 hx hby rfl 118 186 rfl at_118 rfl ((if0 _ _).trans (feq (hB0 : ¬ ((own_bd (0 : Int32) pf pn y0) = (0 : Int32)))).2) (by decide) (by decide) (xiconst X15 hx hby rfl at_186 (xgoto X15 hx hby rfl 187 191 rfl at_187 (by decide) (by decide) (xistore X15 hx hby rfl at_191 rfl (l' := #[iv p0, iv p1, iv p2, iv (if (p2 &&& (65536 : Int32)) = (0 : Int32) then (255 : Int32) else (127 : Int32)), rv b2, iv pf, iv pn, iv 1, .unset, .unset, .unset, .unset, .unset, .unset]) rfl k)))) ?_
    exact hk _ _ _ X15 e15 N15 (Or.inl ⟨rfl, Or.inl hB0⟩)
set_option maxRecDepth 65536 in
set_option maxHeartbeats 40000000 in
theorem own_tM {p : Program} {l : Launch} {e : Env} {Z s s₁ Tq : State} {m : MethodId} {below : List Frame} {meth : Method} {c : Code} {a0 : Array Value} {ws : List Jvm.Cond} {n0 : Nat} {h0 hq : Heap} {Lq : List Loc} {b2 : Addr} {k2 : ClassId} {p0 p1 p2 : Int32} {cs ng pf pn z0 z1 z2 z3 z4 z5 : Int32} {fv : Value} {vs : List Value} (hw : ∀ d ∈ tables_1, d.before a0 Z = true) (Bd : BodyLoose p l x (head1 (Jvm.Cond.code x code maxLocals ret :: ws) room_1) code maxLocals ret e s m #[.int p0, .int p1, .int p2] below meth c s₁) (hx : p.tables.exec = Jvm.exec) (hby : c.code = code) (hml : c.maxLocals = 14) (hown : s.vm.findClass "com/example/rollcall/rollcall/users/CaselessIndexAsciiHashPinLaw" = some m.cls) (hZ : Z.Warmed39 s.vm) (Xq : Stand p l e room_1 s m #[.int p0, .int p1, .int p2] below meth c Tq Lq 1 6) (eq0 : Tq.heap = hq) (Nq : Fr n0 Lq) (Z0 : n0 ≤ h0.size) (Kq : Keep h0 hq []) (S_cs : Sta Z h0 "java/lang/String" "COMPACT_STRINGS" "Z" (.int cs)) (S_f : Sta Z h0 "jdk/internal/util/Preconditions" "SIOOBE_FORMATTER" "Ljava/util/function/BiFunction;" fv) (tV_b2 : Arv Z hq b2 k2 .byte (6 : Int32) vs (.int 0)) (new_b2 : n0 ≤ b2) (sz_b2 : h0.size ≤ b2) (hcs : ¬ cs = (0 : Int32)) (hfv : fv.isRef = true) (hCH0 : CHv Z own_EL s.vm h0) (u_z0 : ¬ (127 : Int32) < z0) (u_z1 : ¬ (127 : Int32) < z1) (u_z2 : ¬ (127 : Int32) < z2) (u_z3 : ¬ (127 : Int32) < z3) (u_z4 : ¬ (127 : Int32) < z4) (u_z5 : ¬ (127 : Int32) < z5) (hng : (ng = (1 : Int32) ∧ own_AH pn z0 z1 z2 z3 z4 z5 = (-1 : Int64)) ∨ (ng = (0 : Int32) ∧ ((0 : Int32) < pn → ¬ z0 < (0 : Int32)) ∧ ((1 : Int32) < pn → ¬ z1 < (0 : Int32)) ∧ ((2 : Int32) < pn → ¬ z2 < (0 : Int32)) ∧ ((3 : Int32) < pn → ¬ z3 < (0 : Int32)) ∧ ((4 : Int32) < pn → ¬ z4 < (0 : Int32)) ∧ ((5 : Int32) < pn → ¬ z5 < (0 : Int32)))) (h0z : ¬ pn < (0 : Int32)) (hNz : ¬ (6 : Int32) < pn) (hn7 : pn = (0 : Int32) ∨ pn = (1 : Int32) ∨ pn = (2 : Int32) ∨ pn = (3 : Int32) ∨ pn = (4 : Int32) ∨ pn = (5 : Int32) ∨ pn = (6 : Int32)) (D_0 : (0 : Int32) < pn → ¬ (pf + (0 : Int32)) < (0 : Int32) ∧ (pf + (0 : Int32)) < (6 : Int32) ∧ List.getD vs ((pf + (0 : Int32))).toNatClampNeg (.int 0) = .int z0) (D_1 : (1 : Int32) < pn → ¬ (pf + (1 : Int32)) < (0 : Int32) ∧ (pf + (1 : Int32)) < (6 : Int32) ∧ List.getD vs ((pf + (1 : Int32))).toNatClampNeg (.int 0) = .int z1) (D_2 : (2 : Int32) < pn → ¬ (pf + (2 : Int32)) < (0 : Int32) ∧ (pf + (2 : Int32)) < (6 : Int32) ∧ List.getD vs ((pf + (2 : Int32))).toNatClampNeg (.int 0) = .int z2) (D_3 : (3 : Int32) < pn → ¬ (pf + (3 : Int32)) < (0 : Int32) ∧ (pf + (3 : Int32)) < (6 : Int32) ∧ List.getD vs ((pf + (3 : Int32))).toNatClampNeg (.int 0) = .int z3) (D_4 : (4 : Int32) < pn → ¬ (pf + (4 : Int32)) < (0 : Int32) ∧ (pf + (4 : Int32)) < (6 : Int32) ∧ List.getD vs ((pf + (4 : Int32))).toNatClampNeg (.int 0) = .int z4) (D_5 : (5 : Int32) < pn → ¬ (pf + (5 : Int32)) < (0 : Int32) ∧ (pf + (5 : Int32)) < (6 : Int32) ∧ List.getD vs ((pf + (5 : Int32))).toNatClampNeg (.int 0) = .int z5) (e_0 : pf < (pf + pn) ↔ (0 : Int32) < pn) (d_0 : (0 : Int32) < pn → ¬ pf < (0 : Int32) ∧ pf < (6 : Int32) ∧ List.getD vs (pf).toNatClampNeg (.int 0) = .int z0) (e_1 : (pf + (1 : Int32)) < (pf + pn) ↔ (1 : Int32) < pn) (d_1 : (1 : Int32) < pn → ¬ (pf + (1 : Int32)) < (0 : Int32) ∧ (pf + (1 : Int32)) < (6 : Int32) ∧ List.getD vs ((pf + (1 : Int32))).toNatClampNeg (.int 0) = .int z1) (e_2 : ((pf + (1 : Int32)) + (1 : Int32)) < (pf + pn) ↔ (2 : Int32) < pn) (d_2 : (2 : Int32) < pn → ¬ ((pf + (1 : Int32)) + (1 : Int32)) < (0 : Int32) ∧ ((pf + (1 : Int32)) + (1 : Int32)) < (6 : Int32) ∧ List.getD vs (((pf + (1 : Int32)) + (1 : Int32))).toNatClampNeg (.int 0) = .int z2) (e_3 : (((pf + (1 : Int32)) + (1 : Int32)) + (1 : Int32)) < (pf + pn) ↔ (3 : Int32) < pn) (d_3 : (3 : Int32) < pn → ¬ (((pf + (1 : Int32)) + (1 : Int32)) + (1 : Int32)) < (0 : Int32) ∧ (((pf + (1 : Int32)) + (1 : Int32)) + (1 : Int32)) < (6 : Int32) ∧ List.getD vs ((((pf + (1 : Int32)) + (1 : Int32)) + (1 : Int32))).toNatClampNeg (.int 0) = .int z3) (e_4 : ((((pf + (1 : Int32)) + (1 : Int32)) + (1 : Int32)) + (1 : Int32)) < (pf + pn) ↔ (4 : Int32) < pn) (d_4 : (4 : Int32) < pn → ¬ ((((pf + (1 : Int32)) + (1 : Int32)) + (1 : Int32)) + (1 : Int32)) < (0 : Int32) ∧ ((((pf + (1 : Int32)) + (1 : Int32)) + (1 : Int32)) + (1 : Int32)) < (6 : Int32) ∧ List.getD vs (((((pf + (1 : Int32)) + (1 : Int32)) + (1 : Int32)) + (1 : Int32))).toNatClampNeg (.int 0) = .int z4) (e_5 : (((((pf + (1 : Int32)) + (1 : Int32)) + (1 : Int32)) + (1 : Int32)) + (1 : Int32)) < (pf + pn) ↔ (5 : Int32) < pn) (d_5 : (5 : Int32) < pn → ¬ (((((pf + (1 : Int32)) + (1 : Int32)) + (1 : Int32)) + (1 : Int32)) + (1 : Int32)) < (0 : Int32) ∧ (((((pf + (1 : Int32)) + (1 : Int32)) + (1 : Int32)) + (1 : Int32)) + (1 : Int32)) < (6 : Int32) ∧ List.getD vs ((((((pf + (1 : Int32)) + (1 : Int32)) + (1 : Int32)) + (1 : Int32)) + (1 : Int32))).toNatClampNeg (.int 0) = .int z5) (e_6 : ¬ ((((((pf + (1 : Int32)) + (1 : Int32)) + (1 : Int32)) + (1 : Int32)) + (1 : Int32)) + (1 : Int32)) < (pf + pn)) :
    ∃ s₂ o, Steps p.tables e below (Tq.setTop (mkF m 193 #[iv p0, iv p1, iv p2, iv (if (p2 &&& (65536 : Int32)) = (0 : Int32) then (255 : Int32) else (127 : Int32)), rv b2, iv pf, iv pn, iv ng, .unset, .unset, .unset, .unset, .unset, .unset] [])) s₂ ∧ s₂.status = .running ∧ Ended s₂ below o ∧ ∃ v L, o = .returned v ∧ own_Q0 n0 v s₂.heap L ∧ ReturnedEndW s o s₂ L room_1.cells room_1.slots := by
  refine own_go (b := Tq.setTop (mkF m 195 #[iv p0, iv p1, iv p2, iv (if (p2 &&& (65536 : Int32)) = (0 : Int32) then (255 : Int32) else (127 : Int32)), rv b2, iv pf, iv pn, iv ng, .unset, .unset, .unset, .unset, .unset, .unset] [.int pn])) (fun t k => xiload Xq hx hby rfl at_193 rfl k) ?_
  refine own_cs Xq hx hZ hown hml eq0 (wd hw 6 rfl) (wd hw 7 rfl) (wd hw 4 rfl) (wd hw 8 rfl) (own_rmSz l Z a0 hw [] pn hq n0 (Nat.le_trans Z0 Kq.1) hn7) own_pd21 (hb hby at_195) 0 [] rfl ⟨rfl, rfl, rfl, rfl, rfl⟩ (by decide) ?_
  rintro T21 L21 v21 X21 hQ21
  obtain ⟨bz21, kz21, rfl, N21q, K21q, B21_0, B21_1⟩ := hQ21
  have V_b2_21 := tV_b2.keep K21q List.not_mem_nil
  have N21 := Fr.app Nq N21q
  have K21 := Kq.trans K21q (fun x hx => nomatch hx)
  have new_bz21 : n0 ≤ bz21 := Nat.le_trans (Nat.le_trans Z0 Kq.1) B21_1
  have sz_bz21 : h0.size ≤ bz21 := Nat.le_trans Kq.1 B21_1
  refine own_go (b := T21.setTop (mkF m 207 #[iv p0, iv p1, iv p2, iv (if (p2 &&& (65536 : Int32)) = (0 : Int32) then (255 : Int32) else (127 : Int32)), rv b2, iv pf, iv pn, iv ng, rv bz21, .unset, .unset, .unset, .unset, .unset] [.int 0, .int pf, .ref b2, .ref bz21])) (fun t k => xastore X21 hx hby rfl at_198 rfl rfl (l' := #[iv p0, iv p1, iv p2, iv (if (p2 &&& (65536 : Int32)) = (0 : Int32) then (255 : Int32) else (127 : Int32)), rv b2, iv pf, iv pn, iv ng, rv bz21, .unset, .unset, .unset, .unset, .unset]) rfl (xaload X21 hx hby rfl at_200 rfl rfl (xaload X21 hx hby rfl at_202 rfl rfl (xiload X21 hx hby rfl at_204 rfl (xiconst X21 hx hby rfl at_206 k))))) ?_
  clear N21q K21q
  refine own_cs X21 hx hZ hown hml rfl (wd hw 10 rfl) (wd hw 11 rfl) (wd hw 4 rfl) (wd hw 12 rfl) (own_rmP_0 l Z a0 hw [] bz21 b2 pf kz21 k2 pn vs z0 T21.heap n0 (Nat.le_trans Z0 K21.1) B21_0 V_b2_21 (nl tV_b2.lt B21_1) new_bz21 D_0) own_pd22 (hb hby at_207) 0 [] rfl ⟨rfl, rfl, rfl, rfl, rfl⟩ (by decide) ?_
  rintro T22 L22 v22 X22 hQ22
  obtain ⟨rfl, N22q, K22q, B22_0⟩ := hQ22
  have V_b2_22 := V_b2_21.keep K22q (fun q => (nl tV_b2.lt B21_1) (List.mem_singleton.mp q))
  have N22 := Fr.app N21 N22q
  have K22 := K21.trans K22q (fun x hx => by cases List.mem_singleton.mp hx; exact Or.inr sz_bz21)
  refine own_go (b := T22.setTop (mkF m 217 #[iv p0, iv p1, iv p2, iv (if (p2 &&& (65536 : Int32)) = (0 : Int32) then (255 : Int32) else (127 : Int32)), rv b2, iv pf, iv pn, iv ng, rv bz21, .unset, .unset, .unset, .unset, .unset] [.int 1, .int pf, .ref b2, .ref bz21])) (fun t k => xaload X22 hx hby rfl at_210 rfl rfl (xaload X22 hx hby rfl at_212 rfl rfl (xiload X22 hx hby rfl at_214 rfl (xiconst X22 hx hby rfl at_216 k)))) ?_
  clear X21 B21_0 V_b2_21 N21 K21 N22q K22q
  refine own_cs X22 hx hZ hown hml rfl (wd hw 10 rfl) (wd hw 11 rfl) (wd hw 4 rfl) (wd hw 12 rfl) (own_rmP_1 l Z a0 hw [] bz21 b2 pf kz21 k2 pn vs z1 (own_c z0) T22.heap n0 (Nat.le_trans Z0 K22.1) B22_0 V_b2_22 (nl tV_b2.lt B21_1) new_bz21 D_1) own_pd22 (hb hby at_217) 0 [] rfl ⟨rfl, rfl, rfl, rfl, rfl⟩ (by decide) ?_
  rintro T23 L23 v23 X23 hQ23
  obtain ⟨rfl, N23q, K23q, B23_0⟩ := hQ23
  have V_b2_23 := V_b2_22.keep K23q (fun q => (nl tV_b2.lt B21_1) (List.mem_singleton.mp q))
  have N23 := Fr.app N22 N23q
  have K23 := K22.trans K23q (fun x hx => by cases List.mem_singleton.mp hx; exact Or.inr sz_bz21)
  refine own_go (b := T23.setTop (mkF m 227 #[iv p0, iv p1, iv p2, iv (if (p2 &&& (65536 : Int32)) = (0 : Int32) then (255 : Int32) else (127 : Int32)), rv b2, iv pf, iv pn, iv ng, rv bz21, .unset, .unset, .unset, .unset, .unset] [.int 2, .int pf, .ref b2, .ref bz21])) (fun t k => xaload X23 hx hby rfl at_220 rfl rfl (xaload X23 hx hby rfl at_222 rfl rfl (xiload X23 hx hby rfl at_224 rfl (xiconst X23 hx hby rfl at_226 k)))) ?_
  clear X22 B22_0 V_b2_22 N22 K22 N23q K23q
  refine own_cs X23 hx hZ hown hml rfl (wd hw 10 rfl) (wd hw 11 rfl) (wd hw 4 rfl) (wd hw 12 rfl) (own_rmP_2 l Z a0 hw [] bz21 b2 pf kz21 k2 pn vs z2 (own_c z0) (own_c z1) T23.heap n0 (Nat.le_trans Z0 K23.1) B23_0 V_b2_23 (nl tV_b2.lt B21_1) new_bz21 D_2) own_pd22 (hb hby at_227) 0 [] rfl ⟨rfl, rfl, rfl, rfl, rfl⟩ (by decide) ?_
  rintro T24 L24 v24 X24 hQ24
  obtain ⟨rfl, N24q, K24q, B24_0⟩ := hQ24
  have V_b2_24 := V_b2_23.keep K24q (fun q => (nl tV_b2.lt B21_1) (List.mem_singleton.mp q))
  have N24 := Fr.app N23 N24q
  have K24 := K23.trans K24q (fun x hx => by cases List.mem_singleton.mp hx; exact Or.inr sz_bz21)
  refine own_go (b := T24.setTop (mkF m 237 #[iv p0, iv p1, iv p2, iv (if (p2 &&& (65536 : Int32)) = (0 : Int32) then (255 : Int32) else (127 : Int32)), rv b2, iv pf, iv pn, iv ng, rv bz21, .unset, .unset, .unset, .unset, .unset] [.int 3, .int pf, .ref b2, .ref bz21])) (fun t k => xaload X24 hx hby rfl at_230 rfl rfl (xaload X24 hx hby rfl at_232 rfl rfl (xiload X24 hx hby rfl at_234 rfl (xiconst X24 hx hby rfl at_236 k)))) ?_
  clear X23 B23_0 V_b2_23 N23 K23 N24q K24q
  refine own_cs X24 hx hZ hown hml rfl (wd hw 10 rfl) (wd hw 11 rfl) (wd hw 4 rfl) (wd hw 12 rfl) (own_rmP_3 l Z a0 hw [] bz21 b2 pf kz21 k2 pn vs z3 (own_c z0) (own_c z1) (own_c z2) T24.heap n0 (Nat.le_trans Z0 K24.1) B24_0 V_b2_24 (nl tV_b2.lt B21_1) new_bz21 D_3) own_pd22 (hb hby at_237) 0 [] rfl ⟨rfl, rfl, rfl, rfl, rfl⟩ (by decide) ?_
  rintro T25 L25 v25 X25 hQ25
  obtain ⟨rfl, N25q, K25q, B25_0⟩ := hQ25
  have V_b2_25 := V_b2_24.keep K25q (fun q => (nl tV_b2.lt B21_1) (List.mem_singleton.mp q))
  have N25 := Fr.app N24 N25q
  have K25 := K24.trans K25q (fun x hx => by cases List.mem_singleton.mp hx; exact Or.inr sz_bz21)
  refine own_go (b := T25.setTop (mkF m 247 #[iv p0, iv p1, iv p2, iv (if (p2 &&& (65536 : Int32)) = (0 : Int32) then (255 : Int32) else (127 : Int32)), rv b2, iv pf, iv pn, iv ng, rv bz21, .unset, .unset, .unset, .unset, .unset] [.int 4, .int pf, .ref b2, .ref bz21])) (fun t k => xaload X25 hx hby rfl at_240 rfl rfl (xaload X25 hx hby rfl at_242 rfl rfl (xiload X25 hx hby rfl at_244 rfl (xiconst X25 hx hby rfl at_246 k)))) ?_
  clear X24 B24_0 V_b2_24 N24 K24 N25q K25q
  refine own_cs X25 hx hZ hown hml rfl (wd hw 10 rfl) (wd hw 11 rfl) (wd hw 4 rfl) (wd hw 12 rfl) (own_rmP_4 l Z a0 hw [] bz21 b2 pf kz21 k2 pn vs z4 (own_c z0) (own_c z1) (own_c z2) (own_c z3) T25.heap n0 (Nat.le_trans Z0 K25.1) B25_0 V_b2_25 (nl tV_b2.lt B21_1) new_bz21 D_4) own_pd22 (hb hby at_247) 0 [] rfl ⟨rfl, rfl, rfl, rfl, rfl⟩ (by decide) ?_
  rintro T26 L26 v26 X26 hQ26
  obtain ⟨rfl, N26q, K26q, B26_0⟩ := hQ26
  have V_b2_26 := V_b2_25.keep K26q (fun q => (nl tV_b2.lt B21_1) (List.mem_singleton.mp q))
  have N26 := Fr.app N25 N26q
  have K26 := K25.trans K26q (fun x hx => by cases List.mem_singleton.mp hx; exact Or.inr sz_bz21)
  refine own_go (b := T26.setTop (mkF m 257 #[iv p0, iv p1, iv p2, iv (if (p2 &&& (65536 : Int32)) = (0 : Int32) then (255 : Int32) else (127 : Int32)), rv b2, iv pf, iv pn, iv ng, rv bz21, .unset, .unset, .unset, .unset, .unset] [.int 5, .int pf, .ref b2, .ref bz21])) (fun t k => xaload X26 hx hby rfl at_250 rfl rfl (xaload X26 hx hby rfl at_252 rfl rfl (xiload X26 hx hby rfl at_254 rfl (xiconst X26 hx hby rfl at_256 k)))) ?_
  clear X25 B25_0 V_b2_25 N25 K25 N26q K26q
  refine own_cs X26 hx hZ hown hml rfl (wd hw 10 rfl) (wd hw 11 rfl) (wd hw 4 rfl) (wd hw 12 rfl) (own_rmP_5 l Z a0 hw [] bz21 b2 pf kz21 k2 pn vs z5 (own_c z0) (own_c z1) (own_c z2) (own_c z3) (own_c z4) T26.heap n0 (Nat.le_trans Z0 K26.1) B26_0 V_b2_26 (nl tV_b2.lt B21_1) new_bz21 D_5) own_pd22 (hb hby at_257) 0 [] rfl ⟨rfl, rfl, rfl, rfl, rfl⟩ (by decide) ?_
  rintro T27 L27 v27 X27 hQ27
  obtain ⟨rfl, N27q, K27q, B27_0⟩ := hQ27
  have V_b2_27 := V_b2_26.keep K27q (fun q => (nl tV_b2.lt B21_1) (List.mem_singleton.mp q))
  have N27 := Fr.app N26 N27q
  have K27 := K26.trans K27q (fun x hx => by cases List.mem_singleton.mp hx; exact Or.inr sz_bz21)
  refine own_go (b := T27.setTop (mkF m 260 #[iv p0, iv p1, iv p2, iv (if (p2 &&& (65536 : Int32)) = (0 : Int32) then (255 : Int32) else (127 : Int32)), rv b2, iv pf, iv pn, iv ng, rv bz21, .unset, .unset, .unset, .unset, .unset] [])) (fun t k => ?_) ?_
  · exact k
  clear X26 B26_0 V_b2_26 N26 K26 N27q K27q
  by_cases hp0 : pn = (0 : Int32)
  · subst hp0
    obtain ⟨T28, h28, X28, e28, E28, A28, D28, -, st28⟩ := newO X27 hx hZ hown (wd hw 13 rfl) (wd hw 14 rfl) (wd hw 15 rfl) rfl (g := (mkF m 260 #[iv p0, iv p1, iv p2, iv (if (p2 &&& (65536 : Int32)) = (0 : Int32) then (255 : Int32) else (127 : Int32)), rv b2, iv pf, iv 0, iv ng, rv bz21, .unset, .unset, .unset, .unset, .unset] [])) rfl (hb hby at_260) (by decide) (by decide)
    obtain ⟨b28, g28⟩ : ∃ z, z = T27.heap.size := ⟨_, rfl⟩
    rw [← g28] at A28 D28 st28
    have new_b28 : n0 ≤ b28 := Nat.le_trans (Nat.le_trans Z0 K27.1) (Nat.le_of_eq g28.symm)
    have sz_b28 : h0.size ≤ b28 := Nat.le_trans K27.1 (Nat.le_of_eq g28.symm)
    have V_b2_28 := V_b2_27.ext E28
    have V_bz21_28 := B27_0.ext E28
    have K28 := K27.ext E28
    have F_b28_value_28 : Fld Z h28 b28 "java/lang/String" "value" "[B" .null := D28 (Or.inr (wd hw 27 rfl)) (ty := (.array .byte)) (by decide)
    have F_b28_coder_28 : Fld Z h28 b28 "java/lang/String" "coder" "B" (.int 0) := D28 (Or.inr (wd hw 28 rfl)) (ty := .byte) (by decide)
    have F_b28_hash_28 : Fld Z h28 b28 "java/lang/String" "hash" "I" (.int 0) := D28 (Or.inl (wd hw 69 rfl)) (ty := .int) (by decide)
    have F_b28_hashIsZero_28 : Fld Z h28 b28 "java/lang/String" "hashIsZero" "Z" (.int 0) := D28 (Or.inl (wd hw 71 rfl)) (ty := .boolean) (by decide)
    refine own_go (b := T28.setTop (mkF m 266 #[iv p0, iv p1, iv p2, iv (if (p2 &&& (65536 : Int32)) = (0 : Int32) then (255 : Int32) else (127 : Int32)), rv b2, iv pf, iv 0, iv ng, rv bz21, .unset, .unset, .unset, .unset, .unset] [.ref bz21, .ref b28, .ref b28])) (fun t k => st28 _ (xdup X28 hx hby rfl at_263 rfl rfl (xaload X28 hx hby rfl at_264 rfl rfl k))) ?_
    clear X27 K27 E28 D28 st28
    obtain ⟨_, _, ⟨T29, L29, k29, n29⟩, -, X29, hS29x, hk29x, ⟨Lc29, hQ29, l29, y29, z29, CRq29⟩, st29⟩ := Jvm.Stand.specialBackS (show Stand p l e _ (s.setVm s.vm) m _ below meth c _ _ _ _ from X28) hx (y := y8N) rfl hown (mvT hZ (wd hw 16 rfl)) (mvT hZ (wd hw 17 rfl)) (mvT hZ (wd hw 18 rfl)) (by decide) (backOfSH (W := 1) (own_rmI1_0 l Z a0 hw [] b28 bz21 kz21 [(.int (own_c z0)), (.int (own_c z1)), (.int (own_c z2)), (.int (own_c z3)), (.int (own_c z4)), (.int (own_c z5))] h28 n0 (Nat.le_trans Z0 K28.1) A28 F_b28_value_28 F_b28_coder_28 F_b28_hash_28 F_b28_hashIsZero_28 new_b28 V_bz21_28) hZ (wd hw 18 rfl) (wd hw 15 rfl) (by decide) (by decide) (own_EW hw) (CHr.keep K28 (fun x hx => nomatch hx) hCH0).1) (g := (mkF m 266 #[iv p0, iv p1, iv p2, iv (if (p2 &&& (65536 : Int32)) = (0 : Int32) then (255 : Int32) else (127 : Int32)), rv b2, iv pf, iv 0, iv ng, rv bz21, .unset, .unset, .unset, .unset, .unset] [.ref bz21, .ref b28, .ref b28])) rfl (by rw [hml]; rfl) (Steps.refl _) (a := b28) (argsL := [.ref bz21]) (rest := [.ref b28]) (lenOf own_pd14 rfl) rfl (by show 2 * 0 + _ ≤ _; exact Nat.le_of_eq rfl) (hb hby at_266) (fun _ _ => ⟨rfl, e28, (by decide : 3 + 2 ≤ _), (by decide : 16 + 4 ≤ _)⟩)
    dsimp only [Pt.U, Pt.locs, Pt.cells, Pt.slots] at X29 l29 y29 z29 st29 hQ29 hS29x hk29x CRq29
    subst l29 y29 z29
    have hS29 : s.Since T29.vm T29.heap.size := ((State.WarmedH.refl s).since 0).trans hS29x (Nat.le_trans (Nat.zero_le _) hk29x)
    have X29 : Stand p l e room_1 (s.setVm T29.vm) m _ below meth c T29 _ _ _ := X29
    have hZ : Z.Warmed39 (s.setVm T29.vm).vm := State.Warmed39.trans (t := s.setVm s.vm) hZ hS29x.1
    have hown : (s.setVm T29.vm).vm.findClass "com/example/rollcall/rollcall/users/CaselessIndexAsciiHashPinLaw" = some m.cls := by show T29.vm.findClass _ = _; rw [hS29x.1.alike.findClass]; exact hown
    have CR29 := (CHr.keep K28 (fun x hx => nomatch hx) hCH0).trans CRq29
    obtain ⟨bq29, kq29, rfl, N29q, K29q, B29_0, B29_1, B29_2, B29_3, B29_4⟩ := hQ29
    have V_b2_29 := V_b2_28.keep K29q (fun q => (nl V_b2_27.lt (Nat.le_of_eq g28.symm)) (List.mem_singleton.mp q))
    have V_bz21_29 := V_bz21_28.keep K29q (fun q => (nl B27_0.lt (Nat.le_of_eq g28.symm)) (List.mem_singleton.mp q))
    have E_b28_29 := A28.keep K29q
    have N29 := Fr.app N27 N29q
    have K29 := K28.trans K29q (fun x hx => by cases List.mem_singleton.mp hx; exact Or.inr sz_b28)
    have hk29w : T29.heap.size ≤ T29.heap.size := Nat.le_refl _
    refine own_go (b := T29.setTop (mkF m 277 #[iv p0, iv p1, iv p2, iv (if (p2 &&& (65536 : Int32)) = (0 : Int32) then (255 : Int32) else (127 : Int32)), rv b2, iv pf, iv 0, iv ng, rv bz21, rv b28, .unset, .unset, .unset, .unset] [.int 0, .int pf, .ref b2])) (fun t k => st29.trans (xastore X29 hx hby rfl at_269 rfl rfl (l' := #[iv p0, iv p1, iv p2, iv (if (p2 &&& (65536 : Int32)) = (0 : Int32) then (255 : Int32) else (127 : Int32)), rv b2, iv pf, iv 0, iv ng, rv bz21, rv b28, .unset, .unset, .unset, .unset]) rfl (xaload X29 hx hby rfl at_271 rfl rfl (xiload X29 hx hby rfl at_273 rfl (xiload X29 hx hby rfl at_275 rfl k))))) ?_
    clear N27 X28 e28 A28 V_b2_28 V_bz21_28 K28 F_b28_value_28 F_b28_coder_28 F_b28_hash_28 F_b28_hashIsZero_28 hS29x hk29x CRq29 st29 N29q K29q
    refine own_cs X29 hx hZ hown hml rfl (wd hw 33 rfl) (wd hw 34 rfl) (wd hw 35 rfl) (wd hw 36 rfl) (own_rmAh l Z a0 hw [] b2 pf (0 : Int32) k2 vs z0 z1 z2 z3 z4 z5 T29.heap n0 (Nat.le_trans Z0 K29.1) V_b2_29 e_0 d_0 e_1 d_1 e_2 d_2 e_3 d_3 e_4 d_4 e_5 d_5 e_6) own_pd23 (hb hby at_277) 0 [] rfl ⟨rfl, rfl, rfl, rfl, rfl⟩ (by decide) ?_
    rintro T30 L30 v30 X30 hQ30
    obtain ⟨rfl, N30q, e30⟩ := hQ30
    have N30 := Fr.app N29 N30q
    refine own_go (b := T30.setTop (mkF m 282 #[iv p0, iv p1, iv p2, iv (if (p2 &&& (65536 : Int32)) = (0 : Int32) then (255 : Int32) else (127 : Int32)), rv b2, iv pf, iv 0, iv ng, rv bz21, rv b28, .val (.long (own_AH (0 : Int32) z0 z1 z2 z3 z4 z5)), .second, .unset, .unset] [])) (fun t k => XS.lstore X30.here hx rfl (hb hby at_280) rfl (l' := #[iv p0, iv p1, iv p2, iv (if (p2 &&& (65536 : Int32)) = (0 : Int32) then (255 : Int32) else (127 : Int32)), rv b2, iv pf, iv 0, iv ng, rv bz21, rv b28, .val (.long (own_AH (0 : Int32) z0 z1 z2 z3 z4 z5)), .second, .unset, .unset]) rfl k) ?_
    clear X29 N29 N30q
    rcases hng with ⟨rfl, hA⟩ | ⟨rfl, hBz0, hBz1, hBz2, hBz3, hBz4, hBz5⟩
    · obtain ⟨fs, hr, hrun, hended, hRE⟩ := Jvm.Stand.leaveW (s := s) X30 hS29 (by show _ ≤ T30.heap.size; rw [e30]; exact hk29w) (v := some (.int 1)) (fun h => by rw [Bd.returns] at h; cases h)
      refine ⟨_, _, ?_, hrun, hended, _, _, rfl, ?_, hRE.1, hRE.2.1, hRE.2.2.1, hRE.2.2.2.mono (by decide) (by decide)⟩
      · refine xiload X30 hx hby rfl at_282 rfl (xifNo X30 hx hby rfl at_284 rfl ((if0 _ _).trans (feq ((by decide) : ¬ ((1 : Int32) = (0 : Int32)))).1) (XS.lload X30.here hx rfl (hb hby at_287) rfl (X30.ldc2Long hx hown (mvT hZ (wd hw 131 rfl)) (g := (mkF m 289 #[iv p0, iv p1, iv p2, iv (if (p2 &&& (65536 : Int32)) = (0 : Int32) then (255 : Int32) else (127 : Int32)), rv b2, iv pf, iv 0, iv 1, rv bz21, rv b28, .val (.long (own_AH (0 : Int32) z0 z1 z2 z3 z4 z5)), .second, .unset, .unset] [(.long (own_AH (0 : Int32) z0 z1 z2 z3 z4 z5))])) rfl (hb hby at_289) _ (XS.lcmp X30.here hx rfl (hb hby at_292) rfl (xifNo X30 hx hby rfl at_293 rfl ((if0 _ _).trans (teq ((lw_eq _ _).mpr (hA : (own_AH (0 : Int32) z0 z1 z2 z3 z4 z5) = (-1 : Int64)))).2) (show Steps p.tables e below (T30.setTop (mkF m 296 #[iv p0, iv p1, iv p2, iv (if (p2 &&& (65536 : Int32)) = (0 : Int32) then (255 : Int32) else (127 : Int32)), rv b2, iv pf, iv 0, iv 1, rv bz21, rv b28, .val (.long (own_AH (0 : Int32) z0 z1 z2 z3 z4 z5)), .second, .unset, .unset] [])) _ from xiconst X30 hx hby rfl at_296 (xgoto X30 hx hby rfl 297 301 rfl at_297 (by decide) (by decide) (retN X30 hx (t := .boolean) Bd.returns (by simp) (hb hby at_301) hr))))))))
      · show own_Q0 n0 _ T30.heap _
        rw [e30]
        exact ⟨rfl, N30⟩
    · refine own_go (b := T30.setTop (mkF m 304 #[iv p0, iv p1, iv p2, iv (if (p2 &&& (65536 : Int32)) = (0 : Int32) then (255 : Int32) else (127 : Int32)), rv b2, iv pf, iv 0, iv 0, rv bz21, rv b28, .val (.long (own_AH (0 : Int32) z0 z1 z2 z3 z4 z5)), .second, .unset, .unset] [.ref b28])) (fun t k => xiload X30 hx hby rfl at_282 rfl (xifYes X30 hx hby rfl 284 302 rfl at_284 rfl ((if0 _ _).trans (teq ((by decide) : (0 : Int32) = (0 : Int32))).1) (by decide) (by decide) (xaload X30 hx hby rfl at_302 rfl rfl k))) ?_
      refine own_cs X30 hx hZ hown hml e30 (wd hw 43 rfl) (wd hw 44 rfl) (wd hw 35 rfl) (wd hw 45 rfl) (own_rmCl0 l Z a0 hw [] b28 bq29 kq29 cs fv T29.heap n0 (Nat.le_trans Z0 K29.1) E_b28_29 B29_1 B29_0 B29_4 B29_2 B29_3 (own_staKeep0 S_cs K29) hcs (own_staKeep0 S_f K29) hfv new_b28 ) own_pd15 (hb hby at_304) 0 [] rfl ⟨rfl, rfl, rfl, rfl, rfl⟩ (by decide) ?_
      rintro T31 L31 v31 X31 hQ31
      obtain ⟨bs31, br31, kr31, rfl, N31q, K31q, B31_0, B31_1, B31_2, B31_3, B31_4, B31_5, B31_6⟩ := hQ31
      have V_b2_31 := V_b2_29.keep K31q List.not_mem_nil
      have V_bz21_31 := V_bz21_29.keep K31q List.not_mem_nil
      have E_b28_31 := E_b28_29.keep K31q
      have F_b28_value_31 := B29_0.keep K31q List.not_mem_nil
      have F_b28_coder_31 := B29_1.keep K31q List.not_mem_nil
      have F_b28_hash_31 := B29_2.keep K31q List.not_mem_nil
      have F_b28_hashIsZero_31 := B29_3.keep K31q List.not_mem_nil
      have V_bq29_31 := B29_4.keep K31q List.not_mem_nil
      have N31 := Fr.app N30 N31q
      have hk31 := Nat.le_trans hk29w K31q.1
      have K31 := K29.trans K31q (fun x hx => nomatch hx)
      refine own_go (b := T31.setTop (mkF m 307 #[iv p0, iv p1, iv p2, iv (if (p2 &&& (65536 : Int32)) = (0 : Int32) then (255 : Int32) else (127 : Int32)), rv b2, iv pf, iv 0, iv 0, rv bz21, rv b28, .val (.long (own_AH (0 : Int32) z0 z1 z2 z3 z4 z5)), .second, .unset, .unset] [.ref bs31])) (fun t k => ?_) ?_
      · exact k
      clear B29_0 B29_1 B29_2 B29_3 B29_4 V_b2_29 V_bz21_29 E_b28_29 K29 hk29w X30 e30 N30 N31q K31q
      refine own_cs X31 hx hZ hown hml rfl (wd hw 60 rfl) (wd hw 61 rfl) (wd hw 35 rfl) (wd hw 62 rfl) (own_rmHs0 l Z a0 hw [] bs31 br31 kr31 cs T31.heap n0 (Nat.le_trans Z0 K31.1) B31_0 B31_1 B31_2 B31_5 B31_3 B31_4 (own_staKeep0 S_cs K31) hcs B31_6 ) own_pd24 (hb hby at_307) 0 [] rfl ⟨rfl, rfl, rfl, rfl, rfl⟩ (by decide) ?_
      rintro T32 L32 v32 X32 hQ32
      obtain ⟨rfl, N32q, hz32⟩ := hQ32
      have N32 := Fr.app N31 N32q
      have hk32 := Nat.le_trans hk31 hz32
      obtain ⟨fs, hr, hrun, hended, hRE⟩ := Jvm.Stand.leaveW (s := s) X32 hS29 (by show _ ≤ T32.heap.size; exact hk32) (v := some (.int 1)) (fun h => by rw [Bd.returns] at h; cases h)
      refine ⟨_, _, ?_, hrun, hended, _, _, rfl, ?_, hRE.1, hRE.2.1, hRE.2.2.1, hRE.2.2.2.mono (by decide) (by decide)⟩
      · refine XS.i2l X32.here hx rfl (hb hby at_310) rfl (X32.ldc2Long hx hown (mvT hZ (wd hw 81 rfl)) (g := (mkF m 311 #[iv p0, iv p1, iv p2, iv (if (p2 &&& (65536 : Int32)) = (0 : Int32) then (255 : Int32) else (127 : Int32)), rv b2, iv pf, iv 0, iv 0, rv bz21, rv b28, .val (.long (own_AH (0 : Int32) z0 z1 z2 z3 z4 z5)), .second, .unset, .unset] [(.long ((own_sp (0 : Int32)).toInt64))])) rfl (hb hby at_311) _ (XS.land X32.here hx rfl (hb hby at_314) rfl (XS.lstore X32.here hx rfl (hb hby at_315) rfl (l' := #[iv p0, iv p1, iv p2, iv (if (p2 &&& (65536 : Int32)) = (0 : Int32) then (255 : Int32) else (127 : Int32)), rv b2, iv pf, iv 0, iv 0, rv bz21, rv b28, .val (.long (own_AH (0 : Int32) z0 z1 z2 z3 z4 z5)), .second, .val (.long (((own_sp (0 : Int32)).toInt64) &&& (4294967295 : Int64))), .second]) rfl (XS.lload X32.here hx rfl (hb hby at_317) rfl (XS.lload X32.here hx rfl (hb hby at_319) rfl (show Steps p.tables e below (T32.setTop (mkF m 321 #[iv p0, iv p1, iv p2, iv (if (p2 &&& (65536 : Int32)) = (0 : Int32) then (255 : Int32) else (127 : Int32)), rv b2, iv pf, iv 0, iv 0, rv bz21, rv b28, .val (.long (own_AH (0 : Int32) z0 z1 z2 z3 z4 z5)), .second, .val (.long (((own_sp (0 : Int32)).toInt64) &&& (4294967295 : Int64))), .second] [(.long (((own_sp (0 : Int32)).toInt64) &&& (4294967295 : Int64))), (.long (own_AH (0 : Int32) z0 z1 z2 z3 z4 z5))])) _ from XS.lcmp X32.here hx rfl (hb hby at_321) rfl (xifNo X32 hx hby rfl at_322 rfl ((if0 _ _).trans (teq ((lw_eq _ _).mpr (own_AHp (by decide) hBz0 u_z0 hBz1 u_z1 hBz2 u_z2 hBz3 u_z3 hBz4 u_z4 hBz5 u_z5 : (own_AH (0 : Int32) z0 z1 z2 z3 z4 z5) = (((own_sp (0 : Int32)).toInt64) &&& (4294967295 : Int64))))).2) (xiconst X32 hx hby rfl at_325 (xgoto X32 hx hby rfl 326 330 rfl at_326 (by decide) (by decide) (retN X32 hx (t := .boolean) Bd.returns (by simp) (hb hby at_330) hr))))))))))
      · show own_Q0 n0 _ T32.heap _
        exact ⟨rfl, N32⟩
  · obtain ⟨T33, h33, X33, e33, E33, A33, D33, -, st33⟩ := newO X27 hx hZ hown (wd hw 13 rfl) (wd hw 14 rfl) (wd hw 15 rfl) rfl (g := (mkF m 260 #[iv p0, iv p1, iv p2, iv (if (p2 &&& (65536 : Int32)) = (0 : Int32) then (255 : Int32) else (127 : Int32)), rv b2, iv pf, iv pn, iv ng, rv bz21, .unset, .unset, .unset, .unset, .unset] [])) rfl (hb hby at_260) (by decide) (by decide)
    obtain ⟨b33, g33⟩ : ∃ z, z = T27.heap.size := ⟨_, rfl⟩
    rw [← g33] at A33 D33 st33
    have new_b33 : n0 ≤ b33 := Nat.le_trans (Nat.le_trans Z0 K27.1) (Nat.le_of_eq g33.symm)
    have sz_b33 : h0.size ≤ b33 := Nat.le_trans K27.1 (Nat.le_of_eq g33.symm)
    have V_b2_33 := V_b2_27.ext E33
    have V_bz21_33 := B27_0.ext E33
    have K33 := K27.ext E33
    have F_b33_value_33 : Fld Z h33 b33 "java/lang/String" "value" "[B" .null := D33 (Or.inr (wd hw 27 rfl)) (ty := (.array .byte)) (by decide)
    have F_b33_coder_33 : Fld Z h33 b33 "java/lang/String" "coder" "B" (.int 0) := D33 (Or.inr (wd hw 28 rfl)) (ty := .byte) (by decide)
    have F_b33_hash_33 : Fld Z h33 b33 "java/lang/String" "hash" "I" (.int 0) := D33 (Or.inl (wd hw 69 rfl)) (ty := .int) (by decide)
    have F_b33_hashIsZero_33 : Fld Z h33 b33 "java/lang/String" "hashIsZero" "Z" (.int 0) := D33 (Or.inl (wd hw 71 rfl)) (ty := .boolean) (by decide)
    refine own_go (b := T33.setTop (mkF m 266 #[iv p0, iv p1, iv p2, iv (if (p2 &&& (65536 : Int32)) = (0 : Int32) then (255 : Int32) else (127 : Int32)), rv b2, iv pf, iv pn, iv ng, rv bz21, .unset, .unset, .unset, .unset, .unset] [.ref bz21, .ref b33, .ref b33])) (fun t k => st33 _ (xdup X33 hx hby rfl at_263 rfl rfl (xaload X33 hx hby rfl at_264 rfl rfl k))) ?_
    clear X27 K27 E33 D33 st33
    refine own_ci X33 hx hZ hown hml e33 (wd hw 16 rfl) (wd hw 17 rfl) (wd hw 15 rfl) (wd hw 18 rfl) (own_rmI1 l Z a0 hw [] b33 bz21 kz21 pn cs (own_c z0) (own_c z1) (own_c z2) (own_c z3) (own_c z4) (own_c z5) h33 n0 (Nat.le_trans Z0 K33.1) A33 F_b33_value_33 F_b33_coder_33 F_b33_hash_33 F_b33_hashIsZero_33 new_b33 V_bz21_33 (own_staKeep0 S_cs K33) hcs h0z hNz (own_cr u_z0).1 (own_u255 (own_cr u_z0).2) (own_cr u_z1).1 (own_u255 (own_cr u_z1).2) (own_cr u_z2).1 (own_u255 (own_cr u_z2).2) (own_cr u_z3).1 (own_u255 (own_cr u_z3).2) (own_cr u_z4).1 (own_u255 (own_cr u_z4).2) (own_cr u_z5).1 (own_u255 (own_cr u_z5).2) (nl B27_0.lt (Nat.le_of_eq g33.symm)) hp0) own_pd14 (hb hby at_266) 1 [.ref b33] rfl rfl ⟨rfl, rfl, rfl, rfl, rfl⟩ (by decide) rfl ?_
    rintro T34 L34 v34 X34 hQ34
    obtain ⟨bq34, kq34, rfl, N34q, K34q, B34_0, B34_1, B34_2, B34_3, B34_4, B34_5⟩ := hQ34
    have V_b2_34 := V_b2_33.keep K34q (fun q => (nl V_b2_27.lt (Nat.le_of_eq g33.symm)) (List.mem_singleton.mp q))
    have V_bz21_34 := V_bz21_33.keep K34q (fun q => (nl B27_0.lt (Nat.le_of_eq g33.symm)) (List.mem_singleton.mp q))
    have E_b33_34 := A33.keep K34q
    have N34 := Fr.app N27 N34q
    have K34 := K33.trans K34q (fun x hx => by cases List.mem_singleton.mp hx; exact Or.inr sz_b33)
    refine own_go (b := T34.setTop (mkF m 277 #[iv p0, iv p1, iv p2, iv (if (p2 &&& (65536 : Int32)) = (0 : Int32) then (255 : Int32) else (127 : Int32)), rv b2, iv pf, iv pn, iv ng, rv bz21, rv b33, .unset, .unset, .unset, .unset] [.int pn, .int pf, .ref b2])) (fun t k => xastore X34 hx hby rfl at_269 rfl rfl (l' := #[iv p0, iv p1, iv p2, iv (if (p2 &&& (65536 : Int32)) = (0 : Int32) then (255 : Int32) else (127 : Int32)), rv b2, iv pf, iv pn, iv ng, rv bz21, rv b33, .unset, .unset, .unset, .unset]) rfl (xaload X34 hx hby rfl at_271 rfl rfl (xiload X34 hx hby rfl at_273 rfl (xiload X34 hx hby rfl at_275 rfl k)))) ?_
    clear N27 X33 e33 A33 V_b2_33 V_bz21_33 K33 F_b33_value_33 F_b33_coder_33 F_b33_hash_33 F_b33_hashIsZero_33 N34q K34q
    refine own_cs X34 hx hZ hown hml rfl (wd hw 33 rfl) (wd hw 34 rfl) (wd hw 35 rfl) (wd hw 36 rfl) (own_rmAh l Z a0 hw [] b2 pf pn k2 vs z0 z1 z2 z3 z4 z5 T34.heap n0 (Nat.le_trans Z0 K34.1) V_b2_34 e_0 d_0 e_1 d_1 e_2 d_2 e_3 d_3 e_4 d_4 e_5 d_5 e_6) own_pd23 (hb hby at_277) 0 [] rfl ⟨rfl, rfl, rfl, rfl, rfl⟩ (by decide) ?_
    rintro T35 L35 v35 X35 hQ35
    obtain ⟨rfl, N35q, e35⟩ := hQ35
    have N35 := Fr.app N34 N35q
    refine own_go (b := T35.setTop (mkF m 282 #[iv p0, iv p1, iv p2, iv (if (p2 &&& (65536 : Int32)) = (0 : Int32) then (255 : Int32) else (127 : Int32)), rv b2, iv pf, iv pn, iv ng, rv bz21, rv b33, .val (.long (own_AH pn z0 z1 z2 z3 z4 z5)), .second, .unset, .unset] [])) (fun t k => XS.lstore X35.here hx rfl (hb hby at_280) rfl (l' := #[iv p0, iv p1, iv p2, iv (if (p2 &&& (65536 : Int32)) = (0 : Int32) then (255 : Int32) else (127 : Int32)), rv b2, iv pf, iv pn, iv ng, rv bz21, rv b33, .val (.long (own_AH pn z0 z1 z2 z3 z4 z5)), .second, .unset, .unset]) rfl k) ?_
    clear X34 N34 N35q
    rcases hng with ⟨rfl, hA⟩ | ⟨rfl, hBz0, hBz1, hBz2, hBz3, hBz4, hBz5⟩
    · obtain ⟨fs, hr, hrun, hended, hW, hsame⟩ := X35.leave (v := some (.int 1)) (fun h => by rw [Bd.returns] at h; cases h)
      refine ⟨_, _, ?_, hrun, hended, _, _, rfl, ?_, ReturnedEndW.of_narrow ⟨_, rfl⟩ hW (hsame.mono (by decide) (by decide))⟩
      · refine xiload X35 hx hby rfl at_282 rfl (xifNo X35 hx hby rfl at_284 rfl ((if0 _ _).trans (feq ((by decide) : ¬ ((1 : Int32) = (0 : Int32)))).1) (XS.lload X35.here hx rfl (hb hby at_287) rfl (X35.ldc2Long hx hown (mvT hZ (wd hw 131 rfl)) (g := (mkF m 289 #[iv p0, iv p1, iv p2, iv (if (p2 &&& (65536 : Int32)) = (0 : Int32) then (255 : Int32) else (127 : Int32)), rv b2, iv pf, iv pn, iv 1, rv bz21, rv b33, .val (.long (own_AH pn z0 z1 z2 z3 z4 z5)), .second, .unset, .unset] [(.long (own_AH pn z0 z1 z2 z3 z4 z5))])) rfl (hb hby at_289) _ (XS.lcmp X35.here hx rfl (hb hby at_292) rfl (xifNo X35 hx hby rfl at_293 rfl ((if0 _ _).trans (teq ((lw_eq _ _).mpr (hA : (own_AH pn z0 z1 z2 z3 z4 z5) = (-1 : Int64)))).2) (show Steps p.tables e below (T35.setTop (mkF m 296 #[iv p0, iv p1, iv p2, iv (if (p2 &&& (65536 : Int32)) = (0 : Int32) then (255 : Int32) else (127 : Int32)), rv b2, iv pf, iv pn, iv 1, rv bz21, rv b33, .val (.long (own_AH pn z0 z1 z2 z3 z4 z5)), .second, .unset, .unset] [])) _ from xiconst X35 hx hby rfl at_296 (xgoto X35 hx hby rfl 297 301 rfl at_297 (by decide) (by decide) (retN X35 hx (t := .boolean) Bd.returns (by simp) (hb hby at_301) hr))))))))
      · show own_Q0 n0 _ T35.heap _
        rw [e35]
        exact ⟨rfl, N35⟩
    · refine own_go (b := T35.setTop (mkF m 304 #[iv p0, iv p1, iv p2, iv (if (p2 &&& (65536 : Int32)) = (0 : Int32) then (255 : Int32) else (127 : Int32)), rv b2, iv pf, iv pn, iv 0, rv bz21, rv b33, .val (.long (own_AH pn z0 z1 z2 z3 z4 z5)), .second, .unset, .unset] [.ref b33])) (fun t k => xiload X35 hx hby rfl at_282 rfl (xifYes X35 hx hby rfl 284 302 rfl at_284 rfl ((if0 _ _).trans (teq ((by decide) : (0 : Int32) = (0 : Int32))).1) (by decide) (by decide) (xaload X35 hx hby rfl at_302 rfl rfl k))) ?_
      refine own_cs X35 hx hZ hown hml e35 (wd hw 43 rfl) (wd hw 44 rfl) (wd hw 35 rfl) (wd hw 45 rfl) (own_rmCl l Z a0 hw [] b33 bq34 kq34 pn cs fv (own_c z0) (own_c z1) (own_c z2) (own_c z3) (own_c z4) (own_c z5) T34.heap n0 (Nat.le_trans Z0 K34.1) E_b33_34 B34_1 B34_0 B34_4 B34_2 B34_3 B34_5 (own_staKeep0 S_cs K34) hcs (own_staKeep0 S_f K34) hfv new_b33 h0z hNz (own_cr u_z0).1 (own_cr u_z0).2 (own_cr u_z1).1 (own_cr u_z1).2 (own_cr u_z2).1 (own_cr u_z2).2 (own_cr u_z3).1 (own_cr u_z3).2 (own_cr u_z4).1 (own_cr u_z4).2 (own_cr u_z5).1 (own_cr u_z5).2) own_pd15 (hb hby at_304) 0 [] rfl ⟨rfl, rfl, rfl, rfl, rfl⟩ (by decide) ?_
      rintro T36 L36 v36 X36 hQ36
      obtain ⟨bs36, br36, kr36, rfl, N36q, K36q, B36_0, B36_1, B36_2, B36_3, B36_4, B36_5, B36_6, B36_7⟩ := hQ36
      have V_b2_36 := V_b2_34.keep K36q List.not_mem_nil
      have V_bz21_36 := V_bz21_34.keep K36q List.not_mem_nil
      have E_b33_36 := E_b33_34.keep K36q
      have F_b33_value_36 := B34_0.keep K36q List.not_mem_nil
      have F_b33_coder_36 := B34_1.keep K36q List.not_mem_nil
      have F_b33_hash_36 := B34_2.keep K36q List.not_mem_nil
      have F_b33_hashIsZero_36 := B34_3.keep K36q List.not_mem_nil
      have V_bq34_36 := B34_4.keep K36q List.not_mem_nil
      have E_bq34_36 := B34_5.keep K36q
      have N36 := Fr.app N35 N36q
      have K36 := K34.trans K36q (fun x hx => nomatch hx)
      refine own_go (b := T36.setTop (mkF m 307 #[iv p0, iv p1, iv p2, iv (if (p2 &&& (65536 : Int32)) = (0 : Int32) then (255 : Int32) else (127 : Int32)), rv b2, iv pf, iv pn, iv 0, rv bz21, rv b33, .val (.long (own_AH pn z0 z1 z2 z3 z4 z5)), .second, .unset, .unset] [.ref bs36])) (fun t k => ?_) ?_
      · exact k
      clear B34_0 B34_1 B34_2 B34_3 B34_4 B34_5 V_b2_34 V_bz21_34 E_b33_34 K34 X35 e35 N35 N36q K36q
      refine own_cs X36 hx hZ hown hml rfl (wd hw 60 rfl) (wd hw 61 rfl) (wd hw 35 rfl) (wd hw 62 rfl) (own_rmHs l Z a0 hw [] bs36 br36 kr36 pn cs (own_lo (own_c z0)) (own_lo (own_c z1)) (own_lo (own_c z2)) (own_lo (own_c z3)) (own_lo (own_c z4)) (own_lo (own_c z5)) T36.heap n0 (Nat.le_trans Z0 K36.1) B36_0 B36_1 B36_2 B36_5 B36_3 B36_4 B36_7 (own_staKeep0 S_cs K36) hcs B36_6 h0z hNz (own_lor (own_cr u_z0).1 (own_cr u_z0).2).1 (own_lor (own_cr u_z0).1 (own_cr u_z0).2).2 (own_lor (own_cr u_z1).1 (own_cr u_z1).2).1 (own_lor (own_cr u_z1).1 (own_cr u_z1).2).2 (own_lor (own_cr u_z2).1 (own_cr u_z2).2).1 (own_lor (own_cr u_z2).1 (own_cr u_z2).2).2 (own_lor (own_cr u_z3).1 (own_cr u_z3).2).1 (own_lor (own_cr u_z3).1 (own_cr u_z3).2).2 (own_lor (own_cr u_z4).1 (own_cr u_z4).2).1 (own_lor (own_cr u_z4).1 (own_cr u_z4).2).2 (own_lor (own_cr u_z5).1 (own_cr u_z5).2).1 (own_lor (own_cr u_z5).1 (own_cr u_z5).2).2) own_pd24 (hb hby at_307) 0 [] rfl ⟨rfl, rfl, rfl, rfl, rfl⟩ (by decide) ?_
      rintro T37 L37 v37 X37 hQ37
      obtain ⟨rfl, N37q, hz37⟩ := hQ37
      have N37 := Fr.app N36 N37q
      obtain ⟨fs, hr, hrun, hended, hW, hsame⟩ := X37.leave (v := some (.int 1)) (fun h => by rw [Bd.returns] at h; cases h)
      refine ⟨_, _, ?_, hrun, hended, _, _, rfl, ?_, ReturnedEndW.of_narrow ⟨_, rfl⟩ hW (hsame.mono (by decide) (by decide))⟩
      · refine XS.i2l X37.here hx rfl (hb hby at_310) rfl (X37.ldc2Long hx hown (mvT hZ (wd hw 81 rfl)) (g := (mkF m 311 #[iv p0, iv p1, iv p2, iv (if (p2 &&& (65536 : Int32)) = (0 : Int32) then (255 : Int32) else (127 : Int32)), rv b2, iv pf, iv pn, iv 0, rv bz21, rv b33, .val (.long (own_AH pn z0 z1 z2 z3 z4 z5)), .second, .unset, .unset] [(.long ((own_sp (own_HH pn (own_lo (own_c z0)) (own_lo (own_c z1)) (own_lo (own_c z2)) (own_lo (own_c z3)) (own_lo (own_c z4)) (own_lo (own_c z5)))).toInt64))])) rfl (hb hby at_311) _ (XS.land X37.here hx rfl (hb hby at_314) rfl (XS.lstore X37.here hx rfl (hb hby at_315) rfl (l' := #[iv p0, iv p1, iv p2, iv (if (p2 &&& (65536 : Int32)) = (0 : Int32) then (255 : Int32) else (127 : Int32)), rv b2, iv pf, iv pn, iv 0, rv bz21, rv b33, .val (.long (own_AH pn z0 z1 z2 z3 z4 z5)), .second, .val (.long (((own_sp (own_HH pn (own_lo (own_c z0)) (own_lo (own_c z1)) (own_lo (own_c z2)) (own_lo (own_c z3)) (own_lo (own_c z4)) (own_lo (own_c z5)))).toInt64) &&& (4294967295 : Int64))), .second]) rfl (XS.lload X37.here hx rfl (hb hby at_317) rfl (XS.lload X37.here hx rfl (hb hby at_319) rfl (show Steps p.tables e below (T37.setTop (mkF m 321 #[iv p0, iv p1, iv p2, iv (if (p2 &&& (65536 : Int32)) = (0 : Int32) then (255 : Int32) else (127 : Int32)), rv b2, iv pf, iv pn, iv 0, rv bz21, rv b33, .val (.long (own_AH pn z0 z1 z2 z3 z4 z5)), .second, .val (.long (((own_sp (own_HH pn (own_lo (own_c z0)) (own_lo (own_c z1)) (own_lo (own_c z2)) (own_lo (own_c z3)) (own_lo (own_c z4)) (own_lo (own_c z5)))).toInt64) &&& (4294967295 : Int64))), .second] [(.long (((own_sp (own_HH pn (own_lo (own_c z0)) (own_lo (own_c z1)) (own_lo (own_c z2)) (own_lo (own_c z3)) (own_lo (own_c z4)) (own_lo (own_c z5)))).toInt64) &&& (4294967295 : Int64))), (.long (own_AH pn z0 z1 z2 z3 z4 z5))])) _ from XS.lcmp X37.here hx rfl (hb hby at_321) rfl (xifNo X37 hx hby rfl at_322 rfl ((if0 _ _).trans (teq ((lw_eq _ _).mpr (own_AHp hNz hBz0 u_z0 hBz1 u_z1 hBz2 u_z2 hBz3 u_z3 hBz4 u_z4 hBz5 u_z5 : (own_AH pn z0 z1 z2 z3 z4 z5) = (((own_sp (own_HH pn (own_lo (own_c z0)) (own_lo (own_c z1)) (own_lo (own_c z2)) (own_lo (own_c z3)) (own_lo (own_c z4)) (own_lo (own_c z5)))).toInt64) &&& (4294967295 : Int64))))).2) (xiconst X37 hx hby rfl at_325 (xgoto X37 hx hby rfl 326 330 rfl at_326 (by decide) (by decide) (retN X37 hx (t := .boolean) Bd.returns (by simp) (hb hby at_330) hr))))))))))
      · show own_Q0 n0 _ T37.heap _
        exact ⟨rfl, N37⟩
set_option maxRecDepth 65536 in
set_option maxHeartbeats 40000000 in
theorem own_tA {p : Program} {l : Launch} {e : Env} {Z s s₁ Tq : State} {m : MethodId} {below : List Frame} {meth : Method} {c : Code} {a0 : Array Value} {ws : List Jvm.Cond} {n0 : Nat} {h0 hq : Heap} {Lq : List Loc} {b2 : Addr} {k2 : ClassId} {p0 p1 p2 : Int32} {cs y0 y1 y2 y3 y4 y5 : Int32} {fv : Value} (hw : ∀ d ∈ tables_1, d.before a0 Z = true) (Bd : BodyLoose p l x (head1 (Jvm.Cond.code x code maxLocals ret :: ws) room_1) code maxLocals ret e s m #[.int p0, .int p1, .int p2] below meth c s₁) (hx : p.tables.exec = Jvm.exec) (hby : c.code = code) (hml : c.maxLocals = 14) (hown : s.vm.findClass "com/example/rollcall/rollcall/users/CaselessIndexAsciiHashPinLaw" = some m.cls) (hZ : Z.Warmed39 s.vm) (Xq : Stand p l e room_1 s m #[.int p0, .int p1, .int p2] below meth c Tq Lq 1 6) (eq0 : Tq.heap = hq) (Nq : Fr n0 Lq) (Z0 : n0 ≤ h0.size) (Kq : Keep h0 hq []) (S_cs : Sta Z h0 "java/lang/String" "COMPACT_STRINGS" "Z" (.int cs)) (S_f : Sta Z h0 "jdk/internal/util/Preconditions" "SIOOBE_FORMATTER" "Ljava/util/function/BiFunction;" fv) (tV_b2 : Arv Z hq b2 k2 .byte (6 : Int32) [.int y0, .int y1, .int y2, .int y3, .int y4, .int y5] (.int 0)) (new_b2 : n0 ≤ b2) (sz_b2 : h0.size ≤ b2) (hcs : ¬ cs = (0 : Int32)) (hfv : fv.isRef = true) (hCH0 : CHv Z own_EL s.vm h0) (u_y0 : ¬ (127 : Int32) < y0) (u_y1 : ¬ (127 : Int32) < y1) (u_y2 : ¬ (127 : Int32) < y2) (u_y3 : ¬ (127 : Int32) < y3) (u_y4 : ¬ (127 : Int32) < y4) (u_y5 : ¬ (127 : Int32) < y5) :
    ∃ s₂ o, Steps p.tables e below (Tq.setTop (mkF m 82 #[iv p0, iv p1, iv p2, iv (if (p2 &&& (65536 : Int32)) = (0 : Int32) then (255 : Int32) else (127 : Int32)), rv b2, .unset, .unset, .unset, .unset, .unset, .unset, .unset, .unset, .unset] [])) s₂ ∧ s₂.status = .running ∧ Ended s₂ below o ∧ ∃ v L, o = .returned v ∧ own_Q0 n0 v s₂.heap L ∧ ReturnedEndW s o s₂ L room_1.cells room_1.slots := by
  refine own_go (b := Tq.setTop (mkF m 90 #[iv p0, iv p1, iv p2, iv (if (p2 &&& (65536 : Int32)) = (0 : Int32) then (255 : Int32) else (127 : Int32)), rv b2, .unset, .unset, .unset, .unset, .unset, .unset, .unset, .unset, .unset] [(.int ((p2 &&& (255 : Int32)) - ((p2 &&& (255 : Int32)) / (7 : Int32)) * (7 : Int32)))])) (fun t k => xiloadN Xq hx hby rfl at_82 rfl (xsipush Xq hx hby rfl at_83 (show Steps p.tables e below (Tq.setTop (mkF m 86 #[iv p0, iv p1, iv p2, iv (if (p2 &&& (65536 : Int32)) = (0 : Int32) then (255 : Int32) else (127 : Int32)), rv b2, .unset, .unset, .unset, .unset, .unset, .unset, .unset, .unset, .unset] [.int 255, .int p2])) _ from xiand Xq hx hby rfl at_86 rfl (xbipush Xq hx hby rfl at_87 (show Steps p.tables e below (Tq.setTop (mkF m 89 #[iv p0, iv p1, iv p2, iv (if (p2 &&& (65536 : Int32)) = (0 : Int32) then (255 : Int32) else (127 : Int32)), rv b2, .unset, .unset, .unset, .unset, .unset, .unset, .unset, .unset, .unset] [.int 7, (.int (p2 &&& (255 : Int32)))])) _ from xirem Xq hx hby rfl at_89 rfl (by decide) k))))) ?_
  have hm_f := own_modm7 p2
  generalize ((p2 &&& (255 : Int32)) - ((p2 &&& (255 : Int32)) / (7 : Int32)) * (7 : Int32)) = v_f at hm_f ⊢
  rcases hm_f with rfl | rfl | rfl | rfl | rfl | rfl | rfl
  · refine own_go (b := Tq.setTop (mkF m 106 #[iv p0, iv p1, iv p2, iv (if (p2 &&& (65536 : Int32)) = (0 : Int32) then (255 : Int32) else (127 : Int32)), rv b2, iv 0, .unset, .unset, .unset, .unset, .unset, .unset, .unset, .unset] [(.int ((((p2.toUInt32 >>> ((8 : Int32) &&& 31).toUInt32).toInt32) &&& (255 : Int32)) - ((((p2.toUInt32 >>> ((8 : Int32) &&& 31).toUInt32).toInt32) &&& (255 : Int32)) / (7 : Int32)) * (7 : Int32)))])) (fun t k => xistore Xq hx hby rfl at_90 rfl (l' := #[iv p0, iv p1, iv p2, iv (if (p2 &&& (65536 : Int32)) = (0 : Int32) then (255 : Int32) else (127 : Int32)), rv b2, iv 0, .unset, .unset, .unset, .unset, .unset, .unset, .unset, .unset]) rfl (xiloadN Xq hx hby rfl at_92 rfl (xbipush Xq hx hby rfl at_93 (show Steps p.tables e below (Tq.setTop (mkF m 95 #[iv p0, iv p1, iv p2, iv (if (p2 &&& (65536 : Int32)) = (0 : Int32) then (255 : Int32) else (127 : Int32)), rv b2, iv 0, .unset, .unset, .unset, .unset, .unset, .unset, .unset, .unset] [.int 8, .int p2])) _ from XS.iushr Xq.here hx rfl (hb hby at_95) rfl (xsipush Xq hx hby rfl at_96 (show Steps p.tables e below (Tq.setTop (mkF m 99 #[iv p0, iv p1, iv p2, iv (if (p2 &&& (65536 : Int32)) = (0 : Int32) then (255 : Int32) else (127 : Int32)), rv b2, iv 0, .unset, .unset, .unset, .unset, .unset, .unset, .unset, .unset] [.int 255, (.int ((p2.toUInt32 >>> ((8 : Int32) &&& 31).toUInt32).toInt32))])) _ from xiand Xq hx hby rfl at_99 rfl (xbipush Xq hx hby rfl at_100 (xiload Xq hx hby rfl at_102 rfl (show Steps p.tables e below (Tq.setTop (mkF m 104 #[iv p0, iv p1, iv p2, iv (if (p2 &&& (65536 : Int32)) = (0 : Int32) then (255 : Int32) else (127 : Int32)), rv b2, iv 0, .unset, .unset, .unset, .unset, .unset, .unset, .unset, .unset] [.int 0, .int 7, (.int (((p2.toUInt32 >>> ((8 : Int32) &&& 31).toUInt32).toInt32) &&& (255 : Int32)))])) _ from xisub Xq hx hby rfl at_104 rfl (xirem Xq hx hby rfl at_105 rfl (by decide) k)))))))))) ?_
    have hm_n := own_modm7 ((p2.toUInt32 >>> ((8 : Int32) &&& 31).toUInt32).toInt32)
    generalize ((((p2.toUInt32 >>> ((8 : Int32) &&& 31).toUInt32).toInt32) &&& (255 : Int32)) - ((((p2.toUInt32 >>> ((8 : Int32) &&& 31).toUInt32).toInt32) &&& (255 : Int32)) / (7 : Int32)) * (7 : Int32)) = v_n at hm_n ⊢
    rcases hm_n with rfl | rfl | rfl | rfl | rfl | rfl | rfl
    · refine own_go (b := Tq.setTop (mkF m 108 #[iv p0, iv p1, iv p2, iv (if (p2 &&& (65536 : Int32)) = (0 : Int32) then (255 : Int32) else (127 : Int32)), rv b2, iv 0, iv 0, .unset, .unset, .unset, .unset, .unset, .unset, .unset] [])) (fun t k => xistore Xq hx hby rfl at_106 rfl (l' := #[iv p0, iv p1, iv p2, iv (if (p2 &&& (65536 : Int32)) = (0 : Int32) then (255 : Int32) else (127 : Int32)), rv b2, iv 0, iv 0, .unset, .unset, .unset, .unset, .unset, .unset, .unset]) rfl k) ?_
      refine own_tE hw Bd hx hby hml hown hZ Xq eq0 Nq Z0 Kq tV_b2 new_b2 sz_b2 (fun Tn Ln ng Xn en Nn hg => ?_)
      have hng : (ng = (1 : Int32) ∧ own_AH (0 : Int32) (0 : Int32) (0 : Int32) (0 : Int32) (0 : Int32) (0 : Int32) (0 : Int32) = (-1 : Int64)) ∨ (ng = (0 : Int32) ∧ ((0 : Int32) < (0 : Int32) → ¬ (0 : Int32) < (0 : Int32)) ∧ ((1 : Int32) < (0 : Int32) → ¬ (0 : Int32) < (0 : Int32)) ∧ ((2 : Int32) < (0 : Int32) → ¬ (0 : Int32) < (0 : Int32)) ∧ ((3 : Int32) < (0 : Int32) → ¬ (0 : Int32) < (0 : Int32)) ∧ ((4 : Int32) < (0 : Int32) → ¬ (0 : Int32) < (0 : Int32)) ∧ ((5 : Int32) < (0 : Int32) → ¬ (0 : Int32) < (0 : Int32))) := by
        rcases hg with ⟨e1, q | q | q | q | q | q⟩ | ⟨e1, q0, q1, q2, q3, q4, q5⟩
        · exact absurd (own_bdn q).2.1 (by decide)
        · exact absurd (own_bdn q).2.1 (by decide)
        · exact absurd (own_bdn q).2.1 (by decide)
        · exact absurd (own_bdn q).2.1 (by decide)
        · exact absurd (own_bdn q).2.1 (by decide)
        · exact absurd (own_bdn q).2.1 (by decide)
        · exact Or.inr ⟨e1, fun h => absurd h (by decide), fun h => absurd h (by decide), fun h => absurd h (by decide), fun h => absurd h (by decide), fun h => absurd h (by decide), fun h => absurd h (by decide)⟩
      exact own_tM hw Bd hx hby hml hown hZ Xn en Nn Z0 Kq S_cs S_f tV_b2 new_b2 sz_b2 hcs hfv hCH0 (show ¬ (127 : Int32) < (0 : Int32) by decide) (show ¬ (127 : Int32) < (0 : Int32) by decide) (show ¬ (127 : Int32) < (0 : Int32) by decide) (show ¬ (127 : Int32) < (0 : Int32) by decide) (show ¬ (127 : Int32) < (0 : Int32) by decide) (show ¬ (127 : Int32) < (0 : Int32) by decide) hng (by decide) (by decide) (by decide) (fun h => absurd h (by decide)) (fun h => absurd h (by decide)) (fun h => absurd h (by decide)) (fun h => absurd h (by decide)) (fun h => absurd h (by decide)) (fun h => absurd h (by decide)) (by decide) (fun h => absurd h (by decide)) (by decide) (fun h => absurd h (by decide)) (by decide) (fun h => absurd h (by decide)) (by decide) (fun h => absurd h (by decide)) (by decide) (fun h => absurd h (by decide)) (by decide) (fun h => absurd h (by decide)) (by decide)
    · refine own_go (b := Tq.setTop (mkF m 108 #[iv p0, iv p1, iv p2, iv (if (p2 &&& (65536 : Int32)) = (0 : Int32) then (255 : Int32) else (127 : Int32)), rv b2, iv 0, iv 1, .unset, .unset, .unset, .unset, .unset, .unset, .unset] [])) (fun t k => xistore Xq hx hby rfl at_106 rfl (l' := #[iv p0, iv p1, iv p2, iv (if (p2 &&& (65536 : Int32)) = (0 : Int32) then (255 : Int32) else (127 : Int32)), rv b2, iv 0, iv 1, .unset, .unset, .unset, .unset, .unset, .unset, .unset]) rfl k) ?_
      refine own_tE hw Bd hx hby hml hown hZ Xq eq0 Nq Z0 Kq tV_b2 new_b2 sz_b2 (fun Tn Ln ng Xn en Nn hg => ?_)
      have hng : (ng = (1 : Int32) ∧ own_AH (1 : Int32) y0 (0 : Int32) (0 : Int32) (0 : Int32) (0 : Int32) (0 : Int32) = (-1 : Int64)) ∨ (ng = (0 : Int32) ∧ ((0 : Int32) < (1 : Int32) → ¬ y0 < (0 : Int32)) ∧ ((1 : Int32) < (1 : Int32) → ¬ (0 : Int32) < (0 : Int32)) ∧ ((2 : Int32) < (1 : Int32) → ¬ (0 : Int32) < (0 : Int32)) ∧ ((3 : Int32) < (1 : Int32) → ¬ (0 : Int32) < (0 : Int32)) ∧ ((4 : Int32) < (1 : Int32) → ¬ (0 : Int32) < (0 : Int32)) ∧ ((5 : Int32) < (1 : Int32) → ¬ (0 : Int32) < (0 : Int32))) := by
        rcases hg with ⟨e1, q | q | q | q | q | q⟩ | ⟨e1, q0, q1, q2, q3, q4, q5⟩
        · exact Or.inl ⟨e1, own_AHm0 (by decide) (own_bdn q).2.2⟩
        · exact absurd (own_bdn q).2.1 (by decide)
        · exact absurd (own_bdn q).2.1 (by decide)
        · exact absurd (own_bdn q).2.1 (by decide)
        · exact absurd (own_bdn q).2.1 (by decide)
        · exact absurd (own_bdn q).2.1 (by decide)
        · exact Or.inr ⟨e1, fun _ => own_bdz (by decide) (by decide) q0, fun h => absurd h (by decide), fun h => absurd h (by decide), fun h => absurd h (by decide), fun h => absurd h (by decide), fun h => absurd h (by decide)⟩
      exact own_tM hw Bd hx hby hml hown hZ Xn en Nn Z0 Kq S_cs S_f tV_b2 new_b2 sz_b2 hcs hfv hCH0 u_y0 (show ¬ (127 : Int32) < (0 : Int32) by decide) (show ¬ (127 : Int32) < (0 : Int32) by decide) (show ¬ (127 : Int32) < (0 : Int32) by decide) (show ¬ (127 : Int32) < (0 : Int32) by decide) (show ¬ (127 : Int32) < (0 : Int32) by decide) hng (by decide) (by decide) (by decide) (fun _ => ⟨by decide, by decide, rfl⟩) (fun h => absurd h (by decide)) (fun h => absurd h (by decide)) (fun h => absurd h (by decide)) (fun h => absurd h (by decide)) (fun h => absurd h (by decide)) (by decide) (fun _ => ⟨by decide, by decide, rfl⟩) (by decide) (fun h => absurd h (by decide)) (by decide) (fun h => absurd h (by decide)) (by decide) (fun h => absurd h (by decide)) (by decide) (fun h => absurd h (by decide)) (by decide) (fun h => absurd h (by decide)) (by decide)
    · refine own_go (b := Tq.setTop (mkF m 108 #[iv p0, iv p1, iv p2, iv (if (p2 &&& (65536 : Int32)) = (0 : Int32) then (255 : Int32) else (127 : Int32)), rv b2, iv 0, iv 2, .unset, .unset, .unset, .unset, .unset, .unset, .unset] [])) (fun t k => xistore Xq hx hby rfl at_106 rfl (l' := #[iv p0, iv p1, iv p2, iv (if (p2 &&& (65536 : Int32)) = (0 : Int32) then (255 : Int32) else (127 : Int32)), rv b2, iv 0, iv 2, .unset, .unset, .unset, .unset, .unset, .unset, .unset]) rfl k) ?_
      refine own_tE hw Bd hx hby hml hown hZ Xq eq0 Nq Z0 Kq tV_b2 new_b2 sz_b2 (fun Tn Ln ng Xn en Nn hg => ?_)
      have hng : (ng = (1 : Int32) ∧ own_AH (2 : Int32) y0 y1 (0 : Int32) (0 : Int32) (0 : Int32) (0 : Int32) = (-1 : Int64)) ∨ (ng = (0 : Int32) ∧ ((0 : Int32) < (2 : Int32) → ¬ y0 < (0 : Int32)) ∧ ((1 : Int32) < (2 : Int32) → ¬ y1 < (0 : Int32)) ∧ ((2 : Int32) < (2 : Int32) → ¬ (0 : Int32) < (0 : Int32)) ∧ ((3 : Int32) < (2 : Int32) → ¬ (0 : Int32) < (0 : Int32)) ∧ ((4 : Int32) < (2 : Int32) → ¬ (0 : Int32) < (0 : Int32)) ∧ ((5 : Int32) < (2 : Int32) → ¬ (0 : Int32) < (0 : Int32))) := by
        rcases hg with ⟨e1, q | q | q | q | q | q⟩ | ⟨e1, q0, q1, q2, q3, q4, q5⟩
        · exact Or.inl ⟨e1, own_AHm0 (by decide) (own_bdn q).2.2⟩
        · exact Or.inl ⟨e1, own_AHm1 (by decide) (by decide) (own_bdn q).2.2⟩
        · exact absurd (own_bdn q).2.1 (by decide)
        · exact absurd (own_bdn q).2.1 (by decide)
        · exact absurd (own_bdn q).2.1 (by decide)
        · exact absurd (own_bdn q).2.1 (by decide)
        · exact Or.inr ⟨e1, fun _ => own_bdz (by decide) (by decide) q0, fun _ => own_bdz (by decide) (by decide) q1, fun h => absurd h (by decide), fun h => absurd h (by decide), fun h => absurd h (by decide), fun h => absurd h (by decide)⟩
      exact own_tM hw Bd hx hby hml hown hZ Xn en Nn Z0 Kq S_cs S_f tV_b2 new_b2 sz_b2 hcs hfv hCH0 u_y0 u_y1 (show ¬ (127 : Int32) < (0 : Int32) by decide) (show ¬ (127 : Int32) < (0 : Int32) by decide) (show ¬ (127 : Int32) < (0 : Int32) by decide) (show ¬ (127 : Int32) < (0 : Int32) by decide) hng (by decide) (by decide) (by decide) (fun _ => ⟨by decide, by decide, rfl⟩) (fun _ => ⟨by decide, by decide, rfl⟩) (fun h => absurd h (by decide)) (fun h => absurd h (by decide)) (fun h => absurd h (by decide)) (fun h => absurd h (by decide)) (by decide) (fun _ => ⟨by decide, by decide, rfl⟩) (by decide) (fun _ => ⟨by decide, by decide, rfl⟩) (by decide) (fun h => absurd h (by decide)) (by decide) (fun h => absurd h (by decide)) (by decide) (fun h => absurd h (by decide)) (by decide) (fun h => absurd h (by decide)) (by decide)
    · refine own_go (b := Tq.setTop (mkF m 108 #[iv p0, iv p1, iv p2, iv (if (p2 &&& (65536 : Int32)) = (0 : Int32) then (255 : Int32) else (127 : Int32)), rv b2, iv 0, iv 3, .unset, .unset, .unset, .unset, .unset, .unset, .unset] [])) (fun t k => xistore Xq hx hby rfl at_106 rfl (l' := #[iv p0, iv p1, iv p2, iv (if (p2 &&& (65536 : Int32)) = (0 : Int32) then (255 : Int32) else (127 : Int32)), rv b2, iv 0, iv 3, .unset, .unset, .unset, .unset, .unset, .unset, .unset]) rfl k) ?_
      refine own_tE hw Bd hx hby hml hown hZ Xq eq0 Nq Z0 Kq tV_b2 new_b2 sz_b2 (fun Tn Ln ng Xn en Nn hg => ?_)
      have hng : (ng = (1 : Int32) ∧ own_AH (3 : Int32) y0 y1 y2 (0 : Int32) (0 : Int32) (0 : Int32) = (-1 : Int64)) ∨ (ng = (0 : Int32) ∧ ((0 : Int32) < (3 : Int32) → ¬ y0 < (0 : Int32)) ∧ ((1 : Int32) < (3 : Int32) → ¬ y1 < (0 : Int32)) ∧ ((2 : Int32) < (3 : Int32) → ¬ y2 < (0 : Int32)) ∧ ((3 : Int32) < (3 : Int32) → ¬ (0 : Int32) < (0 : Int32)) ∧ ((4 : Int32) < (3 : Int32) → ¬ (0 : Int32) < (0 : Int32)) ∧ ((5 : Int32) < (3 : Int32) → ¬ (0 : Int32) < (0 : Int32))) := by
        rcases hg with ⟨e1, q | q | q | q | q | q⟩ | ⟨e1, q0, q1, q2, q3, q4, q5⟩
        · exact Or.inl ⟨e1, own_AHm0 (by decide) (own_bdn q).2.2⟩
        · exact Or.inl ⟨e1, own_AHm1 (by decide) (by decide) (own_bdn q).2.2⟩
        · exact Or.inl ⟨e1, own_AHm2 (by decide) (by decide) (by decide) (own_bdn q).2.2⟩
        · exact absurd (own_bdn q).2.1 (by decide)
        · exact absurd (own_bdn q).2.1 (by decide)
        · exact absurd (own_bdn q).2.1 (by decide)
        · exact Or.inr ⟨e1, fun _ => own_bdz (by decide) (by decide) q0, fun _ => own_bdz (by decide) (by decide) q1, fun _ => own_bdz (by decide) (by decide) q2, fun h => absurd h (by decide), fun h => absurd h (by decide), fun h => absurd h (by decide)⟩
      exact own_tM hw Bd hx hby hml hown hZ Xn en Nn Z0 Kq S_cs S_f tV_b2 new_b2 sz_b2 hcs hfv hCH0 u_y0 u_y1 u_y2 (show ¬ (127 : Int32) < (0 : Int32) by decide) (show ¬ (127 : Int32) < (0 : Int32) by decide) (show ¬ (127 : Int32) < (0 : Int32) by decide) hng (by decide) (by decide) (by decide) (fun _ => ⟨by decide, by decide, rfl⟩) (fun _ => ⟨by decide, by decide, rfl⟩) (fun _ => ⟨by decide, by decide, rfl⟩) (fun h => absurd h (by decide)) (fun h => absurd h (by decide)) (fun h => absurd h (by decide)) (by decide) (fun _ => ⟨by decide, by decide, rfl⟩) (by decide) (fun _ => ⟨by decide, by decide, rfl⟩) (by decide) (fun _ => ⟨by decide, by decide, rfl⟩) (by decide) (fun h => absurd h (by decide)) (by decide) (fun h => absurd h (by decide)) (by decide) (fun h => absurd h (by decide)) (by decide)
    · refine own_go (b := Tq.setTop (mkF m 108 #[iv p0, iv p1, iv p2, iv (if (p2 &&& (65536 : Int32)) = (0 : Int32) then (255 : Int32) else (127 : Int32)), rv b2, iv 0, iv 4, .unset, .unset, .unset, .unset, .unset, .unset, .unset] [])) (fun t k => xistore Xq hx hby rfl at_106 rfl (l' := #[iv p0, iv p1, iv p2, iv (if (p2 &&& (65536 : Int32)) = (0 : Int32) then (255 : Int32) else (127 : Int32)), rv b2, iv 0, iv 4, .unset, .unset, .unset, .unset, .unset, .unset, .unset]) rfl k) ?_
      refine own_tE hw Bd hx hby hml hown hZ Xq eq0 Nq Z0 Kq tV_b2 new_b2 sz_b2 (fun Tn Ln ng Xn en Nn hg => ?_)
      have hng : (ng = (1 : Int32) ∧ own_AH (4 : Int32) y0 y1 y2 y3 (0 : Int32) (0 : Int32) = (-1 : Int64)) ∨ (ng = (0 : Int32) ∧ ((0 : Int32) < (4 : Int32) → ¬ y0 < (0 : Int32)) ∧ ((1 : Int32) < (4 : Int32) → ¬ y1 < (0 : Int32)) ∧ ((2 : Int32) < (4 : Int32) → ¬ y2 < (0 : Int32)) ∧ ((3 : Int32) < (4 : Int32) → ¬ y3 < (0 : Int32)) ∧ ((4 : Int32) < (4 : Int32) → ¬ (0 : Int32) < (0 : Int32)) ∧ ((5 : Int32) < (4 : Int32) → ¬ (0 : Int32) < (0 : Int32))) := by
        rcases hg with ⟨e1, q | q | q | q | q | q⟩ | ⟨e1, q0, q1, q2, q3, q4, q5⟩
        · exact Or.inl ⟨e1, own_AHm0 (by decide) (own_bdn q).2.2⟩
        · exact Or.inl ⟨e1, own_AHm1 (by decide) (by decide) (own_bdn q).2.2⟩
        · exact Or.inl ⟨e1, own_AHm2 (by decide) (by decide) (by decide) (own_bdn q).2.2⟩
        · exact Or.inl ⟨e1, own_AHm3 (by decide) (by decide) (by decide) (by decide) (own_bdn q).2.2⟩
        · exact absurd (own_bdn q).2.1 (by decide)
        · exact absurd (own_bdn q).2.1 (by decide)
        · exact Or.inr ⟨e1, fun _ => own_bdz (by decide) (by decide) q0, fun _ => own_bdz (by decide) (by decide) q1, fun _ => own_bdz (by decide) (by decide) q2, fun _ => own_bdz (by decide) (by decide) q3, fun h => absurd h (by decide), fun h => absurd h (by decide)⟩
      exact own_tM hw Bd hx hby hml hown hZ Xn en Nn Z0 Kq S_cs S_f tV_b2 new_b2 sz_b2 hcs hfv hCH0 u_y0 u_y1 u_y2 u_y3 (show ¬ (127 : Int32) < (0 : Int32) by decide) (show ¬ (127 : Int32) < (0 : Int32) by decide) hng (by decide) (by decide) (by decide) (fun _ => ⟨by decide, by decide, rfl⟩) (fun _ => ⟨by decide, by decide, rfl⟩) (fun _ => ⟨by decide, by decide, rfl⟩) (fun _ => ⟨by decide, by decide, rfl⟩) (fun h => absurd h (by decide)) (fun h => absurd h (by decide)) (by decide) (fun _ => ⟨by decide, by decide, rfl⟩) (by decide) (fun _ => ⟨by decide, by decide, rfl⟩) (by decide) (fun _ => ⟨by decide, by decide, rfl⟩) (by decide) (fun _ => ⟨by decide, by decide, rfl⟩) (by decide) (fun h => absurd h (by decide)) (by decide) (fun h => absurd h (by decide)) (by decide)
    · refine own_go (b := Tq.setTop (mkF m 108 #[iv p0, iv p1, iv p2, iv (if (p2 &&& (65536 : Int32)) = (0 : Int32) then (255 : Int32) else (127 : Int32)), rv b2, iv 0, iv 5, .unset, .unset, .unset, .unset, .unset, .unset, .unset] [])) (fun t k => xistore Xq hx hby rfl at_106 rfl (l' := #[iv p0, iv p1, iv p2, iv (if (p2 &&& (65536 : Int32)) = (0 : Int32) then (255 : Int32) else (127 : Int32)), rv b2, iv 0, iv 5, .unset, .unset, .unset, .unset, .unset, .unset, .unset]) rfl k) ?_
      refine own_tE hw Bd hx hby hml hown hZ Xq eq0 Nq Z0 Kq tV_b2 new_b2 sz_b2 (fun Tn Ln ng Xn en Nn hg => ?_)
      have hng : (ng = (1 : Int32) ∧ own_AH (5 : Int32) y0 y1 y2 y3 y4 (0 : Int32) = (-1 : Int64)) ∨ (ng = (0 : Int32) ∧ ((0 : Int32) < (5 : Int32) → ¬ y0 < (0 : Int32)) ∧ ((1 : Int32) < (5 : Int32) → ¬ y1 < (0 : Int32)) ∧ ((2 : Int32) < (5 : Int32) → ¬ y2 < (0 : Int32)) ∧ ((3 : Int32) < (5 : Int32) → ¬ y3 < (0 : Int32)) ∧ ((4 : Int32) < (5 : Int32) → ¬ y4 < (0 : Int32)) ∧ ((5 : Int32) < (5 : Int32) → ¬ (0 : Int32) < (0 : Int32))) := by
        rcases hg with ⟨e1, q | q | q | q | q | q⟩ | ⟨e1, q0, q1, q2, q3, q4, q5⟩
        · exact Or.inl ⟨e1, own_AHm0 (by decide) (own_bdn q).2.2⟩
        · exact Or.inl ⟨e1, own_AHm1 (by decide) (by decide) (own_bdn q).2.2⟩
        · exact Or.inl ⟨e1, own_AHm2 (by decide) (by decide) (by decide) (own_bdn q).2.2⟩
        · exact Or.inl ⟨e1, own_AHm3 (by decide) (by decide) (by decide) (by decide) (own_bdn q).2.2⟩
        · exact Or.inl ⟨e1, own_AHm4 (by decide) (by decide) (by decide) (by decide) (by decide) (own_bdn q).2.2⟩
        · exact absurd (own_bdn q).2.1 (by decide)
        · exact Or.inr ⟨e1, fun _ => own_bdz (by decide) (by decide) q0, fun _ => own_bdz (by decide) (by decide) q1, fun _ => own_bdz (by decide) (by decide) q2, fun _ => own_bdz (by decide) (by decide) q3, fun _ => own_bdz (by decide) (by decide) q4, fun h => absurd h (by decide)⟩
      exact own_tM hw Bd hx hby hml hown hZ Xn en Nn Z0 Kq S_cs S_f tV_b2 new_b2 sz_b2 hcs hfv hCH0 u_y0 u_y1 u_y2 u_y3 u_y4 (show ¬ (127 : Int32) < (0 : Int32) by decide) hng (by decide) (by decide) (by decide) (fun _ => ⟨by decide, by decide, rfl⟩) (fun _ => ⟨by decide, by decide, rfl⟩) (fun _ => ⟨by decide, by decide, rfl⟩) (fun _ => ⟨by decide, by decide, rfl⟩) (fun _ => ⟨by decide, by decide, rfl⟩) (fun h => absurd h (by decide)) (by decide) (fun _ => ⟨by decide, by decide, rfl⟩) (by decide) (fun _ => ⟨by decide, by decide, rfl⟩) (by decide) (fun _ => ⟨by decide, by decide, rfl⟩) (by decide) (fun _ => ⟨by decide, by decide, rfl⟩) (by decide) (fun _ => ⟨by decide, by decide, rfl⟩) (by decide) (fun h => absurd h (by decide)) (by decide)
    · refine own_go (b := Tq.setTop (mkF m 108 #[iv p0, iv p1, iv p2, iv (if (p2 &&& (65536 : Int32)) = (0 : Int32) then (255 : Int32) else (127 : Int32)), rv b2, iv 0, iv 6, .unset, .unset, .unset, .unset, .unset, .unset, .unset] [])) (fun t k => xistore Xq hx hby rfl at_106 rfl (l' := #[iv p0, iv p1, iv p2, iv (if (p2 &&& (65536 : Int32)) = (0 : Int32) then (255 : Int32) else (127 : Int32)), rv b2, iv 0, iv 6, .unset, .unset, .unset, .unset, .unset, .unset, .unset]) rfl k) ?_
      refine own_tE hw Bd hx hby hml hown hZ Xq eq0 Nq Z0 Kq tV_b2 new_b2 sz_b2 (fun Tn Ln ng Xn en Nn hg => ?_)
      have hng : (ng = (1 : Int32) ∧ own_AH (6 : Int32) y0 y1 y2 y3 y4 y5 = (-1 : Int64)) ∨ (ng = (0 : Int32) ∧ ((0 : Int32) < (6 : Int32) → ¬ y0 < (0 : Int32)) ∧ ((1 : Int32) < (6 : Int32) → ¬ y1 < (0 : Int32)) ∧ ((2 : Int32) < (6 : Int32) → ¬ y2 < (0 : Int32)) ∧ ((3 : Int32) < (6 : Int32) → ¬ y3 < (0 : Int32)) ∧ ((4 : Int32) < (6 : Int32) → ¬ y4 < (0 : Int32)) ∧ ((5 : Int32) < (6 : Int32) → ¬ y5 < (0 : Int32))) := by
        rcases hg with ⟨e1, q | q | q | q | q | q⟩ | ⟨e1, q0, q1, q2, q3, q4, q5⟩
        · exact Or.inl ⟨e1, own_AHm0 (by decide) (own_bdn q).2.2⟩
        · exact Or.inl ⟨e1, own_AHm1 (by decide) (by decide) (own_bdn q).2.2⟩
        · exact Or.inl ⟨e1, own_AHm2 (by decide) (by decide) (by decide) (own_bdn q).2.2⟩
        · exact Or.inl ⟨e1, own_AHm3 (by decide) (by decide) (by decide) (by decide) (own_bdn q).2.2⟩
        · exact Or.inl ⟨e1, own_AHm4 (by decide) (by decide) (by decide) (by decide) (by decide) (own_bdn q).2.2⟩
        · exact Or.inl ⟨e1, own_AHm5 (by decide) (by decide) (by decide) (by decide) (by decide) (by decide) (own_bdn q).2.2⟩
        · exact Or.inr ⟨e1, fun _ => own_bdz (by decide) (by decide) q0, fun _ => own_bdz (by decide) (by decide) q1, fun _ => own_bdz (by decide) (by decide) q2, fun _ => own_bdz (by decide) (by decide) q3, fun _ => own_bdz (by decide) (by decide) q4, fun _ => own_bdz (by decide) (by decide) q5⟩
      exact own_tM hw Bd hx hby hml hown hZ Xn en Nn Z0 Kq S_cs S_f tV_b2 new_b2 sz_b2 hcs hfv hCH0 u_y0 u_y1 u_y2 u_y3 u_y4 u_y5 hng (by decide) (by decide) (by decide) (fun _ => ⟨by decide, by decide, rfl⟩) (fun _ => ⟨by decide, by decide, rfl⟩) (fun _ => ⟨by decide, by decide, rfl⟩) (fun _ => ⟨by decide, by decide, rfl⟩) (fun _ => ⟨by decide, by decide, rfl⟩) (fun _ => ⟨by decide, by decide, rfl⟩) (by decide) (fun _ => ⟨by decide, by decide, rfl⟩) (by decide) (fun _ => ⟨by decide, by decide, rfl⟩) (by decide) (fun _ => ⟨by decide, by decide, rfl⟩) (by decide) (fun _ => ⟨by decide, by decide, rfl⟩) (by decide) (fun _ => ⟨by decide, by decide, rfl⟩) (by decide) (fun _ => ⟨by decide, by decide, rfl⟩) (by decide)
  · refine own_go (b := Tq.setTop (mkF m 106 #[iv p0, iv p1, iv p2, iv (if (p2 &&& (65536 : Int32)) = (0 : Int32) then (255 : Int32) else (127 : Int32)), rv b2, iv 1, .unset, .unset, .unset, .unset, .unset, .unset, .unset, .unset] [(.int ((((p2.toUInt32 >>> ((8 : Int32) &&& 31).toUInt32).toInt32) &&& (255 : Int32)) - ((((p2.toUInt32 >>> ((8 : Int32) &&& 31).toUInt32).toInt32) &&& (255 : Int32)) / (6 : Int32)) * (6 : Int32)))])) (fun t k => xistore Xq hx hby rfl at_90 rfl (l' := #[iv p0, iv p1, iv p2, iv (if (p2 &&& (65536 : Int32)) = (0 : Int32) then (255 : Int32) else (127 : Int32)), rv b2, iv 1, .unset, .unset, .unset, .unset, .unset, .unset, .unset, .unset]) rfl (xiloadN Xq hx hby rfl at_92 rfl (xbipush Xq hx hby rfl at_93 (show Steps p.tables e below (Tq.setTop (mkF m 95 #[iv p0, iv p1, iv p2, iv (if (p2 &&& (65536 : Int32)) = (0 : Int32) then (255 : Int32) else (127 : Int32)), rv b2, iv 1, .unset, .unset, .unset, .unset, .unset, .unset, .unset, .unset] [.int 8, .int p2])) _ from XS.iushr Xq.here hx rfl (hb hby at_95) rfl (xsipush Xq hx hby rfl at_96 (show Steps p.tables e below (Tq.setTop (mkF m 99 #[iv p0, iv p1, iv p2, iv (if (p2 &&& (65536 : Int32)) = (0 : Int32) then (255 : Int32) else (127 : Int32)), rv b2, iv 1, .unset, .unset, .unset, .unset, .unset, .unset, .unset, .unset] [.int 255, (.int ((p2.toUInt32 >>> ((8 : Int32) &&& 31).toUInt32).toInt32))])) _ from xiand Xq hx hby rfl at_99 rfl (xbipush Xq hx hby rfl at_100 (xiload Xq hx hby rfl at_102 rfl (show Steps p.tables e below (Tq.setTop (mkF m 104 #[iv p0, iv p1, iv p2, iv (if (p2 &&& (65536 : Int32)) = (0 : Int32) then (255 : Int32) else (127 : Int32)), rv b2, iv 1, .unset, .unset, .unset, .unset, .unset, .unset, .unset, .unset] [.int 1, .int 7, (.int (((p2.toUInt32 >>> ((8 : Int32) &&& 31).toUInt32).toInt32) &&& (255 : Int32)))])) _ from xisub Xq hx hby rfl at_104 rfl (xirem Xq hx hby rfl at_105 rfl (by decide) k)))))))))) ?_
    have hm_n := own_modm6 ((p2.toUInt32 >>> ((8 : Int32) &&& 31).toUInt32).toInt32)
    generalize ((((p2.toUInt32 >>> ((8 : Int32) &&& 31).toUInt32).toInt32) &&& (255 : Int32)) - ((((p2.toUInt32 >>> ((8 : Int32) &&& 31).toUInt32).toInt32) &&& (255 : Int32)) / (6 : Int32)) * (6 : Int32)) = v_n at hm_n ⊢
    rcases hm_n with rfl | rfl | rfl | rfl | rfl | rfl
    · refine own_go (b := Tq.setTop (mkF m 108 #[iv p0, iv p1, iv p2, iv (if (p2 &&& (65536 : Int32)) = (0 : Int32) then (255 : Int32) else (127 : Int32)), rv b2, iv 1, iv 0, .unset, .unset, .unset, .unset, .unset, .unset, .unset] [])) (fun t k => xistore Xq hx hby rfl at_106 rfl (l' := #[iv p0, iv p1, iv p2, iv (if (p2 &&& (65536 : Int32)) = (0 : Int32) then (255 : Int32) else (127 : Int32)), rv b2, iv 1, iv 0, .unset, .unset, .unset, .unset, .unset, .unset, .unset]) rfl k) ?_
      refine own_tE hw Bd hx hby hml hown hZ Xq eq0 Nq Z0 Kq tV_b2 new_b2 sz_b2 (fun Tn Ln ng Xn en Nn hg => ?_)
      have hng : (ng = (1 : Int32) ∧ own_AH (0 : Int32) (0 : Int32) (0 : Int32) (0 : Int32) (0 : Int32) (0 : Int32) (0 : Int32) = (-1 : Int64)) ∨ (ng = (0 : Int32) ∧ ((0 : Int32) < (0 : Int32) → ¬ (0 : Int32) < (0 : Int32)) ∧ ((1 : Int32) < (0 : Int32) → ¬ (0 : Int32) < (0 : Int32)) ∧ ((2 : Int32) < (0 : Int32) → ¬ (0 : Int32) < (0 : Int32)) ∧ ((3 : Int32) < (0 : Int32) → ¬ (0 : Int32) < (0 : Int32)) ∧ ((4 : Int32) < (0 : Int32) → ¬ (0 : Int32) < (0 : Int32)) ∧ ((5 : Int32) < (0 : Int32) → ¬ (0 : Int32) < (0 : Int32))) := by
        rcases hg with ⟨e1, q | q | q | q | q | q⟩ | ⟨e1, q0, q1, q2, q3, q4, q5⟩
        · exact absurd (by decide) (own_bdn q).1
        · exact absurd (own_bdn q).2.1 (by decide)
        · exact absurd (own_bdn q).2.1 (by decide)
        · exact absurd (own_bdn q).2.1 (by decide)
        · exact absurd (own_bdn q).2.1 (by decide)
        · exact absurd (own_bdn q).2.1 (by decide)
        · exact Or.inr ⟨e1, fun h => absurd h (by decide), fun h => absurd h (by decide), fun h => absurd h (by decide), fun h => absurd h (by decide), fun h => absurd h (by decide), fun h => absurd h (by decide)⟩
      exact own_tM hw Bd hx hby hml hown hZ Xn en Nn Z0 Kq S_cs S_f tV_b2 new_b2 sz_b2 hcs hfv hCH0 (show ¬ (127 : Int32) < (0 : Int32) by decide) (show ¬ (127 : Int32) < (0 : Int32) by decide) (show ¬ (127 : Int32) < (0 : Int32) by decide) (show ¬ (127 : Int32) < (0 : Int32) by decide) (show ¬ (127 : Int32) < (0 : Int32) by decide) (show ¬ (127 : Int32) < (0 : Int32) by decide) hng (by decide) (by decide) (by decide) (fun h => absurd h (by decide)) (fun h => absurd h (by decide)) (fun h => absurd h (by decide)) (fun h => absurd h (by decide)) (fun h => absurd h (by decide)) (fun h => absurd h (by decide)) (by decide) (fun h => absurd h (by decide)) (by decide) (fun h => absurd h (by decide)) (by decide) (fun h => absurd h (by decide)) (by decide) (fun h => absurd h (by decide)) (by decide) (fun h => absurd h (by decide)) (by decide) (fun h => absurd h (by decide)) (by decide)
    · refine own_go (b := Tq.setTop (mkF m 108 #[iv p0, iv p1, iv p2, iv (if (p2 &&& (65536 : Int32)) = (0 : Int32) then (255 : Int32) else (127 : Int32)), rv b2, iv 1, iv 1, .unset, .unset, .unset, .unset, .unset, .unset, .unset] [])) (fun t k => xistore Xq hx hby rfl at_106 rfl (l' := #[iv p0, iv p1, iv p2, iv (if (p2 &&& (65536 : Int32)) = (0 : Int32) then (255 : Int32) else (127 : Int32)), rv b2, iv 1, iv 1, .unset, .unset, .unset, .unset, .unset, .unset, .unset]) rfl k) ?_
      refine own_tE hw Bd hx hby hml hown hZ Xq eq0 Nq Z0 Kq tV_b2 new_b2 sz_b2 (fun Tn Ln ng Xn en Nn hg => ?_)
      have hng : (ng = (1 : Int32) ∧ own_AH (1 : Int32) y1 (0 : Int32) (0 : Int32) (0 : Int32) (0 : Int32) (0 : Int32) = (-1 : Int64)) ∨ (ng = (0 : Int32) ∧ ((0 : Int32) < (1 : Int32) → ¬ y1 < (0 : Int32)) ∧ ((1 : Int32) < (1 : Int32) → ¬ (0 : Int32) < (0 : Int32)) ∧ ((2 : Int32) < (1 : Int32) → ¬ (0 : Int32) < (0 : Int32)) ∧ ((3 : Int32) < (1 : Int32) → ¬ (0 : Int32) < (0 : Int32)) ∧ ((4 : Int32) < (1 : Int32) → ¬ (0 : Int32) < (0 : Int32)) ∧ ((5 : Int32) < (1 : Int32) → ¬ (0 : Int32) < (0 : Int32))) := by
        rcases hg with ⟨e1, q | q | q | q | q | q⟩ | ⟨e1, q0, q1, q2, q3, q4, q5⟩
        · exact absurd (by decide) (own_bdn q).1
        · exact Or.inl ⟨e1, own_AHm0 (by decide) (own_bdn q).2.2⟩
        · exact absurd (own_bdn q).2.1 (by decide)
        · exact absurd (own_bdn q).2.1 (by decide)
        · exact absurd (own_bdn q).2.1 (by decide)
        · exact absurd (own_bdn q).2.1 (by decide)
        · exact Or.inr ⟨e1, fun _ => own_bdz (by decide) (by decide) q1, fun h => absurd h (by decide), fun h => absurd h (by decide), fun h => absurd h (by decide), fun h => absurd h (by decide), fun h => absurd h (by decide)⟩
      exact own_tM hw Bd hx hby hml hown hZ Xn en Nn Z0 Kq S_cs S_f tV_b2 new_b2 sz_b2 hcs hfv hCH0 u_y1 (show ¬ (127 : Int32) < (0 : Int32) by decide) (show ¬ (127 : Int32) < (0 : Int32) by decide) (show ¬ (127 : Int32) < (0 : Int32) by decide) (show ¬ (127 : Int32) < (0 : Int32) by decide) (show ¬ (127 : Int32) < (0 : Int32) by decide) hng (by decide) (by decide) (by decide) (fun _ => ⟨by decide, by decide, rfl⟩) (fun h => absurd h (by decide)) (fun h => absurd h (by decide)) (fun h => absurd h (by decide)) (fun h => absurd h (by decide)) (fun h => absurd h (by decide)) (by decide) (fun _ => ⟨by decide, by decide, rfl⟩) (by decide) (fun h => absurd h (by decide)) (by decide) (fun h => absurd h (by decide)) (by decide) (fun h => absurd h (by decide)) (by decide) (fun h => absurd h (by decide)) (by decide) (fun h => absurd h (by decide)) (by decide)
    · refine own_go (b := Tq.setTop (mkF m 108 #[iv p0, iv p1, iv p2, iv (if (p2 &&& (65536 : Int32)) = (0 : Int32) then (255 : Int32) else (127 : Int32)), rv b2, iv 1, iv 2, .unset, .unset, .unset, .unset, .unset, .unset, .unset] [])) (fun t k => xistore Xq hx hby rfl at_106 rfl (l' := #[iv p0, iv p1, iv p2, iv (if (p2 &&& (65536 : Int32)) = (0 : Int32) then (255 : Int32) else (127 : Int32)), rv b2, iv 1, iv 2, .unset, .unset, .unset, .unset, .unset, .unset, .unset]) rfl k) ?_
      refine own_tE hw Bd hx hby hml hown hZ Xq eq0 Nq Z0 Kq tV_b2 new_b2 sz_b2 (fun Tn Ln ng Xn en Nn hg => ?_)
      have hng : (ng = (1 : Int32) ∧ own_AH (2 : Int32) y1 y2 (0 : Int32) (0 : Int32) (0 : Int32) (0 : Int32) = (-1 : Int64)) ∨ (ng = (0 : Int32) ∧ ((0 : Int32) < (2 : Int32) → ¬ y1 < (0 : Int32)) ∧ ((1 : Int32) < (2 : Int32) → ¬ y2 < (0 : Int32)) ∧ ((2 : Int32) < (2 : Int32) → ¬ (0 : Int32) < (0 : Int32)) ∧ ((3 : Int32) < (2 : Int32) → ¬ (0 : Int32) < (0 : Int32)) ∧ ((4 : Int32) < (2 : Int32) → ¬ (0 : Int32) < (0 : Int32)) ∧ ((5 : Int32) < (2 : Int32) → ¬ (0 : Int32) < (0 : Int32))) := by
        rcases hg with ⟨e1, q | q | q | q | q | q⟩ | ⟨e1, q0, q1, q2, q3, q4, q5⟩
        · exact absurd (by decide) (own_bdn q).1
        · exact Or.inl ⟨e1, own_AHm0 (by decide) (own_bdn q).2.2⟩
        · exact Or.inl ⟨e1, own_AHm1 (by decide) (by decide) (own_bdn q).2.2⟩
        · exact absurd (own_bdn q).2.1 (by decide)
        · exact absurd (own_bdn q).2.1 (by decide)
        · exact absurd (own_bdn q).2.1 (by decide)
        · exact Or.inr ⟨e1, fun _ => own_bdz (by decide) (by decide) q1, fun _ => own_bdz (by decide) (by decide) q2, fun h => absurd h (by decide), fun h => absurd h (by decide), fun h => absurd h (by decide), fun h => absurd h (by decide)⟩
      exact own_tM hw Bd hx hby hml hown hZ Xn en Nn Z0 Kq S_cs S_f tV_b2 new_b2 sz_b2 hcs hfv hCH0 u_y1 u_y2 (show ¬ (127 : Int32) < (0 : Int32) by decide) (show ¬ (127 : Int32) < (0 : Int32) by decide) (show ¬ (127 : Int32) < (0 : Int32) by decide) (show ¬ (127 : Int32) < (0 : Int32) by decide) hng (by decide) (by decide) (by decide) (fun _ => ⟨by decide, by decide, rfl⟩) (fun _ => ⟨by decide, by decide, rfl⟩) (fun h => absurd h (by decide)) (fun h => absurd h (by decide)) (fun h => absurd h (by decide)) (fun h => absurd h (by decide)) (by decide) (fun _ => ⟨by decide, by decide, rfl⟩) (by decide) (fun _ => ⟨by decide, by decide, rfl⟩) (by decide) (fun h => absurd h (by decide)) (by decide) (fun h => absurd h (by decide)) (by decide) (fun h => absurd h (by decide)) (by decide) (fun h => absurd h (by decide)) (by decide)
    · refine own_go (b := Tq.setTop (mkF m 108 #[iv p0, iv p1, iv p2, iv (if (p2 &&& (65536 : Int32)) = (0 : Int32) then (255 : Int32) else (127 : Int32)), rv b2, iv 1, iv 3, .unset, .unset, .unset, .unset, .unset, .unset, .unset] [])) (fun t k => xistore Xq hx hby rfl at_106 rfl (l' := #[iv p0, iv p1, iv p2, iv (if (p2 &&& (65536 : Int32)) = (0 : Int32) then (255 : Int32) else (127 : Int32)), rv b2, iv 1, iv 3, .unset, .unset, .unset, .unset, .unset, .unset, .unset]) rfl k) ?_
      refine own_tE hw Bd hx hby hml hown hZ Xq eq0 Nq Z0 Kq tV_b2 new_b2 sz_b2 (fun Tn Ln ng Xn en Nn hg => ?_)
      have hng : (ng = (1 : Int32) ∧ own_AH (3 : Int32) y1 y2 y3 (0 : Int32) (0 : Int32) (0 : Int32) = (-1 : Int64)) ∨ (ng = (0 : Int32) ∧ ((0 : Int32) < (3 : Int32) → ¬ y1 < (0 : Int32)) ∧ ((1 : Int32) < (3 : Int32) → ¬ y2 < (0 : Int32)) ∧ ((2 : Int32) < (3 : Int32) → ¬ y3 < (0 : Int32)) ∧ ((3 : Int32) < (3 : Int32) → ¬ (0 : Int32) < (0 : Int32)) ∧ ((4 : Int32) < (3 : Int32) → ¬ (0 : Int32) < (0 : Int32)) ∧ ((5 : Int32) < (3 : Int32) → ¬ (0 : Int32) < (0 : Int32))) := by
        rcases hg with ⟨e1, q | q | q | q | q | q⟩ | ⟨e1, q0, q1, q2, q3, q4, q5⟩
        · exact absurd (by decide) (own_bdn q).1
        · exact Or.inl ⟨e1, own_AHm0 (by decide) (own_bdn q).2.2⟩
        · exact Or.inl ⟨e1, own_AHm1 (by decide) (by decide) (own_bdn q).2.2⟩
        · exact Or.inl ⟨e1, own_AHm2 (by decide) (by decide) (by decide) (own_bdn q).2.2⟩
        · exact absurd (own_bdn q).2.1 (by decide)
        · exact absurd (own_bdn q).2.1 (by decide)
        · exact Or.inr ⟨e1, fun _ => own_bdz (by decide) (by decide) q1, fun _ => own_bdz (by decide) (by decide) q2, fun _ => own_bdz (by decide) (by decide) q3, fun h => absurd h (by decide), fun h => absurd h (by decide), fun h => absurd h (by decide)⟩
      exact own_tM hw Bd hx hby hml hown hZ Xn en Nn Z0 Kq S_cs S_f tV_b2 new_b2 sz_b2 hcs hfv hCH0 u_y1 u_y2 u_y3 (show ¬ (127 : Int32) < (0 : Int32) by decide) (show ¬ (127 : Int32) < (0 : Int32) by decide) (show ¬ (127 : Int32) < (0 : Int32) by decide) hng (by decide) (by decide) (by decide) (fun _ => ⟨by decide, by decide, rfl⟩) (fun _ => ⟨by decide, by decide, rfl⟩) (fun _ => ⟨by decide, by decide, rfl⟩) (fun h => absurd h (by decide)) (fun h => absurd h (by decide)) (fun h => absurd h (by decide)) (by decide) (fun _ => ⟨by decide, by decide, rfl⟩) (by decide) (fun _ => ⟨by decide, by decide, rfl⟩) (by decide) (fun _ => ⟨by decide, by decide, rfl⟩) (by decide) (fun h => absurd h (by decide)) (by decide) (fun h => absurd h (by decide)) (by decide) (fun h => absurd h (by decide)) (by decide)
    · refine own_go (b := Tq.setTop (mkF m 108 #[iv p0, iv p1, iv p2, iv (if (p2 &&& (65536 : Int32)) = (0 : Int32) then (255 : Int32) else (127 : Int32)), rv b2, iv 1, iv 4, .unset, .unset, .unset, .unset, .unset, .unset, .unset] [])) (fun t k => xistore Xq hx hby rfl at_106 rfl (l' := #[iv p0, iv p1, iv p2, iv (if (p2 &&& (65536 : Int32)) = (0 : Int32) then (255 : Int32) else (127 : Int32)), rv b2, iv 1, iv 4, .unset, .unset, .unset, .unset, .unset, .unset, .unset]) rfl k) ?_
      refine own_tE hw Bd hx hby hml hown hZ Xq eq0 Nq Z0 Kq tV_b2 new_b2 sz_b2 (fun Tn Ln ng Xn en Nn hg => ?_)
      have hng : (ng = (1 : Int32) ∧ own_AH (4 : Int32) y1 y2 y3 y4 (0 : Int32) (0 : Int32) = (-1 : Int64)) ∨ (ng = (0 : Int32) ∧ ((0 : Int32) < (4 : Int32) → ¬ y1 < (0 : Int32)) ∧ ((1 : Int32) < (4 : Int32) → ¬ y2 < (0 : Int32)) ∧ ((2 : Int32) < (4 : Int32) → ¬ y3 < (0 : Int32)) ∧ ((3 : Int32) < (4 : Int32) → ¬ y4 < (0 : Int32)) ∧ ((4 : Int32) < (4 : Int32) → ¬ (0 : Int32) < (0 : Int32)) ∧ ((5 : Int32) < (4 : Int32) → ¬ (0 : Int32) < (0 : Int32))) := by
        rcases hg with ⟨e1, q | q | q | q | q | q⟩ | ⟨e1, q0, q1, q2, q3, q4, q5⟩
        · exact absurd (by decide) (own_bdn q).1
        · exact Or.inl ⟨e1, own_AHm0 (by decide) (own_bdn q).2.2⟩
        · exact Or.inl ⟨e1, own_AHm1 (by decide) (by decide) (own_bdn q).2.2⟩
        · exact Or.inl ⟨e1, own_AHm2 (by decide) (by decide) (by decide) (own_bdn q).2.2⟩
        · exact Or.inl ⟨e1, own_AHm3 (by decide) (by decide) (by decide) (by decide) (own_bdn q).2.2⟩
        · exact absurd (own_bdn q).2.1 (by decide)
        · exact Or.inr ⟨e1, fun _ => own_bdz (by decide) (by decide) q1, fun _ => own_bdz (by decide) (by decide) q2, fun _ => own_bdz (by decide) (by decide) q3, fun _ => own_bdz (by decide) (by decide) q4, fun h => absurd h (by decide), fun h => absurd h (by decide)⟩
      exact own_tM hw Bd hx hby hml hown hZ Xn en Nn Z0 Kq S_cs S_f tV_b2 new_b2 sz_b2 hcs hfv hCH0 u_y1 u_y2 u_y3 u_y4 (show ¬ (127 : Int32) < (0 : Int32) by decide) (show ¬ (127 : Int32) < (0 : Int32) by decide) hng (by decide) (by decide) (by decide) (fun _ => ⟨by decide, by decide, rfl⟩) (fun _ => ⟨by decide, by decide, rfl⟩) (fun _ => ⟨by decide, by decide, rfl⟩) (fun _ => ⟨by decide, by decide, rfl⟩) (fun h => absurd h (by decide)) (fun h => absurd h (by decide)) (by decide) (fun _ => ⟨by decide, by decide, rfl⟩) (by decide) (fun _ => ⟨by decide, by decide, rfl⟩) (by decide) (fun _ => ⟨by decide, by decide, rfl⟩) (by decide) (fun _ => ⟨by decide, by decide, rfl⟩) (by decide) (fun h => absurd h (by decide)) (by decide) (fun h => absurd h (by decide)) (by decide)
    · refine own_go (b := Tq.setTop (mkF m 108 #[iv p0, iv p1, iv p2, iv (if (p2 &&& (65536 : Int32)) = (0 : Int32) then (255 : Int32) else (127 : Int32)), rv b2, iv 1, iv 5, .unset, .unset, .unset, .unset, .unset, .unset, .unset] [])) (fun t k => xistore Xq hx hby rfl at_106 rfl (l' := #[iv p0, iv p1, iv p2, iv (if (p2 &&& (65536 : Int32)) = (0 : Int32) then (255 : Int32) else (127 : Int32)), rv b2, iv 1, iv 5, .unset, .unset, .unset, .unset, .unset, .unset, .unset]) rfl k) ?_
      refine own_tE hw Bd hx hby hml hown hZ Xq eq0 Nq Z0 Kq tV_b2 new_b2 sz_b2 (fun Tn Ln ng Xn en Nn hg => ?_)
      have hng : (ng = (1 : Int32) ∧ own_AH (5 : Int32) y1 y2 y3 y4 y5 (0 : Int32) = (-1 : Int64)) ∨ (ng = (0 : Int32) ∧ ((0 : Int32) < (5 : Int32) → ¬ y1 < (0 : Int32)) ∧ ((1 : Int32) < (5 : Int32) → ¬ y2 < (0 : Int32)) ∧ ((2 : Int32) < (5 : Int32) → ¬ y3 < (0 : Int32)) ∧ ((3 : Int32) < (5 : Int32) → ¬ y4 < (0 : Int32)) ∧ ((4 : Int32) < (5 : Int32) → ¬ y5 < (0 : Int32)) ∧ ((5 : Int32) < (5 : Int32) → ¬ (0 : Int32) < (0 : Int32))) := by
        rcases hg with ⟨e1, q | q | q | q | q | q⟩ | ⟨e1, q0, q1, q2, q3, q4, q5⟩
        · exact absurd (by decide) (own_bdn q).1
        · exact Or.inl ⟨e1, own_AHm0 (by decide) (own_bdn q).2.2⟩
        · exact Or.inl ⟨e1, own_AHm1 (by decide) (by decide) (own_bdn q).2.2⟩
        · exact Or.inl ⟨e1, own_AHm2 (by decide) (by decide) (by decide) (own_bdn q).2.2⟩
        · exact Or.inl ⟨e1, own_AHm3 (by decide) (by decide) (by decide) (by decide) (own_bdn q).2.2⟩
        · exact Or.inl ⟨e1, own_AHm4 (by decide) (by decide) (by decide) (by decide) (by decide) (own_bdn q).2.2⟩
        · exact Or.inr ⟨e1, fun _ => own_bdz (by decide) (by decide) q1, fun _ => own_bdz (by decide) (by decide) q2, fun _ => own_bdz (by decide) (by decide) q3, fun _ => own_bdz (by decide) (by decide) q4, fun _ => own_bdz (by decide) (by decide) q5, fun h => absurd h (by decide)⟩
      exact own_tM hw Bd hx hby hml hown hZ Xn en Nn Z0 Kq S_cs S_f tV_b2 new_b2 sz_b2 hcs hfv hCH0 u_y1 u_y2 u_y3 u_y4 u_y5 (show ¬ (127 : Int32) < (0 : Int32) by decide) hng (by decide) (by decide) (by decide) (fun _ => ⟨by decide, by decide, rfl⟩) (fun _ => ⟨by decide, by decide, rfl⟩) (fun _ => ⟨by decide, by decide, rfl⟩) (fun _ => ⟨by decide, by decide, rfl⟩) (fun _ => ⟨by decide, by decide, rfl⟩) (fun h => absurd h (by decide)) (by decide) (fun _ => ⟨by decide, by decide, rfl⟩) (by decide) (fun _ => ⟨by decide, by decide, rfl⟩) (by decide) (fun _ => ⟨by decide, by decide, rfl⟩) (by decide) (fun _ => ⟨by decide, by decide, rfl⟩) (by decide) (fun _ => ⟨by decide, by decide, rfl⟩) (by decide) (fun h => absurd h (by decide)) (by decide)
  · refine own_go (b := Tq.setTop (mkF m 106 #[iv p0, iv p1, iv p2, iv (if (p2 &&& (65536 : Int32)) = (0 : Int32) then (255 : Int32) else (127 : Int32)), rv b2, iv 2, .unset, .unset, .unset, .unset, .unset, .unset, .unset, .unset] [(.int ((((p2.toUInt32 >>> ((8 : Int32) &&& 31).toUInt32).toInt32) &&& (255 : Int32)) - ((((p2.toUInt32 >>> ((8 : Int32) &&& 31).toUInt32).toInt32) &&& (255 : Int32)) / (5 : Int32)) * (5 : Int32)))])) (fun t k => xistore Xq hx hby rfl at_90 rfl (l' := #[iv p0, iv p1, iv p2, iv (if (p2 &&& (65536 : Int32)) = (0 : Int32) then (255 : Int32) else (127 : Int32)), rv b2, iv 2, .unset, .unset, .unset, .unset, .unset, .unset, .unset, .unset]) rfl (xiloadN Xq hx hby rfl at_92 rfl (xbipush Xq hx hby rfl at_93 (show Steps p.tables e below (Tq.setTop (mkF m 95 #[iv p0, iv p1, iv p2, iv (if (p2 &&& (65536 : Int32)) = (0 : Int32) then (255 : Int32) else (127 : Int32)), rv b2, iv 2, .unset, .unset, .unset, .unset, .unset, .unset, .unset, .unset] [.int 8, .int p2])) _ from XS.iushr Xq.here hx rfl (hb hby at_95) rfl (xsipush Xq hx hby rfl at_96 (show Steps p.tables e below (Tq.setTop (mkF m 99 #[iv p0, iv p1, iv p2, iv (if (p2 &&& (65536 : Int32)) = (0 : Int32) then (255 : Int32) else (127 : Int32)), rv b2, iv 2, .unset, .unset, .unset, .unset, .unset, .unset, .unset, .unset] [.int 255, (.int ((p2.toUInt32 >>> ((8 : Int32) &&& 31).toUInt32).toInt32))])) _ from xiand Xq hx hby rfl at_99 rfl (xbipush Xq hx hby rfl at_100 (xiload Xq hx hby rfl at_102 rfl (show Steps p.tables e below (Tq.setTop (mkF m 104 #[iv p0, iv p1, iv p2, iv (if (p2 &&& (65536 : Int32)) = (0 : Int32) then (255 : Int32) else (127 : Int32)), rv b2, iv 2, .unset, .unset, .unset, .unset, .unset, .unset, .unset, .unset] [.int 2, .int 7, (.int (((p2.toUInt32 >>> ((8 : Int32) &&& 31).toUInt32).toInt32) &&& (255 : Int32)))])) _ from xisub Xq hx hby rfl at_104 rfl (xirem Xq hx hby rfl at_105 rfl (by decide) k)))))))))) ?_
    have hm_n := own_modm5 ((p2.toUInt32 >>> ((8 : Int32) &&& 31).toUInt32).toInt32)
    generalize ((((p2.toUInt32 >>> ((8 : Int32) &&& 31).toUInt32).toInt32) &&& (255 : Int32)) - ((((p2.toUInt32 >>> ((8 : Int32) &&& 31).toUInt32).toInt32) &&& (255 : Int32)) / (5 : Int32)) * (5 : Int32)) = v_n at hm_n ⊢
    rcases hm_n with rfl | rfl | rfl | rfl | rfl
    · refine own_go (b := Tq.setTop (mkF m 108 #[iv p0, iv p1, iv p2, iv (if (p2 &&& (65536 : Int32)) = (0 : Int32) then (255 : Int32) else (127 : Int32)), rv b2, iv 2, iv 0, .unset, .unset, .unset, .unset, .unset, .unset, .unset] [])) (fun t k => xistore Xq hx hby rfl at_106 rfl (l' := #[iv p0, iv p1, iv p2, iv (if (p2 &&& (65536 : Int32)) = (0 : Int32) then (255 : Int32) else (127 : Int32)), rv b2, iv 2, iv 0, .unset, .unset, .unset, .unset, .unset, .unset, .unset]) rfl k) ?_
      refine own_tE hw Bd hx hby hml hown hZ Xq eq0 Nq Z0 Kq tV_b2 new_b2 sz_b2 (fun Tn Ln ng Xn en Nn hg => ?_)
      have hng : (ng = (1 : Int32) ∧ own_AH (0 : Int32) (0 : Int32) (0 : Int32) (0 : Int32) (0 : Int32) (0 : Int32) (0 : Int32) = (-1 : Int64)) ∨ (ng = (0 : Int32) ∧ ((0 : Int32) < (0 : Int32) → ¬ (0 : Int32) < (0 : Int32)) ∧ ((1 : Int32) < (0 : Int32) → ¬ (0 : Int32) < (0 : Int32)) ∧ ((2 : Int32) < (0 : Int32) → ¬ (0 : Int32) < (0 : Int32)) ∧ ((3 : Int32) < (0 : Int32) → ¬ (0 : Int32) < (0 : Int32)) ∧ ((4 : Int32) < (0 : Int32) → ¬ (0 : Int32) < (0 : Int32)) ∧ ((5 : Int32) < (0 : Int32) → ¬ (0 : Int32) < (0 : Int32))) := by
        rcases hg with ⟨e1, q | q | q | q | q | q⟩ | ⟨e1, q0, q1, q2, q3, q4, q5⟩
        · exact absurd (by decide) (own_bdn q).1
        · exact absurd (by decide) (own_bdn q).1
        · exact absurd (own_bdn q).2.1 (by decide)
        · exact absurd (own_bdn q).2.1 (by decide)
        · exact absurd (own_bdn q).2.1 (by decide)
        · exact absurd (own_bdn q).2.1 (by decide)
        · exact Or.inr ⟨e1, fun h => absurd h (by decide), fun h => absurd h (by decide), fun h => absurd h (by decide), fun h => absurd h (by decide), fun h => absurd h (by decide), fun h => absurd h (by decide)⟩
      exact own_tM hw Bd hx hby hml hown hZ Xn en Nn Z0 Kq S_cs S_f tV_b2 new_b2 sz_b2 hcs hfv hCH0 (show ¬ (127 : Int32) < (0 : Int32) by decide) (show ¬ (127 : Int32) < (0 : Int32) by decide) (show ¬ (127 : Int32) < (0 : Int32) by decide) (show ¬ (127 : Int32) < (0 : Int32) by decide) (show ¬ (127 : Int32) < (0 : Int32) by decide) (show ¬ (127 : Int32) < (0 : Int32) by decide) hng (by decide) (by decide) (by decide) (fun h => absurd h (by decide)) (fun h => absurd h (by decide)) (fun h => absurd h (by decide)) (fun h => absurd h (by decide)) (fun h => absurd h (by decide)) (fun h => absurd h (by decide)) (by decide) (fun h => absurd h (by decide)) (by decide) (fun h => absurd h (by decide)) (by decide) (fun h => absurd h (by decide)) (by decide) (fun h => absurd h (by decide)) (by decide) (fun h => absurd h (by decide)) (by decide) (fun h => absurd h (by decide)) (by decide)
    · refine own_go (b := Tq.setTop (mkF m 108 #[iv p0, iv p1, iv p2, iv (if (p2 &&& (65536 : Int32)) = (0 : Int32) then (255 : Int32) else (127 : Int32)), rv b2, iv 2, iv 1, .unset, .unset, .unset, .unset, .unset, .unset, .unset] [])) (fun t k => xistore Xq hx hby rfl at_106 rfl (l' := #[iv p0, iv p1, iv p2, iv (if (p2 &&& (65536 : Int32)) = (0 : Int32) then (255 : Int32) else (127 : Int32)), rv b2, iv 2, iv 1, .unset, .unset, .unset, .unset, .unset, .unset, .unset]) rfl k) ?_
      refine own_tE hw Bd hx hby hml hown hZ Xq eq0 Nq Z0 Kq tV_b2 new_b2 sz_b2 (fun Tn Ln ng Xn en Nn hg => ?_)
      have hng : (ng = (1 : Int32) ∧ own_AH (1 : Int32) y2 (0 : Int32) (0 : Int32) (0 : Int32) (0 : Int32) (0 : Int32) = (-1 : Int64)) ∨ (ng = (0 : Int32) ∧ ((0 : Int32) < (1 : Int32) → ¬ y2 < (0 : Int32)) ∧ ((1 : Int32) < (1 : Int32) → ¬ (0 : Int32) < (0 : Int32)) ∧ ((2 : Int32) < (1 : Int32) → ¬ (0 : Int32) < (0 : Int32)) ∧ ((3 : Int32) < (1 : Int32) → ¬ (0 : Int32) < (0 : Int32)) ∧ ((4 : Int32) < (1 : Int32) → ¬ (0 : Int32) < (0 : Int32)) ∧ ((5 : Int32) < (1 : Int32) → ¬ (0 : Int32) < (0 : Int32))) := by
        rcases hg with ⟨e1, q | q | q | q | q | q⟩ | ⟨e1, q0, q1, q2, q3, q4, q5⟩
        · exact absurd (by decide) (own_bdn q).1
        · exact absurd (by decide) (own_bdn q).1
        · exact Or.inl ⟨e1, own_AHm0 (by decide) (own_bdn q).2.2⟩
        · exact absurd (own_bdn q).2.1 (by decide)
        · exact absurd (own_bdn q).2.1 (by decide)
        · exact absurd (own_bdn q).2.1 (by decide)
        · exact Or.inr ⟨e1, fun _ => own_bdz (by decide) (by decide) q2, fun h => absurd h (by decide), fun h => absurd h (by decide), fun h => absurd h (by decide), fun h => absurd h (by decide), fun h => absurd h (by decide)⟩
      exact own_tM hw Bd hx hby hml hown hZ Xn en Nn Z0 Kq S_cs S_f tV_b2 new_b2 sz_b2 hcs hfv hCH0 u_y2 (show ¬ (127 : Int32) < (0 : Int32) by decide) (show ¬ (127 : Int32) < (0 : Int32) by decide) (show ¬ (127 : Int32) < (0 : Int32) by decide) (show ¬ (127 : Int32) < (0 : Int32) by decide) (show ¬ (127 : Int32) < (0 : Int32) by decide) hng (by decide) (by decide) (by decide) (fun _ => ⟨by decide, by decide, rfl⟩) (fun h => absurd h (by decide)) (fun h => absurd h (by decide)) (fun h => absurd h (by decide)) (fun h => absurd h (by decide)) (fun h => absurd h (by decide)) (by decide) (fun _ => ⟨by decide, by decide, rfl⟩) (by decide) (fun h => absurd h (by decide)) (by decide) (fun h => absurd h (by decide)) (by decide) (fun h => absurd h (by decide)) (by decide) (fun h => absurd h (by decide)) (by decide) (fun h => absurd h (by decide)) (by decide)
    · refine own_go (b := Tq.setTop (mkF m 108 #[iv p0, iv p1, iv p2, iv (if (p2 &&& (65536 : Int32)) = (0 : Int32) then (255 : Int32) else (127 : Int32)), rv b2, iv 2, iv 2, .unset, .unset, .unset, .unset, .unset, .unset, .unset] [])) (fun t k => xistore Xq hx hby rfl at_106 rfl (l' := #[iv p0, iv p1, iv p2, iv (if (p2 &&& (65536 : Int32)) = (0 : Int32) then (255 : Int32) else (127 : Int32)), rv b2, iv 2, iv 2, .unset, .unset, .unset, .unset, .unset, .unset, .unset]) rfl k) ?_
      refine own_tE hw Bd hx hby hml hown hZ Xq eq0 Nq Z0 Kq tV_b2 new_b2 sz_b2 (fun Tn Ln ng Xn en Nn hg => ?_)
      have hng : (ng = (1 : Int32) ∧ own_AH (2 : Int32) y2 y3 (0 : Int32) (0 : Int32) (0 : Int32) (0 : Int32) = (-1 : Int64)) ∨ (ng = (0 : Int32) ∧ ((0 : Int32) < (2 : Int32) → ¬ y2 < (0 : Int32)) ∧ ((1 : Int32) < (2 : Int32) → ¬ y3 < (0 : Int32)) ∧ ((2 : Int32) < (2 : Int32) → ¬ (0 : Int32) < (0 : Int32)) ∧ ((3 : Int32) < (2 : Int32) → ¬ (0 : Int32) < (0 : Int32)) ∧ ((4 : Int32) < (2 : Int32) → ¬ (0 : Int32) < (0 : Int32)) ∧ ((5 : Int32) < (2 : Int32) → ¬ (0 : Int32) < (0 : Int32))) := by
        rcases hg with ⟨e1, q | q | q | q | q | q⟩ | ⟨e1, q0, q1, q2, q3, q4, q5⟩
        · exact absurd (by decide) (own_bdn q).1
        · exact absurd (by decide) (own_bdn q).1
        · exact Or.inl ⟨e1, own_AHm0 (by decide) (own_bdn q).2.2⟩
        · exact Or.inl ⟨e1, own_AHm1 (by decide) (by decide) (own_bdn q).2.2⟩
        · exact absurd (own_bdn q).2.1 (by decide)
        · exact absurd (own_bdn q).2.1 (by decide)
        · exact Or.inr ⟨e1, fun _ => own_bdz (by decide) (by decide) q2, fun _ => own_bdz (by decide) (by decide) q3, fun h => absurd h (by decide), fun h => absurd h (by decide), fun h => absurd h (by decide), fun h => absurd h (by decide)⟩
      exact own_tM hw Bd hx hby hml hown hZ Xn en Nn Z0 Kq S_cs S_f tV_b2 new_b2 sz_b2 hcs hfv hCH0 u_y2 u_y3 (show ¬ (127 : Int32) < (0 : Int32) by decide) (show ¬ (127 : Int32) < (0 : Int32) by decide) (show ¬ (127 : Int32) < (0 : Int32) by decide) (show ¬ (127 : Int32) < (0 : Int32) by decide) hng (by decide) (by decide) (by decide) (fun _ => ⟨by decide, by decide, rfl⟩) (fun _ => ⟨by decide, by decide, rfl⟩) (fun h => absurd h (by decide)) (fun h => absurd h (by decide)) (fun h => absurd h (by decide)) (fun h => absurd h (by decide)) (by decide) (fun _ => ⟨by decide, by decide, rfl⟩) (by decide) (fun _ => ⟨by decide, by decide, rfl⟩) (by decide) (fun h => absurd h (by decide)) (by decide) (fun h => absurd h (by decide)) (by decide) (fun h => absurd h (by decide)) (by decide) (fun h => absurd h (by decide)) (by decide)
    · refine own_go (b := Tq.setTop (mkF m 108 #[iv p0, iv p1, iv p2, iv (if (p2 &&& (65536 : Int32)) = (0 : Int32) then (255 : Int32) else (127 : Int32)), rv b2, iv 2, iv 3, .unset, .unset, .unset, .unset, .unset, .unset, .unset] [])) (fun t k => xistore Xq hx hby rfl at_106 rfl (l' := #[iv p0, iv p1, iv p2, iv (if (p2 &&& (65536 : Int32)) = (0 : Int32) then (255 : Int32) else (127 : Int32)), rv b2, iv 2, iv 3, .unset, .unset, .unset, .unset, .unset, .unset, .unset]) rfl k) ?_
      refine own_tE hw Bd hx hby hml hown hZ Xq eq0 Nq Z0 Kq tV_b2 new_b2 sz_b2 (fun Tn Ln ng Xn en Nn hg => ?_)
      have hng : (ng = (1 : Int32) ∧ own_AH (3 : Int32) y2 y3 y4 (0 : Int32) (0 : Int32) (0 : Int32) = (-1 : Int64)) ∨ (ng = (0 : Int32) ∧ ((0 : Int32) < (3 : Int32) → ¬ y2 < (0 : Int32)) ∧ ((1 : Int32) < (3 : Int32) → ¬ y3 < (0 : Int32)) ∧ ((2 : Int32) < (3 : Int32) → ¬ y4 < (0 : Int32)) ∧ ((3 : Int32) < (3 : Int32) → ¬ (0 : Int32) < (0 : Int32)) ∧ ((4 : Int32) < (3 : Int32) → ¬ (0 : Int32) < (0 : Int32)) ∧ ((5 : Int32) < (3 : Int32) → ¬ (0 : Int32) < (0 : Int32))) := by
        rcases hg with ⟨e1, q | q | q | q | q | q⟩ | ⟨e1, q0, q1, q2, q3, q4, q5⟩
        · exact absurd (by decide) (own_bdn q).1
        · exact absurd (by decide) (own_bdn q).1
        · exact Or.inl ⟨e1, own_AHm0 (by decide) (own_bdn q).2.2⟩
        · exact Or.inl ⟨e1, own_AHm1 (by decide) (by decide) (own_bdn q).2.2⟩
        · exact Or.inl ⟨e1, own_AHm2 (by decide) (by decide) (by decide) (own_bdn q).2.2⟩
        · exact absurd (own_bdn q).2.1 (by decide)
        · exact Or.inr ⟨e1, fun _ => own_bdz (by decide) (by decide) q2, fun _ => own_bdz (by decide) (by decide) q3, fun _ => own_bdz (by decide) (by decide) q4, fun h => absurd h (by decide), fun h => absurd h (by decide), fun h => absurd h (by decide)⟩
      exact own_tM hw Bd hx hby hml hown hZ Xn en Nn Z0 Kq S_cs S_f tV_b2 new_b2 sz_b2 hcs hfv hCH0 u_y2 u_y3 u_y4 (show ¬ (127 : Int32) < (0 : Int32) by decide) (show ¬ (127 : Int32) < (0 : Int32) by decide) (show ¬ (127 : Int32) < (0 : Int32) by decide) hng (by decide) (by decide) (by decide) (fun _ => ⟨by decide, by decide, rfl⟩) (fun _ => ⟨by decide, by decide, rfl⟩) (fun _ => ⟨by decide, by decide, rfl⟩) (fun h => absurd h (by decide)) (fun h => absurd h (by decide)) (fun h => absurd h (by decide)) (by decide) (fun _ => ⟨by decide, by decide, rfl⟩) (by decide) (fun _ => ⟨by decide, by decide, rfl⟩) (by decide) (fun _ => ⟨by decide, by decide, rfl⟩) (by decide) (fun h => absurd h (by decide)) (by decide) (fun h => absurd h (by decide)) (by decide) (fun h => absurd h (by decide)) (by decide)
    · refine own_go (b := Tq.setTop (mkF m 108 #[iv p0, iv p1, iv p2, iv (if (p2 &&& (65536 : Int32)) = (0 : Int32) then (255 : Int32) else (127 : Int32)), rv b2, iv 2, iv 4, .unset, .unset, .unset, .unset, .unset, .unset, .unset] [])) (fun t k => xistore Xq hx hby rfl at_106 rfl (l' := #[iv p0, iv p1, iv p2, iv (if (p2 &&& (65536 : Int32)) = (0 : Int32) then (255 : Int32) else (127 : Int32)), rv b2, iv 2, iv 4, .unset, .unset, .unset, .unset, .unset, .unset, .unset]) rfl k) ?_
      refine own_tE hw Bd hx hby hml hown hZ Xq eq0 Nq Z0 Kq tV_b2 new_b2 sz_b2 (fun Tn Ln ng Xn en Nn hg => ?_)
      have hng : (ng = (1 : Int32) ∧ own_AH (4 : Int32) y2 y3 y4 y5 (0 : Int32) (0 : Int32) = (-1 : Int64)) ∨ (ng = (0 : Int32) ∧ ((0 : Int32) < (4 : Int32) → ¬ y2 < (0 : Int32)) ∧ ((1 : Int32) < (4 : Int32) → ¬ y3 < (0 : Int32)) ∧ ((2 : Int32) < (4 : Int32) → ¬ y4 < (0 : Int32)) ∧ ((3 : Int32) < (4 : Int32) → ¬ y5 < (0 : Int32)) ∧ ((4 : Int32) < (4 : Int32) → ¬ (0 : Int32) < (0 : Int32)) ∧ ((5 : Int32) < (4 : Int32) → ¬ (0 : Int32) < (0 : Int32))) := by
        rcases hg with ⟨e1, q | q | q | q | q | q⟩ | ⟨e1, q0, q1, q2, q3, q4, q5⟩
        · exact absurd (by decide) (own_bdn q).1
        · exact absurd (by decide) (own_bdn q).1
        · exact Or.inl ⟨e1, own_AHm0 (by decide) (own_bdn q).2.2⟩
        · exact Or.inl ⟨e1, own_AHm1 (by decide) (by decide) (own_bdn q).2.2⟩
        · exact Or.inl ⟨e1, own_AHm2 (by decide) (by decide) (by decide) (own_bdn q).2.2⟩
        · exact Or.inl ⟨e1, own_AHm3 (by decide) (by decide) (by decide) (by decide) (own_bdn q).2.2⟩
        · exact Or.inr ⟨e1, fun _ => own_bdz (by decide) (by decide) q2, fun _ => own_bdz (by decide) (by decide) q3, fun _ => own_bdz (by decide) (by decide) q4, fun _ => own_bdz (by decide) (by decide) q5, fun h => absurd h (by decide), fun h => absurd h (by decide)⟩
      exact own_tM hw Bd hx hby hml hown hZ Xn en Nn Z0 Kq S_cs S_f tV_b2 new_b2 sz_b2 hcs hfv hCH0 u_y2 u_y3 u_y4 u_y5 (show ¬ (127 : Int32) < (0 : Int32) by decide) (show ¬ (127 : Int32) < (0 : Int32) by decide) hng (by decide) (by decide) (by decide) (fun _ => ⟨by decide, by decide, rfl⟩) (fun _ => ⟨by decide, by decide, rfl⟩) (fun _ => ⟨by decide, by decide, rfl⟩) (fun _ => ⟨by decide, by decide, rfl⟩) (fun h => absurd h (by decide)) (fun h => absurd h (by decide)) (by decide) (fun _ => ⟨by decide, by decide, rfl⟩) (by decide) (fun _ => ⟨by decide, by decide, rfl⟩) (by decide) (fun _ => ⟨by decide, by decide, rfl⟩) (by decide) (fun _ => ⟨by decide, by decide, rfl⟩) (by decide) (fun h => absurd h (by decide)) (by decide) (fun h => absurd h (by decide)) (by decide)
  · refine own_go (b := Tq.setTop (mkF m 106 #[iv p0, iv p1, iv p2, iv (if (p2 &&& (65536 : Int32)) = (0 : Int32) then (255 : Int32) else (127 : Int32)), rv b2, iv 3, .unset, .unset, .unset, .unset, .unset, .unset, .unset, .unset] [(.int ((((p2.toUInt32 >>> ((8 : Int32) &&& 31).toUInt32).toInt32) &&& (255 : Int32)) - ((((p2.toUInt32 >>> ((8 : Int32) &&& 31).toUInt32).toInt32) &&& (255 : Int32)) / (4 : Int32)) * (4 : Int32)))])) (fun t k => xistore Xq hx hby rfl at_90 rfl (l' := #[iv p0, iv p1, iv p2, iv (if (p2 &&& (65536 : Int32)) = (0 : Int32) then (255 : Int32) else (127 : Int32)), rv b2, iv 3, .unset, .unset, .unset, .unset, .unset, .unset, .unset, .unset]) rfl (xiloadN Xq hx hby rfl at_92 rfl (xbipush Xq hx hby rfl at_93 (show Steps p.tables e below (Tq.setTop (mkF m 95 #[iv p0, iv p1, iv p2, iv (if (p2 &&& (65536 : Int32)) = (0 : Int32) then (255 : Int32) else (127 : Int32)), rv b2, iv 3, .unset, .unset, .unset, .unset, .unset, .unset, .unset, .unset] [.int 8, .int p2])) _ from XS.iushr Xq.here hx rfl (hb hby at_95) rfl (xsipush Xq hx hby rfl at_96 (show Steps p.tables e below (Tq.setTop (mkF m 99 #[iv p0, iv p1, iv p2, iv (if (p2 &&& (65536 : Int32)) = (0 : Int32) then (255 : Int32) else (127 : Int32)), rv b2, iv 3, .unset, .unset, .unset, .unset, .unset, .unset, .unset, .unset] [.int 255, (.int ((p2.toUInt32 >>> ((8 : Int32) &&& 31).toUInt32).toInt32))])) _ from xiand Xq hx hby rfl at_99 rfl (xbipush Xq hx hby rfl at_100 (xiload Xq hx hby rfl at_102 rfl (show Steps p.tables e below (Tq.setTop (mkF m 104 #[iv p0, iv p1, iv p2, iv (if (p2 &&& (65536 : Int32)) = (0 : Int32) then (255 : Int32) else (127 : Int32)), rv b2, iv 3, .unset, .unset, .unset, .unset, .unset, .unset, .unset, .unset] [.int 3, .int 7, (.int (((p2.toUInt32 >>> ((8 : Int32) &&& 31).toUInt32).toInt32) &&& (255 : Int32)))])) _ from xisub Xq hx hby rfl at_104 rfl (xirem Xq hx hby rfl at_105 rfl (by decide) k)))))))))) ?_
    have hm_n := own_modm4 ((p2.toUInt32 >>> ((8 : Int32) &&& 31).toUInt32).toInt32)
    generalize ((((p2.toUInt32 >>> ((8 : Int32) &&& 31).toUInt32).toInt32) &&& (255 : Int32)) - ((((p2.toUInt32 >>> ((8 : Int32) &&& 31).toUInt32).toInt32) &&& (255 : Int32)) / (4 : Int32)) * (4 : Int32)) = v_n at hm_n ⊢
    rcases hm_n with rfl | rfl | rfl | rfl
    · refine own_go (b := Tq.setTop (mkF m 108 #[iv p0, iv p1, iv p2, iv (if (p2 &&& (65536 : Int32)) = (0 : Int32) then (255 : Int32) else (127 : Int32)), rv b2, iv 3, iv 0, .unset, .unset, .unset, .unset, .unset, .unset, .unset] [])) (fun t k => xistore Xq hx hby rfl at_106 rfl (l' := #[iv p0, iv p1, iv p2, iv (if (p2 &&& (65536 : Int32)) = (0 : Int32) then (255 : Int32) else (127 : Int32)), rv b2, iv 3, iv 0, .unset, .unset, .unset, .unset, .unset, .unset, .unset]) rfl k) ?_
      refine own_tE hw Bd hx hby hml hown hZ Xq eq0 Nq Z0 Kq tV_b2 new_b2 sz_b2 (fun Tn Ln ng Xn en Nn hg => ?_)
      have hng : (ng = (1 : Int32) ∧ own_AH (0 : Int32) (0 : Int32) (0 : Int32) (0 : Int32) (0 : Int32) (0 : Int32) (0 : Int32) = (-1 : Int64)) ∨ (ng = (0 : Int32) ∧ ((0 : Int32) < (0 : Int32) → ¬ (0 : Int32) < (0 : Int32)) ∧ ((1 : Int32) < (0 : Int32) → ¬ (0 : Int32) < (0 : Int32)) ∧ ((2 : Int32) < (0 : Int32) → ¬ (0 : Int32) < (0 : Int32)) ∧ ((3 : Int32) < (0 : Int32) → ¬ (0 : Int32) < (0 : Int32)) ∧ ((4 : Int32) < (0 : Int32) → ¬ (0 : Int32) < (0 : Int32)) ∧ ((5 : Int32) < (0 : Int32) → ¬ (0 : Int32) < (0 : Int32))) := by
        rcases hg with ⟨e1, q | q | q | q | q | q⟩ | ⟨e1, q0, q1, q2, q3, q4, q5⟩
        · exact absurd (by decide) (own_bdn q).1
        · exact absurd (by decide) (own_bdn q).1
        · exact absurd (by decide) (own_bdn q).1
        · exact absurd (own_bdn q).2.1 (by decide)
        · exact absurd (own_bdn q).2.1 (by decide)
        · exact absurd (own_bdn q).2.1 (by decide)
        · exact Or.inr ⟨e1, fun h => absurd h (by decide), fun h => absurd h (by decide), fun h => absurd h (by decide), fun h => absurd h (by decide), fun h => absurd h (by decide), fun h => absurd h (by decide)⟩
      exact own_tM hw Bd hx hby hml hown hZ Xn en Nn Z0 Kq S_cs S_f tV_b2 new_b2 sz_b2 hcs hfv hCH0 (show ¬ (127 : Int32) < (0 : Int32) by decide) (show ¬ (127 : Int32) < (0 : Int32) by decide) (show ¬ (127 : Int32) < (0 : Int32) by decide) (show ¬ (127 : Int32) < (0 : Int32) by decide) (show ¬ (127 : Int32) < (0 : Int32) by decide) (show ¬ (127 : Int32) < (0 : Int32) by decide) hng (by decide) (by decide) (by decide) (fun h => absurd h (by decide)) (fun h => absurd h (by decide)) (fun h => absurd h (by decide)) (fun h => absurd h (by decide)) (fun h => absurd h (by decide)) (fun h => absurd h (by decide)) (by decide) (fun h => absurd h (by decide)) (by decide) (fun h => absurd h (by decide)) (by decide) (fun h => absurd h (by decide)) (by decide) (fun h => absurd h (by decide)) (by decide) (fun h => absurd h (by decide)) (by decide) (fun h => absurd h (by decide)) (by decide)
    · refine own_go (b := Tq.setTop (mkF m 108 #[iv p0, iv p1, iv p2, iv (if (p2 &&& (65536 : Int32)) = (0 : Int32) then (255 : Int32) else (127 : Int32)), rv b2, iv 3, iv 1, .unset, .unset, .unset, .unset, .unset, .unset, .unset] [])) (fun t k => xistore Xq hx hby rfl at_106 rfl (l' := #[iv p0, iv p1, iv p2, iv (if (p2 &&& (65536 : Int32)) = (0 : Int32) then (255 : Int32) else (127 : Int32)), rv b2, iv 3, iv 1, .unset, .unset, .unset, .unset, .unset, .unset, .unset]) rfl k) ?_
      refine own_tE hw Bd hx hby hml hown hZ Xq eq0 Nq Z0 Kq tV_b2 new_b2 sz_b2 (fun Tn Ln ng Xn en Nn hg => ?_)
      have hng : (ng = (1 : Int32) ∧ own_AH (1 : Int32) y3 (0 : Int32) (0 : Int32) (0 : Int32) (0 : Int32) (0 : Int32) = (-1 : Int64)) ∨ (ng = (0 : Int32) ∧ ((0 : Int32) < (1 : Int32) → ¬ y3 < (0 : Int32)) ∧ ((1 : Int32) < (1 : Int32) → ¬ (0 : Int32) < (0 : Int32)) ∧ ((2 : Int32) < (1 : Int32) → ¬ (0 : Int32) < (0 : Int32)) ∧ ((3 : Int32) < (1 : Int32) → ¬ (0 : Int32) < (0 : Int32)) ∧ ((4 : Int32) < (1 : Int32) → ¬ (0 : Int32) < (0 : Int32)) ∧ ((5 : Int32) < (1 : Int32) → ¬ (0 : Int32) < (0 : Int32))) := by
        rcases hg with ⟨e1, q | q | q | q | q | q⟩ | ⟨e1, q0, q1, q2, q3, q4, q5⟩
        · exact absurd (by decide) (own_bdn q).1
        · exact absurd (by decide) (own_bdn q).1
        · exact absurd (by decide) (own_bdn q).1
        · exact Or.inl ⟨e1, own_AHm0 (by decide) (own_bdn q).2.2⟩
        · exact absurd (own_bdn q).2.1 (by decide)
        · exact absurd (own_bdn q).2.1 (by decide)
        · exact Or.inr ⟨e1, fun _ => own_bdz (by decide) (by decide) q3, fun h => absurd h (by decide), fun h => absurd h (by decide), fun h => absurd h (by decide), fun h => absurd h (by decide), fun h => absurd h (by decide)⟩
      exact own_tM hw Bd hx hby hml hown hZ Xn en Nn Z0 Kq S_cs S_f tV_b2 new_b2 sz_b2 hcs hfv hCH0 u_y3 (show ¬ (127 : Int32) < (0 : Int32) by decide) (show ¬ (127 : Int32) < (0 : Int32) by decide) (show ¬ (127 : Int32) < (0 : Int32) by decide) (show ¬ (127 : Int32) < (0 : Int32) by decide) (show ¬ (127 : Int32) < (0 : Int32) by decide) hng (by decide) (by decide) (by decide) (fun _ => ⟨by decide, by decide, rfl⟩) (fun h => absurd h (by decide)) (fun h => absurd h (by decide)) (fun h => absurd h (by decide)) (fun h => absurd h (by decide)) (fun h => absurd h (by decide)) (by decide) (fun _ => ⟨by decide, by decide, rfl⟩) (by decide) (fun h => absurd h (by decide)) (by decide) (fun h => absurd h (by decide)) (by decide) (fun h => absurd h (by decide)) (by decide) (fun h => absurd h (by decide)) (by decide) (fun h => absurd h (by decide)) (by decide)
    · refine own_go (b := Tq.setTop (mkF m 108 #[iv p0, iv p1, iv p2, iv (if (p2 &&& (65536 : Int32)) = (0 : Int32) then (255 : Int32) else (127 : Int32)), rv b2, iv 3, iv 2, .unset, .unset, .unset, .unset, .unset, .unset, .unset] [])) (fun t k => xistore Xq hx hby rfl at_106 rfl (l' := #[iv p0, iv p1, iv p2, iv (if (p2 &&& (65536 : Int32)) = (0 : Int32) then (255 : Int32) else (127 : Int32)), rv b2, iv 3, iv 2, .unset, .unset, .unset, .unset, .unset, .unset, .unset]) rfl k) ?_
      refine own_tE hw Bd hx hby hml hown hZ Xq eq0 Nq Z0 Kq tV_b2 new_b2 sz_b2 (fun Tn Ln ng Xn en Nn hg => ?_)
      have hng : (ng = (1 : Int32) ∧ own_AH (2 : Int32) y3 y4 (0 : Int32) (0 : Int32) (0 : Int32) (0 : Int32) = (-1 : Int64)) ∨ (ng = (0 : Int32) ∧ ((0 : Int32) < (2 : Int32) → ¬ y3 < (0 : Int32)) ∧ ((1 : Int32) < (2 : Int32) → ¬ y4 < (0 : Int32)) ∧ ((2 : Int32) < (2 : Int32) → ¬ (0 : Int32) < (0 : Int32)) ∧ ((3 : Int32) < (2 : Int32) → ¬ (0 : Int32) < (0 : Int32)) ∧ ((4 : Int32) < (2 : Int32) → ¬ (0 : Int32) < (0 : Int32)) ∧ ((5 : Int32) < (2 : Int32) → ¬ (0 : Int32) < (0 : Int32))) := by
        rcases hg with ⟨e1, q | q | q | q | q | q⟩ | ⟨e1, q0, q1, q2, q3, q4, q5⟩
        · exact absurd (by decide) (own_bdn q).1
        · exact absurd (by decide) (own_bdn q).1
        · exact absurd (by decide) (own_bdn q).1
        · exact Or.inl ⟨e1, own_AHm0 (by decide) (own_bdn q).2.2⟩
        · exact Or.inl ⟨e1, own_AHm1 (by decide) (by decide) (own_bdn q).2.2⟩
        · exact absurd (own_bdn q).2.1 (by decide)
        · exact Or.inr ⟨e1, fun _ => own_bdz (by decide) (by decide) q3, fun _ => own_bdz (by decide) (by decide) q4, fun h => absurd h (by decide), fun h => absurd h (by decide), fun h => absurd h (by decide), fun h => absurd h (by decide)⟩
      exact own_tM hw Bd hx hby hml hown hZ Xn en Nn Z0 Kq S_cs S_f tV_b2 new_b2 sz_b2 hcs hfv hCH0 u_y3 u_y4 (show ¬ (127 : Int32) < (0 : Int32) by decide) (show ¬ (127 : Int32) < (0 : Int32) by decide) (show ¬ (127 : Int32) < (0 : Int32) by decide) (show ¬ (127 : Int32) < (0 : Int32) by decide) hng (by decide) (by decide) (by decide) (fun _ => ⟨by decide, by decide, rfl⟩) (fun _ => ⟨by decide, by decide, rfl⟩) (fun h => absurd h (by decide)) (fun h => absurd h (by decide)) (fun h => absurd h (by decide)) (fun h => absurd h (by decide)) (by decide) (fun _ => ⟨by decide, by decide, rfl⟩) (by decide) (fun _ => ⟨by decide, by decide, rfl⟩) (by decide) (fun h => absurd h (by decide)) (by decide) (fun h => absurd h (by decide)) (by decide) (fun h => absurd h (by decide)) (by decide) (fun h => absurd h (by decide)) (by decide)
    · refine own_go (b := Tq.setTop (mkF m 108 #[iv p0, iv p1, iv p2, iv (if (p2 &&& (65536 : Int32)) = (0 : Int32) then (255 : Int32) else (127 : Int32)), rv b2, iv 3, iv 3, .unset, .unset, .unset, .unset, .unset, .unset, .unset] [])) (fun t k => xistore Xq hx hby rfl at_106 rfl (l' := #[iv p0, iv p1, iv p2, iv (if (p2 &&& (65536 : Int32)) = (0 : Int32) then (255 : Int32) else (127 : Int32)), rv b2, iv 3, iv 3, .unset, .unset, .unset, .unset, .unset, .unset, .unset]) rfl k) ?_
      refine own_tE hw Bd hx hby hml hown hZ Xq eq0 Nq Z0 Kq tV_b2 new_b2 sz_b2 (fun Tn Ln ng Xn en Nn hg => ?_)
      have hng : (ng = (1 : Int32) ∧ own_AH (3 : Int32) y3 y4 y5 (0 : Int32) (0 : Int32) (0 : Int32) = (-1 : Int64)) ∨ (ng = (0 : Int32) ∧ ((0 : Int32) < (3 : Int32) → ¬ y3 < (0 : Int32)) ∧ ((1 : Int32) < (3 : Int32) → ¬ y4 < (0 : Int32)) ∧ ((2 : Int32) < (3 : Int32) → ¬ y5 < (0 : Int32)) ∧ ((3 : Int32) < (3 : Int32) → ¬ (0 : Int32) < (0 : Int32)) ∧ ((4 : Int32) < (3 : Int32) → ¬ (0 : Int32) < (0 : Int32)) ∧ ((5 : Int32) < (3 : Int32) → ¬ (0 : Int32) < (0 : Int32))) := by
        rcases hg with ⟨e1, q | q | q | q | q | q⟩ | ⟨e1, q0, q1, q2, q3, q4, q5⟩
        · exact absurd (by decide) (own_bdn q).1
        · exact absurd (by decide) (own_bdn q).1
        · exact absurd (by decide) (own_bdn q).1
        · exact Or.inl ⟨e1, own_AHm0 (by decide) (own_bdn q).2.2⟩
        · exact Or.inl ⟨e1, own_AHm1 (by decide) (by decide) (own_bdn q).2.2⟩
        · exact Or.inl ⟨e1, own_AHm2 (by decide) (by decide) (by decide) (own_bdn q).2.2⟩
        · exact Or.inr ⟨e1, fun _ => own_bdz (by decide) (by decide) q3, fun _ => own_bdz (by decide) (by decide) q4, fun _ => own_bdz (by decide) (by decide) q5, fun h => absurd h (by decide), fun h => absurd h (by decide), fun h => absurd h (by decide)⟩
      exact own_tM hw Bd hx hby hml hown hZ Xn en Nn Z0 Kq S_cs S_f tV_b2 new_b2 sz_b2 hcs hfv hCH0 u_y3 u_y4 u_y5 (show ¬ (127 : Int32) < (0 : Int32) by decide) (show ¬ (127 : Int32) < (0 : Int32) by decide) (show ¬ (127 : Int32) < (0 : Int32) by decide) hng (by decide) (by decide) (by decide) (fun _ => ⟨by decide, by decide, rfl⟩) (fun _ => ⟨by decide, by decide, rfl⟩) (fun _ => ⟨by decide, by decide, rfl⟩) (fun h => absurd h (by decide)) (fun h => absurd h (by decide)) (fun h => absurd h (by decide)) (by decide) (fun _ => ⟨by decide, by decide, rfl⟩) (by decide) (fun _ => ⟨by decide, by decide, rfl⟩) (by decide) (fun _ => ⟨by decide, by decide, rfl⟩) (by decide) (fun h => absurd h (by decide)) (by decide) (fun h => absurd h (by decide)) (by decide) (fun h => absurd h (by decide)) (by decide)
  · refine own_go (b := Tq.setTop (mkF m 106 #[iv p0, iv p1, iv p2, iv (if (p2 &&& (65536 : Int32)) = (0 : Int32) then (255 : Int32) else (127 : Int32)), rv b2, iv 4, .unset, .unset, .unset, .unset, .unset, .unset, .unset, .unset] [(.int ((((p2.toUInt32 >>> ((8 : Int32) &&& 31).toUInt32).toInt32) &&& (255 : Int32)) - ((((p2.toUInt32 >>> ((8 : Int32) &&& 31).toUInt32).toInt32) &&& (255 : Int32)) / (3 : Int32)) * (3 : Int32)))])) (fun t k => xistore Xq hx hby rfl at_90 rfl (l' := #[iv p0, iv p1, iv p2, iv (if (p2 &&& (65536 : Int32)) = (0 : Int32) then (255 : Int32) else (127 : Int32)), rv b2, iv 4, .unset, .unset, .unset, .unset, .unset, .unset, .unset, .unset]) rfl (xiloadN Xq hx hby rfl at_92 rfl (xbipush Xq hx hby rfl at_93 (show Steps p.tables e below (Tq.setTop (mkF m 95 #[iv p0, iv p1, iv p2, iv (if (p2 &&& (65536 : Int32)) = (0 : Int32) then (255 : Int32) else (127 : Int32)), rv b2, iv 4, .unset, .unset, .unset, .unset, .unset, .unset, .unset, .unset] [.int 8, .int p2])) _ from XS.iushr Xq.here hx rfl (hb hby at_95) rfl (xsipush Xq hx hby rfl at_96 (show Steps p.tables e below (Tq.setTop (mkF m 99 #[iv p0, iv p1, iv p2, iv (if (p2 &&& (65536 : Int32)) = (0 : Int32) then (255 : Int32) else (127 : Int32)), rv b2, iv 4, .unset, .unset, .unset, .unset, .unset, .unset, .unset, .unset] [.int 255, (.int ((p2.toUInt32 >>> ((8 : Int32) &&& 31).toUInt32).toInt32))])) _ from xiand Xq hx hby rfl at_99 rfl (xbipush Xq hx hby rfl at_100 (xiload Xq hx hby rfl at_102 rfl (show Steps p.tables e below (Tq.setTop (mkF m 104 #[iv p0, iv p1, iv p2, iv (if (p2 &&& (65536 : Int32)) = (0 : Int32) then (255 : Int32) else (127 : Int32)), rv b2, iv 4, .unset, .unset, .unset, .unset, .unset, .unset, .unset, .unset] [.int 4, .int 7, (.int (((p2.toUInt32 >>> ((8 : Int32) &&& 31).toUInt32).toInt32) &&& (255 : Int32)))])) _ from xisub Xq hx hby rfl at_104 rfl (xirem Xq hx hby rfl at_105 rfl (by decide) k)))))))))) ?_
    have hm_n := own_modm3 ((p2.toUInt32 >>> ((8 : Int32) &&& 31).toUInt32).toInt32)
    generalize ((((p2.toUInt32 >>> ((8 : Int32) &&& 31).toUInt32).toInt32) &&& (255 : Int32)) - ((((p2.toUInt32 >>> ((8 : Int32) &&& 31).toUInt32).toInt32) &&& (255 : Int32)) / (3 : Int32)) * (3 : Int32)) = v_n at hm_n ⊢
    rcases hm_n with rfl | rfl | rfl
    · refine own_go (b := Tq.setTop (mkF m 108 #[iv p0, iv p1, iv p2, iv (if (p2 &&& (65536 : Int32)) = (0 : Int32) then (255 : Int32) else (127 : Int32)), rv b2, iv 4, iv 0, .unset, .unset, .unset, .unset, .unset, .unset, .unset] [])) (fun t k => xistore Xq hx hby rfl at_106 rfl (l' := #[iv p0, iv p1, iv p2, iv (if (p2 &&& (65536 : Int32)) = (0 : Int32) then (255 : Int32) else (127 : Int32)), rv b2, iv 4, iv 0, .unset, .unset, .unset, .unset, .unset, .unset, .unset]) rfl k) ?_
      refine own_tE hw Bd hx hby hml hown hZ Xq eq0 Nq Z0 Kq tV_b2 new_b2 sz_b2 (fun Tn Ln ng Xn en Nn hg => ?_)
      have hng : (ng = (1 : Int32) ∧ own_AH (0 : Int32) (0 : Int32) (0 : Int32) (0 : Int32) (0 : Int32) (0 : Int32) (0 : Int32) = (-1 : Int64)) ∨ (ng = (0 : Int32) ∧ ((0 : Int32) < (0 : Int32) → ¬ (0 : Int32) < (0 : Int32)) ∧ ((1 : Int32) < (0 : Int32) → ¬ (0 : Int32) < (0 : Int32)) ∧ ((2 : Int32) < (0 : Int32) → ¬ (0 : Int32) < (0 : Int32)) ∧ ((3 : Int32) < (0 : Int32) → ¬ (0 : Int32) < (0 : Int32)) ∧ ((4 : Int32) < (0 : Int32) → ¬ (0 : Int32) < (0 : Int32)) ∧ ((5 : Int32) < (0 : Int32) → ¬ (0 : Int32) < (0 : Int32))) := by
        rcases hg with ⟨e1, q | q | q | q | q | q⟩ | ⟨e1, q0, q1, q2, q3, q4, q5⟩
        · exact absurd (by decide) (own_bdn q).1
        · exact absurd (by decide) (own_bdn q).1
        · exact absurd (by decide) (own_bdn q).1
        · exact absurd (by decide) (own_bdn q).1
        · exact absurd (own_bdn q).2.1 (by decide)
        · exact absurd (own_bdn q).2.1 (by decide)
        · exact Or.inr ⟨e1, fun h => absurd h (by decide), fun h => absurd h (by decide), fun h => absurd h (by decide), fun h => absurd h (by decide), fun h => absurd h (by decide), fun h => absurd h (by decide)⟩
      exact own_tM hw Bd hx hby hml hown hZ Xn en Nn Z0 Kq S_cs S_f tV_b2 new_b2 sz_b2 hcs hfv hCH0 (show ¬ (127 : Int32) < (0 : Int32) by decide) (show ¬ (127 : Int32) < (0 : Int32) by decide) (show ¬ (127 : Int32) < (0 : Int32) by decide) (show ¬ (127 : Int32) < (0 : Int32) by decide) (show ¬ (127 : Int32) < (0 : Int32) by decide) (show ¬ (127 : Int32) < (0 : Int32) by decide) hng (by decide) (by decide) (by decide) (fun h => absurd h (by decide)) (fun h => absurd h (by decide)) (fun h => absurd h (by decide)) (fun h => absurd h (by decide)) (fun h => absurd h (by decide)) (fun h => absurd h (by decide)) (by decide) (fun h => absurd h (by decide)) (by decide) (fun h => absurd h (by decide)) (by decide) (fun h => absurd h (by decide)) (by decide) (fun h => absurd h (by decide)) (by decide) (fun h => absurd h (by decide)) (by decide) (fun h => absurd h (by decide)) (by decide)
    · refine own_go (b := Tq.setTop (mkF m 108 #[iv p0, iv p1, iv p2, iv (if (p2 &&& (65536 : Int32)) = (0 : Int32) then (255 : Int32) else (127 : Int32)), rv b2, iv 4, iv 1, .unset, .unset, .unset, .unset, .unset, .unset, .unset] [])) (fun t k => xistore Xq hx hby rfl at_106 rfl (l' := #[iv p0, iv p1, iv p2, iv (if (p2 &&& (65536 : Int32)) = (0 : Int32) then (255 : Int32) else (127 : Int32)), rv b2, iv 4, iv 1, .unset, .unset, .unset, .unset, .unset, .unset, .unset]) rfl k) ?_
      refine own_tE hw Bd hx hby hml hown hZ Xq eq0 Nq Z0 Kq tV_b2 new_b2 sz_b2 (fun Tn Ln ng Xn en Nn hg => ?_)
      have hng : (ng = (1 : Int32) ∧ own_AH (1 : Int32) y4 (0 : Int32) (0 : Int32) (0 : Int32) (0 : Int32) (0 : Int32) = (-1 : Int64)) ∨ (ng = (0 : Int32) ∧ ((0 : Int32) < (1 : Int32) → ¬ y4 < (0 : Int32)) ∧ ((1 : Int32) < (1 : Int32) → ¬ (0 : Int32) < (0 : Int32)) ∧ ((2 : Int32) < (1 : Int32) → ¬ (0 : Int32) < (0 : Int32)) ∧ ((3 : Int32) < (1 : Int32) → ¬ (0 : Int32) < (0 : Int32)) ∧ ((4 : Int32) < (1 : Int32) → ¬ (0 : Int32) < (0 : Int32)) ∧ ((5 : Int32) < (1 : Int32) → ¬ (0 : Int32) < (0 : Int32))) := by
        rcases hg with ⟨e1, q | q | q | q | q | q⟩ | ⟨e1, q0, q1, q2, q3, q4, q5⟩
        · exact absurd (by decide) (own_bdn q).1
        · exact absurd (by decide) (own_bdn q).1
        · exact absurd (by decide) (own_bdn q).1
        · exact absurd (by decide) (own_bdn q).1
        · exact Or.inl ⟨e1, own_AHm0 (by decide) (own_bdn q).2.2⟩
        · exact absurd (own_bdn q).2.1 (by decide)
        · exact Or.inr ⟨e1, fun _ => own_bdz (by decide) (by decide) q4, fun h => absurd h (by decide), fun h => absurd h (by decide), fun h => absurd h (by decide), fun h => absurd h (by decide), fun h => absurd h (by decide)⟩
      exact own_tM hw Bd hx hby hml hown hZ Xn en Nn Z0 Kq S_cs S_f tV_b2 new_b2 sz_b2 hcs hfv hCH0 u_y4 (show ¬ (127 : Int32) < (0 : Int32) by decide) (show ¬ (127 : Int32) < (0 : Int32) by decide) (show ¬ (127 : Int32) < (0 : Int32) by decide) (show ¬ (127 : Int32) < (0 : Int32) by decide) (show ¬ (127 : Int32) < (0 : Int32) by decide) hng (by decide) (by decide) (by decide) (fun _ => ⟨by decide, by decide, rfl⟩) (fun h => absurd h (by decide)) (fun h => absurd h (by decide)) (fun h => absurd h (by decide)) (fun h => absurd h (by decide)) (fun h => absurd h (by decide)) (by decide) (fun _ => ⟨by decide, by decide, rfl⟩) (by decide) (fun h => absurd h (by decide)) (by decide) (fun h => absurd h (by decide)) (by decide) (fun h => absurd h (by decide)) (by decide) (fun h => absurd h (by decide)) (by decide) (fun h => absurd h (by decide)) (by decide)
    · refine own_go (b := Tq.setTop (mkF m 108 #[iv p0, iv p1, iv p2, iv (if (p2 &&& (65536 : Int32)) = (0 : Int32) then (255 : Int32) else (127 : Int32)), rv b2, iv 4, iv 2, .unset, .unset, .unset, .unset, .unset, .unset, .unset] [])) (fun t k => xistore Xq hx hby rfl at_106 rfl (l' := #[iv p0, iv p1, iv p2, iv (if (p2 &&& (65536 : Int32)) = (0 : Int32) then (255 : Int32) else (127 : Int32)), rv b2, iv 4, iv 2, .unset, .unset, .unset, .unset, .unset, .unset, .unset]) rfl k) ?_
      refine own_tE hw Bd hx hby hml hown hZ Xq eq0 Nq Z0 Kq tV_b2 new_b2 sz_b2 (fun Tn Ln ng Xn en Nn hg => ?_)
      have hng : (ng = (1 : Int32) ∧ own_AH (2 : Int32) y4 y5 (0 : Int32) (0 : Int32) (0 : Int32) (0 : Int32) = (-1 : Int64)) ∨ (ng = (0 : Int32) ∧ ((0 : Int32) < (2 : Int32) → ¬ y4 < (0 : Int32)) ∧ ((1 : Int32) < (2 : Int32) → ¬ y5 < (0 : Int32)) ∧ ((2 : Int32) < (2 : Int32) → ¬ (0 : Int32) < (0 : Int32)) ∧ ((3 : Int32) < (2 : Int32) → ¬ (0 : Int32) < (0 : Int32)) ∧ ((4 : Int32) < (2 : Int32) → ¬ (0 : Int32) < (0 : Int32)) ∧ ((5 : Int32) < (2 : Int32) → ¬ (0 : Int32) < (0 : Int32))) := by
        rcases hg with ⟨e1, q | q | q | q | q | q⟩ | ⟨e1, q0, q1, q2, q3, q4, q5⟩
        · exact absurd (by decide) (own_bdn q).1
        · exact absurd (by decide) (own_bdn q).1
        · exact absurd (by decide) (own_bdn q).1
        · exact absurd (by decide) (own_bdn q).1
        · exact Or.inl ⟨e1, own_AHm0 (by decide) (own_bdn q).2.2⟩
        · exact Or.inl ⟨e1, own_AHm1 (by decide) (by decide) (own_bdn q).2.2⟩
        · exact Or.inr ⟨e1, fun _ => own_bdz (by decide) (by decide) q4, fun _ => own_bdz (by decide) (by decide) q5, fun h => absurd h (by decide), fun h => absurd h (by decide), fun h => absurd h (by decide), fun h => absurd h (by decide)⟩
      exact own_tM hw Bd hx hby hml hown hZ Xn en Nn Z0 Kq S_cs S_f tV_b2 new_b2 sz_b2 hcs hfv hCH0 u_y4 u_y5 (show ¬ (127 : Int32) < (0 : Int32) by decide) (show ¬ (127 : Int32) < (0 : Int32) by decide) (show ¬ (127 : Int32) < (0 : Int32) by decide) (show ¬ (127 : Int32) < (0 : Int32) by decide) hng (by decide) (by decide) (by decide) (fun _ => ⟨by decide, by decide, rfl⟩) (fun _ => ⟨by decide, by decide, rfl⟩) (fun h => absurd h (by decide)) (fun h => absurd h (by decide)) (fun h => absurd h (by decide)) (fun h => absurd h (by decide)) (by decide) (fun _ => ⟨by decide, by decide, rfl⟩) (by decide) (fun _ => ⟨by decide, by decide, rfl⟩) (by decide) (fun h => absurd h (by decide)) (by decide) (fun h => absurd h (by decide)) (by decide) (fun h => absurd h (by decide)) (by decide) (fun h => absurd h (by decide)) (by decide)
  · refine own_go (b := Tq.setTop (mkF m 106 #[iv p0, iv p1, iv p2, iv (if (p2 &&& (65536 : Int32)) = (0 : Int32) then (255 : Int32) else (127 : Int32)), rv b2, iv 5, .unset, .unset, .unset, .unset, .unset, .unset, .unset, .unset] [(.int ((((p2.toUInt32 >>> ((8 : Int32) &&& 31).toUInt32).toInt32) &&& (255 : Int32)) - ((((p2.toUInt32 >>> ((8 : Int32) &&& 31).toUInt32).toInt32) &&& (255 : Int32)) / (2 : Int32)) * (2 : Int32)))])) (fun t k => xistore Xq hx hby rfl at_90 rfl (l' := #[iv p0, iv p1, iv p2, iv (if (p2 &&& (65536 : Int32)) = (0 : Int32) then (255 : Int32) else (127 : Int32)), rv b2, iv 5, .unset, .unset, .unset, .unset, .unset, .unset, .unset, .unset]) rfl (xiloadN Xq hx hby rfl at_92 rfl (xbipush Xq hx hby rfl at_93 (show Steps p.tables e below (Tq.setTop (mkF m 95 #[iv p0, iv p1, iv p2, iv (if (p2 &&& (65536 : Int32)) = (0 : Int32) then (255 : Int32) else (127 : Int32)), rv b2, iv 5, .unset, .unset, .unset, .unset, .unset, .unset, .unset, .unset] [.int 8, .int p2])) _ from XS.iushr Xq.here hx rfl (hb hby at_95) rfl (xsipush Xq hx hby rfl at_96 (show Steps p.tables e below (Tq.setTop (mkF m 99 #[iv p0, iv p1, iv p2, iv (if (p2 &&& (65536 : Int32)) = (0 : Int32) then (255 : Int32) else (127 : Int32)), rv b2, iv 5, .unset, .unset, .unset, .unset, .unset, .unset, .unset, .unset] [.int 255, (.int ((p2.toUInt32 >>> ((8 : Int32) &&& 31).toUInt32).toInt32))])) _ from xiand Xq hx hby rfl at_99 rfl (xbipush Xq hx hby rfl at_100 (xiload Xq hx hby rfl at_102 rfl (show Steps p.tables e below (Tq.setTop (mkF m 104 #[iv p0, iv p1, iv p2, iv (if (p2 &&& (65536 : Int32)) = (0 : Int32) then (255 : Int32) else (127 : Int32)), rv b2, iv 5, .unset, .unset, .unset, .unset, .unset, .unset, .unset, .unset] [.int 5, .int 7, (.int (((p2.toUInt32 >>> ((8 : Int32) &&& 31).toUInt32).toInt32) &&& (255 : Int32)))])) _ from xisub Xq hx hby rfl at_104 rfl (xirem Xq hx hby rfl at_105 rfl (by decide) k)))))))))) ?_
    have hm_n := own_modm2 ((p2.toUInt32 >>> ((8 : Int32) &&& 31).toUInt32).toInt32)
    generalize ((((p2.toUInt32 >>> ((8 : Int32) &&& 31).toUInt32).toInt32) &&& (255 : Int32)) - ((((p2.toUInt32 >>> ((8 : Int32) &&& 31).toUInt32).toInt32) &&& (255 : Int32)) / (2 : Int32)) * (2 : Int32)) = v_n at hm_n ⊢
    rcases hm_n with rfl | rfl
    · refine own_go (b := Tq.setTop (mkF m 108 #[iv p0, iv p1, iv p2, iv (if (p2 &&& (65536 : Int32)) = (0 : Int32) then (255 : Int32) else (127 : Int32)), rv b2, iv 5, iv 0, .unset, .unset, .unset, .unset, .unset, .unset, .unset] [])) (fun t k => xistore Xq hx hby rfl at_106 rfl (l' := #[iv p0, iv p1, iv p2, iv (if (p2 &&& (65536 : Int32)) = (0 : Int32) then (255 : Int32) else (127 : Int32)), rv b2, iv 5, iv 0, .unset, .unset, .unset, .unset, .unset, .unset, .unset]) rfl k) ?_
      refine own_tE hw Bd hx hby hml hown hZ Xq eq0 Nq Z0 Kq tV_b2 new_b2 sz_b2 (fun Tn Ln ng Xn en Nn hg => ?_)
      have hng : (ng = (1 : Int32) ∧ own_AH (0 : Int32) (0 : Int32) (0 : Int32) (0 : Int32) (0 : Int32) (0 : Int32) (0 : Int32) = (-1 : Int64)) ∨ (ng = (0 : Int32) ∧ ((0 : Int32) < (0 : Int32) → ¬ (0 : Int32) < (0 : Int32)) ∧ ((1 : Int32) < (0 : Int32) → ¬ (0 : Int32) < (0 : Int32)) ∧ ((2 : Int32) < (0 : Int32) → ¬ (0 : Int32) < (0 : Int32)) ∧ ((3 : Int32) < (0 : Int32) → ¬ (0 : Int32) < (0 : Int32)) ∧ ((4 : Int32) < (0 : Int32) → ¬ (0 : Int32) < (0 : Int32)) ∧ ((5 : Int32) < (0 : Int32) → ¬ (0 : Int32) < (0 : Int32))) := by
        rcases hg with ⟨e1, q | q | q | q | q | q⟩ | ⟨e1, q0, q1, q2, q3, q4, q5⟩
        · exact absurd (by decide) (own_bdn q).1
        · exact absurd (by decide) (own_bdn q).1
        · exact absurd (by decide) (own_bdn q).1
        · exact absurd (by decide) (own_bdn q).1
        · exact absurd (by decide) (own_bdn q).1
        · exact absurd (own_bdn q).2.1 (by decide)
        · exact Or.inr ⟨e1, fun h => absurd h (by decide), fun h => absurd h (by decide), fun h => absurd h (by decide), fun h => absurd h (by decide), fun h => absurd h (by decide), fun h => absurd h (by decide)⟩
      exact own_tM hw Bd hx hby hml hown hZ Xn en Nn Z0 Kq S_cs S_f tV_b2 new_b2 sz_b2 hcs hfv hCH0 (show ¬ (127 : Int32) < (0 : Int32) by decide) (show ¬ (127 : Int32) < (0 : Int32) by decide) (show ¬ (127 : Int32) < (0 : Int32) by decide) (show ¬ (127 : Int32) < (0 : Int32) by decide) (show ¬ (127 : Int32) < (0 : Int32) by decide) (show ¬ (127 : Int32) < (0 : Int32) by decide) hng (by decide) (by decide) (by decide) (fun h => absurd h (by decide)) (fun h => absurd h (by decide)) (fun h => absurd h (by decide)) (fun h => absurd h (by decide)) (fun h => absurd h (by decide)) (fun h => absurd h (by decide)) (by decide) (fun h => absurd h (by decide)) (by decide) (fun h => absurd h (by decide)) (by decide) (fun h => absurd h (by decide)) (by decide) (fun h => absurd h (by decide)) (by decide) (fun h => absurd h (by decide)) (by decide) (fun h => absurd h (by decide)) (by decide)
    · refine own_go (b := Tq.setTop (mkF m 108 #[iv p0, iv p1, iv p2, iv (if (p2 &&& (65536 : Int32)) = (0 : Int32) then (255 : Int32) else (127 : Int32)), rv b2, iv 5, iv 1, .unset, .unset, .unset, .unset, .unset, .unset, .unset] [])) (fun t k => xistore Xq hx hby rfl at_106 rfl (l' := #[iv p0, iv p1, iv p2, iv (if (p2 &&& (65536 : Int32)) = (0 : Int32) then (255 : Int32) else (127 : Int32)), rv b2, iv 5, iv 1, .unset, .unset, .unset, .unset, .unset, .unset, .unset]) rfl k) ?_
      refine own_tE hw Bd hx hby hml hown hZ Xq eq0 Nq Z0 Kq tV_b2 new_b2 sz_b2 (fun Tn Ln ng Xn en Nn hg => ?_)
      have hng : (ng = (1 : Int32) ∧ own_AH (1 : Int32) y5 (0 : Int32) (0 : Int32) (0 : Int32) (0 : Int32) (0 : Int32) = (-1 : Int64)) ∨ (ng = (0 : Int32) ∧ ((0 : Int32) < (1 : Int32) → ¬ y5 < (0 : Int32)) ∧ ((1 : Int32) < (1 : Int32) → ¬ (0 : Int32) < (0 : Int32)) ∧ ((2 : Int32) < (1 : Int32) → ¬ (0 : Int32) < (0 : Int32)) ∧ ((3 : Int32) < (1 : Int32) → ¬ (0 : Int32) < (0 : Int32)) ∧ ((4 : Int32) < (1 : Int32) → ¬ (0 : Int32) < (0 : Int32)) ∧ ((5 : Int32) < (1 : Int32) → ¬ (0 : Int32) < (0 : Int32))) := by
        rcases hg with ⟨e1, q | q | q | q | q | q⟩ | ⟨e1, q0, q1, q2, q3, q4, q5⟩
        · exact absurd (by decide) (own_bdn q).1
        · exact absurd (by decide) (own_bdn q).1
        · exact absurd (by decide) (own_bdn q).1
        · exact absurd (by decide) (own_bdn q).1
        · exact absurd (by decide) (own_bdn q).1
        · exact Or.inl ⟨e1, own_AHm0 (by decide) (own_bdn q).2.2⟩
        · exact Or.inr ⟨e1, fun _ => own_bdz (by decide) (by decide) q5, fun h => absurd h (by decide), fun h => absurd h (by decide), fun h => absurd h (by decide), fun h => absurd h (by decide), fun h => absurd h (by decide)⟩
      exact own_tM hw Bd hx hby hml hown hZ Xn en Nn Z0 Kq S_cs S_f tV_b2 new_b2 sz_b2 hcs hfv hCH0 u_y5 (show ¬ (127 : Int32) < (0 : Int32) by decide) (show ¬ (127 : Int32) < (0 : Int32) by decide) (show ¬ (127 : Int32) < (0 : Int32) by decide) (show ¬ (127 : Int32) < (0 : Int32) by decide) (show ¬ (127 : Int32) < (0 : Int32) by decide) hng (by decide) (by decide) (by decide) (fun _ => ⟨by decide, by decide, rfl⟩) (fun h => absurd h (by decide)) (fun h => absurd h (by decide)) (fun h => absurd h (by decide)) (fun h => absurd h (by decide)) (fun h => absurd h (by decide)) (by decide) (fun _ => ⟨by decide, by decide, rfl⟩) (by decide) (fun h => absurd h (by decide)) (by decide) (fun h => absurd h (by decide)) (by decide) (fun h => absurd h (by decide)) (by decide) (fun h => absurd h (by decide)) (by decide) (fun h => absurd h (by decide)) (by decide)
  · refine own_go (b := Tq.setTop (mkF m 106 #[iv p0, iv p1, iv p2, iv (if (p2 &&& (65536 : Int32)) = (0 : Int32) then (255 : Int32) else (127 : Int32)), rv b2, iv 6, .unset, .unset, .unset, .unset, .unset, .unset, .unset, .unset] [(.int ((((p2.toUInt32 >>> ((8 : Int32) &&& 31).toUInt32).toInt32) &&& (255 : Int32)) - ((((p2.toUInt32 >>> ((8 : Int32) &&& 31).toUInt32).toInt32) &&& (255 : Int32)) / (1 : Int32)) * (1 : Int32)))])) (fun t k => xistore Xq hx hby rfl at_90 rfl (l' := #[iv p0, iv p1, iv p2, iv (if (p2 &&& (65536 : Int32)) = (0 : Int32) then (255 : Int32) else (127 : Int32)), rv b2, iv 6, .unset, .unset, .unset, .unset, .unset, .unset, .unset, .unset]) rfl (xiloadN Xq hx hby rfl at_92 rfl (xbipush Xq hx hby rfl at_93 (show Steps p.tables e below (Tq.setTop (mkF m 95 #[iv p0, iv p1, iv p2, iv (if (p2 &&& (65536 : Int32)) = (0 : Int32) then (255 : Int32) else (127 : Int32)), rv b2, iv 6, .unset, .unset, .unset, .unset, .unset, .unset, .unset, .unset] [.int 8, .int p2])) _ from XS.iushr Xq.here hx rfl (hb hby at_95) rfl (xsipush Xq hx hby rfl at_96 (show Steps p.tables e below (Tq.setTop (mkF m 99 #[iv p0, iv p1, iv p2, iv (if (p2 &&& (65536 : Int32)) = (0 : Int32) then (255 : Int32) else (127 : Int32)), rv b2, iv 6, .unset, .unset, .unset, .unset, .unset, .unset, .unset, .unset] [.int 255, (.int ((p2.toUInt32 >>> ((8 : Int32) &&& 31).toUInt32).toInt32))])) _ from xiand Xq hx hby rfl at_99 rfl (xbipush Xq hx hby rfl at_100 (xiload Xq hx hby rfl at_102 rfl (show Steps p.tables e below (Tq.setTop (mkF m 104 #[iv p0, iv p1, iv p2, iv (if (p2 &&& (65536 : Int32)) = (0 : Int32) then (255 : Int32) else (127 : Int32)), rv b2, iv 6, .unset, .unset, .unset, .unset, .unset, .unset, .unset, .unset] [.int 6, .int 7, (.int (((p2.toUInt32 >>> ((8 : Int32) &&& 31).toUInt32).toInt32) &&& (255 : Int32)))])) _ from xisub Xq hx hby rfl at_104 rfl (xirem Xq hx hby rfl at_105 rfl (by decide) k)))))))))) ?_
    have hm_n := own_modm1 ((p2.toUInt32 >>> ((8 : Int32) &&& 31).toUInt32).toInt32)
    generalize ((((p2.toUInt32 >>> ((8 : Int32) &&& 31).toUInt32).toInt32) &&& (255 : Int32)) - ((((p2.toUInt32 >>> ((8 : Int32) &&& 31).toUInt32).toInt32) &&& (255 : Int32)) / (1 : Int32)) * (1 : Int32)) = v_n at hm_n ⊢
    subst hm_n
    refine own_go (b := Tq.setTop (mkF m 108 #[iv p0, iv p1, iv p2, iv (if (p2 &&& (65536 : Int32)) = (0 : Int32) then (255 : Int32) else (127 : Int32)), rv b2, iv 6, iv 0, .unset, .unset, .unset, .unset, .unset, .unset, .unset] [])) (fun t k => xistore Xq hx hby rfl at_106 rfl (l' := #[iv p0, iv p1, iv p2, iv (if (p2 &&& (65536 : Int32)) = (0 : Int32) then (255 : Int32) else (127 : Int32)), rv b2, iv 6, iv 0, .unset, .unset, .unset, .unset, .unset, .unset, .unset]) rfl k) ?_
    refine own_tE hw Bd hx hby hml hown hZ Xq eq0 Nq Z0 Kq tV_b2 new_b2 sz_b2 (fun Tn Ln ng Xn en Nn hg => ?_)
    have hng : (ng = (1 : Int32) ∧ own_AH (0 : Int32) (0 : Int32) (0 : Int32) (0 : Int32) (0 : Int32) (0 : Int32) (0 : Int32) = (-1 : Int64)) ∨ (ng = (0 : Int32) ∧ ((0 : Int32) < (0 : Int32) → ¬ (0 : Int32) < (0 : Int32)) ∧ ((1 : Int32) < (0 : Int32) → ¬ (0 : Int32) < (0 : Int32)) ∧ ((2 : Int32) < (0 : Int32) → ¬ (0 : Int32) < (0 : Int32)) ∧ ((3 : Int32) < (0 : Int32) → ¬ (0 : Int32) < (0 : Int32)) ∧ ((4 : Int32) < (0 : Int32) → ¬ (0 : Int32) < (0 : Int32)) ∧ ((5 : Int32) < (0 : Int32) → ¬ (0 : Int32) < (0 : Int32))) := by
      rcases hg with ⟨e1, q | q | q | q | q | q⟩ | ⟨e1, q0, q1, q2, q3, q4, q5⟩
      · exact absurd (by decide) (own_bdn q).1
      · exact absurd (by decide) (own_bdn q).1
      · exact absurd (by decide) (own_bdn q).1
      · exact absurd (by decide) (own_bdn q).1
      · exact absurd (by decide) (own_bdn q).1
      · exact absurd (by decide) (own_bdn q).1
      · exact Or.inr ⟨e1, fun h => absurd h (by decide), fun h => absurd h (by decide), fun h => absurd h (by decide), fun h => absurd h (by decide), fun h => absurd h (by decide), fun h => absurd h (by decide)⟩
    exact own_tM hw Bd hx hby hml hown hZ Xn en Nn Z0 Kq S_cs S_f tV_b2 new_b2 sz_b2 hcs hfv hCH0 (show ¬ (127 : Int32) < (0 : Int32) by decide) (show ¬ (127 : Int32) < (0 : Int32) by decide) (show ¬ (127 : Int32) < (0 : Int32) by decide) (show ¬ (127 : Int32) < (0 : Int32) by decide) (show ¬ (127 : Int32) < (0 : Int32) by decide) (show ¬ (127 : Int32) < (0 : Int32) by decide) hng (by decide) (by decide) (by decide) (fun h => absurd h (by decide)) (fun h => absurd h (by decide)) (fun h => absurd h (by decide)) (fun h => absurd h (by decide)) (fun h => absurd h (by decide)) (fun h => absurd h (by decide)) (by decide) (fun h => absurd h (by decide)) (by decide) (fun h => absurd h (by decide)) (by decide) (fun h => absurd h (by decide)) (by decide) (fun h => absurd h (by decide)) (by decide) (fun h => absurd h (by decide)) (by decide) (fun h => absurd h (by decide)) (by decide)
theorem ef_own_rm0 (m : MethodId) (x0 : Int32) (x1 : Int32) (x2 : Int32) : entryFrame m #[.int x0, .int x1, .int x2] maxLocals = mkF m 0 #[iv x0, iv x1, iv x2, .unset, .unset, .unset, .unset, .unset, .unset, .unset, .unset, .unset, .unset, .unset] [] := by first | (simp [entryFrame, mkF, argsToLocals, Value.category, maxLocals]; done) | rfl
set_option maxRecDepth 65536 in
set_option maxHeartbeats 40000000 in
theorem own_rm0 (l : Launch) (Z : State) (a0 : Array Value) (hw : ∀ d ∈ tables_1, d.before a0 Z = true) (ws : List Jvm.Cond) (p0 : Int32) (p1 : Int32) (p2 : Int32) (cs : Int32) (fv : Value) (h0 : Heap) (n0 : Nat) (Z0 : n0 ≤ h0.size) (S_cs : Sta Z h0 "java/lang/String" "COMPACT_STRINGS" "Z" (.int cs)) (hcs : ¬ cs = (0 : Int32)) (S_f : Sta Z h0 "jdk/internal/util/Preconditions" "SIOOBE_FORMATTER" "Ljava/util/function/BiFunction;" fv) (hfv : fv.isRef = true) (hCH : CHv Z own_EL Z.vm h0) :
    MetFree l x (head1 (Jvm.Cond.code x code maxLocals ret :: ws) room_1) (fun a U => a = #[.int p0, .int p1, .int p2] ∧ Z = U ∧ U.heap = h0) (fun _ _ _ _ _ => True) (fun _ U o U' => ∃ v L, o = .returned v ∧ own_Q0 n0 v U'.heap L ∧ ReturnedEndW U o U' L room_1.cells room_1.slots) := by
  refine MetFree.of_bodySF (plainFor_of_name own_pn6) hisR ?_
  intro p e s m args below meth c s₁ Bd hml0 hP hK
  obtain ⟨rfl, hUZ, hh⟩ := hP
  have hZ : Z.Warmed39 s.vm := by rw [hUZ]; exact State.Warmed39.refl s
  have hx := Bd.exec
  have hby := Bd.bytes
  have hml : c.maxLocals = 14 := hml0
  have hown : s.vm.findClass "com/example/rollcall/rollcall/users/CaselessIndexAsciiHashPinLaw" = some m.cls := findClass_of_methodNamed Bd.named
  have hnm := (name_of_methodNamed Bd.named Bd.method).1
  have X0 : Stand p l e room_1 s m #[.int p0, .int p1, .int p2] below meth c s₁ [] 0 0 := Stand.of_body Bd
  have e0 : s₁.heap = h0 := by rw [← hh, Bd.state]; rfl
  have N0 := Fr.nil n0
  refine own_go (b := s₁.setTop (mkF m 0 #[iv p0, iv p1, iv p2, .unset, .unset, .unset, .unset, .unset, .unset, .unset, .unset, .unset, .unset, .unset] [])) (fun t k => castTop (ef_own_rm0 m p0 p1 p2) k) ?_
  have hCH0 : CHv Z own_EL s.vm h0 := by rw [← hUZ]; exact hCH
  refine own_go (b := s₁.setTop (mkF m 1 #[iv p0, iv p1, iv p2, .unset, .unset, .unset, .unset, .unset, .unset, .unset, .unset, .unset, .unset, .unset] [.int p2])) (fun t k => xiloadN X0 hx hby rfl at_0 rfl k) ?_
  refine own_go (b := s₁.setTop (mkF m 4 #[iv p0, iv p1, iv p2, .unset, .unset, .unset, .unset, .unset, .unset, .unset, .unset, .unset, .unset, .unset] [(.int (p2 &&& (65536 : Int32)))])) (fun t k => X0.ldcInt hx hown (mvT hZ (wd hw 0 rfl)) (g := (mkF m 1 #[iv p0, iv p1, iv p2, .unset, .unset, .unset, .unset, .unset, .unset, .unset, .unset, .unset, .unset, .unset] [.int p2])) rfl (hb hby at_1) _ (xiand X0 hx hby rfl at_3 rfl k)) ?_
  refine own_go (b := s₁.setTop (mkF m 15 #[iv p0, iv p1, iv p2, .unset, .unset, .unset, .unset, .unset, .unset, .unset, .unset, .unset, .unset, .unset] [(.int (if (p2 &&& (65536 : Int32)) = (0 : Int32) then (255 : Int32) else (127 : Int32)))])) (fun t k => ?_) ?_
  · by_cases hc4_1 : (p2 &&& (65536 : Int32)) = (0 : Int32)
    · rw [if_pos hc4_1] at k
      refine xifYes X0 hx hby rfl 4 12 rfl at_4 rfl ((if0 _ _).trans (teq hc4_1).1) (by decide) (by decide) (xsipush X0 hx hby rfl at_12 k)
    · rw [if_neg hc4_1] at k
      refine xifNo X0 hx hby rfl at_4 rfl ((if0 _ _).trans (feq hc4_1).1) (xbipush X0 hx hby rfl at_7 (xgoto X0 hx hby rfl 9 15 rfl at_9 (by decide) (by decide) k))
  obtain ⟨T2, h2, k2, X2, e2, E2, A2, st2⟩ := newP X0 hx hZ (wd hw 1 rfl) e0 (g := (mkF m 18 #[iv p0, iv p1, iv p2, iv (if (p2 &&& (65536 : Int32)) = (0 : Int32) then (255 : Int32) else (127 : Int32)), .unset, .unset, .unset, .unset, .unset, .unset, .unset, .unset, .unset, .unset] [.int 6])) rfl (hb hby at_18) rfl (by decide) (cap := 6) (by decide) (by decide) (by decide) (by decide)
  obtain ⟨b2, g2⟩ : ∃ z, z = h0.size := ⟨_, rfl⟩
  rw [← g2] at A2 st2
  have new_b2 : n0 ≤ b2 := Nat.le_trans Z0 (Nat.le_of_eq g2.symm)
  have sz_b2 : h0.size ≤ b2 := Nat.le_trans (Keep.refl h0 []).1 (Nat.le_of_eq g2.symm)
  have K2 := (Keep.refl h0 []).ext E2
  have V_b2 : Arv Z h2 b2 k2 .byte (6 : Int32) [.int 0, .int 0, .int 0, .int 0, .int 0, .int 0] (.int 0) := (Arv.new A2 (by decide)).pad (pad_rep [] (.int 0) 6)
  obtain ⟨cl3, Ar3, q3, Sz3, M3, Hs3, Gs3⟩ := id V_b2
  have hin3 := inb_of (j := (0 : Int32)) Sz3 ⟨by decide, by decide⟩
  obtain ⟨T4, h4, X4, e4, W4, st4⟩ := stB X2 hx hZ e2 Ar3 (j := (0 : Int32)) hin3 (g := (mkF m 29 #[iv p0, iv p1, iv p2, iv (if (p2 &&& (65536 : Int32)) = (0 : Int32) then (255 : Int32) else (127 : Int32)), rv b2, .unset, .unset, .unset, .unset, .unset, .unset, .unset, .unset, .unset] [(.int ((p0 &&& (if (p2 &&& (65536 : Int32)) = (0 : Int32) then (255 : Int32) else (127 : Int32))).toInt8.toInt32)), .int 0, .ref b2])) rfl rfl (hb hby at_29)
  have K4 := K2.wr W4 (Or.inr sz_b2)
  have N4 := Fr.snoc X4 N0 new_b2
  have V_b2_4 := Arv.set Ar3 q3 Sz3 M3 Hs3 Gs3 (fits_nar_byte _) W4 0 rfl (Nat.le_of_ble_eq_true rfl)
  obtain ⟨cl5, Ar5, q5, Sz5, M5, Hs5, Gs5⟩ := id V_b2_4
  have hin5 := inb_of (j := (1 : Int32)) Sz5 ⟨by decide, by decide⟩
  obtain ⟨T6, h6, X6, e6, W6, st6⟩ := stB X4 hx hZ e4 Ar5 (j := (1 : Int32)) hin5 (g := (mkF m 40 #[iv p0, iv p1, iv p2, iv (if (p2 &&& (65536 : Int32)) = (0 : Int32) then (255 : Int32) else (127 : Int32)), rv b2, .unset, .unset, .unset, .unset, .unset, .unset, .unset, .unset, .unset] [(.int ((((p0.toUInt32 >>> ((8 : Int32) &&& 31).toUInt32).toInt32) &&& (if (p2 &&& (65536 : Int32)) = (0 : Int32) then (255 : Int32) else (127 : Int32))).toInt8.toInt32)), .int 1, .ref b2])) rfl rfl (hb hby at_40)
  have K6 := K4.wr W6 (Or.inr sz_b2)
  have N6 := Fr.snoc X6 N4 new_b2
  have V_b2_6 := Arv.set Ar5 q5 Sz5 M5 Hs5 Gs5 (fits_nar_byte _) W6 1 rfl (Nat.le_of_ble_eq_true rfl)
  obtain ⟨cl7, Ar7, q7, Sz7, M7, Hs7, Gs7⟩ := id V_b2_6
  have hin7 := inb_of (j := (2 : Int32)) Sz7 ⟨by decide, by decide⟩
  obtain ⟨T8, h8, X8, e8, W8, st8⟩ := stB X6 hx hZ e6 Ar7 (j := (2 : Int32)) hin7 (g := (mkF m 51 #[iv p0, iv p1, iv p2, iv (if (p2 &&& (65536 : Int32)) = (0 : Int32) then (255 : Int32) else (127 : Int32)), rv b2, .unset, .unset, .unset, .unset, .unset, .unset, .unset, .unset, .unset] [(.int ((((p0.toUInt32 >>> ((16 : Int32) &&& 31).toUInt32).toInt32) &&& (if (p2 &&& (65536 : Int32)) = (0 : Int32) then (255 : Int32) else (127 : Int32))).toInt8.toInt32)), .int 2, .ref b2])) rfl rfl (hb hby at_51)
  have K8 := K6.wr W8 (Or.inr sz_b2)
  have N8 := Fr.snoc X8 N6 new_b2
  have V_b2_8 := Arv.set Ar7 q7 Sz7 M7 Hs7 Gs7 (fits_nar_byte _) W8 2 rfl (Nat.le_of_ble_eq_true rfl)
  obtain ⟨cl9, Ar9, q9, Sz9, M9, Hs9, Gs9⟩ := id V_b2_8
  have hin9 := inb_of (j := (3 : Int32)) Sz9 ⟨by decide, by decide⟩
  obtain ⟨T10, h10, X10, e10, W10, st10⟩ := stB X8 hx hZ e8 Ar9 (j := (3 : Int32)) hin9 (g := (mkF m 62 #[iv p0, iv p1, iv p2, iv (if (p2 &&& (65536 : Int32)) = (0 : Int32) then (255 : Int32) else (127 : Int32)), rv b2, .unset, .unset, .unset, .unset, .unset, .unset, .unset, .unset, .unset] [(.int ((((p0.toUInt32 >>> ((24 : Int32) &&& 31).toUInt32).toInt32) &&& (if (p2 &&& (65536 : Int32)) = (0 : Int32) then (255 : Int32) else (127 : Int32))).toInt8.toInt32)), .int 3, .ref b2])) rfl rfl (hb hby at_62)
  have K10 := K8.wr W10 (Or.inr sz_b2)
  have N10 := Fr.snoc X10 N8 new_b2
  have V_b2_10 := Arv.set Ar9 q9 Sz9 M9 Hs9 Gs9 (fits_nar_byte _) W10 3 rfl (Nat.le_of_ble_eq_true rfl)
  obtain ⟨cl11, Ar11, q11, Sz11, M11, Hs11, Gs11⟩ := id V_b2_10
  have hin11 := inb_of (j := (4 : Int32)) Sz11 ⟨by decide, by decide⟩
  obtain ⟨T12, h12, X12, e12, W12, st12⟩ := stB X10 hx hZ e10 Ar11 (j := (4 : Int32)) hin11 (g := (mkF m 70 #[iv p0, iv p1, iv p2, iv (if (p2 &&& (65536 : Int32)) = (0 : Int32) then (255 : Int32) else (127 : Int32)), rv b2, .unset, .unset, .unset, .unset, .unset, .unset, .unset, .unset, .unset] [(.int ((p1 &&& (if (p2 &&& (65536 : Int32)) = (0 : Int32) then (255 : Int32) else (127 : Int32))).toInt8.toInt32)), .int 4, .ref b2])) rfl rfl (hb hby at_70)
  have K12 := K10.wr W12 (Or.inr sz_b2)
  have N12 := Fr.snoc X12 N10 new_b2
  have V_b2_12 := Arv.set Ar11 q11 Sz11 M11 Hs11 Gs11 (fits_nar_byte _) W12 4 rfl (Nat.le_of_ble_eq_true rfl)
  obtain ⟨cl13, Ar13, q13, Sz13, M13, Hs13, Gs13⟩ := id V_b2_12
  have hin13 := inb_of (j := (5 : Int32)) Sz13 ⟨by decide, by decide⟩
  obtain ⟨T14, h14, X14, e14, W14, st14⟩ := stB X12 hx hZ e12 Ar13 (j := (5 : Int32)) hin13 (g := (mkF m 81 #[iv p0, iv p1, iv p2, iv (if (p2 &&& (65536 : Int32)) = (0 : Int32) then (255 : Int32) else (127 : Int32)), rv b2, .unset, .unset, .unset, .unset, .unset, .unset, .unset, .unset, .unset] [(.int ((((p1.toUInt32 >>> ((8 : Int32) &&& 31).toUInt32).toInt32) &&& (if (p2 &&& (65536 : Int32)) = (0 : Int32) then (255 : Int32) else (127 : Int32))).toInt8.toInt32)), .int 5, .ref b2])) rfl rfl (hb hby at_81)
  have K14 := K12.wr W14 (Or.inr sz_b2)
  have N14 := Fr.snoc X14 N12 new_b2
  have V_b2_14 := Arv.set Ar13 q13 Sz13 M13 Hs13 Gs13 (fits_nar_byte _) W14 5 rfl (Nat.le_of_ble_eq_true rfl)
  refine own_go (b := T14.setTop (mkF m 82 #[iv p0, iv p1, iv p2, iv (if (p2 &&& (65536 : Int32)) = (0 : Int32) then (255 : Int32) else (127 : Int32)), rv b2, .unset, .unset, .unset, .unset, .unset, .unset, .unset, .unset, .unset] [])) (fun t k => xistoreN X0 hx hby rfl at_15 rfl (l' := #[iv p0, iv p1, iv p2, iv (if (p2 &&& (65536 : Int32)) = (0 : Int32) then (255 : Int32) else (127 : Int32)), .unset, .unset, .unset, .unset, .unset, .unset, .unset, .unset, .unset, .unset]) rfl (xbipush X0 hx hby rfl at_16 (st2 _ (xastore X2 hx hby rfl at_20 rfl rfl (l' := #[iv p0, iv p1, iv p2, iv (if (p2 &&& (65536 : Int32)) = (0 : Int32) then (255 : Int32) else (127 : Int32)), rv b2, .unset, .unset, .unset, .unset, .unset, .unset, .unset, .unset, .unset]) rfl (xaload X2 hx hby rfl at_22 rfl rfl (xiconst X2 hx hby rfl at_24 (show Steps p.tables e below (T2.setTop (mkF m 25 #[iv p0, iv p1, iv p2, iv (if (p2 &&& (65536 : Int32)) = (0 : Int32) then (255 : Int32) else (127 : Int32)), rv b2, .unset, .unset, .unset, .unset, .unset, .unset, .unset, .unset, .unset] [.int 0, .ref b2])) _ from xiloadN X2 hx hby rfl at_25 rfl (xiloadN X2 hx hby rfl at_26 rfl (xiand X2 hx hby rfl at_27 rfl (XS.i2b X2.here hx rfl (hb hby at_28) rfl (st4 _ (xaload X4 hx hby rfl at_30 rfl rfl (show Steps p.tables e below (T4.setTop (mkF m 32 #[iv p0, iv p1, iv p2, iv (if (p2 &&& (65536 : Int32)) = (0 : Int32) then (255 : Int32) else (127 : Int32)), rv b2, .unset, .unset, .unset, .unset, .unset, .unset, .unset, .unset, .unset] [.ref b2])) _ from xiconst X4 hx hby rfl at_32 (xiloadN X4 hx hby rfl at_33 rfl (xbipush X4 hx hby rfl at_34 (show Steps p.tables e below (T4.setTop (mkF m 36 #[iv p0, iv p1, iv p2, iv (if (p2 &&& (65536 : Int32)) = (0 : Int32) then (255 : Int32) else (127 : Int32)), rv b2, .unset, .unset, .unset, .unset, .unset, .unset, .unset, .unset, .unset] [.int 8, .int p0, .int 1, .ref b2])) _ from XS.iushr X4.here hx rfl (hb hby at_36) rfl (xiloadN X4 hx hby rfl at_37 rfl (xiand X4 hx hby rfl at_38 rfl (XS.i2b X4.here hx rfl (hb hby at_39) rfl (st6 _ (xaload X6 hx hby rfl at_41 rfl rfl (show Steps p.tables e below (T6.setTop (mkF m 43 #[iv p0, iv p1, iv p2, iv (if (p2 &&& (65536 : Int32)) = (0 : Int32) then (255 : Int32) else (127 : Int32)), rv b2, .unset, .unset, .unset, .unset, .unset, .unset, .unset, .unset, .unset] [.ref b2])) _ from xiconst X6 hx hby rfl at_43 (xiloadN X6 hx hby rfl at_44 rfl (xbipush X6 hx hby rfl at_45 (show Steps p.tables e below (T6.setTop (mkF m 47 #[iv p0, iv p1, iv p2, iv (if (p2 &&& (65536 : Int32)) = (0 : Int32) then (255 : Int32) else (127 : Int32)), rv b2, .unset, .unset, .unset, .unset, .unset, .unset, .unset, .unset, .unset] [.int 16, .int p0, .int 2, .ref b2])) _ from XS.iushr X6.here hx rfl (hb hby at_47) rfl (xiloadN X6 hx hby rfl at_48 rfl (xiand X6 hx hby rfl at_49 rfl (XS.i2b X6.here hx rfl (hb hby at_50) rfl (st8 _ (xaload X8 hx hby rfl at_52 rfl rfl (show Steps p.tables e below (T8.setTop (mkF m 54 #[iv p0, iv p1, iv p2, iv (if (p2 &&& (65536 : Int32)) = (0 : Int32) then (255 : Int32) else (127 : Int32)), rv b2, .unset, .unset, .unset, .unset, .unset, .unset, .unset, .unset, .unset] [.ref b2])) _ from xiconst X8 hx hby rfl at_54 (xiloadN X8 hx hby rfl at_55 rfl (xbipush X8 hx hby rfl at_56 (show Steps p.tables e below (T8.setTop (mkF m 58 #[iv p0, iv p1, iv p2, iv (if (p2 &&& (65536 : Int32)) = (0 : Int32) then (255 : Int32) else (127 : Int32)), rv b2, .unset, .unset, .unset, .unset, .unset, .unset, .unset, .unset, .unset] [.int 24, .int p0, .int 3, .ref b2])) _ from XS.iushr X8.here hx rfl (hb hby at_58) rfl (xiloadN X8 hx hby rfl at_59 rfl (xiand X8 hx hby rfl at_60 rfl (XS.i2b X8.here hx rfl (hb hby at_61) rfl (st10 _ (xaload X10 hx hby rfl at_63 rfl rfl (show Steps p.tables e below (T10.setTop (mkF m 65 #[iv p0, iv p1, iv p2, iv (if (p2 &&& (65536 : Int32)) = (0 : Int32) then (255 : Int32) else (127 : Int32)), rv b2, .unset, .unset, .unset, .unset, .unset, .unset, .unset, .unset, .unset] [.ref b2])) _ from xiconst X10 hx hby rfl at_65 (xiloadN X10 hx hby rfl at_66 rfl (xiloadN X10 hx hby rfl at_67 rfl (show Steps p.tables e below (T10.setTop (mkF m 68 #[iv p0, iv p1, iv p2, iv (if (p2 &&& (65536 : Int32)) = (0 : Int32) then (255 : Int32) else (127 : Int32)), rv b2, .unset, .unset, .unset, .unset, .unset, .unset, .unset, .unset, .unset] [(.int (if (p2 &&& (65536 : Int32)) = (0 : Int32) then (255 : Int32) else (127 : Int32))), .int p1, .int 4, .ref b2])) _ from xiand X10 hx hby rfl at_68 rfl (XS.i2b X10.here hx rfl (hb hby at_69) rfl (st12 _ (xaload X12 hx hby rfl at_71 rfl rfl (xiconst X12 hx hby rfl at_73 (xiloadN X12 hx hby rfl at_74 rfl (show Steps p.tables e below (T12.setTop (mkF m 75 #[iv p0, iv p1, iv p2, iv (if (p2 &&& (65536 : Int32)) = (0 : Int32) then (255 : Int32) else (127 : Int32)), rv b2, .unset, .unset, .unset, .unset, .unset, .unset, .unset, .unset, .unset] [.int p1, .int 5, .ref b2])) _ from xbipush X12 hx hby rfl at_75 (show Steps p.tables e below (T12.setTop (mkF m 77 #[iv p0, iv p1, iv p2, iv (if (p2 &&& (65536 : Int32)) = (0 : Int32) then (255 : Int32) else (127 : Int32)), rv b2, .unset, .unset, .unset, .unset, .unset, .unset, .unset, .unset, .unset] [.int 8, .int p1, .int 5, .ref b2])) _ from XS.iushr X12.here hx rfl (hb hby at_77) rfl (xiloadN X12 hx hby rfl at_78 rfl (xiand X12 hx hby rfl at_79 rfl (XS.i2b X12.here hx rfl (hb hby at_80) rfl (st14 _ k)))))))))))))))))))))))))))))))))))))))))))))))))))))) ?_
  clear X2 e2 E2 A2 st2 K2 V_b2 Ar3 q3 Sz3 M3 Hs3 Gs3 hin3 X4 e4 W4 st4 K4 N4 V_b2_4 Ar5 q5 Sz5 M5 Hs5 Gs5 hin5 X6 e6 W6 st6 K6 N6 V_b2_6 Ar7 q7 Sz7 M7 Hs7 Gs7 hin7 X8 e8 W8 st8 K8 N8 V_b2_8 Ar9 q9 Sz9 M9 Hs9 Gs9 hin9 X10 e10 W10 st10 K10 N10 V_b2_10 Ar11 q11 Sz11 M11 Hs11 Gs11 hin11 X12 e12 W12 st12 K12 N12 V_b2_12 q13 Sz13 M13 Hs13 Gs13 hin13 W14 st14
  exact own_tA hw Bd hx hby hml hown hZ X14 e14 N14 Z0 K14 S_cs S_f V_b2_14 new_b2 sz_b2 hcs hfv hCH0 (own_by _) (own_by _) (own_by _) (own_by _) (own_by _) (own_by _)
set_option maxRecDepth 65536 in
set_option maxHeartbeats 40000000 in
theorem comes_1 {Post : Tables → Env → Array Value → State → Outcome → State → Prop} (hpost : ∀ tb e args s v u, (limb_1_1.after args s (.returned v) u = true ∧ limb_1_2.after args s (.returned v) u = true ∧ True) → ReturnedEndW s (.returned v) u (Jvm.fieldLocs frame_1_writes args s ++ Jvm.arrayLocs frame_1_arrays args s ++ Jvm.staticLocs frame_1_statics s) 24 1216 → Post tb e args s (.returned v) u) :
    ArmFor flags0 classFile x code maxLocals ret World_1 tables_1 room_1 Calls_1 rest_1 Pre_1 Post := by
  intro l hfl _ _ p e ha hc hk s m args below hf hA hF happ hP
  obtain ⟨hcalls, hrest, hpre⟩ := hP
  obtain ⟨-, -, -, hnamed, -, -, -, hat⟩ := (Spec.applies_iff hf).mp happ
  obtain ⟨hg, hn⟩ := and_e (Cond.before_iff.mp (show (Jvm.Cond.and given_1 narrow_1).before args s = true from hpre))
  obtain ⟨gc0, gr0⟩ := and_e hg
  obtain ⟨gc1, gr1⟩ := and_e gr0
  obtain ⟨gc2, gr2⟩ := and_e gr1
  obtain ⟨w0, w1, w2, rfl⟩ : ∃ w0 w1 w2 : Value, args = #[w0, w1, w2] := by
    have hs : args.size = 3 := by simpa [Cond.value, given_1] using gc0
    obtain ⟨L⟩ := args
    match L, hs with
    | [w0, w1, w2], _ => exact ⟨w0, w1, w2, rfl⟩
  have hw := fun d (hd : d ∈ tables_1) => atoms_spec (ws := Jvm.Cond.code x code maxLocals ret :: tables_1) hat d (List.mem_cons_of_mem _ hd)
  obtain ⟨i0, ei0⟩ := is_v gc1
  obtain rfl : w0 = (.int i0) := Option.some.inj ei0
  obtain ⟨i1, ei1⟩ := is_v gc2
  obtain rfl : w1 = (.int i1) := Option.some.inj ei1
  obtain ⟨i2, ei2⟩ := is_v gr2
  obtain rfl : w2 = (.int i2) := Option.some.inj ei2
  obtain ⟨hsets, hown0⟩ := atoms_of _ (rest_1_c_eq ▸ (show rest_1_c.before _ s = true from hrest))
  have j1 := Cond.before_iff.mp (hsets _ (List.mem_of_getElem? (i := 1) rfl))
  have j2 := Cond.before_iff.mp (hsets _ (List.mem_of_getElem? (i := 2) rfl))
  obtain ⟨cs, evcs⟩ := is_v j1
  have S_cs := Sta.start evcs (Or.inl (hsets _ (List.mem_of_getElem? (i := 0) rfl)))
  have hcs : ¬ cs = (0 : Int32) := gotF (Cond.eq_ints evcs (Term.int_eval 0)) (not_v j2)
  obtain ⟨fv, evf, hfv⟩ := Cond.isRef_spec (hsets _ (List.mem_of_getElem? (i := 8) rfl))
  have S_f := Sta.start evf (Or.inl (hsets _ (List.mem_of_getElem? (i := 7) rfl)))
  have hC : Jvm.Lit.constsHeld consts_1 s := hcalls.1
  have hCH : CHv s own_EL s.vm s.heap := CHv.start (own_EW hw) (fun q hq => hC q hq) (hsets _ (List.mem_of_getElem? (i := 2) rfl)) (wd hw 1 rfl) (wd hw 14 rfl)
  obtain ⟨n, o, h1, h2, h3, _, L, rfl, ⟨rfl, N⟩, hq⟩ := own_rm0 l s _ hw tables_1 i0 i1 i2 cs fv s.heap s.heap.size (Nat.le_refl _) S_cs hcs S_f hfv hCH p e ha hc hk s m _ below hf ((Spec.applies_iff_loose hf).mp happ).1 ⟨rfl, rfl, rfl⟩ trivial
  refine ⟨n, _, h1, h2, h3, hpost _ _ _ _ _ _ ⟨Cond.after_iff.mpr rfl, Cond.after_iff.mpr (eq_i res_at (Term.int_eval (1)) rfl), trivial⟩ ⟨hq.1, hq.2.1, hq.2.2.1, (hq.2.2.2.sift fun y hy => Or.inr (N y hy)).mono (by decide) (by decide)⟩⟩
theorem main_1_1 : Claimed_1_1 := comes_1 fun _ _ _ _ _ _ h hF => ⟨h.1, hF⟩
theorem main_1_2 : Claimed_1_2 := comes_1 fun _ _ _ _ _ _ h hF => ⟨h.2.1, hF⟩
end Jvm.Pilot.@@N@@
namespace Jvm.Pilot.@@N@@
open Jvm Jvm.ClassFile Sem Op Lib Jvm.Free Jvm.Stand Jvm.Pilot.@@N@@.Jvm.D
/-! MADE BY PROGRAM (witnessworld.py) out of the Statement's table words and the real class files: 20 classes; the members and pool entries that the words name. The judged class is class 1, her method 1. -/
namespace start1
open Jvm.ClassFile
def u (s : String) : CpInfo := .utf8 (stringToUtf16 s)
/-- a pool by its gaps: so many unusable entries, then the entry; so many at the end -/
def gap : Nat → List CpInfo → List CpInfo
  | 0, r => r
  | n + 1, r => .unusable :: gap n r
def poolList (es : List (Nat × CpInfo)) (last : Nat) : List CpInfo := es.foldr (fun e r => gap e.1 (e.2 :: r)) (gap last [])
def pool (es : List (Nat × CpInfo)) (last : Nat) : Array CpInfo := ⟨poolList es last⟩
def fileOf (pool : Array CpInfo) (this : Nat) (attrs : Array Attribute := #[]) (ms : Array MethodInfo := #[]) (fl : Nat := 33) (sup : Nat := 0) (ifs : Array Nat := #[]) (fds : Array FieldInfo := #[]) : ClassFile where
  minorVersion := 0
  majorVersion := 65
  constantPool := pool
  accessFlags := fl
  thisClass := this
  superClass := sup
  interfaces := ifs
  fields := fds
  methods := ms
  attributes := attrs
def plain (name : String) (sup : Option ClassId) : Class where
  name := name
  kind := .ordinary
  loader := none
  accessFlags := 33
  super := sup
  interfaces := #[]
  cf := none
  fields := #[]
  methods := #[]
  instanceTypes := #[]
  staticTypes := #[]
  resolved := #[]
  callSites := []
  init := .initialized
  statics := none
  mirror := none

def pool0 : Array CpInfo := pool [(5, u "<init>"), (0, u "()V"), (1, .class_ 10), (1, u "java/lang/Object")] 113

def k0c0 : Code := { maxStack := 0, maxLocals := 1, code := object_method_1_code, exceptionTable := #[], attributes := #[] }
def k0m0 : Method := { name := "<init>", desc := "()V", sig := { parameters := [], returnType := none }, accessFlags := 1, code := some k0c0 }
/-- java/lang/Object -/
def k0 : Class := { plain "java/lang/Object" none with
  accessFlags := 33
  interfaces := #[]
  cf := some (fileOf pool0 8 #[] #[{ accessFlags := 1, nameIndex := 5, descriptorIndex := 6, attributes := #[] }] 33 0 #[] #[])
  fields := #[]
  methods := #[k0m0]
  instanceTypes := #[]
  staticTypes := #[]
  resolved := Array.replicate 124 none
  statics := none }

def pool1 : Array CpInfo := pool [(2, .class_ 4), (1, u "java/lang/Object"), (0, u "<init>"), (0, u "()V"), (0, .integer 65536), (0, .methodref 9 10), (0, .class_ 11), (0, .nameAndType 12 13), (0, u "com/example/rollcall/rollcall/users/CaselessIndexAsciiHashPinLaw"), (0, u "bad"), (0, u "([BIII)Z"), (0, .methodref 9 15), (0, .nameAndType 16 17), (0, u "sized"), (0, u "(I)[C"), (0, .methodref 9 19), (0, .nameAndType 20 21), (0, u "put"), (0, u "([C[BII)V"), (0, .class_ 23), (0, u "java/lang/String"), (0, .methodref 22 25), (0, .nameAndType 5 26), (0, u "([C)V"), (0, .methodref 28 29), (0, .class_ 30), (0, .nameAndType 31 32), (0, u "com/example/rollcall/rollcall/users/CaselessIndex"), (0, u "asciiHash"), (0, u "([BII)J"), (0, .long 18446744073709551615), (1, .methodref 28 36), (0, .nameAndType 37 38), (0, u "caseless"), (0, u "(Ljava/lang/String;)Ljava/lang/String;"), (0, .methodref 28 40), (0, .nameAndType 41 42), (0, u "hash"), (0, u "(Ljava/lang/String;)I"), (0, .long 4294967295), (3, u "law"), (0, u "(III)Z")] 7

def k1m0 : Method := { name := "<init>", desc := "()V", sig := { parameters := [], returnType := none }, accessFlags := 1, code := none }
def k1c1 : Code := { maxStack := 4, maxLocals := 14, code := code, exceptionTable := #[], attributes := #[] }
def k1m1 : Method := { name := "law", desc := "(III)Z", sig := { parameters := [.int, .int, .int], returnType := some .boolean }, accessFlags := 9, code := some k1c1 }
def k1c2 : Code := { maxStack := 3, maxLocals := 4, code := method_3_code, exceptionTable := #[], attributes := #[] }
def k1m2 : Method := { name := "bad", desc := "([BIII)Z", sig := { parameters := [(.array .byte), .int, .int, .int], returnType := some .boolean }, accessFlags := 10, code := some k1c2 }
def k1c3 : Code := { maxStack := 5, maxLocals := 4, code := method_4_code, exceptionTable := #[], attributes := #[] }
def k1m3 : Method := { name := "put", desc := "([C[BII)V", sig := { parameters := [(.array .char), (.array .byte), .int, .int], returnType := none }, accessFlags := 10, code := some k1c3 }
def k1c4 : Code := { maxStack := 2, maxLocals := 1, code := method_5_code, exceptionTable := #[], attributes := #[] }
def k1m4 : Method := { name := "sized", desc := "(I)[C", sig := { parameters := [.int], returnType := some (.array .char) }, accessFlags := 10, code := some k1c4 }
/-- com/example/rollcall/rollcall/users/CaselessIndexAsciiHashPinLaw -/
def k1 : Class := { plain "com/example/rollcall/rollcall/users/CaselessIndexAsciiHashPinLaw" (some 0) with
  accessFlags := 49
  interfaces := #[]
  cf := some (fileOf pool1 9 #[] #[{ accessFlags := 1, nameIndex := 5, descriptorIndex := 6, attributes := #[] }, { accessFlags := 9, nameIndex := 47, descriptorIndex := 48, attributes := #[] }, { accessFlags := 10, nameIndex := 12, descriptorIndex := 13, attributes := #[] }, { accessFlags := 10, nameIndex := 20, descriptorIndex := 21, attributes := #[] }, { accessFlags := 10, nameIndex := 16, descriptorIndex := 17, attributes := #[] }] 49 2 #[] #[])
  fields := #[]
  methods := #[k1m0, k1m1, k1m2, k1m3, k1m4]
  instanceTypes := #[]
  staticTypes := #[]
  resolved := Array.replicate 56 none
  statics := none }

def pool2 : Array CpInfo := pool [(1, .class_ 2), (0, u "java/io/Serializable"), (0, .class_ 4), (0, u "java/lang/Object")] 2

/-- java/io/Serializable -/
def k2 : Class := { plain "java/io/Serializable" (some 0) with
  accessFlags := 1537
  interfaces := #[]
  cf := some (fileOf pool2 1 #[] #[] 1537 3 #[] #[])
  fields := #[]
  methods := #[]
  instanceTypes := #[]
  staticTypes := #[]
  resolved := Array.replicate 7 none
  statics := none }

def pool3 : Array CpInfo := pool [(1, .class_ 2), (0, u "java/lang/Comparable"), (0, .class_ 4), (0, u "java/lang/Object")] 7

/-- java/lang/Comparable -/
def k3 : Class := { plain "java/lang/Comparable" (some 0) with
  accessFlags := 1537
  interfaces := #[]
  cf := some (fileOf pool3 1 #[] #[] 1537 3 #[] #[])
  fields := #[]
  methods := #[]
  instanceTypes := #[]
  staticTypes := #[]
  resolved := Array.replicate 12 none
  statics := none }

def pool4 : Array CpInfo := pool [(2, .class_ 4), (1, u "java/lang/CharSequence"), (42, .class_ 48), (0, u "java/lang/CharSequence$1CodePointIterator"), (10, .class_ 60), (0, u "java/lang/CharSequence$1CharIterator"), (5, .class_ 67), (0, u "java/lang/Object")] 63

/-- java/lang/CharSequence -/
def k4 : Class := { plain "java/lang/CharSequence" (some 0) with
  accessFlags := 1537
  interfaces := #[]
  cf := some (fileOf pool4 2 #[.nestMembers #[47, 59]] #[] 1537 66 #[] #[])
  fields := #[]
  methods := #[]
  instanceTypes := #[]
  staticTypes := #[]
  resolved := Array.replicate 131 none
  statics := none }

def pool5 : Array CpInfo := pool [(1, .class_ 2), (0, u "java/lang/constant/Constable"), (0, .class_ 4), (0, u "java/lang/Object")] 6

/-- java/lang/constant/Constable -/
def k5 : Class := { plain "java/lang/constant/Constable" (some 0) with
  accessFlags := 1537
  interfaces := #[]
  cf := some (fileOf pool5 1 #[] #[] 1537 3 #[] #[])
  fields := #[]
  methods := #[]
  instanceTypes := #[]
  staticTypes := #[]
  resolved := Array.replicate 11 none
  statics := none }

def pool6 : Array CpInfo := pool [(1, .class_ 2), (0, u "java/lang/constant/ConstantDesc"), (0, .class_ 4), (0, u "java/lang/Object")] 32

/-- java/lang/constant/ConstantDesc -/
def k6 : Class := { plain "java/lang/constant/ConstantDesc" (some 0) with
  accessFlags := 1537
  interfaces := #[]
  cf := some (fileOf pool6 1 #[] #[] 1537 3 #[] #[])
  fields := #[]
  methods := #[]
  instanceTypes := #[]
  staticTypes := #[]
  resolved := Array.replicate 37 none
  statics := none }

def pool7 : Array CpInfo := pool [(1, .methodref 2 3), (0, .class_ 4), (0, .nameAndType 5 6), (0, u "java/lang/Object"), (0, u "<init>"), (0, u "()V"), (0, .string 8), (0, u ""), (0, .fieldref 10 11), (0, .class_ 12), (0, .nameAndType 13 14), (0, u "java/lang/String"), (0, u "value"), (0, u "[B"), (0, .fieldref 10 16), (0, .nameAndType 17 18), (0, u "coder"), (0, u "B"), (0, .fieldref 10 20), (0, .nameAndType 21 22), (0, u "hash"), (0, u "I"), (0, .fieldref 10 24), (0, .nameAndType 25 26), (0, u "hashIsZero"), (0, u "Z"), (0, .methodref 10 28), (0, .nameAndType 5 29), (0, u "([CIILjava/lang/Void;)V"), (8, .fieldref 10 39), (0, .nameAndType 40 26), (0, u "COMPACT_STRINGS"), (1, .class_ 44), (1, u "java/lang/StringUTF16"), (0, u "compress"), (1, .methodref 42 48), (0, .nameAndType 49 50), (0, u "coderFromArrayLen"), (0, u "([BI)B"), (56, .class_ 109), (1, u "java/lang/StringLatin1"), (32, u "()Z"), (34, .methodref 42 178), (0, .nameAndType 45 179), (0, u "([CII)[B"), (119, .methodref 107 300), (0, .nameAndType 301 302), (0, u "toChars"), (0, u "([B)[C"), (31, u "()I"), (0, .methodref 10 336), (0, .nameAndType 17 337), (0, u "()B"), (25, u "([BI)C"), (27, u "(II)V"), (35, u "(I)C"), (64, .methodref 10 493), (0, .nameAndType 494 142), (0, u "isLatin1"), (0, .methodref 107 496), (0, .nameAndType 497 363), (0, u "charAt"), (3, u "checkIndex"), (5, u "length"), (67, .class_ 576), (0, u "java/lang/CharSequence"), (22, u "CASE_INSENSITIVE_ORDER"), (0, u "Ljava/util/Comparator;"), (27, .methodref 107 629), (0, .nameAndType 630 631), (0, u "hashCode"), (0, u "([B)I"), (323, u "toCharArray"), (0, u "()[C"), (53, u "([C)V"), (42, .fieldref 1054 1055), (0, .class_ 1056), (0, .nameAndType 1057 1058), (0, u "jdk/internal/util/Preconditions"), (0, u "SIOOBE_FORMATTER"), (0, u "Ljava/util/function/BiFunction;"), (0, .methodref 1054 1060), (0, .nameAndType 501 1061), (0, u "(IILjava/util/function/BiFunction;)I"), (39, u "serialPersistentFields"), (0, u "[Ljava/io/ObjectStreamField;"), (0, .class_ 1104), (0, u "java/lang/String$CaseInsensitiveComparator"), (1, .class_ 1107), (0, u "java/io/Serializable"), (0, .class_ 1109), (0, u "java/lang/Comparable"), (0, .class_ 1111), (0, u "java/lang/constant/Constable"), (0, .class_ 1113), (0, u "java/lang/constant/ConstantDesc"), (2, u "serialVersionUID"), (0, u "J"), (3, u "REPL"), (0, u "C"), (2, u "LATIN1"), (1, u "UTF16")] 323

def k7m0 : Method := { name := "<init>", desc := "()V", sig := { parameters := [], returnType := none }, accessFlags := 1, code := none }
def k7c1 : Code := { maxStack := 5, maxLocals := 2, code := jdk_42_method_3_code, exceptionTable := #[], attributes := #[] }
def k7m1 : Method := { name := "<init>", desc := "([C)V", sig := { parameters := [(.array .char)], returnType := none }, accessFlags := 1, code := some k7c1 }
def k7c2 : Code := { maxStack := 2, maxLocals := 1, code := jdk_42_method_54_code, exceptionTable := #[], attributes := #[] }
def k7m2 : Method := { name := "length", desc := "()I", sig := { parameters := [], returnType := some .int }, accessFlags := 1, code := some k7c2 }
def k7c3 : Code := { maxStack := 2, maxLocals := 2, code := jdk_42_method_56_code, exceptionTable := #[], attributes := #[] }
def k7m3 : Method := { name := "charAt", desc := "(I)C", sig := { parameters := [.int], returnType := some .char }, accessFlags := 1, code := some k7c3 }
def k7c4 : Code := { maxStack := 2, maxLocals := 2, code := jdk_42_method_78_code, exceptionTable := #[], attributes := #[] }
def k7m4 : Method := { name := "hashCode", desc := "()I", sig := { parameters := [], returnType := some .int }, accessFlags := 1, code := some k7c4 }
def k7c5 : Code := { maxStack := 1, maxLocals := 1, code := jdk_42_method_129_code, exceptionTable := #[], attributes := #[] }
def k7m5 : Method := { name := "toCharArray", desc := "()[C", sig := { parameters := [], returnType := some (.array .char) }, accessFlags := 1, code := some k7c5 }
def k7c6 : Code := { maxStack := 4, maxLocals := 6, code := jdk_42_method_149_code, exceptionTable := #[], attributes := #[] }
def k7m6 : Method := { name := "<init>", desc := "([CIILjava/lang/Void;)V", sig := { parameters := [(.array .char), .int, .int, (.object "java/lang/Void")], returnType := none }, accessFlags := 2, code := some k7c6 }
def k7c7 : Code := { maxStack := 1, maxLocals := 1, code := jdk_42_method_152_code, exceptionTable := #[], attributes := #[] }
def k7m7 : Method := { name := "coder", desc := "()B", sig := { parameters := [], returnType := some .byte }, accessFlags := 0, code := some k7c7 }
def k7c8 : Code := { maxStack := 1, maxLocals := 1, code := jdk_42_method_154_code, exceptionTable := #[], attributes := #[] }
def k7m8 : Method := { name := "isLatin1", desc := "()Z", sig := { parameters := [], returnType := some .boolean }, accessFlags := 0, code := some k7c8 }
def k7c9 : Code := { maxStack := 3, maxLocals := 2, code := jdk_42_method_155_code, exceptionTable := #[], attributes := #[] }
def k7m9 : Method := { name := "checkIndex", desc := "(II)V", sig := { parameters := [.int, .int], returnType := none }, accessFlags := 8, code := some k7c9 }
/-- java/lang/String -/
def k7 : Class := { plain "java/lang/String" (some 0) with
  accessFlags := 49
  interfaces := #[2, 3, 4, 5, 6]
  cf := some (fileOf pool7 10 #[.nestMembers #[1103]] #[{ accessFlags := 1, nameIndex := 5, descriptorIndex := 6, attributes := #[] }, { accessFlags := 1, nameIndex := 5, descriptorIndex := 1010, attributes := #[] }, { accessFlags := 1, nameIndex := 507, descriptorIndex := 334, attributes := #[] }, { accessFlags := 1, nameIndex := 497, descriptorIndex := 427, attributes := #[] }, { accessFlags := 1, nameIndex := 630, descriptorIndex := 334, attributes := #[] }, { accessFlags := 1, nameIndex := 955, descriptorIndex := 956, attributes := #[] }, { accessFlags := 2, nameIndex := 5, descriptorIndex := 29, attributes := #[] }, { accessFlags := 0, nameIndex := 17, descriptorIndex := 337, attributes := #[] }, { accessFlags := 0, nameIndex := 494, descriptorIndex := 142, attributes := #[] }, { accessFlags := 8, nameIndex := 501, descriptorIndex := 391, attributes := #[] }] 49 2 #[1106, 1108, 575, 1110, 1112] #[{ accessFlags := 18, nameIndex := 13, descriptorIndex := 14, attributes := #[] }, { accessFlags := 18, nameIndex := 17, descriptorIndex := 18, attributes := #[] }, { accessFlags := 2, nameIndex := 21, descriptorIndex := 22, attributes := #[] }, { accessFlags := 2, nameIndex := 25, descriptorIndex := 26, attributes := #[] }, { accessFlags := 26, nameIndex := 1116, descriptorIndex := 1117, attributes := #[] }, { accessFlags := 24, nameIndex := 40, descriptorIndex := 26, attributes := #[] }, { accessFlags := 26, nameIndex := 1101, descriptorIndex := 1102, attributes := #[] }, { accessFlags := 26, nameIndex := 1121, descriptorIndex := 1122, attributes := #[] }, { accessFlags := 25, nameIndex := 599, descriptorIndex := 600, attributes := #[] }, { accessFlags := 24, nameIndex := 1125, descriptorIndex := 18, attributes := #[] }, { accessFlags := 24, nameIndex := 1127, descriptorIndex := 18, attributes := #[] }])
  fields := #[{ name := "value", type := (.array .byte), accessFlags := 18, slot := 0, constantValue := 0 }, { name := "coder", type := .byte, accessFlags := 18, slot := 1, constantValue := 0 }, { name := "hash", type := .int, accessFlags := 2, slot := 2, constantValue := 0 }, { name := "hashIsZero", type := .boolean, accessFlags := 2, slot := 3, constantValue := 0 }, { name := "serialVersionUID", type := .long, accessFlags := 26, slot := 0, constantValue := 0 }, { name := "COMPACT_STRINGS", type := .boolean, accessFlags := 24, slot := 1, constantValue := 0 }, { name := "serialPersistentFields", type := (.array (.object "java/io/ObjectStreamField")), accessFlags := 26, slot := 2, constantValue := 0 }, { name := "REPL", type := .char, accessFlags := 26, slot := 3, constantValue := 0 }, { name := "CASE_INSENSITIVE_ORDER", type := (.object "java/util/Comparator"), accessFlags := 25, slot := 4, constantValue := 0 }, { name := "LATIN1", type := .byte, accessFlags := 24, slot := 5, constantValue := 0 }, { name := "UTF16", type := .byte, accessFlags := 24, slot := 6, constantValue := 0 }]
  methods := #[k7m0, k7m1, k7m2, k7m3, k7m4, k7m5, k7m6, k7m7, k7m8, k7m9]
  instanceTypes := #[(.array .byte), .byte, .int, .boolean]
  staticTypes := #[.long, .boolean, (.array (.object "java/io/ObjectStreamField")), .char, (.object "java/util/Comparator"), .byte, .byte]
  resolved := Array.replicate 1451 none
  statics := some 0 }

def pool8 : Array CpInfo := pool [(6, .class_ 8), (1, u "com/example/rollcall/rollcall/users/CaselessIndex"), (0, u "<init>"), (2, .class_ 14), (1, u "java/lang/Object"), (0, u "()V"), (5, u "holders"), (0, u "Ljava/util/Map;"), (2, u "others"), (0, u "Lcom/example/rollcall/rollcall/users/CaselessIndex$Holders;"), (2, u "caseless"), (0, u "(Ljava/lang/String;)Ljava/lang/String;"), (9, .class_ 42), (1, u "com/example/rollcall/rollcall/users/CaselessIndex$Holders"), (19, .methodref 63 64), (0, .class_ 65), (0, .nameAndType 66 67), (0, u "java/lang/String"), (0, u "hashCode"), (0, u "()I"), (0, .methodref 6 69), (0, .nameAndType 70 71), (0, u "spread"), (0, u "(I)I"), (0, .long 18446744073709551615), (1, .long 4294967295), (1, .integer 2246822507), (0, .integer 3266489909), (0, .methodref 6 79), (0, .nameAndType 80 30), (0, u "asciiCaseless"), (2, .methodref 63 84), (0, .nameAndType 85 67), (0, u "length"), (25, .methodref 63 112), (0, .nameAndType 113 114), (0, u "charAt"), (0, u "(I)C"), (0, .methodref 63 116), (0, .nameAndType 117 118), (0, u "toCharArray"), (0, u "()[C"), (0, .methodref 63 120), (0, .nameAndType 9 121), (0, u "([C)V"), (21, u "NOT_ASCII"), (0, u "J"), (10, u "hash"), (0, u "(Ljava/lang/String;)I"), (0, u "asciiHash"), (0, u "([BII)J")] 32

def k8m0 : Method := { name := "<init>", desc := "()V", sig := { parameters := [], returnType := none }, accessFlags := 0, code := none }
def k8c1 : Code := { maxStack := 1, maxLocals := 1, code := prog_68_method_6_code, exceptionTable := #[], attributes := #[] }
def k8m1 : Method := { name := "hash", desc := "(Ljava/lang/String;)I", sig := { parameters := [(.object "java/lang/String")], returnType := some .int }, accessFlags := 8, code := some k8c1 }
def k8c2 : Code := { maxStack := 4, maxLocals := 6, code := prog_68_method_7_code, exceptionTable := #[], attributes := #[] }
def k8m2 : Method := { name := "asciiHash", desc := "([BII)J", sig := { parameters := [(.array .byte), .int, .int], returnType := some .long }, accessFlags := 8, code := some k8c2 }
def k8c3 : Code := { maxStack := 3, maxLocals := 2, code := prog_68_method_8_code, exceptionTable := #[], attributes := #[] }
def k8m3 : Method := { name := "spread", desc := "(I)I", sig := { parameters := [.int], returnType := some .int }, accessFlags := 10, code := some k8c3 }
def k8c4 : Code := { maxStack := 3, maxLocals := 5, code := prog_68_method_9_code, exceptionTable := #[], attributes := #[] }
def k8m4 : Method := { name := "caseless", desc := "(Ljava/lang/String;)Ljava/lang/String;", sig := { parameters := [(.object "java/lang/String")], returnType := some (.object "java/lang/String") }, accessFlags := 8, code := some k8c4 }
def k8c5 : Code := { maxStack := 4, maxLocals := 4, code := prog_68_method_10_code, exceptionTable := #[], attributes := #[] }
def k8m5 : Method := { name := "asciiCaseless", desc := "(Ljava/lang/String;)Ljava/lang/String;", sig := { parameters := [(.object "java/lang/String")], returnType := some (.object "java/lang/String") }, accessFlags := 10, code := some k8c5 }
/-- com/example/rollcall/rollcall/users/CaselessIndex -/
def k8 : Class := { plain "com/example/rollcall/rollcall/users/CaselessIndex" (some 0) with
  accessFlags := 48
  interfaces := #[]
  cf := some (fileOf pool8 6 #[.nestMembers #[40]] #[{ accessFlags := 0, nameIndex := 9, descriptorIndex := 15, attributes := #[] }, { accessFlags := 8, nameIndex := 155, descriptorIndex := 156, attributes := #[] }, { accessFlags := 8, nameIndex := 157, descriptorIndex := 158, attributes := #[] }, { accessFlags := 10, nameIndex := 70, descriptorIndex := 71, attributes := #[] }, { accessFlags := 8, nameIndex := 29, descriptorIndex := 30, attributes := #[] }, { accessFlags := 10, nameIndex := 80, descriptorIndex := 30, attributes := #[] }] 48 12 #[] #[{ accessFlags := 24, nameIndex := 143, descriptorIndex := 144, attributes := #[] }, { accessFlags := 18, nameIndex := 21, descriptorIndex := 22, attributes := #[] }, { accessFlags := 18, nameIndex := 25, descriptorIndex := 26, attributes := #[] }])
  fields := #[{ name := "NOT_ASCII", type := .long, accessFlags := 24, slot := 0, constantValue := 0 }, { name := "holders", type := (.object "java/util/Map"), accessFlags := 18, slot := 0, constantValue := 0 }, { name := "others", type := (.object "com/example/rollcall/rollcall/users/CaselessIndex$Holders"), accessFlags := 18, slot := 1, constantValue := 0 }]
  methods := #[k8m0, k8m1, k8m2, k8m3, k8m4, k8m5]
  instanceTypes := #[(.object "java/util/Map"), (.object "com/example/rollcall/rollcall/users/CaselessIndex$Holders")]
  staticTypes := #[.long]
  resolved := Array.replicate 191 none
  statics := none }

def pool9 : Array CpInfo := pool [(1, .class_ 2), (0, u "java/lang/String"), (1, .class_ 6), (1, u "java/lang/Object"), (0, u "<init>"), (0, u "()V"), (0, .methodref 1 10), (0, .nameAndType 11 12), (0, u "checkIndex"), (0, u "(II)V"), (0, .methodref 14 15), (0, .class_ 16), (0, .nameAndType 17 18), (0, u "java/lang/StringLatin1"), (0, u "inflate"), (0, u "([BI[CII)V"), (26, .class_ 47), (1, u "jdk/internal/util/ArraysSupport"), (5, u "([BI)C"), (3, u "([B)I"), (26, .methodref 45 85), (0, .nameAndType 86 87), (0, u "vectorizedHashCode"), (0, u "(Ljava/lang/Object;IIII)I"), (33, u "$assertionsDisabled"), (0, u "Z"), (69, u "toChars"), (28, .class_ 223), (1, u "java/lang/StringLatin1$LinesSpliterator"), (28, u "charAt"), (15, u "([B)[C"), (29, u "hashCode"), (91, .class_ 391), (0, u "java/lang/StringLatin1$CharsSpliterator")] 3

def k9m0 : Method := { name := "<init>", desc := "()V", sig := { parameters := [], returnType := none }, accessFlags := 0, code := none }
def k9c1 : Code := { maxStack := 2, maxLocals := 2, code := jdk_43_method_2_code, exceptionTable := #[], attributes := #[] }
def k9m1 : Method := { name := "charAt", desc := "([BI)C", sig := { parameters := [(.array .byte), .int], returnType := some .char }, accessFlags := 9, code := some k9c1 }
def k9c2 : Code := { maxStack := 5, maxLocals := 2, code := jdk_43_method_9_code, exceptionTable := #[], attributes := #[] }
def k9m2 : Method := { name := "toChars", desc := "([B)[C", sig := { parameters := [(.array .byte)], returnType := some (.array .char) }, accessFlags := 9, code := some k9c2 }
def k9c3 : Code := { maxStack := 5, maxLocals := 1, code := jdk_43_method_21_code, exceptionTable := #[], attributes := #[] }
def k9m3 : Method := { name := "hashCode", desc := "([B)I", sig := { parameters := [(.array .byte)], returnType := some .int }, accessFlags := 9, code := some k9c3 }
def k9c4 : Code := { maxStack := 4, maxLocals := 6, code := jdk_43_method_49_code, exceptionTable := #[], attributes := #[] }
def k9m4 : Method := { name := "inflate", desc := "([BI[CII)V", sig := { parameters := [(.array .byte), .int, (.array .char), .int, .int], returnType := none }, accessFlags := 9, code := some k9c4 }
/-- java/lang/StringLatin1 -/
def k9 : Class := { plain "java/lang/StringLatin1" (some 0) with
  accessFlags := 48
  interfaces := #[]
  cf := some (fileOf pool9 14 #[.nestMembers #[390, 221]] #[{ accessFlags := 0, nameIndex := 7, descriptorIndex := 8, attributes := #[] }, { accessFlags := 9, nameIndex := 252, descriptorIndex := 53, attributes := #[] }, { accessFlags := 9, nameIndex := 192, descriptorIndex := 268, attributes := #[] }, { accessFlags := 9, nameIndex := 298, descriptorIndex := 57, attributes := #[] }, { accessFlags := 9, nameIndex := 17, descriptorIndex := 18, attributes := #[] }] 48 4 #[] #[{ accessFlags := 4120, nameIndex := 121, descriptorIndex := 122, attributes := #[] }])
  fields := #[{ name := "$assertionsDisabled", type := .boolean, accessFlags := 4120, slot := 0, constantValue := 0 }]
  methods := #[k9m0, k9m1, k9m2, k9m3, k9m4]
  instanceTypes := #[]
  staticTypes := #[.boolean]
  resolved := Array.replicate 395 none
  statics := none }

def pool10 : Array CpInfo := pool [(6, .class_ 8), (1, u "java/lang/Object"), (0, u "<init>"), (0, u "()V"), (1, .class_ 14), (1, u "java/lang/StringUTF16"), (31, u "$assertionsDisabled"), (0, u "Z"), (13, u "HI_BYTE_SHIFT"), (0, u "I"), (2, u "LO_BYTE_SHIFT"), (49, .methodref 12 116), (0, .nameAndType 117 118), (0, u "compress"), (0, u "([CI[BII)I"), (3, u "([CII)[B"), (138, u "coderFromArrayLen"), (0, u "([BI)B"), (106, .class_ 371), (1, u "java/lang/StringUTF16$LinesSpliterator"), (58, u "MAX_LENGTH"), (196, .class_ 628), (0, u "java/lang/StringUTF16$CodePointsSpliterator"), (0, .class_ 630), (0, u "java/lang/StringUTF16$CharsSpliterator")] 4

def k10m0 : Method := { name := "<init>", desc := "()V", sig := { parameters := [], returnType := none }, accessFlags := 0, code := none }
def k10c1 : Code := { maxStack := 2, maxLocals := 2, code := jdk_52_method_15_code, exceptionTable := #[], attributes := #[] }
def k10m1 : Method := { name := "coderFromArrayLen", desc := "([BI)B", sig := { parameters := [(.array .byte), .int], returnType := some .byte }, accessFlags := 8, code := some k10c1 }
def k10c2 : Code := { maxStack := 5, maxLocals := 6, code := jdk_52_method_16_code, exceptionTable := #[], attributes := #[] }
def k10m2 : Method := { name := "compress", desc := "([CII)[B", sig := { parameters := [(.array .char), .int, .int], returnType := some (.array .byte) }, accessFlags := 9, code := some k10c2 }
def k10c3 : Code := { maxStack := 3, maxLocals := 7, code := jdk_52_method_21_code, exceptionTable := #[], attributes := #[] }
def k10m3 : Method := { name := "compress", desc := "([CI[BII)I", sig := { parameters := [(.array .char), .int, (.array .byte), .int, .int], returnType := some .int }, accessFlags := 9, code := some k10c3 }
/-- java/lang/StringUTF16 -/
def k10 : Class := { plain "java/lang/StringUTF16" (some 0) with
  accessFlags := 48
  interfaces := #[]
  cf := some (fileOf pool10 12 #[.nestMembers #[627, 629, 369]] #[{ accessFlags := 0, nameIndex := 9, descriptorIndex := 10, attributes := #[] }, { accessFlags := 8, nameIndex := 261, descriptorIndex := 262, attributes := #[] }, { accessFlags := 9, nameIndex := 117, descriptorIndex := 122, attributes := #[] }, { accessFlags := 9, nameIndex := 117, descriptorIndex := 118, attributes := #[] }] 48 6 #[] #[{ accessFlags := 26, nameIndex := 61, descriptorIndex := 62, attributes := #[] }, { accessFlags := 26, nameIndex := 65, descriptorIndex := 62, attributes := #[] }, { accessFlags := 24, nameIndex := 430, descriptorIndex := 62, attributes := #[] }, { accessFlags := 4120, nameIndex := 46, descriptorIndex := 47, attributes := #[] }])
  fields := #[{ name := "HI_BYTE_SHIFT", type := .int, accessFlags := 26, slot := 0, constantValue := 0 }, { name := "LO_BYTE_SHIFT", type := .int, accessFlags := 26, slot := 1, constantValue := 0 }, { name := "MAX_LENGTH", type := .int, accessFlags := 24, slot := 2, constantValue := 0 }, { name := "$assertionsDisabled", type := .boolean, accessFlags := 4120, slot := 3, constantValue := 0 }]
  methods := #[k10m0, k10m1, k10m2, k10m3]
  instanceTypes := #[]
  staticTypes := #[.int, .int, .int, .boolean]
  resolved := Array.replicate 635 none
  statics := none }

def pool11 : Array CpInfo := pool [(2, .class_ 4), (1, u "java/lang/Object"), (0, u "<init>"), (0, u "()V"), (17, .class_ 26), (1, u "jdk/internal/util/Preconditions"), (6, u "checkIndex"), (21, .class_ 56), (0, u "jdk/internal/util/Preconditions$4"), (57, .class_ 115), (0, u "jdk/internal/util/Preconditions$1"), (7, u "SIOOBE_FORMATTER"), (0, u "Ljava/util/function/BiFunction;"), (0, .class_ 126), (0, u "jdk/internal/util/Preconditions$2"), (3, u "AIOOBE_FORMATTER"), (0, .class_ 132), (0, u "jdk/internal/util/Preconditions$3"), (3, u "IOOBE_FORMATTER"), (41, u "(IILjava/util/function/BiFunction;)I")] 15

def k11m0 : Method := { name := "<init>", desc := "()V", sig := { parameters := [], returnType := none }, accessFlags := 1, code := none }
def k11c1 : Code := { maxStack := 3, maxLocals := 3, code := jdk_41_method_11_code, exceptionTable := #[], attributes := #[] }
def k11m1 : Method := { name := "checkIndex", desc := "(IILjava/util/function/BiFunction;)I", sig := { parameters := [.int, .int, (.object "java/util/function/BiFunction")], returnType := some .int }, accessFlags := 9, code := some k11c1 }
/-- jdk/internal/util/Preconditions -/
def k11 : Class := { plain "jdk/internal/util/Preconditions" (some 0) with
  accessFlags := 33
  interfaces := #[]
  cf := some (fileOf pool11 24 #[.nestMembers #[55, 131, 125, 114]] #[{ accessFlags := 1, nameIndex := 5, descriptorIndex := 6, attributes := #[] }, { accessFlags := 9, nameIndex := 33, descriptorIndex := 178, attributes := #[] }] 33 2 #[] #[{ accessFlags := 25, nameIndex := 123, descriptorIndex := 124, attributes := #[] }, { accessFlags := 25, nameIndex := 130, descriptorIndex := 124, attributes := #[] }, { accessFlags := 25, nameIndex := 136, descriptorIndex := 124, attributes := #[] }])
  fields := #[{ name := "SIOOBE_FORMATTER", type := (.object "java/util/function/BiFunction"), accessFlags := 25, slot := 0, constantValue := 0 }, { name := "AIOOBE_FORMATTER", type := (.object "java/util/function/BiFunction"), accessFlags := 25, slot := 1, constantValue := 0 }, { name := "IOOBE_FORMATTER", type := (.object "java/util/function/BiFunction"), accessFlags := 25, slot := 2, constantValue := 0 }]
  methods := #[k11m0, k11m1]
  instanceTypes := #[]
  staticTypes := #[(.object "java/util/function/BiFunction"), (.object "java/util/function/BiFunction"), (.object "java/util/function/BiFunction")]
  resolved := Array.replicate 194 none
  statics := some 1 }

def pool12 : Array CpInfo := pool [(9, u "<init>"), (6, .class_ 18), (1, u "java/lang/Object"), (0, u "()V"), (1, .class_ 23), (1, u "jdk/internal/util/ArraysSupport"), (0, u "LOG2_ARRAY_LONG_INDEX_SCALE"), (0, u "I"), (2, u "U"), (0, u "Ljdk/internal/misc/Unsafe;"), (8, u "BIG_ENDIAN"), (0, u "Z"), (8, u "LOG2_BYTE_BIT_SIZE"), (4, u "LOG2_ARRAY_INT_INDEX_SCALE"), (6, .class_ 61), (0, u "[B"), (0, .methodref 21 63), (0, .nameAndType 64 65), (0, u "signedHashCode"), (0, u "(I[BII)I"), (42, u "JLA"), (0, u "Ljdk/internal/access/JavaLangAccess;"), (11, u "LOG2_ARRAY_BOOLEAN_INDEX_SCALE"), (9, u "LOG2_ARRAY_BYTE_INDEX_SCALE"), (5, u "LOG2_ARRAY_CHAR_INDEX_SCALE"), (5, u "LOG2_ARRAY_SHORT_INDEX_SCALE"), (18, u "LOG2_ARRAY_FLOAT_INDEX_SCALE"), (24, u "LOG2_ARRAY_DOUBLE_INDEX_SCALE"), (89, u "T_BOOLEAN"), (2, u "T_CHAR"), (1, u "T_FLOAT"), (1, u "T_DOUBLE"), (1, u "T_BYTE"), (1, u "T_SHORT"), (1, u "T_INT"), (1, u "T_LONG"), (1, u "SOFT_MAX_ARRAY_LENGTH"), (26, u "vectorizedHashCode"), (0, u "(Ljava/lang/Object;IIII)I")] 55

def k12m0 : Method := { name := "<init>", desc := "()V", sig := { parameters := [], returnType := none }, accessFlags := 2, code := none }
def k12c1 : Code := { maxStack := 4, maxLocals := 5, code := jdk_48_method_4_code, exceptionTable := #[], attributes := #[] }
def k12m1 : Method := { name := "vectorizedHashCode", desc := "(Ljava/lang/Object;IIII)I", sig := { parameters := [(.object "java/lang/Object"), .int, .int, .int, .int], returnType := some .int }, accessFlags := 9, code := some k12c1 }
def k12c2 : Code := { maxStack := 3, maxLocals := 6, code := jdk_48_method_5_code, exceptionTable := #[], attributes := #[] }
def k12m2 : Method := { name := "signedHashCode", desc := "(I[BII)I", sig := { parameters := [.int, (.array .byte), .int, .int], returnType := some .int }, accessFlags := 10, code := some k12c2 }
/-- jdk/internal/util/ArraysSupport -/
def k12 : Class := { plain "jdk/internal/util/ArraysSupport" (some 0) with
  accessFlags := 33
  interfaces := #[]
  cf := some (fileOf pool12 21 #[] #[{ accessFlags := 2, nameIndex := 9, descriptorIndex := 19, attributes := #[] }, { accessFlags := 9, nameIndex := 321, descriptorIndex := 322, attributes := #[] }, { accessFlags := 10, nameIndex := 64, descriptorIndex := 65, attributes := #[] }] 33 16 #[] #[{ accessFlags := 24, nameIndex := 28, descriptorIndex := 29, attributes := #[] }, { accessFlags := 26, nameIndex := 38, descriptorIndex := 39, attributes := #[] }, { accessFlags := 25, nameIndex := 121, descriptorIndex := 25, attributes := #[] }, { accessFlags := 25, nameIndex := 131, descriptorIndex := 25, attributes := #[] }, { accessFlags := 25, nameIndex := 137, descriptorIndex := 25, attributes := #[] }, { accessFlags := 25, nameIndex := 143, descriptorIndex := 25, attributes := #[] }, { accessFlags := 25, nameIndex := 53, descriptorIndex := 25, attributes := #[] }, { accessFlags := 25, nameIndex := 24, descriptorIndex := 25, attributes := #[] }, { accessFlags := 25, nameIndex := 162, descriptorIndex := 25, attributes := #[] }, { accessFlags := 25, nameIndex := 187, descriptorIndex := 25, attributes := #[] }, { accessFlags := 26, nameIndex := 48, descriptorIndex := 25, attributes := #[] }, { accessFlags := 25, nameIndex := 277, descriptorIndex := 25, attributes := #[] }, { accessFlags := 25, nameIndex := 280, descriptorIndex := 25, attributes := #[] }, { accessFlags := 25, nameIndex := 282, descriptorIndex := 25, attributes := #[] }, { accessFlags := 25, nameIndex := 284, descriptorIndex := 25, attributes := #[] }, { accessFlags := 25, nameIndex := 286, descriptorIndex := 25, attributes := #[] }, { accessFlags := 25, nameIndex := 288, descriptorIndex := 25, attributes := #[] }, { accessFlags := 25, nameIndex := 290, descriptorIndex := 25, attributes := #[] }, { accessFlags := 25, nameIndex := 292, descriptorIndex := 25, attributes := #[] }, { accessFlags := 26, nameIndex := 108, descriptorIndex := 109, attributes := #[] }, { accessFlags := 25, nameIndex := 294, descriptorIndex := 25, attributes := #[] }])
  fields := #[{ name := "U", type := (.object "jdk/internal/misc/Unsafe"), accessFlags := 24, slot := 0, constantValue := 0 }, { name := "BIG_ENDIAN", type := .boolean, accessFlags := 26, slot := 1, constantValue := 0 }, { name := "LOG2_ARRAY_BOOLEAN_INDEX_SCALE", type := .int, accessFlags := 25, slot := 2, constantValue := 0 }, { name := "LOG2_ARRAY_BYTE_INDEX_SCALE", type := .int, accessFlags := 25, slot := 3, constantValue := 0 }, { name := "LOG2_ARRAY_CHAR_INDEX_SCALE", type := .int, accessFlags := 25, slot := 4, constantValue := 0 }, { name := "LOG2_ARRAY_SHORT_INDEX_SCALE", type := .int, accessFlags := 25, slot := 5, constantValue := 0 }, { name := "LOG2_ARRAY_INT_INDEX_SCALE", type := .int, accessFlags := 25, slot := 6, constantValue := 0 }, { name := "LOG2_ARRAY_LONG_INDEX_SCALE", type := .int, accessFlags := 25, slot := 7, constantValue := 0 }, { name := "LOG2_ARRAY_FLOAT_INDEX_SCALE", type := .int, accessFlags := 25, slot := 8, constantValue := 0 }, { name := "LOG2_ARRAY_DOUBLE_INDEX_SCALE", type := .int, accessFlags := 25, slot := 9, constantValue := 0 }, { name := "LOG2_BYTE_BIT_SIZE", type := .int, accessFlags := 26, slot := 10, constantValue := 0 }, { name := "T_BOOLEAN", type := .int, accessFlags := 25, slot := 11, constantValue := 0 }, { name := "T_CHAR", type := .int, accessFlags := 25, slot := 12, constantValue := 0 }, { name := "T_FLOAT", type := .int, accessFlags := 25, slot := 13, constantValue := 0 }, { name := "T_DOUBLE", type := .int, accessFlags := 25, slot := 14, constantValue := 0 }, { name := "T_BYTE", type := .int, accessFlags := 25, slot := 15, constantValue := 0 }, { name := "T_SHORT", type := .int, accessFlags := 25, slot := 16, constantValue := 0 }, { name := "T_INT", type := .int, accessFlags := 25, slot := 17, constantValue := 0 }, { name := "T_LONG", type := .int, accessFlags := 25, slot := 18, constantValue := 0 }, { name := "JLA", type := (.object "jdk/internal/access/JavaLangAccess"), accessFlags := 26, slot := 19, constantValue := 0 }, { name := "SOFT_MAX_ARRAY_LENGTH", type := .int, accessFlags := 25, slot := 20, constantValue := 0 }]
  methods := #[k12m0, k12m1, k12m2]
  instanceTypes := #[]
  staticTypes := #[(.object "jdk/internal/misc/Unsafe"), .boolean, .int, .int, .int, .int, .int, .int, .int, .int, .int, .int, .int, .int, .int, .int, .int, .int, .int, (.object "jdk/internal/access/JavaLangAccess"), .int]
  resolved := Array.replicate 378 none
  statics := none }

def pool13 : Array CpInfo := pool [(1, u "java/lang/Cloneable"), (0, .class_ 1), (0, u "java/lang/Object"), (0, .class_ 3)] 3

/-- java/lang/Cloneable -/
def k13 : Class := { plain "java/lang/Cloneable" (some 0) with
  accessFlags := 1537
  interfaces := #[]
  cf := some (fileOf pool13 2 #[] #[] 1537 4 #[] #[])
  fields := #[]
  methods := #[]
  instanceTypes := #[]
  staticTypes := #[]
  resolved := Array.replicate 8 none
  statics := none }

/-- the primitive byte -/
def k14 : Class := { plain "byte" none with kind := .primitive 'B', accessFlags := 0x411 }
/-- [B -/
def k15 : Class := { plain "[B" (some 0) with kind := .array 14 .byte, interfaces := #[13, 2], accessFlags := 1041 }

/-- the primitive char -/
def k16 : Class := { plain "char" none with kind := .primitive 'C', accessFlags := 0x411 }
/-- [C -/
def k17 : Class := { plain "[C" (some 0) with kind := .array 16 .char, interfaces := #[13, 2], accessFlags := 1041 }

/-- the primitive int -/
def k18 : Class := { plain "int" none with kind := .primitive 'I', accessFlags := 0x411 }
/-- [I -/
def k19 : Class := { plain "[I" (some 0) with kind := .array 18 .int, interfaces := #[13, 2], accessFlags := 1041 }

def heap : Heap := #[{ cls := 7, slots := #[.long 0, .int 1, .null, .int 0, .null, .int 0, .int 0], vm := .statics 7 },
  { cls := 11, slots := #[.null, .null, .null], vm := .statics 11 }]
def classes : Array Class := #[k0, k1, k2, k3, k4, k5, k6, k7, k8, k9, k10, k11, k12, k13, k14, k15, k16, k17, k18, k19]
def interned : List (Array UInt16 × Addr) := []
def slotsUsed : Nat := 10
def theMethod : MethodId := ⟨1, 1⟩
def args0 : Array Value := #[.int 5, .int 3, .int 65]
def aboutOver (below : List Frame) : State where
  vm := { classes := classes, interned := interned.toArray }
  heap := heap
  slotsUsed := slotsUsed
  threads := #[{ frames := .invoking theMethod args0 :: below }]
def below0 : List Frame := [.native { method := ⟨0, 0⟩, args := #[] }]
def about1 : State := aboutOver below0
def p0 : Program := .bare "" "" ""
def e0 : Env := launch0.env 0 0 0
theorem w_frames : about1.frames = Frame.invoking theMethod args0 :: below0 := rfl
set_option maxRecDepth 65536 in
theorem w_args : argsFit about1.vm theMethod args0 = true := by decide +kernel
set_option maxRecDepth 65536 in
theorem w_heap : heapFits about1 = true := by decide +kernel
set_option maxRecDepth 65536 in
theorem w_runnable : about1.curStatus? = some .runnable := by decide +kernel
set_option maxRecDepth 65536 in
theorem w_alone : about1.alone = true := by decide +kernel
set_option maxRecDepth 65536 in
theorem w_named : about1.methodNamed? x = some theMethod := by decide +kernel
set_option maxRecDepth 65536 in
theorem w_hears : about1.hears theMethod below0 = true := by decide +kernel
set_option maxRecDepth 65536 in
theorem w_ripe : about1.ripe theMethod args0 below0 = true := by decide +kernel
theorem w_running : about1.status = .running := rfl
set_option maxRecDepth 65536 in
theorem w_room : about1.hasRoom e0.platform room_1 = true :=
  launch0.hasRoom_least _ room_1 (by decide +kernel) (by decide +kernel) (by decide +kernel) (by decide +kernel) (by decide +kernel) (by decide +kernel)
theorem allAtoms_all (ts : List Jvm.Cond) (a : Array Jvm.Value) (st : Jvm.State) : (allAtoms ts).before a st = ts.all (fun c => c.before a st) := by
  induction ts with
  | nil => rfl
  | cons c t ih =>
    show (Jvm.Cond.and c (allAtoms t)).before a st = _
    rw [Jvm.Cond.before_and, ih, List.all_cons]
def words1 : List Jvm.Cond := Jvm.Cond.code x code maxLocals ret :: tables_1
/-- a 'code' word, met by the world's own term for the bytes: nothing is compared byte by byte -/
theorem code_word {y : MethodName} {bytes : ByteArray} {mx : Nat} {rt : Option FieldType} {a : Array Value} {s : State} {m : MethodId} {meth : Method} {c : Code} (h1 : s.methodNamed? y = some m) (h2 : s.vm.method? m = some meth) (h3 : meth.code = some c) (h4 : c.code = bytes)
    (h5 : (c.maxLocals == mx && c.exceptionTable.isEmpty && decide (c.maxStack ≤ mostOperands) && decide (meth.sig.returnType = rt) && !meth.locks && decide (parseMethodDescriptor y.desc = some meth.sig)) = true) : (Jvm.Cond.code y bytes mx rt).before a s = true := by
  simp only [Bool.and_eq_true, beq_iff_eq, Bool.not_eq_true', decide_eq_true_eq] at h5
  obtain ⟨⟨⟨⟨⟨g1, g2⟩, g3⟩, g4⟩, g5⟩, g6⟩ := h5
  simp [Cond.before, Cond.holds, Cond.value, h1, h2, h3, h4, g1, g2, g3, g4, g5, g6]
def isCode : Jvm.Cond → Bool
  | .code _ _ _ _ => true
  | _ => false
theorem all_split {L : List Jvm.Cond} {P : Jvm.Cond → Bool} (h1 : L.all (fun c => isCode c || P c) = true) (h2 : ∀ c ∈ L.filter isCode, P c = true) : L.all P = true := by
  refine List.all_eq_true.mpr fun c hc => ?_
  have h := List.all_eq_true.mp h1 c hc
  rcases Bool.eq_false_or_eq_true (isCode c) with hi | hi
  · exact h2 c (List.mem_filter.mpr ⟨hc, hi⟩)
  · simpa [hi] using h
set_option maxRecDepth 65536 in
theorem w_c0 : (Jvm.Cond.code x code maxLocals ret).before args0 about1 = true := code_word (m := ⟨1, 1⟩) (meth := k1m1) (c := k1c1) (by decide +kernel) rfl rfl rfl (by decide +kernel)
set_option maxRecDepth 65536 in
theorem w_c1 : (Jvm.Cond.code ({ cls := "com/example/rollcall/rollcall/users/CaselessIndexAsciiHashPinLaw", name := "bad", desc := "([BIII)Z" } : Jvm.MethodName) method_3_code (4 : Nat) (Option.some Jvm.ClassFile.FieldType.boolean)).before args0 about1 = true := code_word (m := ⟨1, 2⟩) (meth := k1m2) (c := k1c2) (by decide +kernel) rfl rfl rfl (by decide +kernel)
set_option maxRecDepth 65536 in
theorem w_c2 : (Jvm.Cond.code ({ cls := "com/example/rollcall/rollcall/users/CaselessIndexAsciiHashPinLaw", name := "sized", desc := "(I)[C" } : Jvm.MethodName) method_5_code (1 : Nat) (Option.some (Jvm.ClassFile.FieldType.array Jvm.ClassFile.FieldType.char))).before args0 about1 = true := code_word (m := ⟨1, 4⟩) (meth := k1m4) (c := k1c4) (by decide +kernel) rfl rfl rfl (by decide +kernel)
set_option maxRecDepth 65536 in
theorem w_c3 : (Jvm.Cond.code ({ cls := "com/example/rollcall/rollcall/users/CaselessIndexAsciiHashPinLaw", name := "put", desc := "([C[BII)V" } : Jvm.MethodName) method_4_code (4 : Nat) (Option.none : Option Jvm.ClassFile.FieldType)).before args0 about1 = true := code_word (m := ⟨1, 3⟩) (meth := k1m3) (c := k1c3) (by decide +kernel) rfl rfl rfl (by decide +kernel)
set_option maxRecDepth 65536 in
theorem w_c4 : (Jvm.Cond.code ({ cls := "java/lang/String", name := "<init>", desc := "([C)V" } : Jvm.MethodName) jdk_42_method_3_code (2 : Nat) (Option.none : Option Jvm.ClassFile.FieldType)).before args0 about1 = true := code_word (m := ⟨7, 1⟩) (meth := k7m1) (c := k7c1) (by decide +kernel) rfl rfl rfl (by decide +kernel)
set_option maxRecDepth 65536 in
theorem w_c5 : (Jvm.Cond.code ({ cls := "java/lang/String", name := "<init>", desc := "([CIILjava/lang/Void;)V" } : Jvm.MethodName) jdk_42_method_149_code (6 : Nat) (Option.none : Option Jvm.ClassFile.FieldType)).before args0 about1 = true := code_word (m := ⟨7, 6⟩) (meth := k7m6) (c := k7c6) (by decide +kernel) rfl rfl rfl (by decide +kernel)
set_option maxRecDepth 65536 in
theorem w_c6 : (Jvm.Cond.code ({ cls := "java/lang/Object", name := "<init>", desc := "()V" } : Jvm.MethodName) object_method_1_code (1 : Nat) (Option.none : Option Jvm.ClassFile.FieldType)).before args0 about1 = true := code_word (m := ⟨0, 0⟩) (meth := k0m0) (c := k0c0) (by decide +kernel) rfl rfl rfl (by decide +kernel)
set_option maxRecDepth 65536 in
theorem w_c7 : (Jvm.Cond.code ({ cls := "com/example/rollcall/rollcall/users/CaselessIndex", name := "asciiHash", desc := "([BII)J" } : Jvm.MethodName) prog_68_method_7_code (6 : Nat) (Option.some Jvm.ClassFile.FieldType.long)).before args0 about1 = true := code_word (m := ⟨8, 2⟩) (meth := k8m2) (c := k8c2) (by decide +kernel) rfl rfl rfl (by decide +kernel)
set_option maxRecDepth 65536 in
theorem w_c8 : (Jvm.Cond.code ({ cls := "com/example/rollcall/rollcall/users/CaselessIndex", name := "spread", desc := "(I)I" } : Jvm.MethodName) prog_68_method_8_code (2 : Nat) (Option.some Jvm.ClassFile.FieldType.int)).before args0 about1 = true := code_word (m := ⟨8, 3⟩) (meth := k8m3) (c := k8c3) (by decide +kernel) rfl rfl rfl (by decide +kernel)
set_option maxRecDepth 65536 in
theorem w_c9 : (Jvm.Cond.code ({ cls := "com/example/rollcall/rollcall/users/CaselessIndex", name := "caseless", desc := "(Ljava/lang/String;)Ljava/lang/String;" } : Jvm.MethodName) prog_68_method_9_code (5 : Nat) (Option.some (Jvm.ClassFile.FieldType.object "java/lang/String"))).before args0 about1 = true := code_word (m := ⟨8, 4⟩) (meth := k8m4) (c := k8c4) (by decide +kernel) rfl rfl rfl (by decide +kernel)
set_option maxRecDepth 65536 in
theorem w_c10 : (Jvm.Cond.code ({ cls := "com/example/rollcall/rollcall/users/CaselessIndex", name := "asciiCaseless", desc := "(Ljava/lang/String;)Ljava/lang/String;" } : Jvm.MethodName) prog_68_method_10_code (4 : Nat) (Option.some (Jvm.ClassFile.FieldType.object "java/lang/String"))).before args0 about1 = true := code_word (m := ⟨8, 5⟩) (meth := k8m5) (c := k8c5) (by decide +kernel) rfl rfl rfl (by decide +kernel)
set_option maxRecDepth 65536 in
theorem w_c11 : (Jvm.Cond.code ({ cls := "java/lang/String", name := "length", desc := "()I" } : Jvm.MethodName) jdk_42_method_54_code (1 : Nat) (Option.some Jvm.ClassFile.FieldType.int)).before args0 about1 = true := code_word (m := ⟨7, 2⟩) (meth := k7m2) (c := k7c2) (by decide +kernel) rfl rfl rfl (by decide +kernel)
set_option maxRecDepth 65536 in
theorem w_c12 : (Jvm.Cond.code ({ cls := "java/lang/String", name := "coder", desc := "()B" } : Jvm.MethodName) jdk_42_method_152_code (1 : Nat) (Option.some Jvm.ClassFile.FieldType.byte)).before args0 about1 = true := code_word (m := ⟨7, 7⟩) (meth := k7m7) (c := k7c7) (by decide +kernel) rfl rfl rfl (by decide +kernel)
set_option maxRecDepth 65536 in
theorem w_c13 : (Jvm.Cond.code ({ cls := "com/example/rollcall/rollcall/users/CaselessIndex", name := "hash", desc := "(Ljava/lang/String;)I" } : Jvm.MethodName) prog_68_method_6_code (1 : Nat) (Option.some Jvm.ClassFile.FieldType.int)).before args0 about1 = true := code_word (m := ⟨8, 1⟩) (meth := k8m1) (c := k8c1) (by decide +kernel) rfl rfl rfl (by decide +kernel)
set_option maxRecDepth 65536 in
theorem w_c14 : (Jvm.Cond.code ({ cls := "java/lang/String", name := "hashCode", desc := "()I" } : Jvm.MethodName) jdk_42_method_78_code (2 : Nat) (Option.some Jvm.ClassFile.FieldType.int)).before args0 about1 = true := code_word (m := ⟨7, 4⟩) (meth := k7m4) (c := k7c4) (by decide +kernel) rfl rfl rfl (by decide +kernel)
set_option maxRecDepth 65536 in
theorem w_c15 : (Jvm.Cond.code ({ cls := "java/lang/String", name := "isLatin1", desc := "()Z" } : Jvm.MethodName) jdk_42_method_154_code (1 : Nat) (Option.some Jvm.ClassFile.FieldType.boolean)).before args0 about1 = true := code_word (m := ⟨7, 8⟩) (meth := k7m8) (c := k7c8) (by decide +kernel) rfl rfl rfl (by decide +kernel)
set_option maxRecDepth 65536 in
theorem w_c16 : (Jvm.Cond.code ({ cls := "java/lang/StringLatin1", name := "hashCode", desc := "([B)I" } : Jvm.MethodName) jdk_43_method_21_code (1 : Nat) (Option.some Jvm.ClassFile.FieldType.int)).before args0 about1 = true := code_word (m := ⟨9, 3⟩) (meth := k9m3) (c := k9c3) (by decide +kernel) rfl rfl rfl (by decide +kernel)
set_option maxRecDepth 65536 in
theorem w_c17 : (Jvm.Cond.code ({ cls := "java/lang/StringUTF16", name := "compress", desc := "([CII)[B" } : Jvm.MethodName) jdk_52_method_16_code (6 : Nat) (Option.some (Jvm.ClassFile.FieldType.array Jvm.ClassFile.FieldType.byte))).before args0 about1 = true := code_word (m := ⟨10, 2⟩) (meth := k10m2) (c := k10c2) (by decide +kernel) rfl rfl rfl (by decide +kernel)
set_option maxRecDepth 65536 in
theorem w_c18 : (Jvm.Cond.code ({ cls := "java/lang/StringUTF16", name := "compress", desc := "([CI[BII)I" } : Jvm.MethodName) jdk_52_method_21_code (7 : Nat) (Option.some Jvm.ClassFile.FieldType.int)).before args0 about1 = true := code_word (m := ⟨10, 3⟩) (meth := k10m3) (c := k10c3) (by decide +kernel) rfl rfl rfl (by decide +kernel)
set_option maxRecDepth 65536 in
theorem w_c19 : (Jvm.Cond.code ({ cls := "java/lang/StringUTF16", name := "coderFromArrayLen", desc := "([BI)B" } : Jvm.MethodName) jdk_52_method_15_code (2 : Nat) (Option.some Jvm.ClassFile.FieldType.byte)).before args0 about1 = true := code_word (m := ⟨10, 1⟩) (meth := k10m1) (c := k10c1) (by decide +kernel) rfl rfl rfl (by decide +kernel)
set_option maxRecDepth 65536 in
theorem w_c20 : (Jvm.Cond.code ({ cls := "java/lang/String", name := "charAt", desc := "(I)C" } : Jvm.MethodName) jdk_42_method_56_code (2 : Nat) (Option.some Jvm.ClassFile.FieldType.char)).before args0 about1 = true := code_word (m := ⟨7, 3⟩) (meth := k7m3) (c := k7c3) (by decide +kernel) rfl rfl rfl (by decide +kernel)
set_option maxRecDepth 65536 in
theorem w_c21 : (Jvm.Cond.code ({ cls := "java/lang/StringLatin1", name := "charAt", desc := "([BI)C" } : Jvm.MethodName) jdk_43_method_2_code (2 : Nat) (Option.some Jvm.ClassFile.FieldType.char)).before args0 about1 = true := code_word (m := ⟨9, 1⟩) (meth := k9m1) (c := k9c1) (by decide +kernel) rfl rfl rfl (by decide +kernel)
set_option maxRecDepth 65536 in
theorem w_c22 : (Jvm.Cond.code ({ cls := "java/lang/String", name := "checkIndex", desc := "(II)V" } : Jvm.MethodName) jdk_42_method_155_code (2 : Nat) (Option.none : Option Jvm.ClassFile.FieldType)).before args0 about1 = true := code_word (m := ⟨7, 9⟩) (meth := k7m9) (c := k7c9) (by decide +kernel) rfl rfl rfl (by decide +kernel)
set_option maxRecDepth 65536 in
theorem w_c23 : (Jvm.Cond.code ({ cls := "jdk/internal/util/Preconditions", name := "checkIndex", desc := "(IILjava/util/function/BiFunction;)I" } : Jvm.MethodName) jdk_41_method_11_code (3 : Nat) (Option.some Jvm.ClassFile.FieldType.int)).before args0 about1 = true := code_word (m := ⟨11, 1⟩) (meth := k11m1) (c := k11c1) (by decide +kernel) rfl rfl rfl (by decide +kernel)
set_option maxRecDepth 65536 in
theorem w_c24 : (Jvm.Cond.code ({ cls := "jdk/internal/util/ArraysSupport", name := "vectorizedHashCode", desc := "(Ljava/lang/Object;IIII)I" } : Jvm.MethodName) jdk_48_method_4_code (5 : Nat) (Option.some Jvm.ClassFile.FieldType.int)).before args0 about1 = true := code_word (m := ⟨12, 1⟩) (meth := k12m1) (c := k12c1) (by decide +kernel) rfl rfl rfl (by decide +kernel)
set_option maxRecDepth 65536 in
theorem w_c25 : (Jvm.Cond.code ({ cls := "jdk/internal/util/ArraysSupport", name := "signedHashCode", desc := "(I[BII)I" } : Jvm.MethodName) jdk_48_method_5_code (6 : Nat) (Option.some Jvm.ClassFile.FieldType.int)).before args0 about1 = true := code_word (m := ⟨12, 2⟩) (meth := k12m2) (c := k12c2) (by decide +kernel) rfl rfl rfl (by decide +kernel)
set_option maxRecDepth 65536 in
theorem w_c26 : (Jvm.Cond.code ({ cls := "java/lang/String", name := "toCharArray", desc := "()[C" } : Jvm.MethodName) jdk_42_method_129_code (1 : Nat) (Option.some (Jvm.ClassFile.FieldType.array Jvm.ClassFile.FieldType.char))).before args0 about1 = true := code_word (m := ⟨7, 5⟩) (meth := k7m5) (c := k7c5) (by decide +kernel) rfl rfl rfl (by decide +kernel)
set_option maxRecDepth 65536 in
theorem w_c27 : (Jvm.Cond.code ({ cls := "java/lang/StringLatin1", name := "toChars", desc := "([B)[C" } : Jvm.MethodName) jdk_43_method_9_code (2 : Nat) (Option.some (Jvm.ClassFile.FieldType.array Jvm.ClassFile.FieldType.char))).before args0 about1 = true := code_word (m := ⟨9, 2⟩) (meth := k9m2) (c := k9c2) (by decide +kernel) rfl rfl rfl (by decide +kernel)
set_option maxRecDepth 65536 in
theorem w_c28 : (Jvm.Cond.code ({ cls := "java/lang/StringLatin1", name := "inflate", desc := "([BI[CII)V" } : Jvm.MethodName) jdk_43_method_49_code (6 : Nat) (Option.none : Option Jvm.ClassFile.FieldType)).before args0 about1 = true := code_word (m := ⟨9, 4⟩) (meth := k9m4) (c := k9c4) (by decide +kernel) rfl rfl rfl (by decide +kernel)
def codes1 : List Jvm.Cond := [Jvm.Cond.code x code maxLocals ret, Jvm.Cond.code ({ cls := "com/example/rollcall/rollcall/users/CaselessIndexAsciiHashPinLaw", name := "bad", desc := "([BIII)Z" } : Jvm.MethodName) method_3_code (4 : Nat) (Option.some Jvm.ClassFile.FieldType.boolean), Jvm.Cond.code ({ cls := "com/example/rollcall/rollcall/users/CaselessIndexAsciiHashPinLaw", name := "sized", desc := "(I)[C" } : Jvm.MethodName) method_5_code (1 : Nat) (Option.some (Jvm.ClassFile.FieldType.array Jvm.ClassFile.FieldType.char)), Jvm.Cond.code ({ cls := "com/example/rollcall/rollcall/users/CaselessIndexAsciiHashPinLaw", name := "put", desc := "([C[BII)V" } : Jvm.MethodName) method_4_code (4 : Nat) (Option.none : Option Jvm.ClassFile.FieldType), Jvm.Cond.code ({ cls := "java/lang/String", name := "<init>", desc := "([C)V" } : Jvm.MethodName) jdk_42_method_3_code (2 : Nat) (Option.none : Option Jvm.ClassFile.FieldType), Jvm.Cond.code ({ cls := "java/lang/String", name := "<init>", desc := "([CIILjava/lang/Void;)V" } : Jvm.MethodName) jdk_42_method_149_code (6 : Nat) (Option.none : Option Jvm.ClassFile.FieldType), Jvm.Cond.code ({ cls := "java/lang/Object", name := "<init>", desc := "()V" } : Jvm.MethodName) object_method_1_code (1 : Nat) (Option.none : Option Jvm.ClassFile.FieldType), Jvm.Cond.code ({ cls := "com/example/rollcall/rollcall/users/CaselessIndex", name := "asciiHash", desc := "([BII)J" } : Jvm.MethodName) prog_68_method_7_code (6 : Nat) (Option.some Jvm.ClassFile.FieldType.long), Jvm.Cond.code ({ cls := "com/example/rollcall/rollcall/users/CaselessIndex", name := "spread", desc := "(I)I" } : Jvm.MethodName) prog_68_method_8_code (2 : Nat) (Option.some Jvm.ClassFile.FieldType.int), Jvm.Cond.code ({ cls := "com/example/rollcall/rollcall/users/CaselessIndex", name := "caseless", desc := "(Ljava/lang/String;)Ljava/lang/String;" } : Jvm.MethodName) prog_68_method_9_code (5 : Nat) (Option.some (Jvm.ClassFile.FieldType.object "java/lang/String")), Jvm.Cond.code ({ cls := "com/example/rollcall/rollcall/users/CaselessIndex", name := "asciiCaseless", desc := "(Ljava/lang/String;)Ljava/lang/String;" } : Jvm.MethodName) prog_68_method_10_code (4 : Nat) (Option.some (Jvm.ClassFile.FieldType.object "java/lang/String")), Jvm.Cond.code ({ cls := "java/lang/String", name := "length", desc := "()I" } : Jvm.MethodName) jdk_42_method_54_code (1 : Nat) (Option.some Jvm.ClassFile.FieldType.int), Jvm.Cond.code ({ cls := "java/lang/String", name := "coder", desc := "()B" } : Jvm.MethodName) jdk_42_method_152_code (1 : Nat) (Option.some Jvm.ClassFile.FieldType.byte), Jvm.Cond.code ({ cls := "com/example/rollcall/rollcall/users/CaselessIndex", name := "hash", desc := "(Ljava/lang/String;)I" } : Jvm.MethodName) prog_68_method_6_code (1 : Nat) (Option.some Jvm.ClassFile.FieldType.int), Jvm.Cond.code ({ cls := "java/lang/String", name := "hashCode", desc := "()I" } : Jvm.MethodName) jdk_42_method_78_code (2 : Nat) (Option.some Jvm.ClassFile.FieldType.int), Jvm.Cond.code ({ cls := "java/lang/String", name := "isLatin1", desc := "()Z" } : Jvm.MethodName) jdk_42_method_154_code (1 : Nat) (Option.some Jvm.ClassFile.FieldType.boolean), Jvm.Cond.code ({ cls := "java/lang/StringLatin1", name := "hashCode", desc := "([B)I" } : Jvm.MethodName) jdk_43_method_21_code (1 : Nat) (Option.some Jvm.ClassFile.FieldType.int), Jvm.Cond.code ({ cls := "java/lang/StringUTF16", name := "compress", desc := "([CII)[B" } : Jvm.MethodName) jdk_52_method_16_code (6 : Nat) (Option.some (Jvm.ClassFile.FieldType.array Jvm.ClassFile.FieldType.byte)), Jvm.Cond.code ({ cls := "java/lang/StringUTF16", name := "compress", desc := "([CI[BII)I" } : Jvm.MethodName) jdk_52_method_21_code (7 : Nat) (Option.some Jvm.ClassFile.FieldType.int), Jvm.Cond.code ({ cls := "java/lang/StringUTF16", name := "coderFromArrayLen", desc := "([BI)B" } : Jvm.MethodName) jdk_52_method_15_code (2 : Nat) (Option.some Jvm.ClassFile.FieldType.byte), Jvm.Cond.code ({ cls := "java/lang/String", name := "charAt", desc := "(I)C" } : Jvm.MethodName) jdk_42_method_56_code (2 : Nat) (Option.some Jvm.ClassFile.FieldType.char), Jvm.Cond.code ({ cls := "java/lang/StringLatin1", name := "charAt", desc := "([BI)C" } : Jvm.MethodName) jdk_43_method_2_code (2 : Nat) (Option.some Jvm.ClassFile.FieldType.char), Jvm.Cond.code ({ cls := "java/lang/String", name := "checkIndex", desc := "(II)V" } : Jvm.MethodName) jdk_42_method_155_code (2 : Nat) (Option.none : Option Jvm.ClassFile.FieldType), Jvm.Cond.code ({ cls := "jdk/internal/util/Preconditions", name := "checkIndex", desc := "(IILjava/util/function/BiFunction;)I" } : Jvm.MethodName) jdk_41_method_11_code (3 : Nat) (Option.some Jvm.ClassFile.FieldType.int), Jvm.Cond.code ({ cls := "jdk/internal/util/ArraysSupport", name := "vectorizedHashCode", desc := "(Ljava/lang/Object;IIII)I" } : Jvm.MethodName) jdk_48_method_4_code (5 : Nat) (Option.some Jvm.ClassFile.FieldType.int), Jvm.Cond.code ({ cls := "jdk/internal/util/ArraysSupport", name := "signedHashCode", desc := "(I[BII)I" } : Jvm.MethodName) jdk_48_method_5_code (6 : Nat) (Option.some Jvm.ClassFile.FieldType.int), Jvm.Cond.code ({ cls := "java/lang/String", name := "toCharArray", desc := "()[C" } : Jvm.MethodName) jdk_42_method_129_code (1 : Nat) (Option.some (Jvm.ClassFile.FieldType.array Jvm.ClassFile.FieldType.char)), Jvm.Cond.code ({ cls := "java/lang/StringLatin1", name := "toChars", desc := "([B)[C" } : Jvm.MethodName) jdk_43_method_9_code (2 : Nat) (Option.some (Jvm.ClassFile.FieldType.array Jvm.ClassFile.FieldType.char)), Jvm.Cond.code ({ cls := "java/lang/StringLatin1", name := "inflate", desc := "([BI[CII)V" } : Jvm.MethodName) jdk_43_method_49_code (6 : Nat) (Option.none : Option Jvm.ClassFile.FieldType)]
set_option maxRecDepth 65536 in
theorem codes_eq : words1.filter isCode = codes1 := rfl
theorem w_codes : ∀ c ∈ words1.filter isCode, c.before args0 about1 = true := by
  rw [codes_eq]
  intro c hc
  simp only [codes1, List.mem_cons, List.not_mem_nil, or_false] at hc
  rcases hc with rfl | rfl | rfl | rfl | rfl | rfl | rfl | rfl | rfl | rfl | rfl | rfl | rfl | rfl | rfl | rfl | rfl | rfl | rfl | rfl | rfl | rfl | rfl | rfl | rfl | rfl | rfl | rfl | rfl
  · exact w_c0
  · exact w_c1
  · exact w_c2
  · exact w_c3
  · exact w_c4
  · exact w_c5
  · exact w_c6
  · exact w_c7
  · exact w_c8
  · exact w_c9
  · exact w_c10
  · exact w_c11
  · exact w_c12
  · exact w_c13
  · exact w_c14
  · exact w_c15
  · exact w_c16
  · exact w_c17
  · exact w_c18
  · exact w_c19
  · exact w_c20
  · exact w_c21
  · exact w_c22
  · exact w_c23
  · exact w_c24
  · exact w_c25
  · exact w_c26
  · exact w_c27
  · exact w_c28
set_option maxRecDepth 65536 in
theorem w_t1 : (words1.take 24).all (fun c => isCode c || c.before args0 about1) = true := by decide +kernel
set_option maxRecDepth 65536 in
theorem w_t2 : ((words1.drop 24).take 24).all (fun c => isCode c || c.before args0 about1) = true := by decide +kernel
set_option maxRecDepth 65536 in
theorem w_t3 : (((words1.drop 24).drop 24).take 24).all (fun c => isCode c || c.before args0 about1) = true := by decide +kernel
set_option maxRecDepth 65536 in
theorem w_t4 : ((((words1.drop 24).drop 24).drop 24).take 24).all (fun c => isCode c || c.before args0 about1) = true := by decide +kernel
set_option maxRecDepth 65536 in
theorem w_t5 : (((((words1.drop 24).drop 24).drop 24).drop 24).take 24).all (fun c => isCode c || c.before args0 about1) = true := by decide +kernel
set_option maxRecDepth 65536 in
theorem w_t6 : (((((words1.drop 24).drop 24).drop 24).drop 24).drop 24).all (fun c => isCode c || c.before args0 about1) = true := by decide +kernel
theorem w_tables : (allAtoms (Jvm.Cond.code x code maxLocals ret :: tables_1)).before args0 about1 = true := by
  rw [allAtoms_all]
  show words1.all (fun c => c.before args0 about1) = true
  refine all_split ?_ w_codes
  rw [← List.take_append_drop 24 words1, List.all_append, w_t1, ← List.take_append_drop 24 (words1.drop 24), List.all_append, w_t2, ← List.take_append_drop 24 ((words1.drop 24).drop 24), List.all_append, w_t3, ← List.take_append_drop 24 (((words1.drop 24).drop 24).drop 24), List.all_append, w_t4, ← List.take_append_drop 24 ((((words1.drop 24).drop 24).drop 24).drop 24), List.all_append, w_t5, w_t6]
  rfl
set_option maxRecDepth 65536 in
theorem w_rest : rest_1_c.before args0 about1 = true := by decide +kernel
set_option maxRecDepth 65536 in
theorem w_case : (Jvm.Cond.and given_1 narrow_1).before args0 about1 = true := by decide +kernel
set_option maxRecDepth 65536 in
theorem w_consts : constsHeld consts_1 about1 := Jvm.Lit.constsHeldB_iff.mp (by decide +kernel)
theorem w_applies : (headSpec (Jvm.Cond.code x code maxLocals ret :: tables_1) room_1).applies x e0.platform about1 = true :=
  (Spec.applies_iff w_frames).mpr ⟨w_running, w_runnable, w_alone, w_named, w_hears, w_ripe, w_room, w_tables⟩
theorem atStart : AtStart classFile x code maxLocals ret World_1 tables_1 room_1 Calls_1 rest_1 Pre_1 launch0 p0 e0 about1 theMethod args0 below0 :=
  ⟨lists_1, trivial, launch0.admits_env _ _ _, launch0.least_env, fairChoices_fair.cas, fairChoices_fair.clock, w_frames, w_args, w_heap, w_applies, ⟨w_consts, trivial⟩, w_rest, w_case⟩
end start1
theorem witness_1 : WitnessClaimed_1 := ⟨start1.p0, start1.e0, start1.about1, start1.theMethod, start1.args0, start1.below0, start1.atStart⟩
end Jvm.Pilot.@@N@@
