import JvmDerived
import JvmDerived.Pilot.@@N@@Statement
import JvmDerived.Pilot.@@N@@Code
set_option linter.unusedVariables false
set_option linter.unusedSimpArgs false
namespace Jvm.RoadKit
open Sem ClassFile Op Lib Jvm.Stand Jvm.Free Jvm.LawKit
section New
variable {p : Program} {l : Launch} {e : Env} {R : Room} {s : State} {m : MethodId} {args : Array Value} {below : List Frame} {meth : Method} {c : Code} {T : State} {locs : List Loc} {cells slots : Nat}
theorem retI (X : Stand p l e R s m args below meth c T locs cells slots) (hx : p.tables.exec = Jvm.exec) {pc : Nat} {Ls : Array Slot} {z : Int32} {rest : List Value} (hret : meth.sig.returnType = some .int) (hd : decode c.code pc = .ok (.ireturn, 1)) {fs : List Frame}
    (hl : ∀ (f : JFrame) (acts : List Action), f.method = m → f.locked = none → f.entered = [] → (doReturn e (T.setTop f) acts (some (.int z))).1 = T.setFrames fs) : Steps p.tables e below (T.setTop (mkF m pc Ls (.int z :: rest))) (T.setFrames fs) := by
  have hm' : T.vm.method? m = some meth := X.method'
  have hn : narrow .int (.int z) = .int z := rfl
  show Steps p.tables e below (T.setTop { method := m, pc := pc, locals := Ls, stack := _ :: rest, locked := none }) _
  jvm_step X.here [X.here.top, hx, hd, hm', hret, hn]
  first | (intro acts; rw [hl _ acts rfl rfl rfl]) | rw [hl _ _ rfl rfl rfl]
  exact Steps.refl _
end New
end Jvm.RoadKit
namespace Jvm.Pilot.@@N@@
open Jvm Jvm.ClassFile Sem Op Lib Jvm.Free Jvm.Stand Jvm.LawKit Jvm.RoadKit Bundle Jvm.Pilot.@@N@@.Jvm.D
/-! ## The walk in continuation-passing form: what is left to run returns, and Q says of what it returns, of the heap and of the places written -/
def Ogo (p : Program) (e : Env) (below : List Frame) (P : Outcome → State → Prop) (A : State) : Prop :=
  ∃ s₂ o, Steps p.tables e below A s₂ ∧ s₂.status = .running ∧ Ended s₂ below o ∧ P o s₂
/-- it returned v, Q says of v, of the heap and of the places written; nothing else was done since s -/
def Onar (s : State) (R : Room) (Q : Option Value → Heap → List Loc → Prop) (o : Outcome) (t : State) : Prop := ∃ v L, o = .returned v ∧ Q v t.heap L ∧ FrameEnd s o t L R.cells R.slots
abbrev Opays (l : Launch) (y : MethodName) (bytes : ByteArray) (maxL : Nat) (rt : Option FieldType) (rm : Room) (ws : List Jvm.Cond) (Z : State) (h0 : Heap) (as : Array Value) (Q : Option Value → Heap → List Loc → Prop) : Prop :=
  MetFree l y (head1 (Jvm.Cond.code y bytes maxL rt :: ws) rm) (fun a U => a = as ∧ Z.Warmed39 U.vm ∧ U.heap = h0) (fun _ _ _ _ _ => True) (fun _ U o U' => ∃ v L, o = .returned v ∧ Q v U'.heap L ∧ FrameEnd U o U' L rm.cells rm.slots)
section Own
variable {p : Program} {l : Launch} {e : Env} {R : Room} {s : State} {m : MethodId} {args : Array Value} {below : List Frame} {meth : Method} {c : Code} {T : State} {locs : List Loc} {cells slots : Nat} {Z : State} {a0 : Array Value} {h : Heap} {Q : Option Value → Heap → List Loc → Prop} {A B : State} {P : Outcome → State → Prop}
theorem own_via (st : ∀ t, Steps p.tables e below B t → Steps p.tables e below A t) (k : Ogo p e below P B) : Ogo p e below P A := by
  obtain ⟨s₂, o, h1, h2⟩ := k
  exact ⟨s₂, o, st _ h1, h2⟩
theorem own_enter {y : MethodName} {bytes : ByteArray} {maxL : Nat} {rt : Option FieldType} {rm : Room} {ws : List Jvm.Cond} {h0 : Heap} {as : Array Value} (hp : plainFor y = true)
    (body : ∀ p e s m below meth c s₁, p.tables.exec = Jvm.exec → c.code = bytes → c.maxLocals = maxL → s.vm.findClass y.cls = some m.cls → meth.name = y.name → meth.sig.returnType = rt → meth.locks = false → Z.Warmed39 s.vm → s₁.heap = h0 →
      Stand p l e rm s m as below meth c s₁ [] 0 0 → Ogo p e below (Onar s rm Q) (s₁.setTop (entryFrame m as maxL))) : Opays l y bytes maxL rt rm ws Z h0 as Q := by
  refine MetFree.of_bodySF hp hisR ?_
  intro p e s m args below meth c s₁ Bd hml0 hP hK
  obtain ⟨rfl, hZ, hh⟩ := hP
  have X0 : Stand p l e rm s m args below meth c s₁ [] 0 0 := Stand.of_body Bd
  have e0 : s₁.heap = h0 := by rw [← hh, Bd.state]; rfl
  exact body p e s m below meth c s₁ Bd.exec Bd.bytes hml0 (findClass_of_methodNamed Bd.named) (name_of_methodNamed Bd.named Bd.method).1 Bd.returns Bd.notSynchronized hZ e0 X0
theorem own_out (X : Stand p l e R s m args below meth c T locs cells slots) (hlk : meth.locks = false) {v : Option Value} (hv : meth.sig.returnType = none → v = none) (hc : cells ≤ R.cells) (hs : slots ≤ R.slots) (hQ : Q v T.heap locs)
    (k : ∀ fs, (∀ (f : JFrame) (acts : List Action), f.method = m → f.locked = none → f.entered = [] → (doReturn e (T.setTop f) acts v).1 = T.setFrames fs) → Steps p.tables e below A (T.setFrames fs)) : Ogo p e below (Onar s R Q) A := by
  obtain ⟨fs, hr, hrun, hended, hW, hsame⟩ := X.leave (v := v) hv hlk
  exact ⟨_, _, k fs hr, hrun, hended, _, _, rfl, hQ, ⟨_, rfl⟩, hW, hsame.mono hc hs⟩
theorem own_retL (X : Stand p l e R s m args below meth c T locs cells slots) (hx : p.tables.exec = Jvm.exec) {pc : Nat} {Ls : Array Slot} {z : Int64} {rest : List Value} (hret : meth.sig.returnType = some .long) (hd : decode c.code pc = .ok (.lreturn, 1)) {fs : List Frame}
    (hl : ∀ (f : JFrame) (acts : List Action), f.method = m → f.locked = none → f.entered = [] → (doReturn e (T.setTop f) acts (some (.long z))).1 = T.setFrames fs) : Steps p.tables e below (T.setTop (mkF m pc Ls (.long z :: rest))) (T.setFrames fs) :=
  retOut X hx hret rfl (Or.inr (Or.inl ⟨rfl, rfl, _, rfl⟩)) hd hl
theorem own_retD (X : Stand p l e R s m args below meth c T locs cells slots) (hx : p.tables.exec = Jvm.exec) {pc : Nat} {Ls : Array Slot} {z : UInt64} {rest : List Value} (hret : meth.sig.returnType = some .double) (hd : decode c.code pc = .ok (.dreturn, 1)) {fs : List Frame}
    (hl : ∀ (f : JFrame) (acts : List Action), f.method = m → f.locked = none → f.entered = [] → (doReturn e (T.setTop f) acts (some (.double z))).1 = T.setFrames fs) : Steps p.tables e below (T.setTop (mkF m pc Ls (.double z :: rest))) (T.setFrames fs) :=
  retOut X hx hret rfl (Or.inr (Or.inr (Or.inl ⟨rfl, rfl, _, rfl⟩))) hd hl
theorem own_retA (X : Stand p l e R s m args below meth c T locs cells slots) (hx : p.tables.exec = Jvm.exec) {pc : Nat} {Ls : Array Slot} {w : Value} {t : FieldType} {rest : List Value} (hret : meth.sig.returnType = some t) (ht : t.isReference = true) (hv : w.isRef = true) (hd : decode c.code pc = .ok (.areturn, 1)) {fs : List Frame}
    (hl : ∀ (f : JFrame) (acts : List Action), f.method = m → f.locked = none → f.entered = [] → (doReturn e (T.setTop f) acts (some w)).1 = T.setFrames fs) : Steps p.tables e below (T.setTop (mkF m pc Ls (w :: rest))) (T.setFrames fs) :=
  retOut X hx hret (by cases t <;> first | rfl | cases ht) (Or.inr (Or.inr (Or.inr (Or.inr ⟨rfl, ht, hv⟩)))) hd hl
theorem own_lrem {g : JFrame} {target : State} (X : Stand p l e R s m args below meth c T locs cells slots) (hx : p.tables.exec = Jvm.exec) (hg : g.method = m) {x y : Int64} {rest : List Value} (hd : decode c.code g.pc = .ok (.lrem, 1)) (hs : g.stack = .long y :: .long x :: rest) (hy : y ≠ 0)
    (hr : Steps p.tables e below (T.setTop { g with pc := g.pc + 1, stack := .long (x % y) :: rest }) target) : Steps p.tables e below (T.setTop g) target :=
  XS.lrem X.here hx hg hd hs hy (by rw [lrem_mod]; exact hr)
/-! calls: the callee's contract pays -/
theorem own_callS (X : Stand p l e R s m args below meth c T locs cells slots) (hx : p.tables.exec = Jvm.exec) (hZ : Z.Warmed39 s.vm) {own : String} {index : Nat} {y : MethodName} {bytes : ByteArray} {maxL : Nat} {rt : Option FieldType}
    (hown : s.vm.findClass own = some m.cls) (wl : (Jvm.Cond.methodLink own index y).before a0 Z = true) (wst : (Jvm.Cond.static y).before a0 Z = true) (wi : (Jvm.Cond.initialized y.cls).before a0 Z = true) (wc : (Jvm.Cond.code y bytes maxL rt).before a0 Z = true)
    (hy : y.cls ≠ "java/lang/invoke/MethodHandle" ∧ y.cls ≠ "java/lang/invoke/VarHandle") {rm : Room} {as : Array Value} {Qc : Option Value → Heap → List Loc → Prop} (hM : Opays l y bytes maxL rt rm [] Z h as Qc) {argsL rest : List Value} (ha : argsL.toArray = as) (eT : T.heap = h) {W : Nat} (hf : rm.frames + 1 ≤ R.frames) (hl : W + (maxL + 11) + rm.locals ≤ R.locals) (hc : cells + rm.cells ≤ R.cells) (hs : slots + rm.slots ≤ R.slots)
    {pc : Nat} {Ls : Array Slot} {st : List Value} (hsize : Ls.size = c.maxLocals) (hlen : ∀ sig, parseMethodDescriptor y.desc = some sig → argsL.length = sig.parameters.length) (hst : st = argsL.reverse ++ rest) (hW : (rest.map fun v => v.category).sum ≤ W) (hd : decode c.code pc = .ok (.invokestatic index, 3))
    (k : ∀ v T' L, Stand p l e R s m args below meth c T' (locs ++ L) (cells + rm.cells) (slots + rm.slots) → Qc v T'.heap L → Ogo p e below P (T'.setTop (mkF m (pc + 3) Ls (v.toList ++ rest)))) : Ogo p e below P (T.setTop (mkF m pc Ls st)) := by
  obtain ⟨v, _, ⟨T', L', k', n'⟩, -, X', ⟨Lc, hQ, l1, y1, z1⟩, step⟩ := Jvm.LawKit.callS X hx (y := y) hown (mvT hZ wl) (mvT hZ wst) (mvT hZ wi) (mvT hZ wc) hy (backOf (W := W) hM hZ wc wi hf hl) (g := mkF m pc Ls st) rfl hsize (argsL := argsL) (rest := rest) hlen hst (by show 2 * 0 + _ ≤ _; omega) hd (fun _ _ => ⟨ha, eT, hc, hs⟩)
  dsimp only [Pt.U, Pt.locs, Pt.cells, Pt.slots] at X' l1 y1 z1 step hQ
  subst l1 y1 z1
  exact own_via step (k v T' Lc X' hQ)
theorem own_callI (X : Stand p l e R s m args below meth c T locs cells slots) (hx : p.tables.exec = Jvm.exec) (hZ : Z.Warmed39 s.vm) {own : String} {index : Nat} {y : MethodName} {bytes : ByteArray} {maxL : Nat} (hy1 : y.name = "<init>")
    (hown : s.vm.findClass own = some m.cls) (wl : (Jvm.Cond.methodLink own index y).before a0 Z = true) (wst : (Jvm.Cond.instanceMethod y).before a0 Z = true) (wi : (Jvm.Cond.initialized y.cls).before a0 Z = true) (wc : (Jvm.Cond.code y bytes maxL none).before a0 Z = true)
    (hy : y.cls ≠ "java/lang/invoke/MethodHandle" ∧ y.cls ≠ "java/lang/invoke/VarHandle") {rm : Room} {as : Array Value} {Qc : Option Value → Heap → List Loc → Prop} (hM : Opays l y bytes maxL none rm [] Z h as Qc) {a : Addr} {argsL rest : List Value} (ha : (.ref a :: argsL).toArray = as) (eT : T.heap = h) {W : Nat} (hf : rm.frames + 1 ≤ R.frames) (hl : W + (maxL + 11) + rm.locals ≤ R.locals) (hc : cells + rm.cells ≤ R.cells) (hs : slots + rm.slots ≤ R.slots)
    {pc : Nat} {Ls : Array Slot} {st : List Value} (hsize : Ls.size = c.maxLocals) (hlen : ∀ sig, parseMethodDescriptor y.desc = some sig → argsL.length = sig.parameters.length) (hst : st = argsL.reverse ++ .ref a :: rest) (hW : (rest.map fun v => v.category).sum ≤ W) (hd : decode c.code pc = .ok (.invokespecial index, 3))
    (k : ∀ v T' L, Stand p l e R s m args below meth c T' (locs ++ L) (cells + rm.cells) (slots + rm.slots) → Qc v T'.heap L → Ogo p e below P (T'.setTop (mkF m (pc + 3) Ls (v.toList ++ rest)))) : Ogo p e below P (T.setTop (mkF m pc Ls st)) := by
  obtain ⟨v, _, ⟨T', L', k', n'⟩, -, X', ⟨Lc, hQ, l1, y1, z1⟩, step⟩ := X.specialBack hx (y := y) hy1 hown (mvT hZ wl) (mvT hZ wst) (mvT hZ wc) hy (backOf (W := W) hM hZ wc wi hf hl) (g := mkF m pc Ls st) rfl hsize (Steps.refl _) (a := a) (argsL := argsL) (rest := rest) hlen hst (by show 2 * 0 + _ ≤ _; omega) hd (fun _ _ => ⟨ha, eT, hc, hs⟩)
  dsimp only [Pt.U, Pt.locs, Pt.cells, Pt.slots] at X' l1 y1 z1 step hQ
  subst l1 y1 z1
  exact own_via (fun _ q => step.trans q) (k v T' Lc X' hQ)
theorem own_callV (X : Stand p l e R s m args below meth c T locs cells slots) (hx : p.tables.exec = Jvm.exec) (hZ : Z.Warmed39 s.vm) {own C : String} {index : Nat} {y z : MethodName} {bytes : ByteArray} {maxL : Nat} {rt : Option FieldType}
    (hown : s.vm.findClass own = some m.cls) (wl : (Jvm.Cond.methodLink own index y).before a0 Z = true) (wd : (Jvm.Cond.declares y).before a0 Z = true) (ws : (Jvm.Cond.selects C y z).before a0 Z = true) (wst : (Jvm.Cond.instanceMethod z).before a0 Z = true) (wi : (Jvm.Cond.initialized z.cls).before a0 Z = true) (wc : (Jvm.Cond.code z bytes maxL rt).before a0 Z = true) (hyz : NotFace s y)
    (hy : y.cls ≠ "java/lang/invoke/MethodHandle" ∧ y.cls ≠ "java/lang/invoke/VarHandle") {rm : Room} {as : Array Value} {Qc : Option Value → Heap → List Loc → Prop} (hM : Opays l z bytes maxL rt rm [] Z h as Qc) {b : Addr} {argsL rest : List Value} (ha : (.ref b :: argsL).toArray = as) (eT : T.heap = h) (F : Exa Z h b C) {W : Nat} (hf : rm.frames + 1 ≤ R.frames) (hl : W + (maxL + 11) + rm.locals ≤ R.locals) (hc : cells + rm.cells ≤ R.cells) (hs : slots + rm.slots ≤ R.slots)
    {pc : Nat} {Ls : Array Slot} {st : List Value} (hsize : Ls.size = c.maxLocals) (hlen : ∀ sig, parseMethodDescriptor y.desc = some sig → argsL.length = sig.parameters.length) (hst : st = argsL.reverse ++ .ref b :: rest) (hW : (rest.map fun v => v.category).sum ≤ W) (hd : decode c.code pc = .ok (.invokevirtual index, 3))
    (k : ∀ v T' L, Stand p l e R s m args below meth c T' (locs ++ L) (cells + rm.cells) (slots + rm.slots) → Qc v T'.heap L → Ogo p e below P (T'.setTop (mkF m (pc + 3) Ls (v.toList ++ rest)))) : Ogo p e below P (T.setTop (mkF m pc Ls st)) := by
  obtain ⟨cq, kq, qa, qb, qc⟩ := isOf hZ eT F
  obtain ⟨v, _, ⟨T', L', k', n'⟩, -, X', ⟨Lc, hQ, l1, y1, z1⟩, step⟩ := X.virtualBack hx (y := y) (z := z) hown (mvT hZ wl) (mvT hZ wd) hyz (mvT hZ ws) (mvT hZ wst) hy (backOf (W := W) hM hZ wc wi hf hl) qa qc (g := mkF m pc Ls st) rfl hsize (Steps.refl _) (argsL := argsL) (rest := rest) hlen hst (by show 2 * 0 + _ ≤ _; omega) hd (fun _ _ => ⟨ha, eT, hc, hs⟩)
  dsimp only [Pt.U, Pt.locs, Pt.cells, Pt.slots] at X' l1 y1 z1 step hQ
  subst l1 y1 z1
  exact own_via (fun _ q => step.trans q) (k v T' Lc X' hQ)
/-- a private method of a class that is no interface -/
theorem own_callP (X : Stand p l e R s m args below meth c T locs cells slots) (hx : p.tables.exec = Jvm.exec) (hZ : Z.Warmed39 s.vm) {own C : String} {index kk : Nat} {y : MethodName} {bytes : ByteArray} {maxL : Nat} {rt : Option FieldType}
    (hown : s.vm.findClass own = some m.cls) (wl : (Jvm.Cond.methodLink own index y).before a0 Z = true) (wst : (Jvm.Cond.instanceMethod y).before a0 Z = true) (wp : (Jvm.Cond.privateMethod y).before a0 Z = true) (wi : (Jvm.Cond.initialized y.cls).before a0 Z = true) (wn : (Jvm.Cond.instantiable y.cls kk).before a0 Z = true) (wc : (Jvm.Cond.code y bytes maxL rt).before a0 Z = true)
    (hy : y.cls ≠ "java/lang/invoke/MethodHandle" ∧ y.cls ≠ "java/lang/invoke/VarHandle") {rm : Room} {as : Array Value} {Qc : Option Value → Heap → List Loc → Prop} (hM : Opays l y bytes maxL rt rm [] Z h as Qc) {b : Addr} {argsL rest : List Value} (ha : (.ref b :: argsL).toArray = as) (eT : T.heap = h) (F : Exa Z h b C) {W : Nat} (hf : rm.frames + 1 ≤ R.frames) (hl : W + (maxL + 11) + rm.locals ≤ R.locals) (hc : cells + rm.cells ≤ R.cells) (hs : slots + rm.slots ≤ R.slots)
    {pc : Nat} {Ls : Array Slot} {st : List Value} (hsize : Ls.size = c.maxLocals) (hlen : ∀ sig, parseMethodDescriptor y.desc = some sig → argsL.length = sig.parameters.length) (hst : st = argsL.reverse ++ .ref b :: rest) (hW : (rest.map fun v => v.category).sum ≤ W) (hd : decode c.code pc = .ok (.invokevirtual index, 3))
    (k : ∀ v T' L, Stand p l e R s m args below meth c T' (locs ++ L) (cells + rm.cells) (slots + rm.slots) → Qc v T'.heap L → Ogo p e below P (T'.setTop (mkF m (pc + 3) Ls (v.toList ++ rest)))) : Ogo p e below P (T.setTop (mkF m pc Ls st)) := by
  obtain ⟨cq, q1, q2⟩ := F.cell
  have hpriv : s.PrivateAt y := Cond.privateMethod_at (mvP hZ wp (args := #[]))
  obtain ⟨c2, k2, i1, i2, i3, i4, -⟩ := Cond.instantiable_spec (mv (s := s) (args := args) hZ wn)
  have hni : k2.isInterface = false := (Bool.or_eq_false_iff.mp i4).1
  obtain ⟨v, _, ⟨T', L', k', n'⟩, -, X', ⟨Lc, hQ, l1, y1, z1⟩, step⟩ := X.privateBack hx (y := y) hown (mvT hZ wl) (mvT hZ wst) (selects_self_of_private i1 i2 hni hpriv (mvT hZ wst) hy) hpriv (mvT hZ wc) hy (backOf (W := W) hM hZ wc wi hf hl) (g := mkF m pc Ls st) rfl hsize (Steps.refl _) (a := b) (by rw [eT]; exact q1) q2 (argsL := argsL) (rest := rest) hlen hst (by show 2 * 0 + _ ≤ _; omega) hd (fun _ _ => ⟨ha, eT, hc, hs⟩)
  dsimp only [Pt.U, Pt.locs, Pt.cells, Pt.slots] at X' l1 y1 z1 step hQ
  subst l1 y1 z1
  exact own_via (fun _ q => step.trans q) (k v T' Lc X' hQ)
/-- a method of an interface -/
theorem own_callF (X : Stand p l e R s m args below meth c T locs cells slots) (hx : p.tables.exec = Jvm.exec) (hZ : Z.Warmed39 s.vm) {own C : String} {index count : Nat} {y z : MethodName} {bytes : ByteArray} {maxL : Nat} {rt : Option FieldType}
    (hown : s.vm.findClass own = some m.cls) (wl : (Jvm.Cond.methodLink own index y).before a0 Z = true) (wd : (Jvm.Cond.declares y).before a0 Z = true) (wf : (Jvm.Cond.interfaceMethod y.cls y.cls y.name y.desc).before args s = true) (ws : (Jvm.Cond.selects C y z).before a0 Z = true) (wst : (Jvm.Cond.instanceMethod z).before a0 Z = true) (wp : (Jvm.Cond.publicMethod z).before a0 Z = true) (wu : (Jvm.Cond.unhidden C y.name y.desc).before a0 Z = true) (wk : (Jvm.Cond.castable C y.cls).before a0 Z = true) (wi : (Jvm.Cond.initialized z.cls).before a0 Z = true) (wc : (Jvm.Cond.code z bytes maxL rt).before a0 Z = true)
    (hy : y.cls ≠ "java/lang/invoke/MethodHandle" ∧ y.cls ≠ "java/lang/invoke/VarHandle") {rm : Room} {as : Array Value} {Qc : Option Value → Heap → List Loc → Prop} (hM : Opays l z bytes maxL rt rm [] Z h as Qc) {b : Addr} {argsL rest : List Value} (ha : (.ref b :: argsL).toArray = as) (eT : T.heap = h) (F : Exa Z h b C) {W : Nat} (hf : rm.frames + 1 ≤ R.frames) (hl : W + (maxL + 11) + rm.locals ≤ R.locals) (hc : cells + rm.cells ≤ R.cells) (hs : slots + rm.slots ≤ R.slots)
    {pc : Nat} {Ls : Array Slot} {st : List Value} (hsize : Ls.size = c.maxLocals) (hlen : ∀ sig, parseMethodDescriptor y.desc = some sig → argsL.length = sig.parameters.length) (hst : st = argsL.reverse ++ .ref b :: rest) (hW : (rest.map fun v => v.category).sum ≤ W) (hd : decode c.code pc = .ok (.invokeinterface index count, 5))
    (k : ∀ v T' L, Stand p l e R s m args below meth c T' (locs ++ L) (cells + rm.cells) (slots + rm.slots) → Qc v T'.heap L → Ogo p e below P (T'.setTop (mkF m (pc + 5) Ls (v.toList ++ rest)))) : Ogo p e below P (T.setTop (mkF m pc Ls st)) := by
  obtain ⟨cq, kq, qa, qb, qc⟩ := isOf hZ eT F
  obtain ⟨v, _, ⟨T', L', k', n'⟩, -, X', ⟨Lc, hQ, l1, y1, z1⟩, step⟩ := X.interfaceBack hx (xi := y) (y := z) hown (mvT hZ wl) (mvT hZ wd) wf (mvT hZ ws) (mvT hZ wst) (mvT hZ wp) (mvT hZ wu) (mvT hZ wk) hy (backOf (W := W) hM hZ wc wi hf hl) qa qb qc (g := mkF m pc Ls st) rfl hsize (Steps.refl _) (argsL := argsL) (rest := rest) hlen hst (by show 2 * 0 + _ ≤ _; omega) hd (fun _ _ => ⟨ha, eT, hc, hs⟩)
  dsimp only [Pt.U, Pt.locs, Pt.cells, Pt.slots] at X' l1 y1 z1 step hQ
  subst l1 y1 z1
  exact own_via (fun _ q => step.trans q) (k v T' Lc X' hQ)
end Own
/-! ## An array by its values: n places, place j holds f j -/
/-- the array at a has n places of kind ty; place j holds f j -/
def Oar (Z : State) (h : Heap) (a : Addr) (ty : FieldType) (n : Nat) (f : Nat → Value) : Prop := n < 2 ^ 31 ∧ ∃ cl : Cell, Arr Z h a cl ty ∧ cl.slots.size = n ∧ ∀ j, j < n → cl.slots[j]? = some (f j)
section Own2
variable {p : Program} {l : Launch} {e : Env} {R : Room} {s : State} {m : MethodId} {args : Array Value} {below : List Frame} {meth : Method} {c : Code} {T : State} {locs : List Loc} {cells slots : Nat} {Z : State} {a0 : Array Value} {h h' : Heap} {P : Outcome → State → Prop} {a b : Addr} {ty : FieldType} {n i sl : Nat} {f : Nat → Value} {v : Value} {ws : List Addr} {j z : Int32}
theorem Oar.lt (A : Oar Z h a ty n f) : a < h.size := by obtain ⟨_, cl, A, _⟩ := A; exact A.lt
theorem Oar.ext (A : Oar Z h a ty n f) (E : Ext h h') : Oar Z h' a ty n f := by obtain ⟨q, cl, A, r⟩ := A; exact ⟨q, cl, A.ext E, r⟩
theorem Oar.other (A : Oar Z h b ty n f) (W : Wr h h' a sl v) (q : b ≠ a) : Oar Z h' b ty n f := by obtain ⟨z, cl, A, r⟩ := A; exact ⟨z, cl, A.other W q, r⟩
theorem Oar.keep (A : Oar Z h a ty n f) (K : Keep h h' ws) (q : a ∉ ws) : Oar Z h' a ty n f := by obtain ⟨z, cl, A, r⟩ := A; exact ⟨z, cl, ⟨K.2.1 a cl A.1 q, A.2⟩, r⟩
theorem Oar.cast {f' : Nat → Value} (A : Oar Z h a ty n f) (q : ∀ j, j < n → f j = f' j) : Oar Z h a ty n f' := by obtain ⟨z, cl, A, S, r⟩ := A; exact ⟨z, cl, A, S, fun j hj => by rw [← q j hj]; exact r j hj⟩
theorem Oar.new {k : ClassId} (A : Arr Z h a (newA k ty z) ty) (hz : ¬ z < 0) (hn : z.toNatClampNeg = n) : Oar Z h a ty n (fun _ => defaultValue ty) := by
  subst hn
  refine ⟨(back32 hz).2, _, A, sz_new _ _ _, fun j hj => ?_⟩
  simp [newA, hj]
theorem Oar.set (A : Oar Z h a ty n f) (W : Wr h h' a i v) : Oar Z h' a ty n (fun j => if j = i then v else f j) := by
  obtain ⟨q, cl, A, S, H⟩ := A
  obtain ⟨cell, e1, -, e3, -⟩ := id W
  cases A.1.symm.trans e1
  refine ⟨q, _, A.same W, by rw [sz_set]; exact S, fun j hj => ?_⟩
  by_cases u : i = j
  · subst u; simp [Cell.setSlot, e3]
  · have u' : ¬ j = i := fun x => u x.symm
    simp only [if_neg u', Cell.setSlot]; rw [Array.getElem?_setIfInBounds_ne u]; exact H j hj
theorem own_cl (hj : j.toInt = (i : Int)) : ¬ j < 0 ∧ j.toNatClampNeg = i := by
  refine ⟨fun q => ?_, ?_⟩
  · rw [Int32.lt_iff_toInt_lt] at q; have : (0 : Int32).toInt = 0 := rfl; omega
  · simp only [Int32.toNatClampNeg, hj]; rfl
theorem Oar.at (A : Oar Z h a ty n f) (hj : j.toInt = (i : Int)) (hi : i < n) : ∃ cl : Cell, Arr Z h a cl ty ∧ ¬ (j < 0 ∨ cl.slots.size ≤ j.toNatClampNeg) ∧ cl.slots[j.toNatClampNeg]? = some (f i) := by
  obtain ⟨q, cl, A, S, H⟩ := A
  obtain ⟨q1, q2⟩ := own_cl hj
  exact ⟨cl, A, fun q => q.elim q1 fun u => by rw [q2, S] at u; omega, by rw [q2]; exact H i hi⟩
/-- arraylength -/
theorem own_alen (X : Stand p l e R s m args below meth c T locs cells slots) (hx : p.tables.exec = Jvm.exec) (hZ : Z.Warmed39 s.vm) (eT : T.heap = h) (A : Oar Z h a ty n f) (hz : z.toInt = (n : Int)) {pc : Nat} {Ls : Array Slot} {rest : List Value} (hd : decode c.code pc = .ok (.arraylength, 1))
    (k : Ogo p e below P (T.setTop (mkF m (pc + 1) Ls (.int z :: rest)))) : Ogo p e below P (T.setTop (mkF m pc Ls (.ref a :: rest))) := by
  obtain ⟨q, cl, A, S, H⟩ := A
  have e1 : cl.slots.size.toInt32 = z := Int32.toInt_inj.mp (by rw [S, len_toInt q, hz])
  refine own_via (fun t k => X.arraylength hx (by rw [eT]; exact A.1) (State.isArrayOf_alike hZ.alike A.2.1) (g := mkF m pc Ls (.ref a :: rest)) rfl rfl hd _ k) ?_
  rw [e1]; exact k
theorem own_iald (X : Stand p l e R s m args below meth c T locs cells slots) (hx : p.tables.exec = Jvm.exec) (hZ : Z.Warmed39 s.vm) (eT : T.heap = h) (A : Oar Z h a .int n f) (hj : j.toInt = (i : Int)) (hi : i < n) (hv : f i = v) {pc : Nat} {Ls : Array Slot} {rest : List Value} (hd : decode c.code pc = .ok (.iaload, 1))
    (k : Ogo p e below P (T.setTop (mkF m (pc + 1) Ls (v :: rest)))) : Ogo p e below P (T.setTop (mkF m pc Ls (.int j :: .ref a :: rest))) := by
  obtain ⟨cl, A, h1, h2⟩ := A.at hj hi
  rw [hv] at h2
  exact own_via (fun t k => X.iaload hx (j := j) (v := v) (by rw [eT]; exact A.1) (State.isArrayOf_alike hZ.alike A.2.1) A.2.2 h1 h2 (g := mkF m pc Ls (.int j :: .ref a :: rest)) rfl rfl hd _ k) k
theorem own_bald (X : Stand p l e R s m args below meth c T locs cells slots) (hx : p.tables.exec = Jvm.exec) (hZ : Z.Warmed39 s.vm) (eT : T.heap = h) (A : Oar Z h a .byte n f) (hj : j.toInt = (i : Int)) (hi : i < n) (hv : f i = v) {pc : Nat} {Ls : Array Slot} {rest : List Value} (hd : decode c.code pc = .ok (.baload, 1))
    (k : Ogo p e below P (T.setTop (mkF m (pc + 1) Ls (v :: rest)))) : Ogo p e below P (T.setTop (mkF m pc Ls (.int j :: .ref a :: rest))) := by
  obtain ⟨cl, A, h1, h2⟩ := A.at hj hi
  rw [hv] at h2
  exact own_via (fun t k => X.baloadBytes hx (j := j) (v := v) (by rw [eT]; exact A.1) (State.isArrayOf_alike hZ.alike A.2.1) A.2.2 h1 h2 (g := mkF m pc Ls (.int j :: .ref a :: rest)) rfl rfl hd _ k) k
theorem own_zald (X : Stand p l e R s m args below meth c T locs cells slots) (hx : p.tables.exec = Jvm.exec) (hZ : Z.Warmed39 s.vm) (eT : T.heap = h) (A : Oar Z h a .boolean n f) (hj : j.toInt = (i : Int)) (hi : i < n) (hv : f i = v) {pc : Nat} {Ls : Array Slot} {rest : List Value} (hd : decode c.code pc = .ok (.baload, 1))
    (k : Ogo p e below P (T.setTop (mkF m (pc + 1) Ls (v :: rest)))) : Ogo p e below P (T.setTop (mkF m pc Ls (.int j :: .ref a :: rest))) := by
  obtain ⟨cl, A, h1, h2⟩ := A.at hj hi
  rw [hv] at h2
  exact own_via (fun t k => X.baloadBooleans hx (j := j) (v := v) (by rw [eT]; exact A.1) (State.isArrayOf_alike hZ.alike A.2.1) A.2.2 h1 h2 (g := mkF m pc Ls (.int j :: .ref a :: rest)) rfl rfl hd _ k) k
theorem own_dald (X : Stand p l e R s m args below meth c T locs cells slots) (hx : p.tables.exec = Jvm.exec) (hZ : Z.Warmed39 s.vm) (eT : T.heap = h) (A : Oar Z h a .double n f) (hj : j.toInt = (i : Int)) (hi : i < n) (hv : f i = v) {pc : Nat} {Ls : Array Slot} {rest : List Value} (hd : decode c.code pc = .ok (.daload, 1))
    (k : Ogo p e below P (T.setTop (mkF m (pc + 1) Ls (v :: rest)))) : Ogo p e below P (T.setTop (mkF m pc Ls (.int j :: .ref a :: rest))) := by
  obtain ⟨cl, A, h1, h2⟩ := A.at hj hi
  rw [hv] at h2
  exact own_via (fun t k => X.daload hx (j := j) (v := v) (by rw [eT]; exact A.1) (State.isArrayOf_alike hZ.alike A.2.1) A.2.2 h1 h2 (g := mkF m pc Ls (.int j :: .ref a :: rest)) rfl rfl hd _ k) k
theorem own_aald (X : Stand p l e R s m args below meth c T locs cells slots) (hx : p.tables.exec = Jvm.exec) (hZ : Z.Warmed39 s.vm) (eT : T.heap = h) (A : Oar Z h a ty n f) (ht : ty.isReference = true) (hj : j.toInt = (i : Int)) (hi : i < n) (hv : f i = v) {pc : Nat} {Ls : Array Slot} {rest : List Value} (hd : decode c.code pc = .ok (.aaload, 1))
    (k : Ogo p e below P (T.setTop (mkF m (pc + 1) Ls (v :: rest)))) : Ogo p e below P (T.setTop (mkF m pc Ls (.int j :: .ref a :: rest))) := by
  obtain ⟨cl, A, h1, h2⟩ := A.at hj hi
  rw [hv] at h2
  exact own_via (fun t k => X.aaload hx (j := j) (v := v) (by rw [eT]; exact A.1) (State.isArrayOf_alike hZ.alike A.2.1) ht A.2.2 h1 h2 (g := mkF m pc Ls (.int j :: .ref a :: rest)) rfl rfl hd _ k) k
theorem own_iast (X : Stand p l e R s m args below meth c T locs cells slots) (hx : p.tables.exec = Jvm.exec) (hZ : Z.Warmed39 s.vm) (eT : T.heap = h) (A : Oar Z h a .int n f) {x : Int32} (hj : j.toInt = (i : Int)) (hi : i < n) {pc : Nat} {Ls : Array Slot} {rest : List Value} (hd : decode c.code pc = .ok (.iastore, 1)) :
    ∃ T' h', Stand p l e R s m args below meth c T' (locs ++ [⟨a, i⟩]) cells slots ∧ T'.heap = h' ∧ Wr h h' a i (.int x) ∧ Oar Z h' a .int n (fun q => if q = i then .int x else f q) ∧ ∀ t, Steps p.tables e below (T'.setTop (mkF m (pc + 1) Ls rest)) t → Steps p.tables e below (T.setTop (mkF m pc Ls (.int x :: .int j :: .ref a :: rest))) t := by
  obtain ⟨cl, A', h1, h2⟩ := A.at hj hi
  obtain ⟨T', h', X', e', W, st⟩ := stI X hx hZ eT A' (j := j) (x := x) h1 (g := mkF m pc Ls (.int x :: .int j :: .ref a :: rest)) rfl rfl hd
  rw [(own_cl hj).2] at X' W
  exact ⟨T', h', X', e', W, A.set W, st⟩
theorem own_bast (X : Stand p l e R s m args below meth c T locs cells slots) (hx : p.tables.exec = Jvm.exec) (hZ : Z.Warmed39 s.vm) (eT : T.heap = h) (A : Oar Z h a .byte n f) {x : Int32} (hj : j.toInt = (i : Int)) (hi : i < n) {pc : Nat} {Ls : Array Slot} {rest : List Value} (hd : decode c.code pc = .ok (.bastore, 1)) :
    ∃ T' h', Stand p l e R s m args below meth c T' (locs ++ [⟨a, i⟩]) cells slots ∧ T'.heap = h' ∧ Wr h h' a i (.int (nar .byte x)) ∧ Oar Z h' a .byte n (fun q => if q = i then .int (nar .byte x) else f q) ∧ ∀ t, Steps p.tables e below (T'.setTop (mkF m (pc + 1) Ls rest)) t → Steps p.tables e below (T.setTop (mkF m pc Ls (.int x :: .int j :: .ref a :: rest))) t := by
  obtain ⟨cl, A', h1, h2⟩ := A.at hj hi
  obtain ⟨T', h', X', e', W, st⟩ := stB X hx hZ eT A' (j := j) (x := x) h1 (g := mkF m pc Ls (.int x :: .int j :: .ref a :: rest)) rfl rfl hd
  rw [(own_cl hj).2] at X' W
  exact ⟨T', h', X', e', W, A.set W, st⟩
theorem own_zast (X : Stand p l e R s m args below meth c T locs cells slots) (hx : p.tables.exec = Jvm.exec) (hZ : Z.Warmed39 s.vm) (eT : T.heap = h) (A : Oar Z h a .boolean n f) {x : Int32} (hj : j.toInt = (i : Int)) (hi : i < n) {pc : Nat} {Ls : Array Slot} {rest : List Value} (hd : decode c.code pc = .ok (.bastore, 1)) :
    ∃ T' h', Stand p l e R s m args below meth c T' (locs ++ [⟨a, i⟩]) cells slots ∧ T'.heap = h' ∧ Wr h h' a i (.int (nar .boolean x)) ∧ Oar Z h' a .boolean n (fun q => if q = i then .int (nar .boolean x) else f q) ∧ ∀ t, Steps p.tables e below (T'.setTop (mkF m (pc + 1) Ls rest)) t → Steps p.tables e below (T.setTop (mkF m pc Ls (.int x :: .int j :: .ref a :: rest))) t := by
  obtain ⟨cl, A', h1, h2⟩ := A.at hj hi
  obtain ⟨T', h', X', e', W, st⟩ := stZ X hx hZ eT A' (j := j) (x := x) h1 (g := mkF m pc Ls (.int x :: .int j :: .ref a :: rest)) rfl rfl hd
  rw [(own_cl hj).2] at X' W
  exact ⟨T', h', X', e', W, A.set W, st⟩
theorem own_dast (X : Stand p l e R s m args below meth c T locs cells slots) (hx : p.tables.exec = Jvm.exec) (hZ : Z.Warmed39 s.vm) (eT : T.heap = h) (A : Oar Z h a .double n f) {x : UInt64} (hj : j.toInt = (i : Int)) (hi : i < n) {pc : Nat} {Ls : Array Slot} {rest : List Value} (hd : decode c.code pc = .ok (.dastore, 1)) :
    ∃ T' h', Stand p l e R s m args below meth c T' (locs ++ [⟨a, i⟩]) cells slots ∧ T'.heap = h' ∧ Wr h h' a i (.double x) ∧ Oar Z h' a .double n (fun q => if q = i then .double x else f q) ∧ ∀ t, Steps p.tables e below (T'.setTop (mkF m (pc + 1) Ls rest)) t → Steps p.tables e below (T.setTop (mkF m pc Ls (.double x :: .int j :: .ref a :: rest))) t := by
  obtain ⟨cl, A', h1, h2⟩ := A.at hj hi
  obtain ⟨T', h', X', e', W, st⟩ := stD X hx hZ eT A' (j := j) (x := x) h1 (g := mkF m pc Ls (.double x :: .int j :: .ref a :: rest)) rfl rfl hd
  rw [(own_cl hj).2] at X' W
  exact ⟨T', h', X', e', W, A.set W, st⟩
theorem own_aast (X : Stand p l e R s m args below meth c T locs cells slots) (hx : p.tables.exec = Jvm.exec) (hZ : Z.Warmed39 s.vm) (eT : T.heap = h) (A : Oar Z h a ty n f) (ht : ty.isReference = true) (F : Sto Z h a v) (hj : j.toInt = (i : Int)) (hi : i < n) {pc : Nat} {Ls : Array Slot} {rest : List Value} (hd : decode c.code pc = .ok (.aastore, 1)) :
    ∃ T' h', Stand p l e R s m args below meth c T' (locs ++ [⟨a, i⟩]) cells slots ∧ T'.heap = h' ∧ Wr h h' a i v ∧ Oar Z h' a ty n (fun q => if q = i then v else f q) ∧ ∀ t, Steps p.tables e below (T'.setTop (mkF m (pc + 1) Ls rest)) t → Steps p.tables e below (T.setTop (mkF m pc Ls (v :: .int j :: .ref a :: rest))) t := by
  obtain ⟨cl, A', h1, h2⟩ := A.at hj hi
  obtain ⟨T', h', X', e', W, st⟩ := stR X hx hZ eT A' (j := j) h1 ht F (g := mkF m pc Ls (v :: .int j :: .ref a :: rest)) rfl rfl hd
  rw [(own_cl hj).2] at X' W
  exact ⟨T', h', X', e', W, A.set W, st⟩
theorem own_pref {F : Nat → Value} {d : Value} {i j : Nat} : (if j = i then F i else if j < i then F j else d) = if j < i + 1 then F j else d := by
  by_cases u : j = i
  · subst u; simp
  · rw [if_neg u]
    by_cases w : j < i
    · rw [if_pos w, if_pos (by omega)]
    · rw [if_neg w, if_neg (by omega)]
/-! numbers: comparisons by their values -/
theorem o_lt {x y : Int64} (q : x.toInt < y.toInt) : lcmpW x y < (0 : Int32) := (lw_lt _ _).mpr (Int64.lt_iff_toInt_lt.mpr q)
theorem o_nlt {x y : Int64} (q : y.toInt ≤ x.toInt) : ¬ (lcmpW x y < (0 : Int32)) := fun u => by have := Int64.lt_iff_toInt_lt.mp ((lw_lt _ _).mp u); omega
theorem o_gt {x y : Int64} (q : y.toInt < x.toInt) : (0 : Int32) < lcmpW x y := (lw_gt _ _).mpr (Int64.lt_iff_toInt_lt.mpr q)
theorem o_ngt {x y : Int64} (q : x.toInt ≤ y.toInt) : ¬ ((0 : Int32) < lcmpW x y) := fun u => by have := Int64.lt_iff_toInt_lt.mp ((lw_gt _ _).mp u); omega
theorem o_eq {x y : Int64} (q : x.toInt = y.toInt) : lcmpW x y = (0 : Int32) := (lw_eq _ _).mpr (Int64.toInt_inj.mp q)
theorem o_ne {x y : Int64} (q : x.toInt ≠ y.toInt) : ¬ (lcmpW x y = (0 : Int32)) := fun u => q (congrArg Int64.toInt ((lw_eq _ _).mp u))
theorem i_lt {x y : Int32} (q : x.toInt < y.toInt) : x < y := Int32.lt_iff_toInt_lt.mpr q
theorem i_nlt {x y : Int32} (q : y.toInt ≤ x.toInt) : ¬ (x < y) := fun u => by have := Int32.lt_iff_toInt_lt.mp u; omega
theorem i_eq {x y : Int32} (q : x.toInt = y.toInt) : x = y := Int32.toInt_inj.mp q
theorem i_ne {x y : Int32} (q : x.toInt ≠ y.toInt) : ¬ (x = y) := fun u => q (congrArg Int32.toInt u)
theorem i_lt' {x y : Int32} (q : x < y) : x.toInt < y.toInt := Int32.lt_iff_toInt_lt.mp q
theorem i_nlt' {x y : Int32} (q : ¬ (x < y)) : y.toInt ≤ x.toInt := by rw [Int32.lt_iff_toInt_lt] at q; omega
end Own2
theorem pd_0 : parseMethodDescriptor "()V" = some ⟨[], none⟩ := by decide +kernel
theorem pd_1 : parseMethodDescriptor "(I)V" = some ⟨[.int], none⟩ := by decide +kernel
theorem pd_2 : parseMethodDescriptor "(I)Ljava/lang/Integer;" = some ⟨[.int], some (.object "java/lang/Integer")⟩ := by decide +kernel
theorem pd_3 : parseMethodDescriptor "(II)Ljava/lang/Integer;" = some ⟨[.int, .int], some (.object "java/lang/Integer")⟩ := by decide +kernel
theorem pd_4 : parseMethodDescriptor "()I" = some ⟨[], some .int⟩ := by decide +kernel
theorem pn_0 : plainName "java/lang/Number" = true := by first | (simp [plainName, overriddenIn]; done) | decide +kernel
theorem pn_1 : plainName "java/lang/Integer" = true := by first | (simp [plainName, overriddenIn]; done) | decide +kernel
theorem pn_2 : plainName "com/example/diligent_workflow/diligentworkflow/feel/ListFunctions" = true := by first | (simp [plainName, overriddenIn]; done) | decide +kernel
theorem pn_3 : plainName "com/example/diligent_workflow/diligentworkflow/feel/ListFunctionsIndexPinLaw" = true := by first | (simp [plainName, overriddenIn]; done) | decide +kernel

/-! ## The table of boxes that stood at the start -/
theorem own_box {s : State} {args : Array Value} (hsets : ∀ d ∈ jdkStatics_1, d.before args s = true) (hw : ∀ d ∈ tables_1, d.before args s = true) :
    Sta s s.heap "java/lang/Integer$IntegerCache" "high" "I" (.int 127) ∧ ∃ a cl, Sta s s.heap "java/lang/Integer$IntegerCache" "cache" "[Ljava/lang/Integer;" (.ref a) ∧ Bxs s a cl "java/lang/Integer" "I" 256 (fun j => .int (j - 128)) := by
  have q3 := Cond.before_iff.mp (hsets _ (List.mem_of_getElem? (i := 3) rfl))
  have ev := eqv_i (Term.int_eval (127)) q3
  refine ⟨Sta.start ev (Or.inl (hsets _ (List.mem_of_getElem? (i := 1) rfl))), ?_⟩
  have q4 := Cond.before_iff.mp (hsets _ (List.mem_of_getElem? (i := 4) rfl))
  obtain ⟨a, ea⟩ := arr_v q4
  obtain ⟨cl, A⟩ := Arr.start ea q4
  have q6 := eqv_i (Term.int_eval (256)) (Cond.before_iff.mp (hsets _ (List.mem_of_getElem? (i := 6) rfl)))
  obtain ⟨b, cell, e1, e2, e3, e4⟩ := Jvm.Lib.length_spec q6
  cases ea.symm.trans e1
  obtain rfl : cl = cell := Option.some.inj ((A.fin (Vm.Alike.refl _)).symm.trans e2)
  have q7 := Cond.before_iff.mp (hsets _ (List.mem_of_getElem? (i := 7) rfl))
  refine ⟨a, cl, Sta.start ea (Or.inr ⟨hw _ (List.mem_of_getElem? (i := 10) rfl), hsets _ (List.mem_of_getElem? (i := 2) rfl)⟩), Bxs.start (fun _ => ea) A e3 (Value.int.inj e4.symm) (by decide) q7 (fun X j hj h => eqv_i ?_ h)⟩
  have u := idx_at (args := args) (s := s) (first := s) (o := none) hj
  simp [Term.eval, u] at u ⊢
  simp [u]
theorem own_mask (x : Int32) : 0 ≤ (x &&& 2147483647).toInt := by
  have h := c_mask x 2147483647 31 (by decide) (by decide)
  have : (0 : Int) < ((2 ^ 31 : Nat) : Int) := by decide
  rw [h]; omega
theorem own_sub {p q : Int32} (h1 : -2147483648 ≤ p.toInt - q.toInt) (h2 : p.toInt - q.toInt < 2147483648) : (p - q).toInt = p.toInt - q.toInt := by
  have := c_isub p q; have := rng32 (p - q); omega
theorem own_add {p q : Int32} (h1 : -2147483648 ≤ p.toInt + q.toInt) (h2 : p.toInt + q.toInt < 2147483648) : (p + q).toInt = p.toInt + q.toInt := by
  have := c_iadd p q; have := rng32 (p + q); omega
theorem own_128 (p : Int32) : p + 128 - 128 = p := by simp
theorem d5_0 : decode jdk_18_method_1_code 0 = .ok (.aload_n 0, 1) := by decide +kernel
theorem d5_1 : decode jdk_18_method_1_code 1 = .ok (.invokespecial 1, 3) := by decide +kernel
theorem d5_4 : decode jdk_18_method_1_code 4 = .ok (.return_, 1) := by decide +kernel
set_option maxRecDepth 65536 in
set_option maxHeartbeats 40000000 in
theorem rm_nu {l : Launch} {Z : State} {a0 : Array Value} (hw : ∀ d ∈ tables_1, d.before a0 Z = true) (a : Addr) (h0 : Heap) (n0 : Nat)  :
    Opays l (⟨"java/lang/Number", "<init>", "()V"⟩ : MethodName) jdk_18_method_1_code 1 none ({ frames := 1, cells := 0, slots := 0, locals := 12 } : Room) [] Z h0 #[(.ref a)] (fun v h L => v = none ∧ Fr n0 L ∧ h = h0) := by
  refine own_enter (plainFor_of_name pn_0) ?_
  intro p e s m below meth c s₁ hx hby hml0 hown hnm hret hlk hZ e0 X0
  have hml : c.maxLocals = 1 := hml0
  replace hown : s.vm.findClass "java/lang/Number" = some m.cls := hown
  have N := Fr.nil n0
  have hef : entryFrame m #[(.ref a)] 1 = mkF m 0 #[.val (.ref a)] [] := by first | (simp [entryFrame, mkF, argsToLocals, Value.category]; done) | rfl
  rw [hef]
  show Ogo p e below _ (s₁.setTop (mkF m 0 #[.val (.ref a)] []))
  refine own_via (fun tq kq => XS.aloadN X0.here hx rfl (hb hby d5_0) rfl rfl kq) ?_
  show Ogo p e below _ (s₁.setTop (mkF m 1 #[.val (.ref a)] [(.ref a)]))
  obtain ⟨T1, X1, e1, st1⟩ := initO X0 hx hZ hown (hw _ (List.mem_of_getElem? (i := 31) rfl)) (hw _ (List.mem_of_getElem? (i := 32) rfl)) (hw _ (List.mem_of_getElem? (i := 33) rfl)) e0 (g := (mkF m 1 #[.val (.ref a)] [(.ref a)])) rfl (by rw [hml]; rfl) rfl (hb hby d5_1) (by decide) (W := 0) (by show 2 * 0 + _ ≤ _; exact Nat.le_of_eq rfl) (by decide)
  refine own_via st1 ?_
  show Ogo p e below _ (T1.setTop (mkF m 4 #[.val (.ref a)] []))
  exact own_out X1 hlk (fun _ => rfl) (by decide) (by decide) (by first | exact ⟨rfl, N, rfl⟩ | (rw [e1]; exact ⟨rfl, N, rfl⟩)) (fun fs hr => X1.returnOut hx hret (hb hby d5_4) hr)
theorem d4_0 : decode jdk_33_method_23_code 0 = .ok (.aload_n 0, 1) := by decide +kernel
theorem d4_1 : decode jdk_33_method_23_code 1 = .ok (.invokespecial 202, 3) := by decide +kernel
theorem d4_4 : decode jdk_33_method_23_code 4 = .ok (.aload_n 0, 1) := by decide +kernel
theorem d4_5 : decode jdk_33_method_23_code 5 = .ok (.iload_n 1, 1) := by decide +kernel
theorem d4_6 : decode jdk_33_method_23_code 6 = .ok (.putfield 205, 3) := by decide +kernel
theorem d4_9 : decode jdk_33_method_23_code 9 = .ok (.return_, 1) := by decide +kernel
set_option maxRecDepth 65536 in
set_option maxHeartbeats 40000000 in
theorem rm_ii {l : Launch} {Z : State} {a0 : Array Value} (hw : ∀ d ∈ tables_1, d.before a0 Z = true) (a : Addr) (pv u : Int32) (h0 : Heap) (n0 : Nat) (E_a : Exa Z h0 a "java/lang/Integer") (F_value_a : Fld Z h0 a "java/lang/Integer" "value" "I" (.int u)) (g_a : n0 ≤ a) :
    Opays l (⟨"java/lang/Integer", "<init>", "(I)V"⟩ : MethodName) jdk_33_method_23_code 2 none ({ frames := 2, cells := 0, slots := 0, locals := 24 } : Room) [] Z h0 #[(.ref a), (.int pv)] (fun v h L => v = none ∧ Fr n0 L ∧ Keep h0 h [a] ∧ Fld Z h a "java/lang/Integer" "value" "I" (.int pv)) := by
  refine own_enter (plainFor_of_name pn_1) ?_
  intro p e s m below meth c s₁ hx hby hml0 hown hnm hret hlk hZ e0 X0
  have hml : c.maxLocals = 2 := hml0
  replace hown : s.vm.findClass "java/lang/Integer" = some m.cls := hown
  have N := Fr.nil n0
  have hef : entryFrame m #[(.ref a), (.int pv)] 2 = mkF m 0 #[.val (.ref a), .val (.int pv)] [] := by first | (simp [entryFrame, mkF, argsToLocals, Value.category]; done) | rfl
  rw [hef]
  show Ogo p e below _ (s₁.setTop (mkF m 0 #[.val (.ref a), .val (.int pv)] []))
  have K := Keep.refl h0 [a]
  refine own_via (fun tq kq => XS.aloadN X0.here hx rfl (hb hby d4_0) rfl rfl kq) ?_
  show Ogo p e below _ (s₁.setTop (mkF m 1 #[.val (.ref a), .val (.int pv)] [(.ref a)]))
  refine own_callI X0 hx hZ rfl hown (hw _ (List.mem_of_getElem? (i := 25) rfl)) (hw _ (List.mem_of_getElem? (i := 26) rfl)) (hw _ (List.mem_of_getElem? (i := 29) rfl)) (hw _ (List.mem_of_getElem? (i := 30) rfl)) (by decide) (rm_nu hw a h0 n0) rfl e0 (W := 0) (by decide) (by decide) (by decide) (by decide) (by rw [hml]; rfl) (a := a) (argsL := []) (rest := []) (lenOf pd_0 rfl) rfl (Nat.le_of_eq rfl) (hb hby d4_1) ?_
  rintro _ T1 L1 X1 ⟨rfl, Nq, hk⟩
  have N := N.app Nq
  have hk1 := hk
  show Ogo p e below _ (T1.setTop (mkF m 4 #[.val (.ref a), .val (.int pv)] []))
  refine own_via (fun tq kq => XS.aloadN X1.here hx rfl (hb hby d4_4) rfl rfl kq) ?_
  show Ogo p e below _ (T1.setTop (mkF m 5 #[.val (.ref a), .val (.int pv)] [(.ref a)]))
  refine own_via (fun tq kq => XS.iloadN X1.here hx rfl (hb hby d4_5) rfl kq) ?_
  show Ogo p e below _ (T1.setTop (mkF m 6 #[.val (.ref a), .val (.int pv)] [(.int pv), (.ref a)]))
  obtain ⟨T2, h2, X2, e2, W2, st2⟩ := putF X1 hx hZ hown (host := "") (Or.inl (hw _ (List.mem_of_getElem? (i := 17) rfl))) Via.refl hk1 F_value_a E_a (Or.inr ⟨(hw _ (List.mem_of_getElem? (i := 18) rfl)), rfl, hnm⟩) (hw _ (List.mem_of_getElem? (i := 20) rfl)) (ty := .int) (by decide) rfl rfl (g := (mkF m 6 #[.val (.ref a), .val (.int pv)] [(.int pv), (.ref a)])) rfl rfl (hb hby d4_6)
  refine own_via st2 ?_
  have E_a := E_a.wr W2
  have F_value_a := F_value_a.same W2
  have K := K.wr W2 (Or.inl (List.mem_of_getElem? (i := 0) rfl))
  have N := Fr.snoc X2 N g_a
  show Ogo p e below _ (T2.setTop (mkF m 9 #[.val (.ref a), .val (.int pv)] []))
  exact own_out X2 hlk (fun _ => rfl) (by decide) (by decide) (by first | exact ⟨rfl, N, K, F_value_a⟩ | (rw [e2]; exact ⟨rfl, N, K, F_value_a⟩)) (fun fs hr => X2.returnOut hx hret (hb hby d4_9) hr)
theorem d3_0 : decode jdk_33_method_27_code 0 = .ok (.aload_n 0, 1) := by decide +kernel
theorem d3_1 : decode jdk_33_method_27_code 1 = .ok (.getfield 205, 3) := by decide +kernel
theorem d3_4 : decode jdk_33_method_27_code 4 = .ok (.ireturn, 1) := by decide +kernel
set_option maxRecDepth 65536 in
set_option maxHeartbeats 40000000 in
theorem rm_iv {l : Launch} {Z : State} {a0 : Array Value} (hw : ∀ d ∈ tables_1, d.before a0 Z = true) (a : Addr) (u : Int32) (h0 : Heap) (n0 : Nat) (F_value_a : Fld Z h0 a "java/lang/Integer" "value" "I" (.int u)) :
    Opays l (⟨"java/lang/Integer", "intValue", "()I"⟩ : MethodName) jdk_33_method_27_code 1 (some .int) ({ frames := 0, cells := 0, slots := 0, locals := 0 } : Room) [] Z h0 #[(.ref a)] (fun v h L => v = some (.int u) ∧ Fr n0 L ∧ h = h0) := by
  refine own_enter (plainFor_of_name pn_1) ?_
  intro p e s m below meth c s₁ hx hby hml0 hown hnm hret hlk hZ e0 X0
  have hml : c.maxLocals = 1 := hml0
  replace hown : s.vm.findClass "java/lang/Integer" = some m.cls := hown
  have N := Fr.nil n0
  have hef : entryFrame m #[(.ref a)] 1 = mkF m 0 #[.val (.ref a)] [] := by first | (simp [entryFrame, mkF, argsToLocals, Value.category]; done) | rfl
  rw [hef]
  show Ogo p e below _ (s₁.setTop (mkF m 0 #[.val (.ref a)] []))
  refine own_via (fun tq kq => XS.aloadN X0.here hx rfl (hb hby d3_0) rfl rfl kq) ?_
  show Ogo p e below _ (s₁.setTop (mkF m 1 #[.val (.ref a)] [(.ref a)]))
  obtain ⟨T1, X1, e1, st1⟩ := getF X0 hx hZ hown (host := "") (Or.inl (hw _ (List.mem_of_getElem? (i := 17) rfl))) Via.refl e0 F_value_a (g := (mkF m 1 #[.val (.ref a)] [(.ref a)])) rfl rfl (hb hby d3_1)
  refine own_via st1 ?_
  show Ogo p e below _ (T1.setTop (mkF m 4 #[.val (.ref a)] [(.int u)]))
  exact own_out X1 hlk (fun h => by rw [hret] at h; cases h) (by decide) (by decide) (by first | exact ⟨rfl, N, rfl⟩ | (rw [e1]; exact ⟨rfl, N, rfl⟩)) (fun fs hr => retI X1 hx hret (hb hby d3_4) hr)
theorem d2_0 : decode jdk_33_method_22_code 0 = .ok (.iload_n 0, 1) := by decide +kernel
theorem d2_1 : decode jdk_33_method_22_code 1 = .ok (.bipush (-128), 2) := by decide +kernel
theorem d2_3 : decode jdk_33_method_22_code 3 = .ok (.if_icmp .lt 20, 3) := by decide +kernel
theorem d2_6 : decode jdk_33_method_22_code 6 = .ok (.iload_n 0, 1) := by decide +kernel
theorem d2_7 : decode jdk_33_method_22_code 7 = .ok (.getstatic 191, 3) := by decide +kernel
theorem d2_10 : decode jdk_33_method_22_code 10 = .ok (.if_icmp .gt 13, 3) := by decide +kernel
theorem d2_13 : decode jdk_33_method_22_code 13 = .ok (.getstatic 195, 3) := by decide +kernel
theorem d2_16 : decode jdk_33_method_22_code 16 = .ok (.iload_n 0, 1) := by decide +kernel
theorem d2_17 : decode jdk_33_method_22_code 17 = .ok (.sipush 128, 3) := by decide +kernel
theorem d2_20 : decode jdk_33_method_22_code 20 = .ok (.iadd, 1) := by decide +kernel
theorem d2_21 : decode jdk_33_method_22_code 21 = .ok (.aaload, 1) := by decide +kernel
theorem d2_22 : decode jdk_33_method_22_code 22 = .ok (.areturn, 1) := by decide +kernel
theorem d2_23 : decode jdk_33_method_22_code 23 = .ok (.new 1, 3) := by decide +kernel
theorem d2_26 : decode jdk_33_method_22_code 26 = .ok (.dup, 1) := by decide +kernel
theorem d2_27 : decode jdk_33_method_22_code 27 = .ok (.iload_n 0, 1) := by decide +kernel
theorem d2_28 : decode jdk_33_method_22_code 28 = .ok (.invokespecial 199, 3) := by decide +kernel
theorem d2_31 : decode jdk_33_method_22_code 31 = .ok (.areturn, 1) := by decide +kernel
set_option maxRecDepth 65536 in
set_option maxHeartbeats 40000000 in
theorem rm_vo {l : Launch} {Z : State} {a0 : Array Value} (hw : ∀ d ∈ tables_1, d.before a0 Z = true) (pv : Int32) (ac : Addr) (cc : Cell) (h0 : Heap) (n0 : Nat) (SH : Sta Z Z.heap "java/lang/Integer$IntegerCache" "high" "I" (.int (127 : Int32))) (SC : Sta Z Z.heap "java/lang/Integer$IntegerCache" "cache" "[Ljava/lang/Integer;" (.ref ac)) (BX : Bxs Z ac cc "java/lang/Integer" "I" 256 (fun j => .int (j - 128))) (O : Old Z n0 h0) (zs : n0 ≤ h0.size) :
    Opays l (⟨"java/lang/Integer", "valueOf", "(I)Ljava/lang/Integer;"⟩ : MethodName) jdk_33_method_22_code 1 (some (.object "java/lang/Integer")) ({ frames := 3, cells := 1, slots := 1, locals := 38 } : Room) [] Z h0 #[(.int pv)] (fun v h L => Fr n0 L ∧ Keep h0 h [] ∧ ∃ b, v = some (.ref b) ∧ Exa Z h b "java/lang/Integer" ∧ Fld Z h b "java/lang/Integer" "value" "I" (.int pv)) := by
  refine own_enter (plainFor_of_name pn_1) ?_
  intro p e s m below meth c s₁ hx hby hml0 hown hnm hret hlk hZ e0 X0
  have hml : c.maxLocals = 1 := hml0
  replace hown : s.vm.findClass "java/lang/Integer" = some m.cls := hown
  have N := Fr.nil n0
  have hef : entryFrame m #[(.int pv)] 1 = mkF m 0 #[.val (.int pv)] [] := by first | (simp [entryFrame, mkF, argsToLocals, Value.category]; done) | rfl
  rw [hef]
  show Ogo p e below _ (s₁.setTop (mkF m 0 #[.val (.int pv)] []))
  have K := Keep.refl h0 []
  refine own_via (fun tq kq => XS.iloadN X0.here hx rfl (hb hby d2_0) rfl kq) ?_
  show Ogo p e below _ (s₁.setTop (mkF m 1 #[.val (.int pv)] [(.int pv)]))
  refine own_via (fun tq kq => XS.bipush X0.here hx rfl (hb hby d2_1) kq) ?_
  show Ogo p e below _ (s₁.setTop (mkF m 3 #[.val (.int pv)] [(.int (-128 : Int32)), (.int pv)]))
  by_cases hc3 : pv < (-128 : Int32)
  · refine own_via (fun tq kq => XS.icmpYes X0.here hx rfl (pc0 := 3) (pc' := 23) rfl (hb hby d2_3) rfl (tlt (hc3 : pv < (-128 : Int32))).1 (by decide) (by decide) kq) ?_
    show Ogo p e below _ (s₁.setTop (mkF m 23 #[.val (.int pv)] []))
    obtain ⟨T1, h1, X1, e1, E1, A1, D1, -, st1⟩ := newO X0 hx hZ hown (hw _ (List.mem_of_getElem? (i := 19) rfl)) (hw _ (List.mem_of_getElem? (i := 20) rfl)) (hw _ (List.mem_of_getElem? (i := 7) rfl)) e0 (g := (mkF m 23 #[.val (.int pv)] [])) rfl (hb hby d2_23) (by decide) (by decide)
    refine own_via st1 ?_
    obtain ⟨b, g1⟩ : ∃ z, z = h0.size := ⟨_, rfl⟩
    rw [← g1]
    rw [← g1] at A1 D1
    have g_b : n0 ≤ b := by rw [g1]; exact zs
    have sz_b : h0.size ≤ b := by rw [g1]; exact K.1
    have zs := Nat.le_trans zs E1.1
    have O := O.ext E1
    have K := K.ext E1
    have E_b := A1
    have F_value_b : Fld Z h1 b "java/lang/Integer" "value" "I" (.int (0 : Int32)) := D1 (Or.inr (hw _ (List.mem_of_getElem? (i := 18) rfl))) (ty := .int) (by decide)
    show Ogo p e below _ (T1.setTop (mkF m 26 #[.val (.int pv)] [(.ref b)]))
    refine own_via (fun tq kq => XS.dup X1.here hx rfl (hb hby d2_26) rfl rfl kq) ?_
    show Ogo p e below _ (T1.setTop (mkF m 27 #[.val (.int pv)] [(.ref b), (.ref b)]))
    refine own_via (fun tq kq => XS.iloadN X1.here hx rfl (hb hby d2_27) rfl kq) ?_
    show Ogo p e below _ (T1.setTop (mkF m 28 #[.val (.int pv)] [(.int pv), (.ref b), (.ref b)]))
    refine own_callI X1 hx hZ rfl hown (hw _ (List.mem_of_getElem? (i := 21) rfl)) (hw _ (List.mem_of_getElem? (i := 22) rfl)) (hw _ (List.mem_of_getElem? (i := 7) rfl)) (hw _ (List.mem_of_getElem? (i := 24) rfl)) (by decide) (rm_ii hw b pv 0 h1 n0 E_b F_value_b g_b) rfl e1 (W := 1) (by decide) (by decide) (by decide) (by decide) (by rw [hml]; rfl) (a := b) (argsL := [(.int pv)]) (rest := [(.ref b)]) (lenOf pd_1 rfl) rfl (Nat.le_of_eq rfl) (hb hby d2_28) ?_
    rintro _ T2 L2 X2 ⟨rfl, Nq, Kc, F_value_b⟩
    have N := N.app Nq
    have E_b := E_b.keep Kc
    have zs := Nat.le_trans zs Kc.1
    have O := O.keep Kc (allS g_b all0)
    have K := K.trans Kc (allS (Or.inr sz_b) all0)
    show Ogo p e below _ (T2.setTop (mkF m 31 #[.val (.int pv)] [(.ref b)]))
    exact own_out X2 hlk (fun h => by rw [hret] at h; cases h) (by decide) (by decide) (⟨N, K, b, rfl, E_b, F_value_b⟩) (fun fs hr => own_retA X2 hx hret rfl rfl (hb hby d2_31) hr)
  · refine own_via (fun tq kq => XS.icmpNo X0.here hx rfl (hb hby d2_3) rfl (flt (hc3 : ¬ (pv < (-128 : Int32)))).1 kq) ?_
    show Ogo p e below _ (s₁.setTop (mkF m 6 #[.val (.int pv)] []))
    refine own_via (fun tq kq => XS.iloadN X0.here hx rfl (hb hby d2_6) rfl kq) ?_
    show Ogo p e below _ (s₁.setTop (mkF m 7 #[.val (.int pv)] [(.int pv)]))
    obtain ⟨T3, X3, e3, st3⟩ := getS2 X0 hx hZ hown (host := "") (Or.inl (hw _ (List.mem_of_getElem? (i := 9) rfl))) Via.refl e0 (SH.ext O.2) (g := (mkF m 7 #[.val (.int pv)] [(.int pv)])) rfl (hb hby d2_7)
    refine own_via st3 ?_
    show Ogo p e below _ (T3.setTop (mkF m 10 #[.val (.int pv)] [(.int (127 : Int32)), (.int pv)]))
    by_cases hc10 : (127 : Int32) < pv
    · refine own_via (fun tq kq => XS.icmpYes X3.here hx rfl (pc0 := 10) (pc' := 23) rfl (hb hby d2_10) rfl (tlt (hc10 : (127 : Int32) < pv)).2.2.1 (by decide) (by decide) kq) ?_
      show Ogo p e below _ (T3.setTop (mkF m 23 #[.val (.int pv)] []))
      obtain ⟨T4, h4, X4, e4, E4, A4, D4, -, st4⟩ := newO X3 hx hZ hown (hw _ (List.mem_of_getElem? (i := 19) rfl)) (hw _ (List.mem_of_getElem? (i := 20) rfl)) (hw _ (List.mem_of_getElem? (i := 7) rfl)) e3 (g := (mkF m 23 #[.val (.int pv)] [])) rfl (hb hby d2_23) (by decide) (by decide)
      refine own_via st4 ?_
      obtain ⟨b, g4⟩ : ∃ z, z = h0.size := ⟨_, rfl⟩
      rw [← g4]
      rw [← g4] at A4 D4
      have g_b : n0 ≤ b := by rw [g4]; exact zs
      have sz_b : h0.size ≤ b := by rw [g4]; exact K.1
      have zs := Nat.le_trans zs E4.1
      have O := O.ext E4
      have K := K.ext E4
      have E_b := A4
      have F_value_b : Fld Z h4 b "java/lang/Integer" "value" "I" (.int (0 : Int32)) := D4 (Or.inr (hw _ (List.mem_of_getElem? (i := 18) rfl))) (ty := .int) (by decide)
      show Ogo p e below _ (T4.setTop (mkF m 26 #[.val (.int pv)] [(.ref b)]))
      refine own_via (fun tq kq => XS.dup X4.here hx rfl (hb hby d2_26) rfl rfl kq) ?_
      show Ogo p e below _ (T4.setTop (mkF m 27 #[.val (.int pv)] [(.ref b), (.ref b)]))
      refine own_via (fun tq kq => XS.iloadN X4.here hx rfl (hb hby d2_27) rfl kq) ?_
      show Ogo p e below _ (T4.setTop (mkF m 28 #[.val (.int pv)] [(.int pv), (.ref b), (.ref b)]))
      refine own_callI X4 hx hZ rfl hown (hw _ (List.mem_of_getElem? (i := 21) rfl)) (hw _ (List.mem_of_getElem? (i := 22) rfl)) (hw _ (List.mem_of_getElem? (i := 7) rfl)) (hw _ (List.mem_of_getElem? (i := 24) rfl)) (by decide) (rm_ii hw b pv 0 h4 n0 E_b F_value_b g_b) rfl e4 (W := 1) (by decide) (by decide) (by decide) (by decide) (by rw [hml]; rfl) (a := b) (argsL := [(.int pv)]) (rest := [(.ref b)]) (lenOf pd_1 rfl) rfl (Nat.le_of_eq rfl) (hb hby d2_28) ?_
      rintro _ T5 L5 X5 ⟨rfl, Nq, Kc, F_value_b⟩
      have N := N.app Nq
      have E_b := E_b.keep Kc
      have zs := Nat.le_trans zs Kc.1
      have O := O.keep Kc (allS g_b all0)
      have K := K.trans Kc (allS (Or.inr sz_b) all0)
      show Ogo p e below _ (T5.setTop (mkF m 31 #[.val (.int pv)] [(.ref b)]))
      exact own_out X5 hlk (fun h => by rw [hret] at h; cases h) (by decide) (by decide) (⟨N, K, b, rfl, E_b, F_value_b⟩) (fun fs hr => own_retA X5 hx hret rfl rfl (hb hby d2_31) hr)
    · refine own_via (fun tq kq => XS.icmpNo X3.here hx rfl (hb hby d2_10) rfl (flt (hc10 : ¬ ((127 : Int32) < pv))).2.2.1 kq) ?_
      show Ogo p e below _ (T3.setTop (mkF m 13 #[.val (.int pv)] []))
      obtain ⟨T6, X6, e6, st6⟩ := getS2 X3 hx hZ hown (host := "") (Or.inl (hw _ (List.mem_of_getElem? (i := 11) rfl))) Via.refl e3 (SC.ext O.2) (g := (mkF m 13 #[.val (.int pv)] [])) rfl (hb hby d2_13)
      refine own_via st6 ?_
      show Ogo p e below _ (T6.setTop (mkF m 16 #[.val (.int pv)] [(.ref ac)]))
      refine own_via (fun tq kq => XS.iloadN X6.here hx rfl (hb hby d2_16) rfl kq) ?_
      show Ogo p e below _ (T6.setTop (mkF m 17 #[.val (.int pv)] [(.int pv), (.ref ac)]))
      refine own_via (fun tq kq => XS.sipush X6.here hx rfl (hb hby d2_17) kq) ?_
      show Ogo p e below _ (T6.setTop (mkF m 20 #[.val (.int pv)] [(.int (128 : Int32)), (.int pv), (.ref ac)]))
      refine own_via (fun tq kq => XS.iadd X6.here hx rfl (hb hby d2_20) rfl kq) ?_
      show Ogo p e below _ (T6.setTop (mkF m 21 #[.val (.int pv)] [(.int (pv + (128 : Int32))), (.ref ac)]))
      have l1 : (-128 : Int32).toInt = -128 := rfl
      have l2 : (127 : Int32).toInt = 127 := rfl
      have l3 : (128 : Int32).toInt = 128 := rfl
      have a1 := i_nlt' hc3
      have a2 := i_nlt' hc10
      have a3 := own_add (p := pv) (q := 128) (by omega) (by omega)
      have hin : ¬ ((pv + (128 : Int32)) < 0 ∨ cc.slots.size ≤ (pv + (128 : Int32)).toNatClampNeg) := inb_of BX.2.1 ⟨i_nlt (by have : (0 : Int32).toInt = 0 := rfl; omega), i_lt (by have : (256 : Int32).toInt = 256 := rfl; omega)⟩
      obtain ⟨b, hat, E_b, F_b⟩ := BX.2.2.2 _ hin
      have E_b := E_b.ext O.2
      have F_b := F_b.ext O.2
      simp only [own_128] at F_b
      have Ar := (BX.ext O.2).1
      refine own_via (fun tq kq => X6.aaload hx (j := (pv + (128 : Int32))) (v := .ref b) (by rw [e6]; exact Ar.1) (State.isArrayOf_alike hZ.alike Ar.2.1) rfl Ar.2.2 hin hat (g := (mkF m 21 #[.val (.int pv)] [(.int (pv + (128 : Int32))), (.ref ac)])) rfl rfl (hb hby d2_21) _ kq) ?_
      show Ogo p e below _ (T6.setTop (mkF m 22 #[.val (.int pv)] [(.ref b)]))
      exact own_out X6 hlk (fun h => by rw [hret] at h; cases h) (by decide) (by decide) (by first | exact ⟨N, K, b, rfl, E_b, F_b⟩ | (rw [e6]; exact ⟨N, K, b, rfl, E_b, F_b⟩)) (fun fs hr => own_retA X6 hx hret rfl rfl (hb hby d2_22) hr)
theorem d1_0 : decode prog_80_method_31_code 0 = .ok (.aconst_null, 1) := by decide +kernel
theorem d1_1 : decode prog_80_method_31_code 1 = .ok (.astore_n 2, 1) := by decide +kernel
theorem d1_2 : decode prog_80_method_31_code 2 = .ok (.iload_n 0, 1) := by decide +kernel
theorem d1_3 : decode prog_80_method_31_code 3 = .ok (.iconst 1, 1) := by decide +kernel
theorem d1_4 : decode prog_80_method_31_code 4 = .ok (.if_icmp .lt 18, 3) := by decide +kernel
theorem d1_7 : decode prog_80_method_31_code 7 = .ok (.iload_n 0, 1) := by decide +kernel
theorem d1_8 : decode prog_80_method_31_code 8 = .ok (.iload_n 1, 1) := by decide +kernel
theorem d1_9 : decode prog_80_method_31_code 9 = .ok (.if_icmp .gt 13, 3) := by decide +kernel
theorem d1_12 : decode prog_80_method_31_code 12 = .ok (.iload_n 0, 1) := by decide +kernel
theorem d1_13 : decode prog_80_method_31_code 13 = .ok (.iconst 1, 1) := by decide +kernel
theorem d1_14 : decode prog_80_method_31_code 14 = .ok (.isub, 1) := by decide +kernel
theorem d1_15 : decode prog_80_method_31_code 15 = .ok (.invokestatic 235, 3) := by decide +kernel
theorem d1_18 : decode prog_80_method_31_code 18 = .ok (.astore_n 2, 1) := by decide +kernel
theorem d1_19 : decode prog_80_method_31_code 19 = .ok (.goto 21, 3) := by decide +kernel
theorem d1_22 : decode prog_80_method_31_code 22 = .ok (.iload_n 0, 1) := by decide +kernel
theorem d1_23 : decode prog_80_method_31_code 23 = .ok (.iconst (-1), 1) := by decide +kernel
theorem d1_24 : decode prog_80_method_31_code 24 = .ok (.if_icmp .gt 16, 3) := by decide +kernel
theorem d1_27 : decode prog_80_method_31_code 27 = .ok (.iload_n 0, 1) := by decide +kernel
theorem d1_28 : decode prog_80_method_31_code 28 = .ok (.iload_n 1, 1) := by decide +kernel
theorem d1_29 : decode prog_80_method_31_code 29 = .ok (.ineg, 1) := by decide +kernel
theorem d1_30 : decode prog_80_method_31_code 30 = .ok (.if_icmp .lt 10, 3) := by decide +kernel
theorem d1_33 : decode prog_80_method_31_code 33 = .ok (.iload_n 1, 1) := by decide +kernel
theorem d1_34 : decode prog_80_method_31_code 34 = .ok (.iload_n 0, 1) := by decide +kernel
theorem d1_35 : decode prog_80_method_31_code 35 = .ok (.iadd, 1) := by decide +kernel
theorem d1_36 : decode prog_80_method_31_code 36 = .ok (.invokestatic 235, 3) := by decide +kernel
theorem d1_39 : decode prog_80_method_31_code 39 = .ok (.astore_n 2, 1) := by decide +kernel
theorem d1_40 : decode prog_80_method_31_code 40 = .ok (.aload_n 2, 1) := by decide +kernel
theorem d1_41 : decode prog_80_method_31_code 41 = .ok (.areturn, 1) := by decide +kernel
set_option maxRecDepth 65536 in
set_option maxHeartbeats 40000000 in
theorem rm_ix {l : Launch} {Z : State} {a0 : Array Value} (hw : ∀ d ∈ tables_1, d.before a0 Z = true) (pv z : Int32) (ac : Addr) (cc : Cell) (h0 : Heap) (n0 : Nat) (hz0 : 0 ≤ z.toInt) (SH : Sta Z Z.heap "java/lang/Integer$IntegerCache" "high" "I" (.int (127 : Int32))) (SC : Sta Z Z.heap "java/lang/Integer$IntegerCache" "cache" "[Ljava/lang/Integer;" (.ref ac)) (BX : Bxs Z ac cc "java/lang/Integer" "I" 256 (fun j => .int (j - 128))) (O : Old Z n0 h0) (zs : n0 ≤ h0.size) :
    Opays l (⟨"com/example/diligent_workflow/diligentworkflow/feel/ListFunctions", "index", "(II)Ljava/lang/Integer;"⟩ : MethodName) prog_80_method_31_code 3 (some (.object "java/lang/Integer")) ({ frames := 4, cells := 1, slots := 1, locals := 50 } : Room) [] Z h0 #[(.int pv), (.int z)] (fun v h L => (1 ≤ pv.toInt ∧ pv.toInt ≤ z.toInt ∧ Fr n0 L ∧ Keep h0 h [] ∧ ∃ b, v = some (.ref b) ∧ Exa Z h b "java/lang/Integer" ∧ Fld Z h b "java/lang/Integer" "value" "I" (.int (pv - 1))) ∨ (pv.toInt ≤ -1 ∧ -z.toInt ≤ pv.toInt ∧ Fr n0 L ∧ Keep h0 h [] ∧ ∃ b, v = some (.ref b) ∧ Exa Z h b "java/lang/Integer" ∧ Fld Z h b "java/lang/Integer" "value" "I" (.int (z + pv))) ∨ ((pv.toInt = 0 ∨ z.toInt < pv.toInt ∨ pv.toInt < -z.toInt) ∧ Fr n0 L ∧ Keep h0 h [] ∧ v = some .null)) := by
  refine own_enter (plainFor_of_name pn_2) ?_
  intro p e s m below meth c s₁ hx hby hml0 hown hnm hret hlk hZ e0 X0
  have hml : c.maxLocals = 3 := hml0
  replace hown : s.vm.findClass "com/example/diligent_workflow/diligentworkflow/feel/ListFunctions" = some m.cls := hown
  have N := Fr.nil n0
  have hef : entryFrame m #[(.int pv), (.int z)] 3 = mkF m 0 #[.val (.int pv), .val (.int z), .unset] [] := by first | (simp [entryFrame, mkF, argsToLocals, Value.category]; done) | rfl
  rw [hef]
  show Ogo p e below _ (s₁.setTop (mkF m 0 #[.val (.int pv), .val (.int z), .unset] []))
  have K := Keep.refl h0 []
  have l1 : (1 : Int32).toInt = 1 := rfl
  have l2 : (-1 : Int32).toInt = -1 := rfl
  have l3 : (-z).toInt = -z.toInt := by have := c_ineg z; have := rng32 (-z); have := rng32 z; omega
  refine own_via (fun tq kq => XS.aconstNull X0.here hx rfl (hb hby d1_0) kq) ?_
  show Ogo p e below _ (s₁.setTop (mkF m 1 #[.val (.int pv), .val (.int z), .unset] [.null]))
  refine own_via (fun tq kq => XS.astoreN X0.here hx rfl (hb hby d1_1) rfl rfl (l' := #[.val (.int pv), .val (.int z), .val .null]) rfl kq) ?_
  show Ogo p e below _ (s₁.setTop (mkF m 2 #[.val (.int pv), .val (.int z), .val .null] []))
  refine own_via (fun tq kq => XS.iloadN X0.here hx rfl (hb hby d1_2) rfl kq) ?_
  show Ogo p e below _ (s₁.setTop (mkF m 3 #[.val (.int pv), .val (.int z), .val .null] [(.int pv)]))
  refine own_via (fun tq kq => XS.iconst X0.here hx rfl (hb hby d1_3) kq) ?_
  show Ogo p e below _ (s₁.setTop (mkF m 4 #[.val (.int pv), .val (.int z), .val .null] [(.int (1 : Int32)), (.int pv)]))
  by_cases hc4 : pv < (1 : Int32)
  · refine own_via (fun tq kq => XS.icmpYes X0.here hx rfl (pc0 := 4) (pc' := 22) rfl (hb hby d1_4) rfl (tlt (hc4 : pv < (1 : Int32))).1 (by decide) (by decide) kq) ?_
    show Ogo p e below _ (s₁.setTop (mkF m 22 #[.val (.int pv), .val (.int z), .val .null] []))
    refine own_via (fun tq kq => XS.iloadN X0.here hx rfl (hb hby d1_22) rfl kq) ?_
    show Ogo p e below _ (s₁.setTop (mkF m 23 #[.val (.int pv), .val (.int z), .val .null] [(.int pv)]))
    refine own_via (fun tq kq => XS.iconst X0.here hx rfl (hb hby d1_23) kq) ?_
    show Ogo p e below _ (s₁.setTop (mkF m 24 #[.val (.int pv), .val (.int z), .val .null] [(.int (-1 : Int32)), (.int pv)]))
    by_cases hc24 : (-1 : Int32) < pv
    · refine own_via (fun tq kq => XS.icmpYes X0.here hx rfl (pc0 := 24) (pc' := 40) rfl (hb hby d1_24) rfl (tlt (hc24 : (-1 : Int32) < pv)).2.2.1 (by decide) (by decide) kq) ?_
      show Ogo p e below _ (s₁.setTop (mkF m 40 #[.val (.int pv), .val (.int z), .val .null] []))
      refine own_via (fun tq kq => XS.aloadN X0.here hx rfl (hb hby d1_40) rfl rfl kq) ?_
      show Ogo p e below _ (s₁.setTop (mkF m 41 #[.val (.int pv), .val (.int z), .val .null] [.null]))
      exact own_out X0 hlk (fun h => by rw [hret] at h; cases h) (by decide) (by decide) (by first | exact Or.inr (Or.inr ⟨(by have := i_lt' hc4; have := i_lt' hc24; omega), N, K, rfl⟩) | (rw [e0]; exact Or.inr (Or.inr ⟨(by have := i_lt' hc4; have := i_lt' hc24; omega), N, K, rfl⟩))) (fun fs hr => own_retA X0 hx hret rfl rfl (hb hby d1_41) hr)
    · refine own_via (fun tq kq => XS.icmpNo X0.here hx rfl (hb hby d1_24) rfl (flt (hc24 : ¬ ((-1 : Int32) < pv))).2.2.1 kq) ?_
      show Ogo p e below _ (s₁.setTop (mkF m 27 #[.val (.int pv), .val (.int z), .val .null] []))
      refine own_via (fun tq kq => XS.iloadN X0.here hx rfl (hb hby d1_27) rfl kq) ?_
      show Ogo p e below _ (s₁.setTop (mkF m 28 #[.val (.int pv), .val (.int z), .val .null] [(.int pv)]))
      refine own_via (fun tq kq => XS.iloadN X0.here hx rfl (hb hby d1_28) rfl kq) ?_
      show Ogo p e below _ (s₁.setTop (mkF m 29 #[.val (.int pv), .val (.int z), .val .null] [(.int z), (.int pv)]))
      refine own_via (fun tq kq => XS.ineg X0.here hx rfl (hb hby d1_29) rfl kq) ?_
      show Ogo p e below _ (s₁.setTop (mkF m 30 #[.val (.int pv), .val (.int z), .val .null] [(.int (-z)), (.int pv)]))
      by_cases hc30 : pv < (-z)
      · refine own_via (fun tq kq => XS.icmpYes X0.here hx rfl (pc0 := 30) (pc' := 40) rfl (hb hby d1_30) rfl (tlt (hc30 : pv < (-z))).1 (by decide) (by decide) kq) ?_
        show Ogo p e below _ (s₁.setTop (mkF m 40 #[.val (.int pv), .val (.int z), .val .null] []))
        refine own_via (fun tq kq => XS.aloadN X0.here hx rfl (hb hby d1_40) rfl rfl kq) ?_
        show Ogo p e below _ (s₁.setTop (mkF m 41 #[.val (.int pv), .val (.int z), .val .null] [.null]))
        exact own_out X0 hlk (fun h => by rw [hret] at h; cases h) (by decide) (by decide) (by first | exact Or.inr (Or.inr ⟨(by have := i_lt' hc30; omega), N, K, rfl⟩) | (rw [e0]; exact Or.inr (Or.inr ⟨(by have := i_lt' hc30; omega), N, K, rfl⟩))) (fun fs hr => own_retA X0 hx hret rfl rfl (hb hby d1_41) hr)
      · refine own_via (fun tq kq => XS.icmpNo X0.here hx rfl (hb hby d1_30) rfl (flt (hc30 : ¬ (pv < (-z)))).1 kq) ?_
        show Ogo p e below _ (s₁.setTop (mkF m 33 #[.val (.int pv), .val (.int z), .val .null] []))
        refine own_via (fun tq kq => XS.iloadN X0.here hx rfl (hb hby d1_33) rfl kq) ?_
        show Ogo p e below _ (s₁.setTop (mkF m 34 #[.val (.int pv), .val (.int z), .val .null] [(.int z)]))
        refine own_via (fun tq kq => XS.iloadN X0.here hx rfl (hb hby d1_34) rfl kq) ?_
        show Ogo p e below _ (s₁.setTop (mkF m 35 #[.val (.int pv), .val (.int z), .val .null] [(.int pv), (.int z)]))
        refine own_via (fun tq kq => XS.iadd X0.here hx rfl (hb hby d1_35) rfl kq) ?_
        show Ogo p e below _ (s₁.setTop (mkF m 36 #[.val (.int pv), .val (.int z), .val .null] [(.int (z + pv))]))
        refine own_callS X0 hx hZ hown (hw _ (List.mem_of_getElem? (i := 5) rfl)) (hw _ (List.mem_of_getElem? (i := 6) rfl)) (hw _ (List.mem_of_getElem? (i := 7) rfl)) (hw _ (List.mem_of_getElem? (i := 8) rfl)) (by decide) (rm_vo hw (z + pv) ac cc h0 n0 SH SC BX O zs) rfl e0 (W := 0) (by decide) (by decide) (by decide) (by decide) (by rw [hml]; rfl) (argsL := [(.int (z + pv))]) (rest := []) (lenOf pd_2 rfl) rfl (Nat.le_of_eq rfl) (hb hby d1_36) ?_
        rintro _ T1 L1 X1 ⟨Nq, Kc, b, rfl, E_b, F_b⟩
        have N := N.app Nq
        have zs := Nat.le_trans zs Kc.1
        have O := O.keep Kc all0
        have K := K.trans Kc all0
        show Ogo p e below _ (T1.setTop (mkF m 39 #[.val (.int pv), .val (.int z), .val .null] [(.ref b)]))
        refine own_via (fun tq kq => XS.astoreN X1.here hx rfl (hb hby d1_39) rfl rfl (l' := #[.val (.int pv), .val (.int z), .val (.ref b)]) rfl kq) ?_
        show Ogo p e below _ (T1.setTop (mkF m 40 #[.val (.int pv), .val (.int z), .val (.ref b)] []))
        refine own_via (fun tq kq => XS.aloadN X1.here hx rfl (hb hby d1_40) rfl rfl kq) ?_
        show Ogo p e below _ (T1.setTop (mkF m 41 #[.val (.int pv), .val (.int z), .val (.ref b)] [(.ref b)]))
        exact own_out X1 hlk (fun h => by rw [hret] at h; cases h) (by decide) (by decide) (Or.inr (Or.inl ⟨by have := i_nlt' hc24; omega, by have := i_nlt' hc30; omega, N, K, b, rfl, E_b, F_b⟩)) (fun fs hr => own_retA X1 hx hret rfl rfl (hb hby d1_41) hr)
  · refine own_via (fun tq kq => XS.icmpNo X0.here hx rfl (hb hby d1_4) rfl (flt (hc4 : ¬ (pv < (1 : Int32)))).1 kq) ?_
    show Ogo p e below _ (s₁.setTop (mkF m 7 #[.val (.int pv), .val (.int z), .val .null] []))
    refine own_via (fun tq kq => XS.iloadN X0.here hx rfl (hb hby d1_7) rfl kq) ?_
    show Ogo p e below _ (s₁.setTop (mkF m 8 #[.val (.int pv), .val (.int z), .val .null] [(.int pv)]))
    refine own_via (fun tq kq => XS.iloadN X0.here hx rfl (hb hby d1_8) rfl kq) ?_
    show Ogo p e below _ (s₁.setTop (mkF m 9 #[.val (.int pv), .val (.int z), .val .null] [(.int z), (.int pv)]))
    by_cases hc9 : z < pv
    · refine own_via (fun tq kq => XS.icmpYes X0.here hx rfl (pc0 := 9) (pc' := 22) rfl (hb hby d1_9) rfl (tlt (hc9 : z < pv)).2.2.1 (by decide) (by decide) kq) ?_
      show Ogo p e below _ (s₁.setTop (mkF m 22 #[.val (.int pv), .val (.int z), .val .null] []))
      refine own_via (fun tq kq => XS.iloadN X0.here hx rfl (hb hby d1_22) rfl kq) ?_
      show Ogo p e below _ (s₁.setTop (mkF m 23 #[.val (.int pv), .val (.int z), .val .null] [(.int pv)]))
      refine own_via (fun tq kq => XS.iconst X0.here hx rfl (hb hby d1_23) kq) ?_
      show Ogo p e below _ (s₁.setTop (mkF m 24 #[.val (.int pv), .val (.int z), .val .null] [(.int (-1 : Int32)), (.int pv)]))
      refine own_via (fun tq kq => XS.icmpYes X0.here hx rfl (pc0 := 24) (pc' := 40) rfl (hb hby d1_24) rfl (tlt (i_lt (by have := i_nlt' hc4; omega) : (-1 : Int32) < pv)).2.2.1 (by decide) (by decide) kq) ?_
      show Ogo p e below _ (s₁.setTop (mkF m 40 #[.val (.int pv), .val (.int z), .val .null] []))
      refine own_via (fun tq kq => XS.aloadN X0.here hx rfl (hb hby d1_40) rfl rfl kq) ?_
      show Ogo p e below _ (s₁.setTop (mkF m 41 #[.val (.int pv), .val (.int z), .val .null] [.null]))
      exact own_out X0 hlk (fun h => by rw [hret] at h; cases h) (by decide) (by decide) (by first | exact Or.inr (Or.inr ⟨(by have := i_lt' hc9; omega), N, K, rfl⟩) | (rw [e0]; exact Or.inr (Or.inr ⟨(by have := i_lt' hc9; omega), N, K, rfl⟩))) (fun fs hr => own_retA X0 hx hret rfl rfl (hb hby d1_41) hr)
    · refine own_via (fun tq kq => XS.icmpNo X0.here hx rfl (hb hby d1_9) rfl (flt (hc9 : ¬ (z < pv))).2.2.1 kq) ?_
      show Ogo p e below _ (s₁.setTop (mkF m 12 #[.val (.int pv), .val (.int z), .val .null] []))
      refine own_via (fun tq kq => XS.iloadN X0.here hx rfl (hb hby d1_12) rfl kq) ?_
      show Ogo p e below _ (s₁.setTop (mkF m 13 #[.val (.int pv), .val (.int z), .val .null] [(.int pv)]))
      refine own_via (fun tq kq => XS.iconst X0.here hx rfl (hb hby d1_13) kq) ?_
      show Ogo p e below _ (s₁.setTop (mkF m 14 #[.val (.int pv), .val (.int z), .val .null] [(.int (1 : Int32)), (.int pv)]))
      refine own_via (fun tq kq => XS.isub X0.here hx rfl (hb hby d1_14) rfl kq) ?_
      show Ogo p e below _ (s₁.setTop (mkF m 15 #[.val (.int pv), .val (.int z), .val .null] [(.int (pv - (1 : Int32)))]))
      refine own_callS X0 hx hZ hown (hw _ (List.mem_of_getElem? (i := 5) rfl)) (hw _ (List.mem_of_getElem? (i := 6) rfl)) (hw _ (List.mem_of_getElem? (i := 7) rfl)) (hw _ (List.mem_of_getElem? (i := 8) rfl)) (by decide) (rm_vo hw (pv - (1 : Int32)) ac cc h0 n0 SH SC BX O zs) rfl e0 (W := 0) (by decide) (by decide) (by decide) (by decide) (by rw [hml]; rfl) (argsL := [(.int (pv - (1 : Int32)))]) (rest := []) (lenOf pd_2 rfl) rfl (Nat.le_of_eq rfl) (hb hby d1_15) ?_
      rintro _ T2 L2 X2 ⟨Nq, Kc, b, rfl, E_b, F_b⟩
      have N := N.app Nq
      have zs := Nat.le_trans zs Kc.1
      have O := O.keep Kc all0
      have K := K.trans Kc all0
      show Ogo p e below _ (T2.setTop (mkF m 18 #[.val (.int pv), .val (.int z), .val .null] [(.ref b)]))
      refine own_via (fun tq kq => XS.astoreN X2.here hx rfl (hb hby d1_18) rfl rfl (l' := #[.val (.int pv), .val (.int z), .val (.ref b)]) rfl kq) ?_
      show Ogo p e below _ (T2.setTop (mkF m 19 #[.val (.int pv), .val (.int z), .val (.ref b)] []))
      refine own_via (fun tq kq => XS.goto X2.here hx rfl (pc0 := 19) (pc' := 40) rfl (hb hby d1_19) (by decide) (by decide) kq) ?_
      show Ogo p e below _ (T2.setTop (mkF m 40 #[.val (.int pv), .val (.int z), .val (.ref b)] []))
      refine own_via (fun tq kq => XS.aloadN X2.here hx rfl (hb hby d1_40) rfl rfl kq) ?_
      show Ogo p e below _ (T2.setTop (mkF m 41 #[.val (.int pv), .val (.int z), .val (.ref b)] [(.ref b)]))
      exact own_out X2 hlk (fun h => by rw [hret] at h; cases h) (by decide) (by decide) (Or.inl ⟨by have := i_nlt' hc4; omega, by have := i_nlt' hc9; omega, N, K, b, rfl, E_b, F_b⟩) (fun fs hr => own_retA X2 hx hret rfl rfl (hb hby d1_41) hr)
set_option maxRecDepth 65536 in
set_option maxHeartbeats 40000000 in
theorem rm_law {l : Launch} {Z : State} {a0 : Array Value} (hw : ∀ d ∈ tables_1, d.before a0 Z = true) (pv q : Int32) (ac : Addr) (cc : Cell) (h0 : Heap) (n0 : Nat) (zs : n0 ≤ h0.size) (SH : Sta Z Z.heap "java/lang/Integer$IntegerCache" "high" "I" (.int (127 : Int32))) (SC : Sta Z Z.heap "java/lang/Integer$IntegerCache" "cache" "[Ljava/lang/Integer;" (.ref ac)) (BX : Bxs Z ac cc "java/lang/Integer" "I" 256 (fun j => .int (j - 128))) (O : Old Z n0 h0) :
    Opays l x code maxLocals ret room_1 tables_1 Z h0 #[(.int pv), (.int q)] (fun v h L => v = some (.int 1) ∧ Fr n0 L) := by
  refine own_enter (plainFor_of_name pn_3) ?_
  intro p e s m below meth c s₁ hx hby hml0 hown hnm hret hlk hZ e0 X0
  have hml : c.maxLocals = 12 := hml0
  replace hown : s.vm.findClass "com/example/diligent_workflow/diligentworkflow/feel/ListFunctionsIndexPinLaw" = some m.cls := hown
  have N := Fr.nil n0
  have hef : entryFrame m #[(.int pv), (.int q)] maxLocals = mkF m 0 #[.val (.int pv), .val (.int q), .unset, .unset, .unset, .unset, .unset, .unset, .unset, .unset, .unset, .unset] [] := by first | (simp [entryFrame, mkF, argsToLocals, Value.category, maxLocals]; done) | rfl
  rw [hef]
  show Ogo p e below _ (s₁.setTop (mkF m 0 #[.val (.int pv), .val (.int q), .unset, .unset, .unset, .unset, .unset, .unset, .unset, .unset, .unset, .unset] []))
  refine own_via (fun tq kq => XS.iloadN X0.here hx rfl (hb hby at_0) rfl kq) ?_
  show Ogo p e below _ (s₁.setTop (mkF m 1 #[.val (.int pv), .val (.int q), .unset, .unset, .unset, .unset, .unset, .unset, .unset, .unset, .unset, .unset] [(.int q)]))
  refine own_via (fun tq kq => X0.ldcInt hx hown (mvT hZ (hw _ (List.mem_of_getElem? (i := 0) rfl))) (g := (mkF m 1 #[.val (.int pv), .val (.int q), .unset, .unset, .unset, .unset, .unset, .unset, .unset, .unset, .unset, .unset] [(.int q)])) rfl (hb hby at_1) _ kq) ?_
  show Ogo p e below _ (s₁.setTop (mkF m 3 #[.val (.int pv), .val (.int q), .unset, .unset, .unset, .unset, .unset, .unset, .unset, .unset, .unset, .unset] [(.int (2147483647 : Int32)), (.int q)]))
  refine own_via (fun tq kq => XS.iand X0.here hx rfl (hb hby at_3) rfl kq) ?_
  show Ogo p e below _ (s₁.setTop (mkF m 4 #[.val (.int pv), .val (.int q), .unset, .unset, .unset, .unset, .unset, .unset, .unset, .unset, .unset, .unset] [(.int (q &&& (2147483647 : Int32)))]))
  refine own_via (fun tq kq => XS.istoreN X0.here hx rfl (hb hby at_4) rfl (l' := #[.val (.int pv), .val (.int q), .val (.int (q &&& (2147483647 : Int32))), .unset, .unset, .unset, .unset, .unset, .unset, .unset, .unset, .unset]) rfl kq) ?_
  show Ogo p e below _ (s₁.setTop (mkF m 5 #[.val (.int pv), .val (.int q), .val (.int (q &&& (2147483647 : Int32))), .unset, .unset, .unset, .unset, .unset, .unset, .unset, .unset, .unset] []))
  obtain ⟨z, hz⟩ : ∃ z, z = (q &&& (2147483647 : Int32)) := ⟨_, rfl⟩
  rw [← hz]
  show Ogo p e below _ (s₁.setTop (mkF m 5 #[.val (.int pv), .val (.int q), .val (.int z), .unset, .unset, .unset, .unset, .unset, .unset, .unset, .unset, .unset] []))
  have hz0 : 0 ≤ z.toInt := by rw [hz]; exact own_mask q
  have f0 : (0 : Int64).toInt = 0 := rfl
  have f3 := c_i2l z
  have f4 := c_i2l pv
  have r1 := rng32 pv
  have r2 := rng32 z
  have l1 : (1 : Int32).toInt = 1 := rfl
  have f1 : (pv.toInt64 - (1 : Int64)).toInt = pv.toInt - 1 := by have := c_lsub pv.toInt64 1; have := rng64 (pv.toInt64 - 1); have : (1 : Int64).toInt = 1 := rfl; omega
  have f2 : (pv.toInt64 + z.toInt64).toInt = pv.toInt + z.toInt := by have := c_ladd pv.toInt64 z.toInt64; have := rng64 (pv.toInt64 + z.toInt64); omega
  refine own_via (fun tq kq => XS.iloadN X0.here hx rfl (hb hby at_5) rfl kq) ?_
  show Ogo p e below _ (s₁.setTop (mkF m 6 #[.val (.int pv), .val (.int q), .val (.int z), .unset, .unset, .unset, .unset, .unset, .unset, .unset, .unset, .unset] [(.int pv)]))
  refine own_via (fun tq kq => XS.iloadN X0.here hx rfl (hb hby at_6) rfl kq) ?_
  show Ogo p e below _ (s₁.setTop (mkF m 7 #[.val (.int pv), .val (.int q), .val (.int z), .unset, .unset, .unset, .unset, .unset, .unset, .unset, .unset, .unset] [(.int z), (.int pv)]))
  refine own_callS X0 hx hZ hown (hw _ (List.mem_of_getElem? (i := 1) rfl)) (hw _ (List.mem_of_getElem? (i := 2) rfl)) (hw _ (List.mem_of_getElem? (i := 3) rfl)) (hw _ (List.mem_of_getElem? (i := 4) rfl)) (by decide) (rm_ix hw pv z ac cc h0 n0 hz0 SH SC BX O zs) rfl e0 (W := 0) (by decide) (by decide) (by decide) (by decide) (by rw [hml]; rfl) (argsL := [(.int pv), (.int z)]) (rest := []) (lenOf pd_3 rfl) rfl (Nat.le_of_eq rfl) (hb hby at_7) ?_
  rintro v T1 L1 X1 hQ
  rcases hQ with ⟨k1, k2, Nq, Kc, b, rfl, E_b, F_b⟩ | ⟨k1, k2, Nq, Kc, b, rfl, E_b, F_b⟩ | ⟨hcase, Nq, Kc, rfl⟩
  · have N := N.app Nq
    have zs := Nat.le_trans zs Kc.1
    have O := O.keep Kc all0
    show Ogo p e below _ (T1.setTop (mkF m 10 #[.val (.int pv), .val (.int q), .val (.int z), .unset, .unset, .unset, .unset, .unset, .unset, .unset, .unset, .unset] [(.ref b)]))
    refine own_via (fun tq kq => XS.astoreN X1.here hx rfl (hb hby at_10) rfl rfl (l' := #[.val (.int pv), .val (.int q), .val (.int z), .val (.ref b), .unset, .unset, .unset, .unset, .unset, .unset, .unset, .unset]) rfl kq) ?_
    show Ogo p e below _ (T1.setTop (mkF m 11 #[.val (.int pv), .val (.int q), .val (.int z), .val (.ref b), .unset, .unset, .unset, .unset, .unset, .unset, .unset, .unset] []))
    refine own_via (fun tq kq => XS.iloadN X1.here hx rfl (hb hby at_11) rfl kq) ?_
    show Ogo p e below _ (T1.setTop (mkF m 12 #[.val (.int pv), .val (.int q), .val (.int z), .val (.ref b), .unset, .unset, .unset, .unset, .unset, .unset, .unset, .unset] [(.int pv)]))
    refine own_via (fun tq kq => XS.i2l X1.here hx rfl (hb hby at_12) rfl kq) ?_
    show Ogo p e below _ (T1.setTop (mkF m 13 #[.val (.int pv), .val (.int q), .val (.int z), .val (.ref b), .unset, .unset, .unset, .unset, .unset, .unset, .unset, .unset] [(.long (pv.toInt64))]))
    refine own_via (fun tq kq => XS.lconst X1.here hx rfl (hb hby at_13) kq) ?_
    show Ogo p e below _ (T1.setTop (mkF m 14 #[.val (.int pv), .val (.int q), .val (.int z), .val (.ref b), .unset, .unset, .unset, .unset, .unset, .unset, .unset, .unset] [(.long (1 : Int64)), (.long (pv.toInt64))]))
    refine own_via (fun tq kq => XS.lsub X1.here hx rfl (hb hby at_14) rfl kq) ?_
    show Ogo p e below _ (T1.setTop (mkF m 15 #[.val (.int pv), .val (.int q), .val (.int z), .val (.ref b), .unset, .unset, .unset, .unset, .unset, .unset, .unset, .unset] [(.long ((pv.toInt64) - (1 : Int64)))]))
    refine own_via (fun tq kq => XS.lstore X1.here hx rfl (hb hby at_15) rfl (l' := #[.val (.int pv), .val (.int q), .val (.int z), .val (.ref b), .val (.long ((pv.toInt64) - (1 : Int64))), .second, .unset, .unset, .unset, .unset, .unset, .unset]) rfl kq) ?_
    show Ogo p e below _ (T1.setTop (mkF m 17 #[.val (.int pv), .val (.int q), .val (.int z), .val (.ref b), .val (.long ((pv.toInt64) - (1 : Int64))), .second, .unset, .unset, .unset, .unset, .unset, .unset] []))
    refine own_via (fun tq kq => XS.iloadN X1.here hx rfl (hb hby at_17) rfl kq) ?_
    show Ogo p e below _ (T1.setTop (mkF m 18 #[.val (.int pv), .val (.int q), .val (.int z), .val (.ref b), .val (.long ((pv.toInt64) - (1 : Int64))), .second, .unset, .unset, .unset, .unset, .unset, .unset] [(.int pv)]))
    refine own_via (fun tq kq => XS.i2l X1.here hx rfl (hb hby at_18) rfl kq) ?_
    show Ogo p e below _ (T1.setTop (mkF m 19 #[.val (.int pv), .val (.int q), .val (.int z), .val (.ref b), .val (.long ((pv.toInt64) - (1 : Int64))), .second, .unset, .unset, .unset, .unset, .unset, .unset] [(.long (pv.toInt64))]))
    refine own_via (fun tq kq => XS.iloadN X1.here hx rfl (hb hby at_19) rfl kq) ?_
    show Ogo p e below _ (T1.setTop (mkF m 20 #[.val (.int pv), .val (.int q), .val (.int z), .val (.ref b), .val (.long ((pv.toInt64) - (1 : Int64))), .second, .unset, .unset, .unset, .unset, .unset, .unset] [(.int z), (.long (pv.toInt64))]))
    refine own_via (fun tq kq => XS.i2l X1.here hx rfl (hb hby at_20) rfl kq) ?_
    show Ogo p e below _ (T1.setTop (mkF m 21 #[.val (.int pv), .val (.int q), .val (.int z), .val (.ref b), .val (.long ((pv.toInt64) - (1 : Int64))), .second, .unset, .unset, .unset, .unset, .unset, .unset] [(.long (z.toInt64)), (.long (pv.toInt64))]))
    refine own_via (fun tq kq => XS.ladd X1.here hx rfl (hb hby at_21) rfl kq) ?_
    show Ogo p e below _ (T1.setTop (mkF m 22 #[.val (.int pv), .val (.int q), .val (.int z), .val (.ref b), .val (.long ((pv.toInt64) - (1 : Int64))), .second, .unset, .unset, .unset, .unset, .unset, .unset] [(.long ((pv.toInt64) + (z.toInt64)))]))
    refine own_via (fun tq kq => XS.lstore X1.here hx rfl (hb hby at_22) rfl (l' := #[.val (.int pv), .val (.int q), .val (.int z), .val (.ref b), .val (.long ((pv.toInt64) - (1 : Int64))), .second, .val (.long ((pv.toInt64) + (z.toInt64))), .second, .unset, .unset, .unset, .unset]) rfl kq) ?_
    show Ogo p e below _ (T1.setTop (mkF m 24 #[.val (.int pv), .val (.int q), .val (.int z), .val (.ref b), .val (.long ((pv.toInt64) - (1 : Int64))), .second, .val (.long ((pv.toInt64) + (z.toInt64))), .second, .unset, .unset, .unset, .unset] []))
    refine own_via (fun tq kq => XS.lload X1.here hx rfl (hb hby at_24) rfl kq) ?_
    show Ogo p e below _ (T1.setTop (mkF m 26 #[.val (.int pv), .val (.int q), .val (.int z), .val (.ref b), .val (.long ((pv.toInt64) - (1 : Int64))), .second, .val (.long ((pv.toInt64) + (z.toInt64))), .second, .unset, .unset, .unset, .unset] [(.long ((pv.toInt64) - (1 : Int64)))]))
    refine own_via (fun tq kq => XS.lconst X1.here hx rfl (hb hby at_26) kq) ?_
    show Ogo p e below _ (T1.setTop (mkF m 27 #[.val (.int pv), .val (.int q), .val (.int z), .val (.ref b), .val (.long ((pv.toInt64) - (1 : Int64))), .second, .val (.long ((pv.toInt64) + (z.toInt64))), .second, .unset, .unset, .unset, .unset] [(.long (0 : Int64)), (.long ((pv.toInt64) - (1 : Int64)))]))
    refine own_via (fun tq kq => XS.lcmp X1.here hx rfl (hb hby at_27) rfl kq) ?_
    show Ogo p e below _ (T1.setTop (mkF m 28 #[.val (.int pv), .val (.int q), .val (.int z), .val (.ref b), .val (.long ((pv.toInt64) - (1 : Int64))), .second, .val (.long ((pv.toInt64) + (z.toInt64))), .second, .unset, .unset, .unset, .unset] [(.int (lcmpW ((pv.toInt64) - (1 : Int64)) (0 : Int64)))]))
    refine own_via (fun tq kq => XS.ifNo X1.here hx rfl (hb hby at_28) rfl ((if0 _ _).trans (flt (o_nlt (by omega) : ¬ ((lcmpW ((pv.toInt64) - (1 : Int64)) (0 : Int64)) < (0 : Int32)))).1) kq) ?_
    show Ogo p e below _ (T1.setTop (mkF m 31 #[.val (.int pv), .val (.int q), .val (.int z), .val (.ref b), .val (.long ((pv.toInt64) - (1 : Int64))), .second, .val (.long ((pv.toInt64) + (z.toInt64))), .second, .unset, .unset, .unset, .unset] []))
    refine own_via (fun tq kq => XS.lload X1.here hx rfl (hb hby at_31) rfl kq) ?_
    show Ogo p e below _ (T1.setTop (mkF m 33 #[.val (.int pv), .val (.int q), .val (.int z), .val (.ref b), .val (.long ((pv.toInt64) - (1 : Int64))), .second, .val (.long ((pv.toInt64) + (z.toInt64))), .second, .unset, .unset, .unset, .unset] [(.long ((pv.toInt64) - (1 : Int64)))]))
    refine own_via (fun tq kq => XS.iloadN X1.here hx rfl (hb hby at_33) rfl kq) ?_
    show Ogo p e below _ (T1.setTop (mkF m 34 #[.val (.int pv), .val (.int q), .val (.int z), .val (.ref b), .val (.long ((pv.toInt64) - (1 : Int64))), .second, .val (.long ((pv.toInt64) + (z.toInt64))), .second, .unset, .unset, .unset, .unset] [(.int z), (.long ((pv.toInt64) - (1 : Int64)))]))
    refine own_via (fun tq kq => XS.i2l X1.here hx rfl (hb hby at_34) rfl kq) ?_
    show Ogo p e below _ (T1.setTop (mkF m 35 #[.val (.int pv), .val (.int q), .val (.int z), .val (.ref b), .val (.long ((pv.toInt64) - (1 : Int64))), .second, .val (.long ((pv.toInt64) + (z.toInt64))), .second, .unset, .unset, .unset, .unset] [(.long (z.toInt64)), (.long ((pv.toInt64) - (1 : Int64)))]))
    refine own_via (fun tq kq => XS.lcmp X1.here hx rfl (hb hby at_35) rfl kq) ?_
    show Ogo p e below _ (T1.setTop (mkF m 36 #[.val (.int pv), .val (.int q), .val (.int z), .val (.ref b), .val (.long ((pv.toInt64) - (1 : Int64))), .second, .val (.long ((pv.toInt64) + (z.toInt64))), .second, .unset, .unset, .unset, .unset] [(.int (lcmpW ((pv.toInt64) - (1 : Int64)) (z.toInt64)))]))
    refine own_via (fun tq kq => XS.ifNo X1.here hx rfl (hb hby at_36) rfl ((if0 _ _).trans (tlt (o_lt (by omega) : (lcmpW ((pv.toInt64) - (1 : Int64)) (z.toInt64)) < (0 : Int32))).2.1) kq) ?_
    show Ogo p e below _ (T1.setTop (mkF m 39 #[.val (.int pv), .val (.int q), .val (.int z), .val (.ref b), .val (.long ((pv.toInt64) - (1 : Int64))), .second, .val (.long ((pv.toInt64) + (z.toInt64))), .second, .unset, .unset, .unset, .unset] []))
    refine own_via (fun tq kq => XS.iconst X1.here hx rfl (hb hby at_39) kq) ?_
    show Ogo p e below _ (T1.setTop (mkF m 40 #[.val (.int pv), .val (.int q), .val (.int z), .val (.ref b), .val (.long ((pv.toInt64) - (1 : Int64))), .second, .val (.long ((pv.toInt64) + (z.toInt64))), .second, .unset, .unset, .unset, .unset] [(.int (1 : Int32))]))
    refine own_via (fun tq kq => XS.goto X1.here hx rfl (pc0 := 40) (pc' := 44) rfl (hb hby at_40) (by decide) (by decide) kq) ?_
    show Ogo p e below _ (T1.setTop (mkF m 44 #[.val (.int pv), .val (.int q), .val (.int z), .val (.ref b), .val (.long ((pv.toInt64) - (1 : Int64))), .second, .val (.long ((pv.toInt64) + (z.toInt64))), .second, .unset, .unset, .unset, .unset] [(.int (1 : Int32))]))
    refine own_via (fun tq kq => XS.istore X1.here hx rfl (hb hby at_44) rfl (l' := #[.val (.int pv), .val (.int q), .val (.int z), .val (.ref b), .val (.long ((pv.toInt64) - (1 : Int64))), .second, .val (.long ((pv.toInt64) + (z.toInt64))), .second, .val (.int (1 : Int32)), .unset, .unset, .unset]) rfl kq) ?_
    show Ogo p e below _ (T1.setTop (mkF m 46 #[.val (.int pv), .val (.int q), .val (.int z), .val (.ref b), .val (.long ((pv.toInt64) - (1 : Int64))), .second, .val (.long ((pv.toInt64) + (z.toInt64))), .second, .val (.int (1 : Int32)), .unset, .unset, .unset] []))
    refine own_via (fun tq kq => XS.lload X1.here hx rfl (hb hby at_46) rfl kq) ?_
    show Ogo p e below _ (T1.setTop (mkF m 48 #[.val (.int pv), .val (.int q), .val (.int z), .val (.ref b), .val (.long ((pv.toInt64) - (1 : Int64))), .second, .val (.long ((pv.toInt64) + (z.toInt64))), .second, .val (.int (1 : Int32)), .unset, .unset, .unset] [(.long ((pv.toInt64) + (z.toInt64)))]))
    refine own_via (fun tq kq => XS.lconst X1.here hx rfl (hb hby at_48) kq) ?_
    show Ogo p e below _ (T1.setTop (mkF m 49 #[.val (.int pv), .val (.int q), .val (.int z), .val (.ref b), .val (.long ((pv.toInt64) - (1 : Int64))), .second, .val (.long ((pv.toInt64) + (z.toInt64))), .second, .val (.int (1 : Int32)), .unset, .unset, .unset] [(.long (0 : Int64)), (.long ((pv.toInt64) + (z.toInt64)))]))
    refine own_via (fun tq kq => XS.lcmp X1.here hx rfl (hb hby at_49) rfl kq) ?_
    show Ogo p e below _ (T1.setTop (mkF m 50 #[.val (.int pv), .val (.int q), .val (.int z), .val (.ref b), .val (.long ((pv.toInt64) - (1 : Int64))), .second, .val (.long ((pv.toInt64) + (z.toInt64))), .second, .val (.int (1 : Int32)), .unset, .unset, .unset] [(.int (lcmpW ((pv.toInt64) + (z.toInt64)) (0 : Int64)))]))
    refine own_via (fun tq kq => XS.ifNo X1.here hx rfl (hb hby at_50) rfl ((if0 _ _).trans (flt (o_nlt (by omega) : ¬ ((lcmpW ((pv.toInt64) + (z.toInt64)) (0 : Int64)) < (0 : Int32)))).1) kq) ?_
    show Ogo p e below _ (T1.setTop (mkF m 53 #[.val (.int pv), .val (.int q), .val (.int z), .val (.ref b), .val (.long ((pv.toInt64) - (1 : Int64))), .second, .val (.long ((pv.toInt64) + (z.toInt64))), .second, .val (.int (1 : Int32)), .unset, .unset, .unset] []))
    refine own_via (fun tq kq => XS.lload X1.here hx rfl (hb hby at_53) rfl kq) ?_
    show Ogo p e below _ (T1.setTop (mkF m 55 #[.val (.int pv), .val (.int q), .val (.int z), .val (.ref b), .val (.long ((pv.toInt64) - (1 : Int64))), .second, .val (.long ((pv.toInt64) + (z.toInt64))), .second, .val (.int (1 : Int32)), .unset, .unset, .unset] [(.long ((pv.toInt64) + (z.toInt64)))]))
    refine own_via (fun tq kq => XS.iloadN X1.here hx rfl (hb hby at_55) rfl kq) ?_
    show Ogo p e below _ (T1.setTop (mkF m 56 #[.val (.int pv), .val (.int q), .val (.int z), .val (.ref b), .val (.long ((pv.toInt64) - (1 : Int64))), .second, .val (.long ((pv.toInt64) + (z.toInt64))), .second, .val (.int (1 : Int32)), .unset, .unset, .unset] [(.int z), (.long ((pv.toInt64) + (z.toInt64)))]))
    refine own_via (fun tq kq => XS.i2l X1.here hx rfl (hb hby at_56) rfl kq) ?_
    show Ogo p e below _ (T1.setTop (mkF m 57 #[.val (.int pv), .val (.int q), .val (.int z), .val (.ref b), .val (.long ((pv.toInt64) - (1 : Int64))), .second, .val (.long ((pv.toInt64) + (z.toInt64))), .second, .val (.int (1 : Int32)), .unset, .unset, .unset] [(.long (z.toInt64)), (.long ((pv.toInt64) + (z.toInt64)))]))
    refine own_via (fun tq kq => XS.lcmp X1.here hx rfl (hb hby at_57) rfl kq) ?_
    show Ogo p e below _ (T1.setTop (mkF m 58 #[.val (.int pv), .val (.int q), .val (.int z), .val (.ref b), .val (.long ((pv.toInt64) - (1 : Int64))), .second, .val (.long ((pv.toInt64) + (z.toInt64))), .second, .val (.int (1 : Int32)), .unset, .unset, .unset] [(.int (lcmpW ((pv.toInt64) + (z.toInt64)) (z.toInt64)))]))
    refine own_via (fun tq kq => XS.ifYes X1.here hx rfl (pc0 := 58) (pc' := 65) rfl (hb hby at_58) rfl ((if0 _ _).trans (flt (o_nlt (by omega) : ¬ ((lcmpW ((pv.toInt64) + (z.toInt64)) (z.toInt64)) < (0 : Int32)))).2.1) (by decide) (by decide) kq) ?_
    show Ogo p e below _ (T1.setTop (mkF m 65 #[.val (.int pv), .val (.int q), .val (.int z), .val (.ref b), .val (.long ((pv.toInt64) - (1 : Int64))), .second, .val (.long ((pv.toInt64) + (z.toInt64))), .second, .val (.int (1 : Int32)), .unset, .unset, .unset] []))
    refine own_via (fun tq kq => XS.iconst X1.here hx rfl (hb hby at_65) kq) ?_
    show Ogo p e below _ (T1.setTop (mkF m 66 #[.val (.int pv), .val (.int q), .val (.int z), .val (.ref b), .val (.long ((pv.toInt64) - (1 : Int64))), .second, .val (.long ((pv.toInt64) + (z.toInt64))), .second, .val (.int (1 : Int32)), .unset, .unset, .unset] [(.int (0 : Int32))]))
    refine own_via (fun tq kq => XS.istore X1.here hx rfl (hb hby at_66) rfl (l' := #[.val (.int pv), .val (.int q), .val (.int z), .val (.ref b), .val (.long ((pv.toInt64) - (1 : Int64))), .second, .val (.long ((pv.toInt64) + (z.toInt64))), .second, .val (.int (1 : Int32)), .val (.int (0 : Int32)), .unset, .unset]) rfl kq) ?_
    show Ogo p e below _ (T1.setTop (mkF m 68 #[.val (.int pv), .val (.int q), .val (.int z), .val (.ref b), .val (.long ((pv.toInt64) - (1 : Int64))), .second, .val (.long ((pv.toInt64) + (z.toInt64))), .second, .val (.int (1 : Int32)), .val (.int (0 : Int32)), .unset, .unset] []))
    refine own_via (fun tq kq => XS.iload X1.here hx rfl (hb hby at_68) rfl kq) ?_
    show Ogo p e below _ (T1.setTop (mkF m 70 #[.val (.int pv), .val (.int q), .val (.int z), .val (.ref b), .val (.long ((pv.toInt64) - (1 : Int64))), .second, .val (.long ((pv.toInt64) + (z.toInt64))), .second, .val (.int (1 : Int32)), .val (.int (0 : Int32)), .unset, .unset] [(.int (1 : Int32))]))
    refine own_via (fun tq kq => XS.ifYes X1.here hx rfl (pc0 := 70) (pc' := 88) rfl (hb hby at_70) rfl ((if0 _ _).trans (feq ((by decide) : ¬ ((1 : Int32) = (0 : Int32)))).2) (by decide) (by decide) kq) ?_
    show Ogo p e below _ (T1.setTop (mkF m 88 #[.val (.int pv), .val (.int q), .val (.int z), .val (.ref b), .val (.long ((pv.toInt64) - (1 : Int64))), .second, .val (.long ((pv.toInt64) + (z.toInt64))), .second, .val (.int (1 : Int32)), .val (.int (0 : Int32)), .unset, .unset] []))
    refine own_via (fun tq kq => XS.aloadN X1.here hx rfl (hb hby at_88) rfl rfl kq) ?_
    show Ogo p e below _ (T1.setTop (mkF m 89 #[.val (.int pv), .val (.int q), .val (.int z), .val (.ref b), .val (.long ((pv.toInt64) - (1 : Int64))), .second, .val (.long ((pv.toInt64) + (z.toInt64))), .second, .val (.int (1 : Int32)), .val (.int (0 : Int32)), .unset, .unset] [(.ref b)]))
    refine own_via (fun tq kq => XS.ifnonnullYes X1.here hx rfl (pc0 := 89) (pc' := 94) rfl (hb hby at_89) rfl (by decide) (by decide) kq) ?_
    show Ogo p e below _ (T1.setTop (mkF m 94 #[.val (.int pv), .val (.int q), .val (.int z), .val (.ref b), .val (.long ((pv.toInt64) - (1 : Int64))), .second, .val (.long ((pv.toInt64) + (z.toInt64))), .second, .val (.int (1 : Int32)), .val (.int (0 : Int32)), .unset, .unset] []))
    refine own_via (fun tq kq => XS.aloadN X1.here hx rfl (hb hby at_94) rfl rfl kq) ?_
    show Ogo p e below _ (T1.setTop (mkF m 95 #[.val (.int pv), .val (.int q), .val (.int z), .val (.ref b), .val (.long ((pv.toInt64) - (1 : Int64))), .second, .val (.long ((pv.toInt64) + (z.toInt64))), .second, .val (.int (1 : Int32)), .val (.int (0 : Int32)), .unset, .unset] [(.ref b)]))
    refine own_callV X1 hx hZ hown (hw _ (List.mem_of_getElem? (i := 12) rfl)) (hw _ (List.mem_of_getElem? (i := 13) rfl)) (hw _ (List.mem_of_getElem? (i := 15) rfl)) (hw _ (List.mem_of_getElem? (i := 14) rfl)) (hw _ (List.mem_of_getElem? (i := 7) rfl)) (hw _ (List.mem_of_getElem? (i := 16) rfl)) (notFace_of_selects (args := #[]) (mvT hZ (hw _ (List.mem_of_getElem? (i := 15) rfl)))) (by decide) (rm_iv hw b (pv - 1) T1.heap n0 F_b) rfl rfl E_b (W := 0) (by decide) (by decide) (by decide) (by decide) (by rw [hml]; rfl) (b := b) (argsL := []) (rest := []) (lenOf pd_4 rfl) rfl (Nat.le_of_eq rfl) (hb hby at_95) ?_
    rintro _ T2 L2 X2 ⟨rfl, Nq, hk⟩
    have N := N.app Nq
    have hk2 := hk
    show Ogo p e below _ (T2.setTop (mkF m 98 #[.val (.int pv), .val (.int q), .val (.int z), .val (.ref b), .val (.long ((pv.toInt64) - (1 : Int64))), .second, .val (.long ((pv.toInt64) + (z.toInt64))), .second, .val (.int (1 : Int32)), .val (.int (0 : Int32)), .unset, .unset] [(.int (pv - 1))]))
    refine own_via (fun tq kq => XS.i2l X2.here hx rfl (hb hby at_98) rfl kq) ?_
    show Ogo p e below _ (T2.setTop (mkF m 99 #[.val (.int pv), .val (.int q), .val (.int z), .val (.ref b), .val (.long ((pv.toInt64) - (1 : Int64))), .second, .val (.long ((pv.toInt64) + (z.toInt64))), .second, .val (.int (1 : Int32)), .val (.int (0 : Int32)), .unset, .unset] [(.long ((pv - 1).toInt64))]))
    refine own_via (fun tq kq => XS.lstore X2.here hx rfl (hb hby at_99) rfl (l' := #[.val (.int pv), .val (.int q), .val (.int z), .val (.ref b), .val (.long ((pv.toInt64) - (1 : Int64))), .second, .val (.long ((pv.toInt64) + (z.toInt64))), .second, .val (.int (1 : Int32)), .val (.int (0 : Int32)), .val (.long ((pv - 1).toInt64)), .second]) rfl kq) ?_
    show Ogo p e below _ (T2.setTop (mkF m 101 #[.val (.int pv), .val (.int q), .val (.int z), .val (.ref b), .val (.long ((pv.toInt64) - (1 : Int64))), .second, .val (.long ((pv.toInt64) + (z.toInt64))), .second, .val (.int (1 : Int32)), .val (.int (0 : Int32)), .val (.long ((pv - 1).toInt64)), .second] []))
    refine own_via (fun tq kq => XS.iload X2.here hx rfl (hb hby at_101) rfl kq) ?_
    show Ogo p e below _ (T2.setTop (mkF m 103 #[.val (.int pv), .val (.int q), .val (.int z), .val (.ref b), .val (.long ((pv.toInt64) - (1 : Int64))), .second, .val (.long ((pv.toInt64) + (z.toInt64))), .second, .val (.int (1 : Int32)), .val (.int (0 : Int32)), .val (.long ((pv - 1).toInt64)), .second] [(.int (1 : Int32))]))
    refine own_via (fun tq kq => XS.ifNo X2.here hx rfl (hb hby at_103) rfl ((if0 _ _).trans (feq ((by decide) : ¬ ((1 : Int32) = (0 : Int32)))).1) kq) ?_
    show Ogo p e below _ (T2.setTop (mkF m 106 #[.val (.int pv), .val (.int q), .val (.int z), .val (.ref b), .val (.long ((pv.toInt64) - (1 : Int64))), .second, .val (.long ((pv.toInt64) + (z.toInt64))), .second, .val (.int (1 : Int32)), .val (.int (0 : Int32)), .val (.long ((pv - 1).toInt64)), .second] []))
    refine own_via (fun tq kq => XS.lload X2.here hx rfl (hb hby at_106) rfl kq) ?_
    show Ogo p e below _ (T2.setTop (mkF m 108 #[.val (.int pv), .val (.int q), .val (.int z), .val (.ref b), .val (.long ((pv.toInt64) - (1 : Int64))), .second, .val (.long ((pv.toInt64) + (z.toInt64))), .second, .val (.int (1 : Int32)), .val (.int (0 : Int32)), .val (.long ((pv - 1).toInt64)), .second] [(.long ((pv - 1).toInt64))]))
    refine own_via (fun tq kq => XS.lload X2.here hx rfl (hb hby at_108) rfl kq) ?_
    show Ogo p e below _ (T2.setTop (mkF m 110 #[.val (.int pv), .val (.int q), .val (.int z), .val (.ref b), .val (.long ((pv.toInt64) - (1 : Int64))), .second, .val (.long ((pv.toInt64) + (z.toInt64))), .second, .val (.int (1 : Int32)), .val (.int (0 : Int32)), .val (.long ((pv - 1).toInt64)), .second] [(.long ((pv.toInt64) - (1 : Int64))), (.long ((pv - 1).toInt64))]))
    refine own_via (fun tq kq => XS.lcmp X2.here hx rfl (hb hby at_110) rfl kq) ?_
    show Ogo p e below _ (T2.setTop (mkF m 111 #[.val (.int pv), .val (.int q), .val (.int z), .val (.ref b), .val (.long ((pv.toInt64) - (1 : Int64))), .second, .val (.long ((pv.toInt64) + (z.toInt64))), .second, .val (.int (1 : Int32)), .val (.int (0 : Int32)), .val (.long ((pv - 1).toInt64)), .second] [(.int (lcmpW ((pv - 1).toInt64) ((pv.toInt64) - (1 : Int64))))]))
    refine own_via (fun tq kq => XS.ifNo X2.here hx rfl (hb hby at_111) rfl ((if0 _ _).trans (teq (o_eq (by rw [c_i2l, own_sub (by omega) (by omega)]; omega) : (lcmpW ((pv - 1).toInt64) ((pv.toInt64) - (1 : Int64))) = (0 : Int32))).2) kq) ?_
    show Ogo p e below _ (T2.setTop (mkF m 114 #[.val (.int pv), .val (.int q), .val (.int z), .val (.ref b), .val (.long ((pv.toInt64) - (1 : Int64))), .second, .val (.long ((pv.toInt64) + (z.toInt64))), .second, .val (.int (1 : Int32)), .val (.int (0 : Int32)), .val (.long ((pv - 1).toInt64)), .second] []))
    refine own_via (fun tq kq => XS.iconst X2.here hx rfl (hb hby at_114) kq) ?_
    show Ogo p e below _ (T2.setTop (mkF m 115 #[.val (.int pv), .val (.int q), .val (.int z), .val (.ref b), .val (.long ((pv.toInt64) - (1 : Int64))), .second, .val (.long ((pv.toInt64) + (z.toInt64))), .second, .val (.int (1 : Int32)), .val (.int (0 : Int32)), .val (.long ((pv - 1).toInt64)), .second] [(.int (1 : Int32))]))
    refine own_via (fun tq kq => XS.goto X2.here hx rfl (pc0 := 115) (pc' := 135) rfl (hb hby at_115) (by decide) (by decide) kq) ?_
    show Ogo p e below _ (T2.setTop (mkF m 135 #[.val (.int pv), .val (.int q), .val (.int z), .val (.ref b), .val (.long ((pv.toInt64) - (1 : Int64))), .second, .val (.long ((pv.toInt64) + (z.toInt64))), .second, .val (.int (1 : Int32)), .val (.int (0 : Int32)), .val (.long ((pv - 1).toInt64)), .second] [(.int (1 : Int32))]))
    exact own_out X2 hlk (fun h => by rw [hret] at h; cases h) (by decide) (by decide) (by first | exact ⟨rfl, N⟩ | (rw [hk2]; exact ⟨rfl, N⟩)) (fun fs hr => retN X2 hx (t := .boolean) hret (by simp) (hb hby at_135) hr)
  · have N := N.app Nq
    have zs := Nat.le_trans zs Kc.1
    have O := O.keep Kc all0
    show Ogo p e below _ (T1.setTop (mkF m 10 #[.val (.int pv), .val (.int q), .val (.int z), .unset, .unset, .unset, .unset, .unset, .unset, .unset, .unset, .unset] [(.ref b)]))
    refine own_via (fun tq kq => XS.astoreN X1.here hx rfl (hb hby at_10) rfl rfl (l' := #[.val (.int pv), .val (.int q), .val (.int z), .val (.ref b), .unset, .unset, .unset, .unset, .unset, .unset, .unset, .unset]) rfl kq) ?_
    show Ogo p e below _ (T1.setTop (mkF m 11 #[.val (.int pv), .val (.int q), .val (.int z), .val (.ref b), .unset, .unset, .unset, .unset, .unset, .unset, .unset, .unset] []))
    refine own_via (fun tq kq => XS.iloadN X1.here hx rfl (hb hby at_11) rfl kq) ?_
    show Ogo p e below _ (T1.setTop (mkF m 12 #[.val (.int pv), .val (.int q), .val (.int z), .val (.ref b), .unset, .unset, .unset, .unset, .unset, .unset, .unset, .unset] [(.int pv)]))
    refine own_via (fun tq kq => XS.i2l X1.here hx rfl (hb hby at_12) rfl kq) ?_
    show Ogo p e below _ (T1.setTop (mkF m 13 #[.val (.int pv), .val (.int q), .val (.int z), .val (.ref b), .unset, .unset, .unset, .unset, .unset, .unset, .unset, .unset] [(.long (pv.toInt64))]))
    refine own_via (fun tq kq => XS.lconst X1.here hx rfl (hb hby at_13) kq) ?_
    show Ogo p e below _ (T1.setTop (mkF m 14 #[.val (.int pv), .val (.int q), .val (.int z), .val (.ref b), .unset, .unset, .unset, .unset, .unset, .unset, .unset, .unset] [(.long (1 : Int64)), (.long (pv.toInt64))]))
    refine own_via (fun tq kq => XS.lsub X1.here hx rfl (hb hby at_14) rfl kq) ?_
    show Ogo p e below _ (T1.setTop (mkF m 15 #[.val (.int pv), .val (.int q), .val (.int z), .val (.ref b), .unset, .unset, .unset, .unset, .unset, .unset, .unset, .unset] [(.long ((pv.toInt64) - (1 : Int64)))]))
    refine own_via (fun tq kq => XS.lstore X1.here hx rfl (hb hby at_15) rfl (l' := #[.val (.int pv), .val (.int q), .val (.int z), .val (.ref b), .val (.long ((pv.toInt64) - (1 : Int64))), .second, .unset, .unset, .unset, .unset, .unset, .unset]) rfl kq) ?_
    show Ogo p e below _ (T1.setTop (mkF m 17 #[.val (.int pv), .val (.int q), .val (.int z), .val (.ref b), .val (.long ((pv.toInt64) - (1 : Int64))), .second, .unset, .unset, .unset, .unset, .unset, .unset] []))
    refine own_via (fun tq kq => XS.iloadN X1.here hx rfl (hb hby at_17) rfl kq) ?_
    show Ogo p e below _ (T1.setTop (mkF m 18 #[.val (.int pv), .val (.int q), .val (.int z), .val (.ref b), .val (.long ((pv.toInt64) - (1 : Int64))), .second, .unset, .unset, .unset, .unset, .unset, .unset] [(.int pv)]))
    refine own_via (fun tq kq => XS.i2l X1.here hx rfl (hb hby at_18) rfl kq) ?_
    show Ogo p e below _ (T1.setTop (mkF m 19 #[.val (.int pv), .val (.int q), .val (.int z), .val (.ref b), .val (.long ((pv.toInt64) - (1 : Int64))), .second, .unset, .unset, .unset, .unset, .unset, .unset] [(.long (pv.toInt64))]))
    refine own_via (fun tq kq => XS.iloadN X1.here hx rfl (hb hby at_19) rfl kq) ?_
    show Ogo p e below _ (T1.setTop (mkF m 20 #[.val (.int pv), .val (.int q), .val (.int z), .val (.ref b), .val (.long ((pv.toInt64) - (1 : Int64))), .second, .unset, .unset, .unset, .unset, .unset, .unset] [(.int z), (.long (pv.toInt64))]))
    refine own_via (fun tq kq => XS.i2l X1.here hx rfl (hb hby at_20) rfl kq) ?_
    show Ogo p e below _ (T1.setTop (mkF m 21 #[.val (.int pv), .val (.int q), .val (.int z), .val (.ref b), .val (.long ((pv.toInt64) - (1 : Int64))), .second, .unset, .unset, .unset, .unset, .unset, .unset] [(.long (z.toInt64)), (.long (pv.toInt64))]))
    refine own_via (fun tq kq => XS.ladd X1.here hx rfl (hb hby at_21) rfl kq) ?_
    show Ogo p e below _ (T1.setTop (mkF m 22 #[.val (.int pv), .val (.int q), .val (.int z), .val (.ref b), .val (.long ((pv.toInt64) - (1 : Int64))), .second, .unset, .unset, .unset, .unset, .unset, .unset] [(.long ((pv.toInt64) + (z.toInt64)))]))
    refine own_via (fun tq kq => XS.lstore X1.here hx rfl (hb hby at_22) rfl (l' := #[.val (.int pv), .val (.int q), .val (.int z), .val (.ref b), .val (.long ((pv.toInt64) - (1 : Int64))), .second, .val (.long ((pv.toInt64) + (z.toInt64))), .second, .unset, .unset, .unset, .unset]) rfl kq) ?_
    show Ogo p e below _ (T1.setTop (mkF m 24 #[.val (.int pv), .val (.int q), .val (.int z), .val (.ref b), .val (.long ((pv.toInt64) - (1 : Int64))), .second, .val (.long ((pv.toInt64) + (z.toInt64))), .second, .unset, .unset, .unset, .unset] []))
    refine own_via (fun tq kq => XS.lload X1.here hx rfl (hb hby at_24) rfl kq) ?_
    show Ogo p e below _ (T1.setTop (mkF m 26 #[.val (.int pv), .val (.int q), .val (.int z), .val (.ref b), .val (.long ((pv.toInt64) - (1 : Int64))), .second, .val (.long ((pv.toInt64) + (z.toInt64))), .second, .unset, .unset, .unset, .unset] [(.long ((pv.toInt64) - (1 : Int64)))]))
    refine own_via (fun tq kq => XS.lconst X1.here hx rfl (hb hby at_26) kq) ?_
    show Ogo p e below _ (T1.setTop (mkF m 27 #[.val (.int pv), .val (.int q), .val (.int z), .val (.ref b), .val (.long ((pv.toInt64) - (1 : Int64))), .second, .val (.long ((pv.toInt64) + (z.toInt64))), .second, .unset, .unset, .unset, .unset] [(.long (0 : Int64)), (.long ((pv.toInt64) - (1 : Int64)))]))
    refine own_via (fun tq kq => XS.lcmp X1.here hx rfl (hb hby at_27) rfl kq) ?_
    show Ogo p e below _ (T1.setTop (mkF m 28 #[.val (.int pv), .val (.int q), .val (.int z), .val (.ref b), .val (.long ((pv.toInt64) - (1 : Int64))), .second, .val (.long ((pv.toInt64) + (z.toInt64))), .second, .unset, .unset, .unset, .unset] [(.int (lcmpW ((pv.toInt64) - (1 : Int64)) (0 : Int64)))]))
    refine own_via (fun tq kq => XS.ifYes X1.here hx rfl (pc0 := 28) (pc' := 43) rfl (hb hby at_28) rfl ((if0 _ _).trans (tlt (o_lt (by omega) : (lcmpW ((pv.toInt64) - (1 : Int64)) (0 : Int64)) < (0 : Int32))).1) (by decide) (by decide) kq) ?_
    show Ogo p e below _ (T1.setTop (mkF m 43 #[.val (.int pv), .val (.int q), .val (.int z), .val (.ref b), .val (.long ((pv.toInt64) - (1 : Int64))), .second, .val (.long ((pv.toInt64) + (z.toInt64))), .second, .unset, .unset, .unset, .unset] []))
    refine own_via (fun tq kq => XS.iconst X1.here hx rfl (hb hby at_43) kq) ?_
    show Ogo p e below _ (T1.setTop (mkF m 44 #[.val (.int pv), .val (.int q), .val (.int z), .val (.ref b), .val (.long ((pv.toInt64) - (1 : Int64))), .second, .val (.long ((pv.toInt64) + (z.toInt64))), .second, .unset, .unset, .unset, .unset] [(.int (0 : Int32))]))
    refine own_via (fun tq kq => XS.istore X1.here hx rfl (hb hby at_44) rfl (l' := #[.val (.int pv), .val (.int q), .val (.int z), .val (.ref b), .val (.long ((pv.toInt64) - (1 : Int64))), .second, .val (.long ((pv.toInt64) + (z.toInt64))), .second, .val (.int (0 : Int32)), .unset, .unset, .unset]) rfl kq) ?_
    show Ogo p e below _ (T1.setTop (mkF m 46 #[.val (.int pv), .val (.int q), .val (.int z), .val (.ref b), .val (.long ((pv.toInt64) - (1 : Int64))), .second, .val (.long ((pv.toInt64) + (z.toInt64))), .second, .val (.int (0 : Int32)), .unset, .unset, .unset] []))
    refine own_via (fun tq kq => XS.lload X1.here hx rfl (hb hby at_46) rfl kq) ?_
    show Ogo p e below _ (T1.setTop (mkF m 48 #[.val (.int pv), .val (.int q), .val (.int z), .val (.ref b), .val (.long ((pv.toInt64) - (1 : Int64))), .second, .val (.long ((pv.toInt64) + (z.toInt64))), .second, .val (.int (0 : Int32)), .unset, .unset, .unset] [(.long ((pv.toInt64) + (z.toInt64)))]))
    refine own_via (fun tq kq => XS.lconst X1.here hx rfl (hb hby at_48) kq) ?_
    show Ogo p e below _ (T1.setTop (mkF m 49 #[.val (.int pv), .val (.int q), .val (.int z), .val (.ref b), .val (.long ((pv.toInt64) - (1 : Int64))), .second, .val (.long ((pv.toInt64) + (z.toInt64))), .second, .val (.int (0 : Int32)), .unset, .unset, .unset] [(.long (0 : Int64)), (.long ((pv.toInt64) + (z.toInt64)))]))
    refine own_via (fun tq kq => XS.lcmp X1.here hx rfl (hb hby at_49) rfl kq) ?_
    show Ogo p e below _ (T1.setTop (mkF m 50 #[.val (.int pv), .val (.int q), .val (.int z), .val (.ref b), .val (.long ((pv.toInt64) - (1 : Int64))), .second, .val (.long ((pv.toInt64) + (z.toInt64))), .second, .val (.int (0 : Int32)), .unset, .unset, .unset] [(.int (lcmpW ((pv.toInt64) + (z.toInt64)) (0 : Int64)))]))
    refine own_via (fun tq kq => XS.ifNo X1.here hx rfl (hb hby at_50) rfl ((if0 _ _).trans (flt (o_nlt (by omega) : ¬ ((lcmpW ((pv.toInt64) + (z.toInt64)) (0 : Int64)) < (0 : Int32)))).1) kq) ?_
    show Ogo p e below _ (T1.setTop (mkF m 53 #[.val (.int pv), .val (.int q), .val (.int z), .val (.ref b), .val (.long ((pv.toInt64) - (1 : Int64))), .second, .val (.long ((pv.toInt64) + (z.toInt64))), .second, .val (.int (0 : Int32)), .unset, .unset, .unset] []))
    refine own_via (fun tq kq => XS.lload X1.here hx rfl (hb hby at_53) rfl kq) ?_
    show Ogo p e below _ (T1.setTop (mkF m 55 #[.val (.int pv), .val (.int q), .val (.int z), .val (.ref b), .val (.long ((pv.toInt64) - (1 : Int64))), .second, .val (.long ((pv.toInt64) + (z.toInt64))), .second, .val (.int (0 : Int32)), .unset, .unset, .unset] [(.long ((pv.toInt64) + (z.toInt64)))]))
    refine own_via (fun tq kq => XS.iloadN X1.here hx rfl (hb hby at_55) rfl kq) ?_
    show Ogo p e below _ (T1.setTop (mkF m 56 #[.val (.int pv), .val (.int q), .val (.int z), .val (.ref b), .val (.long ((pv.toInt64) - (1 : Int64))), .second, .val (.long ((pv.toInt64) + (z.toInt64))), .second, .val (.int (0 : Int32)), .unset, .unset, .unset] [(.int z), (.long ((pv.toInt64) + (z.toInt64)))]))
    refine own_via (fun tq kq => XS.i2l X1.here hx rfl (hb hby at_56) rfl kq) ?_
    show Ogo p e below _ (T1.setTop (mkF m 57 #[.val (.int pv), .val (.int q), .val (.int z), .val (.ref b), .val (.long ((pv.toInt64) - (1 : Int64))), .second, .val (.long ((pv.toInt64) + (z.toInt64))), .second, .val (.int (0 : Int32)), .unset, .unset, .unset] [(.long (z.toInt64)), (.long ((pv.toInt64) + (z.toInt64)))]))
    refine own_via (fun tq kq => XS.lcmp X1.here hx rfl (hb hby at_57) rfl kq) ?_
    show Ogo p e below _ (T1.setTop (mkF m 58 #[.val (.int pv), .val (.int q), .val (.int z), .val (.ref b), .val (.long ((pv.toInt64) - (1 : Int64))), .second, .val (.long ((pv.toInt64) + (z.toInt64))), .second, .val (.int (0 : Int32)), .unset, .unset, .unset] [(.int (lcmpW ((pv.toInt64) + (z.toInt64)) (z.toInt64)))]))
    refine own_via (fun tq kq => XS.ifNo X1.here hx rfl (hb hby at_58) rfl ((if0 _ _).trans (tlt (o_lt (by omega) : (lcmpW ((pv.toInt64) + (z.toInt64)) (z.toInt64)) < (0 : Int32))).2.1) kq) ?_
    show Ogo p e below _ (T1.setTop (mkF m 61 #[.val (.int pv), .val (.int q), .val (.int z), .val (.ref b), .val (.long ((pv.toInt64) - (1 : Int64))), .second, .val (.long ((pv.toInt64) + (z.toInt64))), .second, .val (.int (0 : Int32)), .unset, .unset, .unset] []))
    refine own_via (fun tq kq => XS.iconst X1.here hx rfl (hb hby at_61) kq) ?_
    show Ogo p e below _ (T1.setTop (mkF m 62 #[.val (.int pv), .val (.int q), .val (.int z), .val (.ref b), .val (.long ((pv.toInt64) - (1 : Int64))), .second, .val (.long ((pv.toInt64) + (z.toInt64))), .second, .val (.int (0 : Int32)), .unset, .unset, .unset] [(.int (1 : Int32))]))
    refine own_via (fun tq kq => XS.goto X1.here hx rfl (pc0 := 62) (pc' := 66) rfl (hb hby at_62) (by decide) (by decide) kq) ?_
    show Ogo p e below _ (T1.setTop (mkF m 66 #[.val (.int pv), .val (.int q), .val (.int z), .val (.ref b), .val (.long ((pv.toInt64) - (1 : Int64))), .second, .val (.long ((pv.toInt64) + (z.toInt64))), .second, .val (.int (0 : Int32)), .unset, .unset, .unset] [(.int (1 : Int32))]))
    refine own_via (fun tq kq => XS.istore X1.here hx rfl (hb hby at_66) rfl (l' := #[.val (.int pv), .val (.int q), .val (.int z), .val (.ref b), .val (.long ((pv.toInt64) - (1 : Int64))), .second, .val (.long ((pv.toInt64) + (z.toInt64))), .second, .val (.int (0 : Int32)), .val (.int (1 : Int32)), .unset, .unset]) rfl kq) ?_
    show Ogo p e below _ (T1.setTop (mkF m 68 #[.val (.int pv), .val (.int q), .val (.int z), .val (.ref b), .val (.long ((pv.toInt64) - (1 : Int64))), .second, .val (.long ((pv.toInt64) + (z.toInt64))), .second, .val (.int (0 : Int32)), .val (.int (1 : Int32)), .unset, .unset] []))
    refine own_via (fun tq kq => XS.iload X1.here hx rfl (hb hby at_68) rfl kq) ?_
    show Ogo p e below _ (T1.setTop (mkF m 70 #[.val (.int pv), .val (.int q), .val (.int z), .val (.ref b), .val (.long ((pv.toInt64) - (1 : Int64))), .second, .val (.long ((pv.toInt64) + (z.toInt64))), .second, .val (.int (0 : Int32)), .val (.int (1 : Int32)), .unset, .unset] [(.int (0 : Int32))]))
    refine own_via (fun tq kq => XS.ifNo X1.here hx rfl (hb hby at_70) rfl ((if0 _ _).trans (teq ((by decide) : (0 : Int32) = (0 : Int32))).2) kq) ?_
    show Ogo p e below _ (T1.setTop (mkF m 73 #[.val (.int pv), .val (.int q), .val (.int z), .val (.ref b), .val (.long ((pv.toInt64) - (1 : Int64))), .second, .val (.long ((pv.toInt64) + (z.toInt64))), .second, .val (.int (0 : Int32)), .val (.int (1 : Int32)), .unset, .unset] []))
    refine own_via (fun tq kq => XS.iload X1.here hx rfl (hb hby at_73) rfl kq) ?_
    show Ogo p e below _ (T1.setTop (mkF m 75 #[.val (.int pv), .val (.int q), .val (.int z), .val (.ref b), .val (.long ((pv.toInt64) - (1 : Int64))), .second, .val (.long ((pv.toInt64) + (z.toInt64))), .second, .val (.int (0 : Int32)), .val (.int (1 : Int32)), .unset, .unset] [(.int (1 : Int32))]))
    refine own_via (fun tq kq => XS.ifYes X1.here hx rfl (pc0 := 75) (pc' := 88) rfl (hb hby at_75) rfl ((if0 _ _).trans (feq ((by decide) : ¬ ((1 : Int32) = (0 : Int32)))).2) (by decide) (by decide) kq) ?_
    show Ogo p e below _ (T1.setTop (mkF m 88 #[.val (.int pv), .val (.int q), .val (.int z), .val (.ref b), .val (.long ((pv.toInt64) - (1 : Int64))), .second, .val (.long ((pv.toInt64) + (z.toInt64))), .second, .val (.int (0 : Int32)), .val (.int (1 : Int32)), .unset, .unset] []))
    refine own_via (fun tq kq => XS.aloadN X1.here hx rfl (hb hby at_88) rfl rfl kq) ?_
    show Ogo p e below _ (T1.setTop (mkF m 89 #[.val (.int pv), .val (.int q), .val (.int z), .val (.ref b), .val (.long ((pv.toInt64) - (1 : Int64))), .second, .val (.long ((pv.toInt64) + (z.toInt64))), .second, .val (.int (0 : Int32)), .val (.int (1 : Int32)), .unset, .unset] [(.ref b)]))
    refine own_via (fun tq kq => XS.ifnonnullYes X1.here hx rfl (pc0 := 89) (pc' := 94) rfl (hb hby at_89) rfl (by decide) (by decide) kq) ?_
    show Ogo p e below _ (T1.setTop (mkF m 94 #[.val (.int pv), .val (.int q), .val (.int z), .val (.ref b), .val (.long ((pv.toInt64) - (1 : Int64))), .second, .val (.long ((pv.toInt64) + (z.toInt64))), .second, .val (.int (0 : Int32)), .val (.int (1 : Int32)), .unset, .unset] []))
    refine own_via (fun tq kq => XS.aloadN X1.here hx rfl (hb hby at_94) rfl rfl kq) ?_
    show Ogo p e below _ (T1.setTop (mkF m 95 #[.val (.int pv), .val (.int q), .val (.int z), .val (.ref b), .val (.long ((pv.toInt64) - (1 : Int64))), .second, .val (.long ((pv.toInt64) + (z.toInt64))), .second, .val (.int (0 : Int32)), .val (.int (1 : Int32)), .unset, .unset] [(.ref b)]))
    refine own_callV X1 hx hZ hown (hw _ (List.mem_of_getElem? (i := 12) rfl)) (hw _ (List.mem_of_getElem? (i := 13) rfl)) (hw _ (List.mem_of_getElem? (i := 15) rfl)) (hw _ (List.mem_of_getElem? (i := 14) rfl)) (hw _ (List.mem_of_getElem? (i := 7) rfl)) (hw _ (List.mem_of_getElem? (i := 16) rfl)) (notFace_of_selects (args := #[]) (mvT hZ (hw _ (List.mem_of_getElem? (i := 15) rfl)))) (by decide) (rm_iv hw b (z + pv) T1.heap n0 F_b) rfl rfl E_b (W := 0) (by decide) (by decide) (by decide) (by decide) (by rw [hml]; rfl) (b := b) (argsL := []) (rest := []) (lenOf pd_4 rfl) rfl (Nat.le_of_eq rfl) (hb hby at_95) ?_
    rintro _ T3 L3 X3 ⟨rfl, Nq, hk⟩
    have N := N.app Nq
    have hk3 := hk
    show Ogo p e below _ (T3.setTop (mkF m 98 #[.val (.int pv), .val (.int q), .val (.int z), .val (.ref b), .val (.long ((pv.toInt64) - (1 : Int64))), .second, .val (.long ((pv.toInt64) + (z.toInt64))), .second, .val (.int (0 : Int32)), .val (.int (1 : Int32)), .unset, .unset] [(.int (z + pv))]))
    refine own_via (fun tq kq => XS.i2l X3.here hx rfl (hb hby at_98) rfl kq) ?_
    show Ogo p e below _ (T3.setTop (mkF m 99 #[.val (.int pv), .val (.int q), .val (.int z), .val (.ref b), .val (.long ((pv.toInt64) - (1 : Int64))), .second, .val (.long ((pv.toInt64) + (z.toInt64))), .second, .val (.int (0 : Int32)), .val (.int (1 : Int32)), .unset, .unset] [(.long ((z + pv).toInt64))]))
    refine own_via (fun tq kq => XS.lstore X3.here hx rfl (hb hby at_99) rfl (l' := #[.val (.int pv), .val (.int q), .val (.int z), .val (.ref b), .val (.long ((pv.toInt64) - (1 : Int64))), .second, .val (.long ((pv.toInt64) + (z.toInt64))), .second, .val (.int (0 : Int32)), .val (.int (1 : Int32)), .val (.long ((z + pv).toInt64)), .second]) rfl kq) ?_
    show Ogo p e below _ (T3.setTop (mkF m 101 #[.val (.int pv), .val (.int q), .val (.int z), .val (.ref b), .val (.long ((pv.toInt64) - (1 : Int64))), .second, .val (.long ((pv.toInt64) + (z.toInt64))), .second, .val (.int (0 : Int32)), .val (.int (1 : Int32)), .val (.long ((z + pv).toInt64)), .second] []))
    refine own_via (fun tq kq => XS.iload X3.here hx rfl (hb hby at_101) rfl kq) ?_
    show Ogo p e below _ (T3.setTop (mkF m 103 #[.val (.int pv), .val (.int q), .val (.int z), .val (.ref b), .val (.long ((pv.toInt64) - (1 : Int64))), .second, .val (.long ((pv.toInt64) + (z.toInt64))), .second, .val (.int (0 : Int32)), .val (.int (1 : Int32)), .val (.long ((z + pv).toInt64)), .second] [(.int (0 : Int32))]))
    refine own_via (fun tq kq => XS.ifYes X3.here hx rfl (pc0 := 103) (pc' := 122) rfl (hb hby at_103) rfl ((if0 _ _).trans (teq ((by decide) : (0 : Int32) = (0 : Int32))).1) (by decide) (by decide) kq) ?_
    show Ogo p e below _ (T3.setTop (mkF m 122 #[.val (.int pv), .val (.int q), .val (.int z), .val (.ref b), .val (.long ((pv.toInt64) - (1 : Int64))), .second, .val (.long ((pv.toInt64) + (z.toInt64))), .second, .val (.int (0 : Int32)), .val (.int (1 : Int32)), .val (.long ((z + pv).toInt64)), .second] []))
    refine own_via (fun tq kq => XS.lload X3.here hx rfl (hb hby at_122) rfl kq) ?_
    show Ogo p e below _ (T3.setTop (mkF m 124 #[.val (.int pv), .val (.int q), .val (.int z), .val (.ref b), .val (.long ((pv.toInt64) - (1 : Int64))), .second, .val (.long ((pv.toInt64) + (z.toInt64))), .second, .val (.int (0 : Int32)), .val (.int (1 : Int32)), .val (.long ((z + pv).toInt64)), .second] [(.long ((z + pv).toInt64))]))
    refine own_via (fun tq kq => XS.lload X3.here hx rfl (hb hby at_124) rfl kq) ?_
    show Ogo p e below _ (T3.setTop (mkF m 126 #[.val (.int pv), .val (.int q), .val (.int z), .val (.ref b), .val (.long ((pv.toInt64) - (1 : Int64))), .second, .val (.long ((pv.toInt64) + (z.toInt64))), .second, .val (.int (0 : Int32)), .val (.int (1 : Int32)), .val (.long ((z + pv).toInt64)), .second] [(.long ((pv.toInt64) + (z.toInt64))), (.long ((z + pv).toInt64))]))
    refine own_via (fun tq kq => XS.lcmp X3.here hx rfl (hb hby at_126) rfl kq) ?_
    show Ogo p e below _ (T3.setTop (mkF m 127 #[.val (.int pv), .val (.int q), .val (.int z), .val (.ref b), .val (.long ((pv.toInt64) - (1 : Int64))), .second, .val (.long ((pv.toInt64) + (z.toInt64))), .second, .val (.int (0 : Int32)), .val (.int (1 : Int32)), .val (.long ((z + pv).toInt64)), .second] [(.int (lcmpW ((z + pv).toInt64) ((pv.toInt64) + (z.toInt64))))]))
    refine own_via (fun tq kq => XS.ifNo X3.here hx rfl (hb hby at_127) rfl ((if0 _ _).trans (teq (o_eq (by rw [c_i2l, own_add (by omega) (by omega)]; omega) : (lcmpW ((z + pv).toInt64) ((pv.toInt64) + (z.toInt64))) = (0 : Int32))).2) kq) ?_
    show Ogo p e below _ (T3.setTop (mkF m 130 #[.val (.int pv), .val (.int q), .val (.int z), .val (.ref b), .val (.long ((pv.toInt64) - (1 : Int64))), .second, .val (.long ((pv.toInt64) + (z.toInt64))), .second, .val (.int (0 : Int32)), .val (.int (1 : Int32)), .val (.long ((z + pv).toInt64)), .second] []))
    refine own_via (fun tq kq => XS.iconst X3.here hx rfl (hb hby at_130) kq) ?_
    show Ogo p e below _ (T3.setTop (mkF m 131 #[.val (.int pv), .val (.int q), .val (.int z), .val (.ref b), .val (.long ((pv.toInt64) - (1 : Int64))), .second, .val (.long ((pv.toInt64) + (z.toInt64))), .second, .val (.int (0 : Int32)), .val (.int (1 : Int32)), .val (.long ((z + pv).toInt64)), .second] [(.int (1 : Int32))]))
    refine own_via (fun tq kq => XS.goto X3.here hx rfl (pc0 := 131) (pc' := 135) rfl (hb hby at_131) (by decide) (by decide) kq) ?_
    show Ogo p e below _ (T3.setTop (mkF m 135 #[.val (.int pv), .val (.int q), .val (.int z), .val (.ref b), .val (.long ((pv.toInt64) - (1 : Int64))), .second, .val (.long ((pv.toInt64) + (z.toInt64))), .second, .val (.int (0 : Int32)), .val (.int (1 : Int32)), .val (.long ((z + pv).toInt64)), .second] [(.int (1 : Int32))]))
    exact own_out X3 hlk (fun h => by rw [hret] at h; cases h) (by decide) (by decide) (by first | exact ⟨rfl, N⟩ | (rw [hk3]; exact ⟨rfl, N⟩)) (fun fs hr => retN X3 hx (t := .boolean) hret (by simp) (hb hby at_135) hr)
  · have N := N.app Nq
    have zs := Nat.le_trans zs Kc.1
    have O := O.keep Kc all0
    show Ogo p e below _ (T1.setTop (mkF m 10 #[.val (.int pv), .val (.int q), .val (.int z), .unset, .unset, .unset, .unset, .unset, .unset, .unset, .unset, .unset] [.null]))
    rcases hcase with k1 | k1 | k1
    · refine own_via (fun tq kq => XS.astoreN X1.here hx rfl (hb hby at_10) rfl rfl (l' := #[.val (.int pv), .val (.int q), .val (.int z), .val .null, .unset, .unset, .unset, .unset, .unset, .unset, .unset, .unset]) rfl kq) ?_
      show Ogo p e below _ (T1.setTop (mkF m 11 #[.val (.int pv), .val (.int q), .val (.int z), .val .null, .unset, .unset, .unset, .unset, .unset, .unset, .unset, .unset] []))
      refine own_via (fun tq kq => XS.iloadN X1.here hx rfl (hb hby at_11) rfl kq) ?_
      show Ogo p e below _ (T1.setTop (mkF m 12 #[.val (.int pv), .val (.int q), .val (.int z), .val .null, .unset, .unset, .unset, .unset, .unset, .unset, .unset, .unset] [(.int pv)]))
      refine own_via (fun tq kq => XS.i2l X1.here hx rfl (hb hby at_12) rfl kq) ?_
      show Ogo p e below _ (T1.setTop (mkF m 13 #[.val (.int pv), .val (.int q), .val (.int z), .val .null, .unset, .unset, .unset, .unset, .unset, .unset, .unset, .unset] [(.long (pv.toInt64))]))
      refine own_via (fun tq kq => XS.lconst X1.here hx rfl (hb hby at_13) kq) ?_
      show Ogo p e below _ (T1.setTop (mkF m 14 #[.val (.int pv), .val (.int q), .val (.int z), .val .null, .unset, .unset, .unset, .unset, .unset, .unset, .unset, .unset] [(.long (1 : Int64)), (.long (pv.toInt64))]))
      refine own_via (fun tq kq => XS.lsub X1.here hx rfl (hb hby at_14) rfl kq) ?_
      show Ogo p e below _ (T1.setTop (mkF m 15 #[.val (.int pv), .val (.int q), .val (.int z), .val .null, .unset, .unset, .unset, .unset, .unset, .unset, .unset, .unset] [(.long ((pv.toInt64) - (1 : Int64)))]))
      refine own_via (fun tq kq => XS.lstore X1.here hx rfl (hb hby at_15) rfl (l' := #[.val (.int pv), .val (.int q), .val (.int z), .val .null, .val (.long ((pv.toInt64) - (1 : Int64))), .second, .unset, .unset, .unset, .unset, .unset, .unset]) rfl kq) ?_
      show Ogo p e below _ (T1.setTop (mkF m 17 #[.val (.int pv), .val (.int q), .val (.int z), .val .null, .val (.long ((pv.toInt64) - (1 : Int64))), .second, .unset, .unset, .unset, .unset, .unset, .unset] []))
      refine own_via (fun tq kq => XS.iloadN X1.here hx rfl (hb hby at_17) rfl kq) ?_
      show Ogo p e below _ (T1.setTop (mkF m 18 #[.val (.int pv), .val (.int q), .val (.int z), .val .null, .val (.long ((pv.toInt64) - (1 : Int64))), .second, .unset, .unset, .unset, .unset, .unset, .unset] [(.int pv)]))
      refine own_via (fun tq kq => XS.i2l X1.here hx rfl (hb hby at_18) rfl kq) ?_
      show Ogo p e below _ (T1.setTop (mkF m 19 #[.val (.int pv), .val (.int q), .val (.int z), .val .null, .val (.long ((pv.toInt64) - (1 : Int64))), .second, .unset, .unset, .unset, .unset, .unset, .unset] [(.long (pv.toInt64))]))
      refine own_via (fun tq kq => XS.iloadN X1.here hx rfl (hb hby at_19) rfl kq) ?_
      show Ogo p e below _ (T1.setTop (mkF m 20 #[.val (.int pv), .val (.int q), .val (.int z), .val .null, .val (.long ((pv.toInt64) - (1 : Int64))), .second, .unset, .unset, .unset, .unset, .unset, .unset] [(.int z), (.long (pv.toInt64))]))
      refine own_via (fun tq kq => XS.i2l X1.here hx rfl (hb hby at_20) rfl kq) ?_
      show Ogo p e below _ (T1.setTop (mkF m 21 #[.val (.int pv), .val (.int q), .val (.int z), .val .null, .val (.long ((pv.toInt64) - (1 : Int64))), .second, .unset, .unset, .unset, .unset, .unset, .unset] [(.long (z.toInt64)), (.long (pv.toInt64))]))
      refine own_via (fun tq kq => XS.ladd X1.here hx rfl (hb hby at_21) rfl kq) ?_
      show Ogo p e below _ (T1.setTop (mkF m 22 #[.val (.int pv), .val (.int q), .val (.int z), .val .null, .val (.long ((pv.toInt64) - (1 : Int64))), .second, .unset, .unset, .unset, .unset, .unset, .unset] [(.long ((pv.toInt64) + (z.toInt64)))]))
      refine own_via (fun tq kq => XS.lstore X1.here hx rfl (hb hby at_22) rfl (l' := #[.val (.int pv), .val (.int q), .val (.int z), .val .null, .val (.long ((pv.toInt64) - (1 : Int64))), .second, .val (.long ((pv.toInt64) + (z.toInt64))), .second, .unset, .unset, .unset, .unset]) rfl kq) ?_
      show Ogo p e below _ (T1.setTop (mkF m 24 #[.val (.int pv), .val (.int q), .val (.int z), .val .null, .val (.long ((pv.toInt64) - (1 : Int64))), .second, .val (.long ((pv.toInt64) + (z.toInt64))), .second, .unset, .unset, .unset, .unset] []))
      refine own_via (fun tq kq => XS.lload X1.here hx rfl (hb hby at_24) rfl kq) ?_
      show Ogo p e below _ (T1.setTop (mkF m 26 #[.val (.int pv), .val (.int q), .val (.int z), .val .null, .val (.long ((pv.toInt64) - (1 : Int64))), .second, .val (.long ((pv.toInt64) + (z.toInt64))), .second, .unset, .unset, .unset, .unset] [(.long ((pv.toInt64) - (1 : Int64)))]))
      refine own_via (fun tq kq => XS.lconst X1.here hx rfl (hb hby at_26) kq) ?_
      show Ogo p e below _ (T1.setTop (mkF m 27 #[.val (.int pv), .val (.int q), .val (.int z), .val .null, .val (.long ((pv.toInt64) - (1 : Int64))), .second, .val (.long ((pv.toInt64) + (z.toInt64))), .second, .unset, .unset, .unset, .unset] [(.long (0 : Int64)), (.long ((pv.toInt64) - (1 : Int64)))]))
      refine own_via (fun tq kq => XS.lcmp X1.here hx rfl (hb hby at_27) rfl kq) ?_
      show Ogo p e below _ (T1.setTop (mkF m 28 #[.val (.int pv), .val (.int q), .val (.int z), .val .null, .val (.long ((pv.toInt64) - (1 : Int64))), .second, .val (.long ((pv.toInt64) + (z.toInt64))), .second, .unset, .unset, .unset, .unset] [(.int (lcmpW ((pv.toInt64) - (1 : Int64)) (0 : Int64)))]))
      refine own_via (fun tq kq => XS.ifYes X1.here hx rfl (pc0 := 28) (pc' := 43) rfl (hb hby at_28) rfl ((if0 _ _).trans (tlt (o_lt (by omega) : (lcmpW ((pv.toInt64) - (1 : Int64)) (0 : Int64)) < (0 : Int32))).1) (by decide) (by decide) kq) ?_
      show Ogo p e below _ (T1.setTop (mkF m 43 #[.val (.int pv), .val (.int q), .val (.int z), .val .null, .val (.long ((pv.toInt64) - (1 : Int64))), .second, .val (.long ((pv.toInt64) + (z.toInt64))), .second, .unset, .unset, .unset, .unset] []))
      refine own_via (fun tq kq => XS.iconst X1.here hx rfl (hb hby at_43) kq) ?_
      show Ogo p e below _ (T1.setTop (mkF m 44 #[.val (.int pv), .val (.int q), .val (.int z), .val .null, .val (.long ((pv.toInt64) - (1 : Int64))), .second, .val (.long ((pv.toInt64) + (z.toInt64))), .second, .unset, .unset, .unset, .unset] [(.int (0 : Int32))]))
      refine own_via (fun tq kq => XS.istore X1.here hx rfl (hb hby at_44) rfl (l' := #[.val (.int pv), .val (.int q), .val (.int z), .val .null, .val (.long ((pv.toInt64) - (1 : Int64))), .second, .val (.long ((pv.toInt64) + (z.toInt64))), .second, .val (.int (0 : Int32)), .unset, .unset, .unset]) rfl kq) ?_
      show Ogo p e below _ (T1.setTop (mkF m 46 #[.val (.int pv), .val (.int q), .val (.int z), .val .null, .val (.long ((pv.toInt64) - (1 : Int64))), .second, .val (.long ((pv.toInt64) + (z.toInt64))), .second, .val (.int (0 : Int32)), .unset, .unset, .unset] []))
      refine own_via (fun tq kq => XS.lload X1.here hx rfl (hb hby at_46) rfl kq) ?_
      show Ogo p e below _ (T1.setTop (mkF m 48 #[.val (.int pv), .val (.int q), .val (.int z), .val .null, .val (.long ((pv.toInt64) - (1 : Int64))), .second, .val (.long ((pv.toInt64) + (z.toInt64))), .second, .val (.int (0 : Int32)), .unset, .unset, .unset] [(.long ((pv.toInt64) + (z.toInt64)))]))
      refine own_via (fun tq kq => XS.lconst X1.here hx rfl (hb hby at_48) kq) ?_
      show Ogo p e below _ (T1.setTop (mkF m 49 #[.val (.int pv), .val (.int q), .val (.int z), .val .null, .val (.long ((pv.toInt64) - (1 : Int64))), .second, .val (.long ((pv.toInt64) + (z.toInt64))), .second, .val (.int (0 : Int32)), .unset, .unset, .unset] [(.long (0 : Int64)), (.long ((pv.toInt64) + (z.toInt64)))]))
      refine own_via (fun tq kq => XS.lcmp X1.here hx rfl (hb hby at_49) rfl kq) ?_
      show Ogo p e below _ (T1.setTop (mkF m 50 #[.val (.int pv), .val (.int q), .val (.int z), .val .null, .val (.long ((pv.toInt64) - (1 : Int64))), .second, .val (.long ((pv.toInt64) + (z.toInt64))), .second, .val (.int (0 : Int32)), .unset, .unset, .unset] [(.int (lcmpW ((pv.toInt64) + (z.toInt64)) (0 : Int64)))]))
      refine own_via (fun tq kq => XS.ifNo X1.here hx rfl (hb hby at_50) rfl ((if0 _ _).trans (flt (o_nlt (by omega) : ¬ ((lcmpW ((pv.toInt64) + (z.toInt64)) (0 : Int64)) < (0 : Int32)))).1) kq) ?_
      show Ogo p e below _ (T1.setTop (mkF m 53 #[.val (.int pv), .val (.int q), .val (.int z), .val .null, .val (.long ((pv.toInt64) - (1 : Int64))), .second, .val (.long ((pv.toInt64) + (z.toInt64))), .second, .val (.int (0 : Int32)), .unset, .unset, .unset] []))
      refine own_via (fun tq kq => XS.lload X1.here hx rfl (hb hby at_53) rfl kq) ?_
      show Ogo p e below _ (T1.setTop (mkF m 55 #[.val (.int pv), .val (.int q), .val (.int z), .val .null, .val (.long ((pv.toInt64) - (1 : Int64))), .second, .val (.long ((pv.toInt64) + (z.toInt64))), .second, .val (.int (0 : Int32)), .unset, .unset, .unset] [(.long ((pv.toInt64) + (z.toInt64)))]))
      refine own_via (fun tq kq => XS.iloadN X1.here hx rfl (hb hby at_55) rfl kq) ?_
      show Ogo p e below _ (T1.setTop (mkF m 56 #[.val (.int pv), .val (.int q), .val (.int z), .val .null, .val (.long ((pv.toInt64) - (1 : Int64))), .second, .val (.long ((pv.toInt64) + (z.toInt64))), .second, .val (.int (0 : Int32)), .unset, .unset, .unset] [(.int z), (.long ((pv.toInt64) + (z.toInt64)))]))
      refine own_via (fun tq kq => XS.i2l X1.here hx rfl (hb hby at_56) rfl kq) ?_
      show Ogo p e below _ (T1.setTop (mkF m 57 #[.val (.int pv), .val (.int q), .val (.int z), .val .null, .val (.long ((pv.toInt64) - (1 : Int64))), .second, .val (.long ((pv.toInt64) + (z.toInt64))), .second, .val (.int (0 : Int32)), .unset, .unset, .unset] [(.long (z.toInt64)), (.long ((pv.toInt64) + (z.toInt64)))]))
      refine own_via (fun tq kq => XS.lcmp X1.here hx rfl (hb hby at_57) rfl kq) ?_
      show Ogo p e below _ (T1.setTop (mkF m 58 #[.val (.int pv), .val (.int q), .val (.int z), .val .null, .val (.long ((pv.toInt64) - (1 : Int64))), .second, .val (.long ((pv.toInt64) + (z.toInt64))), .second, .val (.int (0 : Int32)), .unset, .unset, .unset] [(.int (lcmpW ((pv.toInt64) + (z.toInt64)) (z.toInt64)))]))
      refine own_via (fun tq kq => XS.ifYes X1.here hx rfl (pc0 := 58) (pc' := 65) rfl (hb hby at_58) rfl ((if0 _ _).trans (flt (o_nlt (by omega) : ¬ ((lcmpW ((pv.toInt64) + (z.toInt64)) (z.toInt64)) < (0 : Int32)))).2.1) (by decide) (by decide) kq) ?_
      show Ogo p e below _ (T1.setTop (mkF m 65 #[.val (.int pv), .val (.int q), .val (.int z), .val .null, .val (.long ((pv.toInt64) - (1 : Int64))), .second, .val (.long ((pv.toInt64) + (z.toInt64))), .second, .val (.int (0 : Int32)), .unset, .unset, .unset] []))
      refine own_via (fun tq kq => XS.iconst X1.here hx rfl (hb hby at_65) kq) ?_
      show Ogo p e below _ (T1.setTop (mkF m 66 #[.val (.int pv), .val (.int q), .val (.int z), .val .null, .val (.long ((pv.toInt64) - (1 : Int64))), .second, .val (.long ((pv.toInt64) + (z.toInt64))), .second, .val (.int (0 : Int32)), .unset, .unset, .unset] [(.int (0 : Int32))]))
      refine own_via (fun tq kq => XS.istore X1.here hx rfl (hb hby at_66) rfl (l' := #[.val (.int pv), .val (.int q), .val (.int z), .val .null, .val (.long ((pv.toInt64) - (1 : Int64))), .second, .val (.long ((pv.toInt64) + (z.toInt64))), .second, .val (.int (0 : Int32)), .val (.int (0 : Int32)), .unset, .unset]) rfl kq) ?_
      show Ogo p e below _ (T1.setTop (mkF m 68 #[.val (.int pv), .val (.int q), .val (.int z), .val .null, .val (.long ((pv.toInt64) - (1 : Int64))), .second, .val (.long ((pv.toInt64) + (z.toInt64))), .second, .val (.int (0 : Int32)), .val (.int (0 : Int32)), .unset, .unset] []))
      refine own_via (fun tq kq => XS.iload X1.here hx rfl (hb hby at_68) rfl kq) ?_
      show Ogo p e below _ (T1.setTop (mkF m 70 #[.val (.int pv), .val (.int q), .val (.int z), .val .null, .val (.long ((pv.toInt64) - (1 : Int64))), .second, .val (.long ((pv.toInt64) + (z.toInt64))), .second, .val (.int (0 : Int32)), .val (.int (0 : Int32)), .unset, .unset] [(.int (0 : Int32))]))
      refine own_via (fun tq kq => XS.ifNo X1.here hx rfl (hb hby at_70) rfl ((if0 _ _).trans (teq ((by decide) : (0 : Int32) = (0 : Int32))).2) kq) ?_
      show Ogo p e below _ (T1.setTop (mkF m 73 #[.val (.int pv), .val (.int q), .val (.int z), .val .null, .val (.long ((pv.toInt64) - (1 : Int64))), .second, .val (.long ((pv.toInt64) + (z.toInt64))), .second, .val (.int (0 : Int32)), .val (.int (0 : Int32)), .unset, .unset] []))
      refine own_via (fun tq kq => XS.iload X1.here hx rfl (hb hby at_73) rfl kq) ?_
      show Ogo p e below _ (T1.setTop (mkF m 75 #[.val (.int pv), .val (.int q), .val (.int z), .val .null, .val (.long ((pv.toInt64) - (1 : Int64))), .second, .val (.long ((pv.toInt64) + (z.toInt64))), .second, .val (.int (0 : Int32)), .val (.int (0 : Int32)), .unset, .unset] [(.int (0 : Int32))]))
      refine own_via (fun tq kq => XS.ifNo X1.here hx rfl (hb hby at_75) rfl ((if0 _ _).trans (teq ((by decide) : (0 : Int32) = (0 : Int32))).2) kq) ?_
      show Ogo p e below _ (T1.setTop (mkF m 78 #[.val (.int pv), .val (.int q), .val (.int z), .val .null, .val (.long ((pv.toInt64) - (1 : Int64))), .second, .val (.long ((pv.toInt64) + (z.toInt64))), .second, .val (.int (0 : Int32)), .val (.int (0 : Int32)), .unset, .unset] []))
      refine own_via (fun tq kq => XS.aloadN X1.here hx rfl (hb hby at_78) rfl rfl kq) ?_
      show Ogo p e below _ (T1.setTop (mkF m 79 #[.val (.int pv), .val (.int q), .val (.int z), .val .null, .val (.long ((pv.toInt64) - (1 : Int64))), .second, .val (.long ((pv.toInt64) + (z.toInt64))), .second, .val (.int (0 : Int32)), .val (.int (0 : Int32)), .unset, .unset] [.null]))
      refine own_via (fun tq kq => XS.ifnonnullNo X1.here hx rfl (hb hby at_79) rfl kq) ?_
      show Ogo p e below _ (T1.setTop (mkF m 82 #[.val (.int pv), .val (.int q), .val (.int z), .val .null, .val (.long ((pv.toInt64) - (1 : Int64))), .second, .val (.long ((pv.toInt64) + (z.toInt64))), .second, .val (.int (0 : Int32)), .val (.int (0 : Int32)), .unset, .unset] []))
      refine own_via (fun tq kq => XS.iconst X1.here hx rfl (hb hby at_82) kq) ?_
      show Ogo p e below _ (T1.setTop (mkF m 83 #[.val (.int pv), .val (.int q), .val (.int z), .val .null, .val (.long ((pv.toInt64) - (1 : Int64))), .second, .val (.long ((pv.toInt64) + (z.toInt64))), .second, .val (.int (0 : Int32)), .val (.int (0 : Int32)), .unset, .unset] [(.int (1 : Int32))]))
      refine own_via (fun tq kq => XS.goto X1.here hx rfl (pc0 := 83) (pc' := 87) rfl (hb hby at_83) (by decide) (by decide) kq) ?_
      show Ogo p e below _ (T1.setTop (mkF m 87 #[.val (.int pv), .val (.int q), .val (.int z), .val .null, .val (.long ((pv.toInt64) - (1 : Int64))), .second, .val (.long ((pv.toInt64) + (z.toInt64))), .second, .val (.int (0 : Int32)), .val (.int (0 : Int32)), .unset, .unset] [(.int (1 : Int32))]))
      exact own_out X1 hlk (fun h => by rw [hret] at h; cases h) (by decide) (by decide) (⟨rfl, N⟩) (fun fs hr => retN X1 hx (t := .boolean) hret (by simp) (hb hby at_87) hr)
    · refine own_via (fun tq kq => XS.astoreN X1.here hx rfl (hb hby at_10) rfl rfl (l' := #[.val (.int pv), .val (.int q), .val (.int z), .val .null, .unset, .unset, .unset, .unset, .unset, .unset, .unset, .unset]) rfl kq) ?_
      show Ogo p e below _ (T1.setTop (mkF m 11 #[.val (.int pv), .val (.int q), .val (.int z), .val .null, .unset, .unset, .unset, .unset, .unset, .unset, .unset, .unset] []))
      refine own_via (fun tq kq => XS.iloadN X1.here hx rfl (hb hby at_11) rfl kq) ?_
      show Ogo p e below _ (T1.setTop (mkF m 12 #[.val (.int pv), .val (.int q), .val (.int z), .val .null, .unset, .unset, .unset, .unset, .unset, .unset, .unset, .unset] [(.int pv)]))
      refine own_via (fun tq kq => XS.i2l X1.here hx rfl (hb hby at_12) rfl kq) ?_
      show Ogo p e below _ (T1.setTop (mkF m 13 #[.val (.int pv), .val (.int q), .val (.int z), .val .null, .unset, .unset, .unset, .unset, .unset, .unset, .unset, .unset] [(.long (pv.toInt64))]))
      refine own_via (fun tq kq => XS.lconst X1.here hx rfl (hb hby at_13) kq) ?_
      show Ogo p e below _ (T1.setTop (mkF m 14 #[.val (.int pv), .val (.int q), .val (.int z), .val .null, .unset, .unset, .unset, .unset, .unset, .unset, .unset, .unset] [(.long (1 : Int64)), (.long (pv.toInt64))]))
      refine own_via (fun tq kq => XS.lsub X1.here hx rfl (hb hby at_14) rfl kq) ?_
      show Ogo p e below _ (T1.setTop (mkF m 15 #[.val (.int pv), .val (.int q), .val (.int z), .val .null, .unset, .unset, .unset, .unset, .unset, .unset, .unset, .unset] [(.long ((pv.toInt64) - (1 : Int64)))]))
      refine own_via (fun tq kq => XS.lstore X1.here hx rfl (hb hby at_15) rfl (l' := #[.val (.int pv), .val (.int q), .val (.int z), .val .null, .val (.long ((pv.toInt64) - (1 : Int64))), .second, .unset, .unset, .unset, .unset, .unset, .unset]) rfl kq) ?_
      show Ogo p e below _ (T1.setTop (mkF m 17 #[.val (.int pv), .val (.int q), .val (.int z), .val .null, .val (.long ((pv.toInt64) - (1 : Int64))), .second, .unset, .unset, .unset, .unset, .unset, .unset] []))
      refine own_via (fun tq kq => XS.iloadN X1.here hx rfl (hb hby at_17) rfl kq) ?_
      show Ogo p e below _ (T1.setTop (mkF m 18 #[.val (.int pv), .val (.int q), .val (.int z), .val .null, .val (.long ((pv.toInt64) - (1 : Int64))), .second, .unset, .unset, .unset, .unset, .unset, .unset] [(.int pv)]))
      refine own_via (fun tq kq => XS.i2l X1.here hx rfl (hb hby at_18) rfl kq) ?_
      show Ogo p e below _ (T1.setTop (mkF m 19 #[.val (.int pv), .val (.int q), .val (.int z), .val .null, .val (.long ((pv.toInt64) - (1 : Int64))), .second, .unset, .unset, .unset, .unset, .unset, .unset] [(.long (pv.toInt64))]))
      refine own_via (fun tq kq => XS.iloadN X1.here hx rfl (hb hby at_19) rfl kq) ?_
      show Ogo p e below _ (T1.setTop (mkF m 20 #[.val (.int pv), .val (.int q), .val (.int z), .val .null, .val (.long ((pv.toInt64) - (1 : Int64))), .second, .unset, .unset, .unset, .unset, .unset, .unset] [(.int z), (.long (pv.toInt64))]))
      refine own_via (fun tq kq => XS.i2l X1.here hx rfl (hb hby at_20) rfl kq) ?_
      show Ogo p e below _ (T1.setTop (mkF m 21 #[.val (.int pv), .val (.int q), .val (.int z), .val .null, .val (.long ((pv.toInt64) - (1 : Int64))), .second, .unset, .unset, .unset, .unset, .unset, .unset] [(.long (z.toInt64)), (.long (pv.toInt64))]))
      refine own_via (fun tq kq => XS.ladd X1.here hx rfl (hb hby at_21) rfl kq) ?_
      show Ogo p e below _ (T1.setTop (mkF m 22 #[.val (.int pv), .val (.int q), .val (.int z), .val .null, .val (.long ((pv.toInt64) - (1 : Int64))), .second, .unset, .unset, .unset, .unset, .unset, .unset] [(.long ((pv.toInt64) + (z.toInt64)))]))
      refine own_via (fun tq kq => XS.lstore X1.here hx rfl (hb hby at_22) rfl (l' := #[.val (.int pv), .val (.int q), .val (.int z), .val .null, .val (.long ((pv.toInt64) - (1 : Int64))), .second, .val (.long ((pv.toInt64) + (z.toInt64))), .second, .unset, .unset, .unset, .unset]) rfl kq) ?_
      show Ogo p e below _ (T1.setTop (mkF m 24 #[.val (.int pv), .val (.int q), .val (.int z), .val .null, .val (.long ((pv.toInt64) - (1 : Int64))), .second, .val (.long ((pv.toInt64) + (z.toInt64))), .second, .unset, .unset, .unset, .unset] []))
      refine own_via (fun tq kq => XS.lload X1.here hx rfl (hb hby at_24) rfl kq) ?_
      show Ogo p e below _ (T1.setTop (mkF m 26 #[.val (.int pv), .val (.int q), .val (.int z), .val .null, .val (.long ((pv.toInt64) - (1 : Int64))), .second, .val (.long ((pv.toInt64) + (z.toInt64))), .second, .unset, .unset, .unset, .unset] [(.long ((pv.toInt64) - (1 : Int64)))]))
      refine own_via (fun tq kq => XS.lconst X1.here hx rfl (hb hby at_26) kq) ?_
      show Ogo p e below _ (T1.setTop (mkF m 27 #[.val (.int pv), .val (.int q), .val (.int z), .val .null, .val (.long ((pv.toInt64) - (1 : Int64))), .second, .val (.long ((pv.toInt64) + (z.toInt64))), .second, .unset, .unset, .unset, .unset] [(.long (0 : Int64)), (.long ((pv.toInt64) - (1 : Int64)))]))
      refine own_via (fun tq kq => XS.lcmp X1.here hx rfl (hb hby at_27) rfl kq) ?_
      show Ogo p e below _ (T1.setTop (mkF m 28 #[.val (.int pv), .val (.int q), .val (.int z), .val .null, .val (.long ((pv.toInt64) - (1 : Int64))), .second, .val (.long ((pv.toInt64) + (z.toInt64))), .second, .unset, .unset, .unset, .unset] [(.int (lcmpW ((pv.toInt64) - (1 : Int64)) (0 : Int64)))]))
      refine own_via (fun tq kq => XS.ifNo X1.here hx rfl (hb hby at_28) rfl ((if0 _ _).trans (flt (o_nlt (by omega) : ¬ ((lcmpW ((pv.toInt64) - (1 : Int64)) (0 : Int64)) < (0 : Int32)))).1) kq) ?_
      show Ogo p e below _ (T1.setTop (mkF m 31 #[.val (.int pv), .val (.int q), .val (.int z), .val .null, .val (.long ((pv.toInt64) - (1 : Int64))), .second, .val (.long ((pv.toInt64) + (z.toInt64))), .second, .unset, .unset, .unset, .unset] []))
      refine own_via (fun tq kq => XS.lload X1.here hx rfl (hb hby at_31) rfl kq) ?_
      show Ogo p e below _ (T1.setTop (mkF m 33 #[.val (.int pv), .val (.int q), .val (.int z), .val .null, .val (.long ((pv.toInt64) - (1 : Int64))), .second, .val (.long ((pv.toInt64) + (z.toInt64))), .second, .unset, .unset, .unset, .unset] [(.long ((pv.toInt64) - (1 : Int64)))]))
      refine own_via (fun tq kq => XS.iloadN X1.here hx rfl (hb hby at_33) rfl kq) ?_
      show Ogo p e below _ (T1.setTop (mkF m 34 #[.val (.int pv), .val (.int q), .val (.int z), .val .null, .val (.long ((pv.toInt64) - (1 : Int64))), .second, .val (.long ((pv.toInt64) + (z.toInt64))), .second, .unset, .unset, .unset, .unset] [(.int z), (.long ((pv.toInt64) - (1 : Int64)))]))
      refine own_via (fun tq kq => XS.i2l X1.here hx rfl (hb hby at_34) rfl kq) ?_
      show Ogo p e below _ (T1.setTop (mkF m 35 #[.val (.int pv), .val (.int q), .val (.int z), .val .null, .val (.long ((pv.toInt64) - (1 : Int64))), .second, .val (.long ((pv.toInt64) + (z.toInt64))), .second, .unset, .unset, .unset, .unset] [(.long (z.toInt64)), (.long ((pv.toInt64) - (1 : Int64)))]))
      refine own_via (fun tq kq => XS.lcmp X1.here hx rfl (hb hby at_35) rfl kq) ?_
      show Ogo p e below _ (T1.setTop (mkF m 36 #[.val (.int pv), .val (.int q), .val (.int z), .val .null, .val (.long ((pv.toInt64) - (1 : Int64))), .second, .val (.long ((pv.toInt64) + (z.toInt64))), .second, .unset, .unset, .unset, .unset] [(.int (lcmpW ((pv.toInt64) - (1 : Int64)) (z.toInt64)))]))
      refine own_via (fun tq kq => XS.ifYes X1.here hx rfl (pc0 := 36) (pc' := 43) rfl (hb hby at_36) rfl ((if0 _ _).trans (flt (o_nlt (by omega) : ¬ ((lcmpW ((pv.toInt64) - (1 : Int64)) (z.toInt64)) < (0 : Int32)))).2.1) (by decide) (by decide) kq) ?_
      show Ogo p e below _ (T1.setTop (mkF m 43 #[.val (.int pv), .val (.int q), .val (.int z), .val .null, .val (.long ((pv.toInt64) - (1 : Int64))), .second, .val (.long ((pv.toInt64) + (z.toInt64))), .second, .unset, .unset, .unset, .unset] []))
      refine own_via (fun tq kq => XS.iconst X1.here hx rfl (hb hby at_43) kq) ?_
      show Ogo p e below _ (T1.setTop (mkF m 44 #[.val (.int pv), .val (.int q), .val (.int z), .val .null, .val (.long ((pv.toInt64) - (1 : Int64))), .second, .val (.long ((pv.toInt64) + (z.toInt64))), .second, .unset, .unset, .unset, .unset] [(.int (0 : Int32))]))
      refine own_via (fun tq kq => XS.istore X1.here hx rfl (hb hby at_44) rfl (l' := #[.val (.int pv), .val (.int q), .val (.int z), .val .null, .val (.long ((pv.toInt64) - (1 : Int64))), .second, .val (.long ((pv.toInt64) + (z.toInt64))), .second, .val (.int (0 : Int32)), .unset, .unset, .unset]) rfl kq) ?_
      show Ogo p e below _ (T1.setTop (mkF m 46 #[.val (.int pv), .val (.int q), .val (.int z), .val .null, .val (.long ((pv.toInt64) - (1 : Int64))), .second, .val (.long ((pv.toInt64) + (z.toInt64))), .second, .val (.int (0 : Int32)), .unset, .unset, .unset] []))
      refine own_via (fun tq kq => XS.lload X1.here hx rfl (hb hby at_46) rfl kq) ?_
      show Ogo p e below _ (T1.setTop (mkF m 48 #[.val (.int pv), .val (.int q), .val (.int z), .val .null, .val (.long ((pv.toInt64) - (1 : Int64))), .second, .val (.long ((pv.toInt64) + (z.toInt64))), .second, .val (.int (0 : Int32)), .unset, .unset, .unset] [(.long ((pv.toInt64) + (z.toInt64)))]))
      refine own_via (fun tq kq => XS.lconst X1.here hx rfl (hb hby at_48) kq) ?_
      show Ogo p e below _ (T1.setTop (mkF m 49 #[.val (.int pv), .val (.int q), .val (.int z), .val .null, .val (.long ((pv.toInt64) - (1 : Int64))), .second, .val (.long ((pv.toInt64) + (z.toInt64))), .second, .val (.int (0 : Int32)), .unset, .unset, .unset] [(.long (0 : Int64)), (.long ((pv.toInt64) + (z.toInt64)))]))
      refine own_via (fun tq kq => XS.lcmp X1.here hx rfl (hb hby at_49) rfl kq) ?_
      show Ogo p e below _ (T1.setTop (mkF m 50 #[.val (.int pv), .val (.int q), .val (.int z), .val .null, .val (.long ((pv.toInt64) - (1 : Int64))), .second, .val (.long ((pv.toInt64) + (z.toInt64))), .second, .val (.int (0 : Int32)), .unset, .unset, .unset] [(.int (lcmpW ((pv.toInt64) + (z.toInt64)) (0 : Int64)))]))
      refine own_via (fun tq kq => XS.ifNo X1.here hx rfl (hb hby at_50) rfl ((if0 _ _).trans (flt (o_nlt (by omega) : ¬ ((lcmpW ((pv.toInt64) + (z.toInt64)) (0 : Int64)) < (0 : Int32)))).1) kq) ?_
      show Ogo p e below _ (T1.setTop (mkF m 53 #[.val (.int pv), .val (.int q), .val (.int z), .val .null, .val (.long ((pv.toInt64) - (1 : Int64))), .second, .val (.long ((pv.toInt64) + (z.toInt64))), .second, .val (.int (0 : Int32)), .unset, .unset, .unset] []))
      refine own_via (fun tq kq => XS.lload X1.here hx rfl (hb hby at_53) rfl kq) ?_
      show Ogo p e below _ (T1.setTop (mkF m 55 #[.val (.int pv), .val (.int q), .val (.int z), .val .null, .val (.long ((pv.toInt64) - (1 : Int64))), .second, .val (.long ((pv.toInt64) + (z.toInt64))), .second, .val (.int (0 : Int32)), .unset, .unset, .unset] [(.long ((pv.toInt64) + (z.toInt64)))]))
      refine own_via (fun tq kq => XS.iloadN X1.here hx rfl (hb hby at_55) rfl kq) ?_
      show Ogo p e below _ (T1.setTop (mkF m 56 #[.val (.int pv), .val (.int q), .val (.int z), .val .null, .val (.long ((pv.toInt64) - (1 : Int64))), .second, .val (.long ((pv.toInt64) + (z.toInt64))), .second, .val (.int (0 : Int32)), .unset, .unset, .unset] [(.int z), (.long ((pv.toInt64) + (z.toInt64)))]))
      refine own_via (fun tq kq => XS.i2l X1.here hx rfl (hb hby at_56) rfl kq) ?_
      show Ogo p e below _ (T1.setTop (mkF m 57 #[.val (.int pv), .val (.int q), .val (.int z), .val .null, .val (.long ((pv.toInt64) - (1 : Int64))), .second, .val (.long ((pv.toInt64) + (z.toInt64))), .second, .val (.int (0 : Int32)), .unset, .unset, .unset] [(.long (z.toInt64)), (.long ((pv.toInt64) + (z.toInt64)))]))
      refine own_via (fun tq kq => XS.lcmp X1.here hx rfl (hb hby at_57) rfl kq) ?_
      show Ogo p e below _ (T1.setTop (mkF m 58 #[.val (.int pv), .val (.int q), .val (.int z), .val .null, .val (.long ((pv.toInt64) - (1 : Int64))), .second, .val (.long ((pv.toInt64) + (z.toInt64))), .second, .val (.int (0 : Int32)), .unset, .unset, .unset] [(.int (lcmpW ((pv.toInt64) + (z.toInt64)) (z.toInt64)))]))
      refine own_via (fun tq kq => XS.ifYes X1.here hx rfl (pc0 := 58) (pc' := 65) rfl (hb hby at_58) rfl ((if0 _ _).trans (flt (o_nlt (by omega) : ¬ ((lcmpW ((pv.toInt64) + (z.toInt64)) (z.toInt64)) < (0 : Int32)))).2.1) (by decide) (by decide) kq) ?_
      show Ogo p e below _ (T1.setTop (mkF m 65 #[.val (.int pv), .val (.int q), .val (.int z), .val .null, .val (.long ((pv.toInt64) - (1 : Int64))), .second, .val (.long ((pv.toInt64) + (z.toInt64))), .second, .val (.int (0 : Int32)), .unset, .unset, .unset] []))
      refine own_via (fun tq kq => XS.iconst X1.here hx rfl (hb hby at_65) kq) ?_
      show Ogo p e below _ (T1.setTop (mkF m 66 #[.val (.int pv), .val (.int q), .val (.int z), .val .null, .val (.long ((pv.toInt64) - (1 : Int64))), .second, .val (.long ((pv.toInt64) + (z.toInt64))), .second, .val (.int (0 : Int32)), .unset, .unset, .unset] [(.int (0 : Int32))]))
      refine own_via (fun tq kq => XS.istore X1.here hx rfl (hb hby at_66) rfl (l' := #[.val (.int pv), .val (.int q), .val (.int z), .val .null, .val (.long ((pv.toInt64) - (1 : Int64))), .second, .val (.long ((pv.toInt64) + (z.toInt64))), .second, .val (.int (0 : Int32)), .val (.int (0 : Int32)), .unset, .unset]) rfl kq) ?_
      show Ogo p e below _ (T1.setTop (mkF m 68 #[.val (.int pv), .val (.int q), .val (.int z), .val .null, .val (.long ((pv.toInt64) - (1 : Int64))), .second, .val (.long ((pv.toInt64) + (z.toInt64))), .second, .val (.int (0 : Int32)), .val (.int (0 : Int32)), .unset, .unset] []))
      refine own_via (fun tq kq => XS.iload X1.here hx rfl (hb hby at_68) rfl kq) ?_
      show Ogo p e below _ (T1.setTop (mkF m 70 #[.val (.int pv), .val (.int q), .val (.int z), .val .null, .val (.long ((pv.toInt64) - (1 : Int64))), .second, .val (.long ((pv.toInt64) + (z.toInt64))), .second, .val (.int (0 : Int32)), .val (.int (0 : Int32)), .unset, .unset] [(.int (0 : Int32))]))
      refine own_via (fun tq kq => XS.ifNo X1.here hx rfl (hb hby at_70) rfl ((if0 _ _).trans (teq ((by decide) : (0 : Int32) = (0 : Int32))).2) kq) ?_
      show Ogo p e below _ (T1.setTop (mkF m 73 #[.val (.int pv), .val (.int q), .val (.int z), .val .null, .val (.long ((pv.toInt64) - (1 : Int64))), .second, .val (.long ((pv.toInt64) + (z.toInt64))), .second, .val (.int (0 : Int32)), .val (.int (0 : Int32)), .unset, .unset] []))
      refine own_via (fun tq kq => XS.iload X1.here hx rfl (hb hby at_73) rfl kq) ?_
      show Ogo p e below _ (T1.setTop (mkF m 75 #[.val (.int pv), .val (.int q), .val (.int z), .val .null, .val (.long ((pv.toInt64) - (1 : Int64))), .second, .val (.long ((pv.toInt64) + (z.toInt64))), .second, .val (.int (0 : Int32)), .val (.int (0 : Int32)), .unset, .unset] [(.int (0 : Int32))]))
      refine own_via (fun tq kq => XS.ifNo X1.here hx rfl (hb hby at_75) rfl ((if0 _ _).trans (teq ((by decide) : (0 : Int32) = (0 : Int32))).2) kq) ?_
      show Ogo p e below _ (T1.setTop (mkF m 78 #[.val (.int pv), .val (.int q), .val (.int z), .val .null, .val (.long ((pv.toInt64) - (1 : Int64))), .second, .val (.long ((pv.toInt64) + (z.toInt64))), .second, .val (.int (0 : Int32)), .val (.int (0 : Int32)), .unset, .unset] []))
      refine own_via (fun tq kq => XS.aloadN X1.here hx rfl (hb hby at_78) rfl rfl kq) ?_
      show Ogo p e below _ (T1.setTop (mkF m 79 #[.val (.int pv), .val (.int q), .val (.int z), .val .null, .val (.long ((pv.toInt64) - (1 : Int64))), .second, .val (.long ((pv.toInt64) + (z.toInt64))), .second, .val (.int (0 : Int32)), .val (.int (0 : Int32)), .unset, .unset] [.null]))
      refine own_via (fun tq kq => XS.ifnonnullNo X1.here hx rfl (hb hby at_79) rfl kq) ?_
      show Ogo p e below _ (T1.setTop (mkF m 82 #[.val (.int pv), .val (.int q), .val (.int z), .val .null, .val (.long ((pv.toInt64) - (1 : Int64))), .second, .val (.long ((pv.toInt64) + (z.toInt64))), .second, .val (.int (0 : Int32)), .val (.int (0 : Int32)), .unset, .unset] []))
      refine own_via (fun tq kq => XS.iconst X1.here hx rfl (hb hby at_82) kq) ?_
      show Ogo p e below _ (T1.setTop (mkF m 83 #[.val (.int pv), .val (.int q), .val (.int z), .val .null, .val (.long ((pv.toInt64) - (1 : Int64))), .second, .val (.long ((pv.toInt64) + (z.toInt64))), .second, .val (.int (0 : Int32)), .val (.int (0 : Int32)), .unset, .unset] [(.int (1 : Int32))]))
      refine own_via (fun tq kq => XS.goto X1.here hx rfl (pc0 := 83) (pc' := 87) rfl (hb hby at_83) (by decide) (by decide) kq) ?_
      show Ogo p e below _ (T1.setTop (mkF m 87 #[.val (.int pv), .val (.int q), .val (.int z), .val .null, .val (.long ((pv.toInt64) - (1 : Int64))), .second, .val (.long ((pv.toInt64) + (z.toInt64))), .second, .val (.int (0 : Int32)), .val (.int (0 : Int32)), .unset, .unset] [(.int (1 : Int32))]))
      exact own_out X1 hlk (fun h => by rw [hret] at h; cases h) (by decide) (by decide) (⟨rfl, N⟩) (fun fs hr => retN X1 hx (t := .boolean) hret (by simp) (hb hby at_87) hr)
    · refine own_via (fun tq kq => XS.astoreN X1.here hx rfl (hb hby at_10) rfl rfl (l' := #[.val (.int pv), .val (.int q), .val (.int z), .val .null, .unset, .unset, .unset, .unset, .unset, .unset, .unset, .unset]) rfl kq) ?_
      show Ogo p e below _ (T1.setTop (mkF m 11 #[.val (.int pv), .val (.int q), .val (.int z), .val .null, .unset, .unset, .unset, .unset, .unset, .unset, .unset, .unset] []))
      refine own_via (fun tq kq => XS.iloadN X1.here hx rfl (hb hby at_11) rfl kq) ?_
      show Ogo p e below _ (T1.setTop (mkF m 12 #[.val (.int pv), .val (.int q), .val (.int z), .val .null, .unset, .unset, .unset, .unset, .unset, .unset, .unset, .unset] [(.int pv)]))
      refine own_via (fun tq kq => XS.i2l X1.here hx rfl (hb hby at_12) rfl kq) ?_
      show Ogo p e below _ (T1.setTop (mkF m 13 #[.val (.int pv), .val (.int q), .val (.int z), .val .null, .unset, .unset, .unset, .unset, .unset, .unset, .unset, .unset] [(.long (pv.toInt64))]))
      refine own_via (fun tq kq => XS.lconst X1.here hx rfl (hb hby at_13) kq) ?_
      show Ogo p e below _ (T1.setTop (mkF m 14 #[.val (.int pv), .val (.int q), .val (.int z), .val .null, .unset, .unset, .unset, .unset, .unset, .unset, .unset, .unset] [(.long (1 : Int64)), (.long (pv.toInt64))]))
      refine own_via (fun tq kq => XS.lsub X1.here hx rfl (hb hby at_14) rfl kq) ?_
      show Ogo p e below _ (T1.setTop (mkF m 15 #[.val (.int pv), .val (.int q), .val (.int z), .val .null, .unset, .unset, .unset, .unset, .unset, .unset, .unset, .unset] [(.long ((pv.toInt64) - (1 : Int64)))]))
      refine own_via (fun tq kq => XS.lstore X1.here hx rfl (hb hby at_15) rfl (l' := #[.val (.int pv), .val (.int q), .val (.int z), .val .null, .val (.long ((pv.toInt64) - (1 : Int64))), .second, .unset, .unset, .unset, .unset, .unset, .unset]) rfl kq) ?_
      show Ogo p e below _ (T1.setTop (mkF m 17 #[.val (.int pv), .val (.int q), .val (.int z), .val .null, .val (.long ((pv.toInt64) - (1 : Int64))), .second, .unset, .unset, .unset, .unset, .unset, .unset] []))
      refine own_via (fun tq kq => XS.iloadN X1.here hx rfl (hb hby at_17) rfl kq) ?_
      show Ogo p e below _ (T1.setTop (mkF m 18 #[.val (.int pv), .val (.int q), .val (.int z), .val .null, .val (.long ((pv.toInt64) - (1 : Int64))), .second, .unset, .unset, .unset, .unset, .unset, .unset] [(.int pv)]))
      refine own_via (fun tq kq => XS.i2l X1.here hx rfl (hb hby at_18) rfl kq) ?_
      show Ogo p e below _ (T1.setTop (mkF m 19 #[.val (.int pv), .val (.int q), .val (.int z), .val .null, .val (.long ((pv.toInt64) - (1 : Int64))), .second, .unset, .unset, .unset, .unset, .unset, .unset] [(.long (pv.toInt64))]))
      refine own_via (fun tq kq => XS.iloadN X1.here hx rfl (hb hby at_19) rfl kq) ?_
      show Ogo p e below _ (T1.setTop (mkF m 20 #[.val (.int pv), .val (.int q), .val (.int z), .val .null, .val (.long ((pv.toInt64) - (1 : Int64))), .second, .unset, .unset, .unset, .unset, .unset, .unset] [(.int z), (.long (pv.toInt64))]))
      refine own_via (fun tq kq => XS.i2l X1.here hx rfl (hb hby at_20) rfl kq) ?_
      show Ogo p e below _ (T1.setTop (mkF m 21 #[.val (.int pv), .val (.int q), .val (.int z), .val .null, .val (.long ((pv.toInt64) - (1 : Int64))), .second, .unset, .unset, .unset, .unset, .unset, .unset] [(.long (z.toInt64)), (.long (pv.toInt64))]))
      refine own_via (fun tq kq => XS.ladd X1.here hx rfl (hb hby at_21) rfl kq) ?_
      show Ogo p e below _ (T1.setTop (mkF m 22 #[.val (.int pv), .val (.int q), .val (.int z), .val .null, .val (.long ((pv.toInt64) - (1 : Int64))), .second, .unset, .unset, .unset, .unset, .unset, .unset] [(.long ((pv.toInt64) + (z.toInt64)))]))
      refine own_via (fun tq kq => XS.lstore X1.here hx rfl (hb hby at_22) rfl (l' := #[.val (.int pv), .val (.int q), .val (.int z), .val .null, .val (.long ((pv.toInt64) - (1 : Int64))), .second, .val (.long ((pv.toInt64) + (z.toInt64))), .second, .unset, .unset, .unset, .unset]) rfl kq) ?_
      show Ogo p e below _ (T1.setTop (mkF m 24 #[.val (.int pv), .val (.int q), .val (.int z), .val .null, .val (.long ((pv.toInt64) - (1 : Int64))), .second, .val (.long ((pv.toInt64) + (z.toInt64))), .second, .unset, .unset, .unset, .unset] []))
      refine own_via (fun tq kq => XS.lload X1.here hx rfl (hb hby at_24) rfl kq) ?_
      show Ogo p e below _ (T1.setTop (mkF m 26 #[.val (.int pv), .val (.int q), .val (.int z), .val .null, .val (.long ((pv.toInt64) - (1 : Int64))), .second, .val (.long ((pv.toInt64) + (z.toInt64))), .second, .unset, .unset, .unset, .unset] [(.long ((pv.toInt64) - (1 : Int64)))]))
      refine own_via (fun tq kq => XS.lconst X1.here hx rfl (hb hby at_26) kq) ?_
      show Ogo p e below _ (T1.setTop (mkF m 27 #[.val (.int pv), .val (.int q), .val (.int z), .val .null, .val (.long ((pv.toInt64) - (1 : Int64))), .second, .val (.long ((pv.toInt64) + (z.toInt64))), .second, .unset, .unset, .unset, .unset] [(.long (0 : Int64)), (.long ((pv.toInt64) - (1 : Int64)))]))
      refine own_via (fun tq kq => XS.lcmp X1.here hx rfl (hb hby at_27) rfl kq) ?_
      show Ogo p e below _ (T1.setTop (mkF m 28 #[.val (.int pv), .val (.int q), .val (.int z), .val .null, .val (.long ((pv.toInt64) - (1 : Int64))), .second, .val (.long ((pv.toInt64) + (z.toInt64))), .second, .unset, .unset, .unset, .unset] [(.int (lcmpW ((pv.toInt64) - (1 : Int64)) (0 : Int64)))]))
      refine own_via (fun tq kq => XS.ifYes X1.here hx rfl (pc0 := 28) (pc' := 43) rfl (hb hby at_28) rfl ((if0 _ _).trans (tlt (o_lt (by omega) : (lcmpW ((pv.toInt64) - (1 : Int64)) (0 : Int64)) < (0 : Int32))).1) (by decide) (by decide) kq) ?_
      show Ogo p e below _ (T1.setTop (mkF m 43 #[.val (.int pv), .val (.int q), .val (.int z), .val .null, .val (.long ((pv.toInt64) - (1 : Int64))), .second, .val (.long ((pv.toInt64) + (z.toInt64))), .second, .unset, .unset, .unset, .unset] []))
      refine own_via (fun tq kq => XS.iconst X1.here hx rfl (hb hby at_43) kq) ?_
      show Ogo p e below _ (T1.setTop (mkF m 44 #[.val (.int pv), .val (.int q), .val (.int z), .val .null, .val (.long ((pv.toInt64) - (1 : Int64))), .second, .val (.long ((pv.toInt64) + (z.toInt64))), .second, .unset, .unset, .unset, .unset] [(.int (0 : Int32))]))
      refine own_via (fun tq kq => XS.istore X1.here hx rfl (hb hby at_44) rfl (l' := #[.val (.int pv), .val (.int q), .val (.int z), .val .null, .val (.long ((pv.toInt64) - (1 : Int64))), .second, .val (.long ((pv.toInt64) + (z.toInt64))), .second, .val (.int (0 : Int32)), .unset, .unset, .unset]) rfl kq) ?_
      show Ogo p e below _ (T1.setTop (mkF m 46 #[.val (.int pv), .val (.int q), .val (.int z), .val .null, .val (.long ((pv.toInt64) - (1 : Int64))), .second, .val (.long ((pv.toInt64) + (z.toInt64))), .second, .val (.int (0 : Int32)), .unset, .unset, .unset] []))
      refine own_via (fun tq kq => XS.lload X1.here hx rfl (hb hby at_46) rfl kq) ?_
      show Ogo p e below _ (T1.setTop (mkF m 48 #[.val (.int pv), .val (.int q), .val (.int z), .val .null, .val (.long ((pv.toInt64) - (1 : Int64))), .second, .val (.long ((pv.toInt64) + (z.toInt64))), .second, .val (.int (0 : Int32)), .unset, .unset, .unset] [(.long ((pv.toInt64) + (z.toInt64)))]))
      refine own_via (fun tq kq => XS.lconst X1.here hx rfl (hb hby at_48) kq) ?_
      show Ogo p e below _ (T1.setTop (mkF m 49 #[.val (.int pv), .val (.int q), .val (.int z), .val .null, .val (.long ((pv.toInt64) - (1 : Int64))), .second, .val (.long ((pv.toInt64) + (z.toInt64))), .second, .val (.int (0 : Int32)), .unset, .unset, .unset] [(.long (0 : Int64)), (.long ((pv.toInt64) + (z.toInt64)))]))
      refine own_via (fun tq kq => XS.lcmp X1.here hx rfl (hb hby at_49) rfl kq) ?_
      show Ogo p e below _ (T1.setTop (mkF m 50 #[.val (.int pv), .val (.int q), .val (.int z), .val .null, .val (.long ((pv.toInt64) - (1 : Int64))), .second, .val (.long ((pv.toInt64) + (z.toInt64))), .second, .val (.int (0 : Int32)), .unset, .unset, .unset] [(.int (lcmpW ((pv.toInt64) + (z.toInt64)) (0 : Int64)))]))
      refine own_via (fun tq kq => XS.ifYes X1.here hx rfl (pc0 := 50) (pc' := 65) rfl (hb hby at_50) rfl ((if0 _ _).trans (tlt (o_lt (by omega) : (lcmpW ((pv.toInt64) + (z.toInt64)) (0 : Int64)) < (0 : Int32))).1) (by decide) (by decide) kq) ?_
      show Ogo p e below _ (T1.setTop (mkF m 65 #[.val (.int pv), .val (.int q), .val (.int z), .val .null, .val (.long ((pv.toInt64) - (1 : Int64))), .second, .val (.long ((pv.toInt64) + (z.toInt64))), .second, .val (.int (0 : Int32)), .unset, .unset, .unset] []))
      refine own_via (fun tq kq => XS.iconst X1.here hx rfl (hb hby at_65) kq) ?_
      show Ogo p e below _ (T1.setTop (mkF m 66 #[.val (.int pv), .val (.int q), .val (.int z), .val .null, .val (.long ((pv.toInt64) - (1 : Int64))), .second, .val (.long ((pv.toInt64) + (z.toInt64))), .second, .val (.int (0 : Int32)), .unset, .unset, .unset] [(.int (0 : Int32))]))
      refine own_via (fun tq kq => XS.istore X1.here hx rfl (hb hby at_66) rfl (l' := #[.val (.int pv), .val (.int q), .val (.int z), .val .null, .val (.long ((pv.toInt64) - (1 : Int64))), .second, .val (.long ((pv.toInt64) + (z.toInt64))), .second, .val (.int (0 : Int32)), .val (.int (0 : Int32)), .unset, .unset]) rfl kq) ?_
      show Ogo p e below _ (T1.setTop (mkF m 68 #[.val (.int pv), .val (.int q), .val (.int z), .val .null, .val (.long ((pv.toInt64) - (1 : Int64))), .second, .val (.long ((pv.toInt64) + (z.toInt64))), .second, .val (.int (0 : Int32)), .val (.int (0 : Int32)), .unset, .unset] []))
      refine own_via (fun tq kq => XS.iload X1.here hx rfl (hb hby at_68) rfl kq) ?_
      show Ogo p e below _ (T1.setTop (mkF m 70 #[.val (.int pv), .val (.int q), .val (.int z), .val .null, .val (.long ((pv.toInt64) - (1 : Int64))), .second, .val (.long ((pv.toInt64) + (z.toInt64))), .second, .val (.int (0 : Int32)), .val (.int (0 : Int32)), .unset, .unset] [(.int (0 : Int32))]))
      refine own_via (fun tq kq => XS.ifNo X1.here hx rfl (hb hby at_70) rfl ((if0 _ _).trans (teq ((by decide) : (0 : Int32) = (0 : Int32))).2) kq) ?_
      show Ogo p e below _ (T1.setTop (mkF m 73 #[.val (.int pv), .val (.int q), .val (.int z), .val .null, .val (.long ((pv.toInt64) - (1 : Int64))), .second, .val (.long ((pv.toInt64) + (z.toInt64))), .second, .val (.int (0 : Int32)), .val (.int (0 : Int32)), .unset, .unset] []))
      refine own_via (fun tq kq => XS.iload X1.here hx rfl (hb hby at_73) rfl kq) ?_
      show Ogo p e below _ (T1.setTop (mkF m 75 #[.val (.int pv), .val (.int q), .val (.int z), .val .null, .val (.long ((pv.toInt64) - (1 : Int64))), .second, .val (.long ((pv.toInt64) + (z.toInt64))), .second, .val (.int (0 : Int32)), .val (.int (0 : Int32)), .unset, .unset] [(.int (0 : Int32))]))
      refine own_via (fun tq kq => XS.ifNo X1.here hx rfl (hb hby at_75) rfl ((if0 _ _).trans (teq ((by decide) : (0 : Int32) = (0 : Int32))).2) kq) ?_
      show Ogo p e below _ (T1.setTop (mkF m 78 #[.val (.int pv), .val (.int q), .val (.int z), .val .null, .val (.long ((pv.toInt64) - (1 : Int64))), .second, .val (.long ((pv.toInt64) + (z.toInt64))), .second, .val (.int (0 : Int32)), .val (.int (0 : Int32)), .unset, .unset] []))
      refine own_via (fun tq kq => XS.aloadN X1.here hx rfl (hb hby at_78) rfl rfl kq) ?_
      show Ogo p e below _ (T1.setTop (mkF m 79 #[.val (.int pv), .val (.int q), .val (.int z), .val .null, .val (.long ((pv.toInt64) - (1 : Int64))), .second, .val (.long ((pv.toInt64) + (z.toInt64))), .second, .val (.int (0 : Int32)), .val (.int (0 : Int32)), .unset, .unset] [.null]))
      refine own_via (fun tq kq => XS.ifnonnullNo X1.here hx rfl (hb hby at_79) rfl kq) ?_
      show Ogo p e below _ (T1.setTop (mkF m 82 #[.val (.int pv), .val (.int q), .val (.int z), .val .null, .val (.long ((pv.toInt64) - (1 : Int64))), .second, .val (.long ((pv.toInt64) + (z.toInt64))), .second, .val (.int (0 : Int32)), .val (.int (0 : Int32)), .unset, .unset] []))
      refine own_via (fun tq kq => XS.iconst X1.here hx rfl (hb hby at_82) kq) ?_
      show Ogo p e below _ (T1.setTop (mkF m 83 #[.val (.int pv), .val (.int q), .val (.int z), .val .null, .val (.long ((pv.toInt64) - (1 : Int64))), .second, .val (.long ((pv.toInt64) + (z.toInt64))), .second, .val (.int (0 : Int32)), .val (.int (0 : Int32)), .unset, .unset] [(.int (1 : Int32))]))
      refine own_via (fun tq kq => XS.goto X1.here hx rfl (pc0 := 83) (pc' := 87) rfl (hb hby at_83) (by decide) (by decide) kq) ?_
      show Ogo p e below _ (T1.setTop (mkF m 87 #[.val (.int pv), .val (.int q), .val (.int z), .val .null, .val (.long ((pv.toInt64) - (1 : Int64))), .second, .val (.long ((pv.toInt64) + (z.toInt64))), .second, .val (.int (0 : Int32)), .val (.int (0 : Int32)), .unset, .unset] [(.int (1 : Int32))]))
      exact own_out X1 hlk (fun h => by rw [hret] at h; cases h) (by decide) (by decide) (⟨rfl, N⟩) (fun fs hr => retN X1 hx (t := .boolean) hret (by simp) (hb hby at_87) hr)
set_option maxRecDepth 65536 in
set_option maxHeartbeats 40000000 in
theorem own_comes {Post : Tables → Env → Array Value → State → Outcome → State → Prop} (hpost : ∀ tb e args s v u, (limb_1_1.after args s (.returned v) u = true ∧ limb_1_2.after args s (.returned v) u = true ∧ True) → FrameEnd s (.returned v) u (Jvm.fieldLocs frame_1_writes args s ++ Jvm.arrayLocs frame_1_arrays args s ++ Jvm.staticLocs frame_1_statics s) 16 128 → Post tb e args s (.returned v) u) :
    ArmFor flags0 classFile x code maxLocals ret World_1 tables_1 room_1 Calls_1 rest_1 Pre_1 Post := by
  intro l hfl _ _ p e ha hc hk s m args below hf hA hF happ hP
  obtain ⟨hcalls, hrest, hpre⟩ := hP
  obtain ⟨-, -, -, hnamed, -, -, -, hat⟩ := (Spec.applies_iff hf).mp happ
  obtain ⟨hg, hn⟩ := and_e (Cond.before_iff.mp (show (Jvm.Cond.and given_1 narrow_1).before args s = true from hpre))
  obtain ⟨q0, r0⟩ := and_e hg
  obtain ⟨q1, r1⟩ := and_e r0
  obtain ⟨w0, w1, rfl⟩ : ∃ w0 w1 : Value, args = #[w0, w1] := by
    have hs : args.size = 2 := by simpa [Cond.value, given_1] using q0
    obtain ⟨L⟩ := args
    match L, hs with
    | [w0, w1], _ => exact ⟨w0, w1, rfl⟩
  have hw := fun d (hd : d ∈ tables_1) => atoms_spec (ws := Jvm.Cond.code x code maxLocals ret :: tables_1) hat d (List.mem_cons_of_mem _ hd)
  have hfit : Fit s := fun {y c} hc i hi => by
    obtain ⟨ha, rfl⟩ := Array.getElem?_eq_some_iff.mp hc
    have q := List.all_eq_true.mp ((Array.all_eq_true_iff_forall_mem.mp hF) _ (Array.getElem_mem ha)) i (List.mem_range.mpr hi)
    simpa [Array.getElem?_eq_getElem hi] using q
  obtain ⟨i0, ei0⟩ := is_v q1
  obtain rfl : w0 = (.int i0) := Option.some.inj ei0
  obtain ⟨i1, ei1⟩ := is_v r1
  obtain rfl : w1 = (.int i1) := Option.some.inj ei1
  obtain ⟨hsets, hown0⟩ := atoms_of _ (rest_1_c_eq ▸ (show rest_1_c.before _ s = true from hrest))
  obtain ⟨SH, ac, cc, SC, BX⟩ := own_box hsets hw
  obtain ⟨n, o, h1, h2, h3, _, L, rfl, ⟨rfl, N⟩, hq⟩ := rm_law hw i0 i1 ac cc s.heap s.heap.size (Nat.le_refl _) SH SC BX (Old.start s) p e ha hc hk s m _ below hf ((Spec.applies_iff_loose hf).mp happ).1 ⟨rfl, State.Warmed39.refl s, rfl⟩ trivial
  refine ⟨n, _, h1, h2, h3, hpost _ _ _ _ _ _ ⟨Cond.after_iff.mpr rfl, Cond.after_iff.mpr (eq_i res_at (Term.int_eval (1)) rfl), trivial⟩ ⟨hq.1, hq.2.1, (hq.2.2.sift fun y hy => Or.inr (N y hy)).mono (by decide) (by decide)⟩⟩
theorem main_1_1 : Claimed_1_1 := own_comes fun _ _ _ _ _ _ h hF => ⟨h.1, hF⟩
theorem main_1_2 : Claimed_1_2 := own_comes fun _ _ _ _ _ _ h hF => ⟨h.2.1, hF⟩
end Jvm.Pilot.@@N@@
namespace Jvm.Pilot.@@N@@
open Jvm Jvm.ClassFile Sem Op Lib Jvm.Free Jvm.Stand Jvm.Pilot.@@N@@.Jvm.D
/-! MADE BY PROGRAM (witnessworld.py) out of the Statement's table words and the real class files: 16 classes; the members and pool entries that the words name. The judged class is class 1, her method 1. -/
namespace start1
open Jvm.ClassFile
def u (s : String) : CpInfo := .utf8 (stringToUtf16 s)
/-- a pool by its gaps: so many unusable entries, then the entry; so many at the end -/
def gap : Nat → List CpInfo → List CpInfo
  | 0, r => r
  | n + 1, r => .unusable :: gap n r
def poolList (es : List (Nat × CpInfo)) (last : Nat) : List CpInfo := es.foldr (fun e r => gap e.1 (e.2 :: r)) (gap last [])
def pool (es : List (Nat × CpInfo)) (last : Nat) : Array CpInfo := ⟨poolList es last⟩
def fileOf (pool : Array CpInfo) (this : Nat) (attrs : Array Attribute := #[]) (ms : Array MethodInfo := #[]) (fl : Nat := 33) (sup : Nat := 0) (ifs : Array Nat := #[]) (fds : Array FieldInfo := #[]) : ClassFile where
  minorVersion := 0
  majorVersion := 65
  constantPool := pool
  accessFlags := fl
  thisClass := this
  superClass := sup
  interfaces := ifs
  fields := fds
  methods := ms
  attributes := attrs
def plain (name : String) (sup : Option ClassId) : Class where
  name := name
  kind := .ordinary
  loader := none
  accessFlags := 33
  super := sup
  interfaces := #[]
  cf := none
  fields := #[]
  methods := #[]
  instanceTypes := #[]
  staticTypes := #[]
  resolved := #[]
  callSites := []
  init := .initialized
  statics := none
  mirror := none

def pool0 : Array CpInfo := pool [(5, u "<init>"), (0, u "()V"), (1, .class_ 10), (1, u "java/lang/Object")] 113

def k0c0 : Code := { maxStack := 0, maxLocals := 1, code := object_method_1_code, exceptionTable := #[], attributes := #[] }
def k0m0 : Method := { name := "<init>", desc := "()V", sig := { parameters := [], returnType := none }, accessFlags := 1, code := some k0c0 }
/-- java/lang/Object -/
def k0 : Class := { plain "java/lang/Object" none with
  accessFlags := 33
  interfaces := #[]
  cf := some (fileOf pool0 8 #[] #[{ accessFlags := 1, nameIndex := 5, descriptorIndex := 6, attributes := #[] }] 33 0 #[] #[])
  fields := #[]
  methods := #[k0m0]
  instanceTypes := #[]
  staticTypes := #[]
  resolved := Array.replicate 124 none
  statics := none }

def pool1 : Array CpInfo := pool [(2, .class_ 4), (1, u "java/lang/Object"), (0, u "<init>"), (0, u "()V"), (0, .integer 2147483647), (0, .methodref 9 10), (0, .class_ 11), (0, .nameAndType 12 13), (0, u "com/example/diligent_workflow/diligentworkflow/feel/ListFunctions"), (0, u "index"), (0, u "(II)Ljava/lang/Integer;"), (0, .methodref 15 16), (0, .class_ 17), (0, .nameAndType 18 19), (0, u "java/lang/Integer"), (0, u "intValue"), (0, u "()I"), (0, .class_ 21), (0, u "com/example/diligent_workflow/diligentworkflow/feel/ListFunctionsIndexPinLaw"), (2, u "law"), (0, u "(II)Z")] 3

def k1m0 : Method := { name := "<init>", desc := "()V", sig := { parameters := [], returnType := none }, accessFlags := 2, code := none }
def k1c1 : Code := { maxStack := 4, maxLocals := 12, code := code, exceptionTable := #[], attributes := #[] }
def k1m1 : Method := { name := "law", desc := "(II)Z", sig := { parameters := [.int, .int], returnType := some .boolean }, accessFlags := 9, code := some k1c1 }
/-- com/example/diligent_workflow/diligentworkflow/feel/ListFunctionsIndexPinLaw -/
def k1 : Class := { plain "com/example/diligent_workflow/diligentworkflow/feel/ListFunctionsIndexPinLaw" (some 0) with
  accessFlags := 49
  interfaces := #[]
  cf := some (fileOf pool1 20 #[] #[{ accessFlags := 2, nameIndex := 5, descriptorIndex := 6, attributes := #[] }, { accessFlags := 9, nameIndex := 24, descriptorIndex := 25, attributes := #[] }] 49 2 #[] #[])
  fields := #[]
  methods := #[k1m0, k1m1]
  instanceTypes := #[]
  staticTypes := #[]
  resolved := Array.replicate 29 none
  statics := none }

def pool2 : Array CpInfo := pool [(2, .class_ 4), (1, u "java/lang/Object"), (0, u "<init>"), (0, u "()V"), (1, .class_ 10), (1, u "com/example/diligent_workflow/diligentworkflow/feel/ListFunctions"), (10, u "valueOf"), (112, .class_ 135), (0, u "java/lang/Integer"), (5, u "index"), (0, u "(II)Ljava/lang/Integer;"), (92, .methodref 134 236), (0, .nameAndType 21 237), (0, u "(I)Ljava/lang/Integer;")] 133

def k2m0 : Method := { name := "<init>", desc := "()V", sig := { parameters := [], returnType := none }, accessFlags := 2, code := none }
def k2c1 : Code := { maxStack := 2, maxLocals := 3, code := prog_80_method_31_code, exceptionTable := #[], attributes := #[] }
def k2m1 : Method := { name := "index", desc := "(II)Ljava/lang/Integer;", sig := { parameters := [.int, .int], returnType := some (.object "java/lang/Integer") }, accessFlags := 8, code := some k2c1 }
/-- com/example/diligent_workflow/diligentworkflow/feel/ListFunctions -/
def k2 : Class := { plain "com/example/diligent_workflow/diligentworkflow/feel/ListFunctions" (some 0) with
  accessFlags := 48
  interfaces := #[]
  cf := some (fileOf pool2 8 #[] #[{ accessFlags := 2, nameIndex := 5, descriptorIndex := 6, attributes := #[] }, { accessFlags := 8, nameIndex := 141, descriptorIndex := 142, attributes := #[] }] 48 2 #[] #[])
  fields := #[]
  methods := #[k2m0, k2m1]
  instanceTypes := #[]
  staticTypes := #[]
  resolved := Array.replicate 371 none
  statics := none }

def pool3 : Array CpInfo := pool [(1, .class_ 2), (0, u "java/io/Serializable"), (0, .class_ 4), (0, u "java/lang/Object")] 2

/-- java/io/Serializable -/
def k3 : Class := { plain "java/io/Serializable" (some 0) with
  accessFlags := 1537
  interfaces := #[]
  cf := some (fileOf pool3 1 #[] #[] 1537 3 #[] #[])
  fields := #[]
  methods := #[]
  instanceTypes := #[]
  staticTypes := #[]
  resolved := Array.replicate 7 none
  statics := none }

def pool4 : Array CpInfo := pool [(1, .methodref 2 3), (0, .class_ 4), (0, .nameAndType 5 6), (0, u "java/lang/Object"), (0, u "<init>"), (0, u "()V"), (1, .class_ 10), (1, u "java/lang/Number"), (2, .class_ 14), (0, u "java/io/Serializable"), (0, u "serialVersionUID"), (0, u "J")] 20

def k4c0 : Code := { maxStack := 1, maxLocals := 1, code := jdk_18_method_1_code, exceptionTable := #[], attributes := #[] }
def k4m0 : Method := { name := "<init>", desc := "()V", sig := { parameters := [], returnType := none }, accessFlags := 1, code := some k4c0 }
/-- java/lang/Number -/
def k4 : Class := { plain "java/lang/Number" (some 0) with
  accessFlags := 1057
  interfaces := #[3]
  cf := some (fileOf pool4 8 #[] #[{ accessFlags := 1, nameIndex := 5, descriptorIndex := 6, attributes := #[] }] 1057 2 #[13] #[{ accessFlags := 26, nameIndex := 15, descriptorIndex := 16, attributes := #[] }])
  fields := #[{ name := "serialVersionUID", type := .long, accessFlags := 26, slot := 0, constantValue := 0 }]
  methods := #[k4m0]
  instanceTypes := #[]
  staticTypes := #[.long]
  resolved := Array.replicate 37 none
  statics := none }

def pool5 : Array CpInfo := pool [(1, .class_ 2), (0, u "java/lang/Comparable"), (0, .class_ 4), (0, u "java/lang/Object")] 7

/-- java/lang/Comparable -/
def k5 : Class := { plain "java/lang/Comparable" (some 0) with
  accessFlags := 1537
  interfaces := #[]
  cf := some (fileOf pool5 1 #[] #[] 1537 3 #[] #[])
  fields := #[]
  methods := #[]
  instanceTypes := #[]
  staticTypes := #[]
  resolved := Array.replicate 12 none
  statics := none }

def pool6 : Array CpInfo := pool [(1, .class_ 2), (0, u "java/lang/constant/Constable"), (0, .class_ 4), (0, u "java/lang/Object")] 6

/-- java/lang/constant/Constable -/
def k6 : Class := { plain "java/lang/constant/Constable" (some 0) with
  accessFlags := 1537
  interfaces := #[]
  cf := some (fileOf pool6 1 #[] #[] 1537 3 #[] #[])
  fields := #[]
  methods := #[]
  instanceTypes := #[]
  staticTypes := #[]
  resolved := Array.replicate 11 none
  statics := none }

def pool7 : Array CpInfo := pool [(1, .class_ 2), (0, u "java/lang/constant/ConstantDesc"), (0, .class_ 4), (0, u "java/lang/Object")] 32

/-- java/lang/constant/ConstantDesc -/
def k7 : Class := { plain "java/lang/constant/ConstantDesc" (some 0) with
  accessFlags := 1537
  interfaces := #[]
  cf := some (fileOf pool7 1 #[] #[] 1537 3 #[] #[])
  fields := #[]
  methods := #[]
  instanceTypes := #[]
  staticTypes := #[]
  resolved := Array.replicate 37 none
  statics := none }

def pool8 : Array CpInfo := pool [(1, .class_ 2), (0, u "java/lang/Integer"), (16, u "digits"), (0, u "[C"), (46, u "<init>"), (17, u "DigitOnes"), (0, u "[B"), (2, u "DigitTens"), (10, .nameAndType 67 101), (0, u "()V"), (19, u "()I"), (65, u "valueOf"), (0, u "(I)Ljava/lang/Integer;"), (0, .class_ 190), (0, u "java/lang/Integer$IntegerCache"), (0, .fieldref 189 192), (0, .nameAndType 193 194), (0, u "high"), (0, u "I"), (0, .fieldref 189 196), (0, .nameAndType 197 198), (0, u "cache"), (0, u "[Ljava/lang/Integer;"), (0, .methodref 1 200), (0, .nameAndType 67 201), (0, u "(I)V"), (0, .methodref 203 100), (0, .class_ 204), (0, u "java/lang/Number"), (0, .fieldref 1 206), (0, .nameAndType 207 194), (0, u "value"), (5, u "intValue"), (88, u "TYPE"), (0, u "Ljava/lang/Class;"), (0, .class_ 305), (0, u "java/lang/Comparable"), (0, .class_ 307), (0, u "java/lang/constant/Constable"), (0, .class_ 309), (0, u "java/lang/constant/ConstantDesc"), (0, u "MIN_VALUE"), (1, u "MAX_VALUE"), (3, u "SIZE"), (1, u "BYTES"), (1, u "serialVersionUID"), (0, u "J")] 131

def k8c0 : Code := { maxStack := 3, maxLocals := 1, code := jdk_33_method_22_code, exceptionTable := #[], attributes := #[] }
def k8m0 : Method := { name := "valueOf", desc := "(I)Ljava/lang/Integer;", sig := { parameters := [.int], returnType := some (.object "java/lang/Integer") }, accessFlags := 9, code := some k8c0 }
def k8c1 : Code := { maxStack := 2, maxLocals := 2, code := jdk_33_method_23_code, exceptionTable := #[], attributes := #[] }
def k8m1 : Method := { name := "<init>", desc := "(I)V", sig := { parameters := [.int], returnType := none }, accessFlags := 1, code := some k8c1 }
def k8c2 : Code := { maxStack := 1, maxLocals := 1, code := jdk_33_method_27_code, exceptionTable := #[], attributes := #[] }
def k8m2 : Method := { name := "intValue", desc := "()I", sig := { parameters := [], returnType := some .int }, accessFlags := 1, code := some k8c2 }
/-- java/lang/Integer -/
def k8 : Class := { plain "java/lang/Integer" (some 4) with
  accessFlags := 49
  interfaces := #[5, 6, 7]
  cf := some (fileOf pool8 1 #[.nestMembers #[189]] #[{ accessFlags := 9, nameIndex := 187, descriptorIndex := 188, attributes := #[] }, { accessFlags := 1, nameIndex := 67, descriptorIndex := 201, attributes := #[] }, { accessFlags := 1, nameIndex := 213, descriptorIndex := 121, attributes := #[] }] 49 203 #[304, 306, 308] #[{ accessFlags := 25, nameIndex := 310, descriptorIndex := 194, attributes := #[] }, { accessFlags := 25, nameIndex := 312, descriptorIndex := 194, attributes := #[] }, { accessFlags := 25, nameIndex := 302, descriptorIndex := 303, attributes := #[] }, { accessFlags := 24, nameIndex := 19, descriptorIndex := 20, attributes := #[] }, { accessFlags := 24, nameIndex := 89, descriptorIndex := 86, attributes := #[] }, { accessFlags := 24, nameIndex := 85, descriptorIndex := 86, attributes := #[] }, { accessFlags := 18, nameIndex := 207, descriptorIndex := 194, attributes := #[] }, { accessFlags := 25, nameIndex := 316, descriptorIndex := 194, attributes := #[] }, { accessFlags := 25, nameIndex := 318, descriptorIndex := 194, attributes := #[] }, { accessFlags := 26, nameIndex := 320, descriptorIndex := 321, attributes := #[] }])
  fields := #[{ name := "MIN_VALUE", type := .int, accessFlags := 25, slot := 0, constantValue := 0 }, { name := "MAX_VALUE", type := .int, accessFlags := 25, slot := 1, constantValue := 0 }, { name := "TYPE", type := (.object "java/lang/Class"), accessFlags := 25, slot := 2, constantValue := 0 }, { name := "digits", type := (.array .char), accessFlags := 24, slot := 3, constantValue := 0 }, { name := "DigitTens", type := (.array .byte), accessFlags := 24, slot := 4, constantValue := 0 }, { name := "DigitOnes", type := (.array .byte), accessFlags := 24, slot := 5, constantValue := 0 }, { name := "value", type := .int, accessFlags := 18, slot := 0, constantValue := 0 }, { name := "SIZE", type := .int, accessFlags := 25, slot := 6, constantValue := 0 }, { name := "BYTES", type := .int, accessFlags := 25, slot := 7, constantValue := 0 }, { name := "serialVersionUID", type := .long, accessFlags := 26, slot := 8, constantValue := 0 }]
  methods := #[k8m0, k8m1, k8m2]
  instanceTypes := #[.int]
  staticTypes := #[.int, .int, (.object "java/lang/Class"), (.array .char), (.array .byte), (.array .byte), .int, .int, .long]
  resolved := Array.replicate 453 none
  statics := none }

def pool9 : Array CpInfo := pool [(2, .class_ 4), (1, u "java/lang/Object"), (0, u "<init>"), (0, u "()V"), (0, .class_ 8), (0, u "java/lang/Integer"), (7, .class_ 18), (1, u "java/lang/Integer$IntegerCache"), (0, u "$assertionsDisabled"), (0, u "Z"), (26, u "high"), (0, u "I"), (8, u "archivedCache"), (0, u "[Ljava/lang/Integer;"), (12, u "cache"), (0, u "low")] 27

def k9m0 : Method := { name := "<init>", desc := "()V", sig := { parameters := [], returnType := none }, accessFlags := 2, code := none }
/-- java/lang/Integer$IntegerCache -/
def k9 : Class := { plain "java/lang/Integer$IntegerCache" (some 0) with
  accessFlags := 48
  interfaces := #[]
  cf := some (fileOf pool9 16 #[.nestHost 7] #[{ accessFlags := 2, nameIndex := 5, descriptorIndex := 6, attributes := #[] }] 48 2 #[] #[{ accessFlags := 24, nameIndex := 72, descriptorIndex := 48, attributes := #[] }, { accessFlags := 24, nameIndex := 47, descriptorIndex := 48, attributes := #[] }, { accessFlags := 24, nameIndex := 71, descriptorIndex := 58, attributes := #[] }, { accessFlags := 8, nameIndex := 57, descriptorIndex := 58, attributes := #[] }, { accessFlags := 4120, nameIndex := 19, descriptorIndex := 20, attributes := #[] }])
  fields := #[{ name := "low", type := .int, accessFlags := 24, slot := 0, constantValue := 0 }, { name := "high", type := .int, accessFlags := 24, slot := 1, constantValue := 0 }, { name := "cache", type := (.array (.object "java/lang/Integer")), accessFlags := 24, slot := 2, constantValue := 0 }, { name := "archivedCache", type := (.array (.object "java/lang/Integer")), accessFlags := 8, slot := 3, constantValue := 0 }, { name := "$assertionsDisabled", type := .boolean, accessFlags := 4120, slot := 4, constantValue := 0 }]
  methods := #[k9m0]
  instanceTypes := #[]
  staticTypes := #[.int, .int, (.array (.object "java/lang/Integer")), (.array (.object "java/lang/Integer")), .boolean]
  resolved := Array.replicate 100 none
  statics := some 0 }

def pool10 : Array CpInfo := pool [(1, u "java/lang/Cloneable"), (0, .class_ 1), (0, u "java/lang/Object"), (0, .class_ 3)] 3

/-- java/lang/Cloneable -/
def k10 : Class := { plain "java/lang/Cloneable" (some 0) with
  accessFlags := 1537
  interfaces := #[]
  cf := some (fileOf pool10 2 #[] #[] 1537 4 #[] #[])
  fields := #[]
  methods := #[]
  instanceTypes := #[]
  staticTypes := #[]
  resolved := Array.replicate 8 none
  statics := none }

/-- the primitive byte -/
def k11 : Class := { plain "byte" none with kind := .primitive 'B', accessFlags := 0x411 }
/-- [B -/
def k12 : Class := { plain "[B" (some 0) with kind := .array 11 .byte, interfaces := #[10, 3], accessFlags := 1041 }

/-- the primitive int -/
def k13 : Class := { plain "int" none with kind := .primitive 'I', accessFlags := 0x411 }
/-- [I -/
def k14 : Class := { plain "[I" (some 0) with kind := .array 13 .int, interfaces := #[10, 3], accessFlags := 1041 }

/-- [Ljava/lang/Integer; -/
def k15 : Class := { plain "[Ljava/lang/Integer;" (some 0) with kind := .array 8 (.object "java/lang/Integer"), interfaces := #[10, 3], accessFlags := 1041 }

def heap : Heap := #[{ cls := 9, slots := #[.int 0, .int 127, .ref 1, .null, .int 0], vm := .statics 9 },
  { cls := 15, slots := #[.ref 2, .ref 3, .ref 4, .ref 5, .ref 6, .ref 7, .ref 8, .ref 9, .ref 10, .ref 11, .ref 12, .ref 13, .ref 14, .ref 15, .ref 16, .ref 17, .ref 18, .ref 19, .ref 20, .ref 21, .ref 22, .ref 23, .ref 24, .ref 25, .ref 26, .ref 27, .ref 28, .ref 29, .ref 30, .ref 31, .ref 32, .ref 33, .ref 34, .ref 35, .ref 36, .ref 37, .ref 38, .ref 39, .ref 40, .ref 41, .ref 42, .ref 43, .ref 44, .ref 45, .ref 46, .ref 47, .ref 48, .ref 49, .ref 50, .ref 51, .ref 52, .ref 53, .ref 54, .ref 55, .ref 56, .ref 57, .ref 58, .ref 59, .ref 60, .ref 61, .ref 62, .ref 63, .ref 64, .ref 65, .ref 66, .ref 67, .ref 68, .ref 69, .ref 70, .ref 71, .ref 72, .ref 73, .ref 74, .ref 75, .ref 76, .ref 77, .ref 78, .ref 79, .ref 80, .ref 81, .ref 82, .ref 83, .ref 84, .ref 85, .ref 86, .ref 87, .ref 88, .ref 89, .ref 90, .ref 91, .ref 92, .ref 93, .ref 94, .ref 95, .ref 96, .ref 97, .ref 98, .ref 99, .ref 100, .ref 101, .ref 102, .ref 103, .ref 104, .ref 105, .ref 106, .ref 107, .ref 108, .ref 109, .ref 110, .ref 111, .ref 112, .ref 113, .ref 114, .ref 115, .ref 116, .ref 117, .ref 118, .ref 119, .ref 120, .ref 121, .ref 122, .ref 123, .ref 124, .ref 125, .ref 126, .ref 127, .ref 128, .ref 129, .ref 130, .ref 131, .ref 132, .ref 133, .ref 134, .ref 135, .ref 136, .ref 137, .ref 138, .ref 139, .ref 140, .ref 141, .ref 142, .ref 143, .ref 144, .ref 145, .ref 146, .ref 147, .ref 148, .ref 149, .ref 150, .ref 151, .ref 152, .ref 153, .ref 154, .ref 155, .ref 156, .ref 157, .ref 158, .ref 159, .ref 160, .ref 161, .ref 162, .ref 163, .ref 164, .ref 165, .ref 166, .ref 167, .ref 168, .ref 169, .ref 170, .ref 171, .ref 172, .ref 173, .ref 174, .ref 175, .ref 176, .ref 177, .ref 178, .ref 179, .ref 180, .ref 181, .ref 182, .ref 183, .ref 184, .ref 185, .ref 186, .ref 187, .ref 188, .ref 189, .ref 190, .ref 191, .ref 192, .ref 193, .ref 194, .ref 195, .ref 196, .ref 197, .ref 198, .ref 199, .ref 200, .ref 201, .ref 202, .ref 203, .ref 204, .ref 205, .ref 206, .ref 207, .ref 208, .ref 209, .ref 210, .ref 211, .ref 212, .ref 213, .ref 214, .ref 215, .ref 216, .ref 217, .ref 218, .ref 219, .ref 220, .ref 221, .ref 222, .ref 223, .ref 224, .ref 225, .ref 226, .ref 227, .ref 228, .ref 229, .ref 230, .ref 231, .ref 232, .ref 233, .ref 234, .ref 235, .ref 236, .ref 237, .ref 238, .ref 239, .ref 240, .ref 241, .ref 242, .ref 243, .ref 244, .ref 245, .ref 246, .ref 247, .ref 248, .ref 249, .ref 250, .ref 251, .ref 252, .ref 253, .ref 254, .ref 255, .ref 256, .ref 257], vm := .none },
  { cls := 8, slots := #[.int (-128)], vm := .none },
  { cls := 8, slots := #[.int (-127)], vm := .none },
  { cls := 8, slots := #[.int (-126)], vm := .none },
  { cls := 8, slots := #[.int (-125)], vm := .none },
  { cls := 8, slots := #[.int (-124)], vm := .none },
  { cls := 8, slots := #[.int (-123)], vm := .none },
  { cls := 8, slots := #[.int (-122)], vm := .none },
  { cls := 8, slots := #[.int (-121)], vm := .none },
  { cls := 8, slots := #[.int (-120)], vm := .none },
  { cls := 8, slots := #[.int (-119)], vm := .none },
  { cls := 8, slots := #[.int (-118)], vm := .none },
  { cls := 8, slots := #[.int (-117)], vm := .none },
  { cls := 8, slots := #[.int (-116)], vm := .none },
  { cls := 8, slots := #[.int (-115)], vm := .none },
  { cls := 8, slots := #[.int (-114)], vm := .none },
  { cls := 8, slots := #[.int (-113)], vm := .none },
  { cls := 8, slots := #[.int (-112)], vm := .none },
  { cls := 8, slots := #[.int (-111)], vm := .none },
  { cls := 8, slots := #[.int (-110)], vm := .none },
  { cls := 8, slots := #[.int (-109)], vm := .none },
  { cls := 8, slots := #[.int (-108)], vm := .none },
  { cls := 8, slots := #[.int (-107)], vm := .none },
  { cls := 8, slots := #[.int (-106)], vm := .none },
  { cls := 8, slots := #[.int (-105)], vm := .none },
  { cls := 8, slots := #[.int (-104)], vm := .none },
  { cls := 8, slots := #[.int (-103)], vm := .none },
  { cls := 8, slots := #[.int (-102)], vm := .none },
  { cls := 8, slots := #[.int (-101)], vm := .none },
  { cls := 8, slots := #[.int (-100)], vm := .none },
  { cls := 8, slots := #[.int (-99)], vm := .none },
  { cls := 8, slots := #[.int (-98)], vm := .none },
  { cls := 8, slots := #[.int (-97)], vm := .none },
  { cls := 8, slots := #[.int (-96)], vm := .none },
  { cls := 8, slots := #[.int (-95)], vm := .none },
  { cls := 8, slots := #[.int (-94)], vm := .none },
  { cls := 8, slots := #[.int (-93)], vm := .none },
  { cls := 8, slots := #[.int (-92)], vm := .none },
  { cls := 8, slots := #[.int (-91)], vm := .none },
  { cls := 8, slots := #[.int (-90)], vm := .none },
  { cls := 8, slots := #[.int (-89)], vm := .none },
  { cls := 8, slots := #[.int (-88)], vm := .none },
  { cls := 8, slots := #[.int (-87)], vm := .none },
  { cls := 8, slots := #[.int (-86)], vm := .none },
  { cls := 8, slots := #[.int (-85)], vm := .none },
  { cls := 8, slots := #[.int (-84)], vm := .none },
  { cls := 8, slots := #[.int (-83)], vm := .none },
  { cls := 8, slots := #[.int (-82)], vm := .none },
  { cls := 8, slots := #[.int (-81)], vm := .none },
  { cls := 8, slots := #[.int (-80)], vm := .none },
  { cls := 8, slots := #[.int (-79)], vm := .none },
  { cls := 8, slots := #[.int (-78)], vm := .none },
  { cls := 8, slots := #[.int (-77)], vm := .none },
  { cls := 8, slots := #[.int (-76)], vm := .none },
  { cls := 8, slots := #[.int (-75)], vm := .none },
  { cls := 8, slots := #[.int (-74)], vm := .none },
  { cls := 8, slots := #[.int (-73)], vm := .none },
  { cls := 8, slots := #[.int (-72)], vm := .none },
  { cls := 8, slots := #[.int (-71)], vm := .none },
  { cls := 8, slots := #[.int (-70)], vm := .none },
  { cls := 8, slots := #[.int (-69)], vm := .none },
  { cls := 8, slots := #[.int (-68)], vm := .none },
  { cls := 8, slots := #[.int (-67)], vm := .none },
  { cls := 8, slots := #[.int (-66)], vm := .none },
  { cls := 8, slots := #[.int (-65)], vm := .none },
  { cls := 8, slots := #[.int (-64)], vm := .none },
  { cls := 8, slots := #[.int (-63)], vm := .none },
  { cls := 8, slots := #[.int (-62)], vm := .none },
  { cls := 8, slots := #[.int (-61)], vm := .none },
  { cls := 8, slots := #[.int (-60)], vm := .none },
  { cls := 8, slots := #[.int (-59)], vm := .none },
  { cls := 8, slots := #[.int (-58)], vm := .none },
  { cls := 8, slots := #[.int (-57)], vm := .none },
  { cls := 8, slots := #[.int (-56)], vm := .none },
  { cls := 8, slots := #[.int (-55)], vm := .none },
  { cls := 8, slots := #[.int (-54)], vm := .none },
  { cls := 8, slots := #[.int (-53)], vm := .none },
  { cls := 8, slots := #[.int (-52)], vm := .none },
  { cls := 8, slots := #[.int (-51)], vm := .none },
  { cls := 8, slots := #[.int (-50)], vm := .none },
  { cls := 8, slots := #[.int (-49)], vm := .none },
  { cls := 8, slots := #[.int (-48)], vm := .none },
  { cls := 8, slots := #[.int (-47)], vm := .none },
  { cls := 8, slots := #[.int (-46)], vm := .none },
  { cls := 8, slots := #[.int (-45)], vm := .none },
  { cls := 8, slots := #[.int (-44)], vm := .none },
  { cls := 8, slots := #[.int (-43)], vm := .none },
  { cls := 8, slots := #[.int (-42)], vm := .none },
  { cls := 8, slots := #[.int (-41)], vm := .none },
  { cls := 8, slots := #[.int (-40)], vm := .none },
  { cls := 8, slots := #[.int (-39)], vm := .none },
  { cls := 8, slots := #[.int (-38)], vm := .none },
  { cls := 8, slots := #[.int (-37)], vm := .none },
  { cls := 8, slots := #[.int (-36)], vm := .none },
  { cls := 8, slots := #[.int (-35)], vm := .none },
  { cls := 8, slots := #[.int (-34)], vm := .none },
  { cls := 8, slots := #[.int (-33)], vm := .none },
  { cls := 8, slots := #[.int (-32)], vm := .none },
  { cls := 8, slots := #[.int (-31)], vm := .none },
  { cls := 8, slots := #[.int (-30)], vm := .none },
  { cls := 8, slots := #[.int (-29)], vm := .none },
  { cls := 8, slots := #[.int (-28)], vm := .none },
  { cls := 8, slots := #[.int (-27)], vm := .none },
  { cls := 8, slots := #[.int (-26)], vm := .none },
  { cls := 8, slots := #[.int (-25)], vm := .none },
  { cls := 8, slots := #[.int (-24)], vm := .none },
  { cls := 8, slots := #[.int (-23)], vm := .none },
  { cls := 8, slots := #[.int (-22)], vm := .none },
  { cls := 8, slots := #[.int (-21)], vm := .none },
  { cls := 8, slots := #[.int (-20)], vm := .none },
  { cls := 8, slots := #[.int (-19)], vm := .none },
  { cls := 8, slots := #[.int (-18)], vm := .none },
  { cls := 8, slots := #[.int (-17)], vm := .none },
  { cls := 8, slots := #[.int (-16)], vm := .none },
  { cls := 8, slots := #[.int (-15)], vm := .none },
  { cls := 8, slots := #[.int (-14)], vm := .none },
  { cls := 8, slots := #[.int (-13)], vm := .none },
  { cls := 8, slots := #[.int (-12)], vm := .none },
  { cls := 8, slots := #[.int (-11)], vm := .none },
  { cls := 8, slots := #[.int (-10)], vm := .none },
  { cls := 8, slots := #[.int (-9)], vm := .none },
  { cls := 8, slots := #[.int (-8)], vm := .none },
  { cls := 8, slots := #[.int (-7)], vm := .none },
  { cls := 8, slots := #[.int (-6)], vm := .none },
  { cls := 8, slots := #[.int (-5)], vm := .none },
  { cls := 8, slots := #[.int (-4)], vm := .none },
  { cls := 8, slots := #[.int (-3)], vm := .none },
  { cls := 8, slots := #[.int (-2)], vm := .none },
  { cls := 8, slots := #[.int (-1)], vm := .none },
  { cls := 8, slots := #[.int (0)], vm := .none },
  { cls := 8, slots := #[.int (1)], vm := .none },
  { cls := 8, slots := #[.int (2)], vm := .none },
  { cls := 8, slots := #[.int (3)], vm := .none },
  { cls := 8, slots := #[.int (4)], vm := .none },
  { cls := 8, slots := #[.int (5)], vm := .none },
  { cls := 8, slots := #[.int (6)], vm := .none },
  { cls := 8, slots := #[.int (7)], vm := .none },
  { cls := 8, slots := #[.int (8)], vm := .none },
  { cls := 8, slots := #[.int (9)], vm := .none },
  { cls := 8, slots := #[.int (10)], vm := .none },
  { cls := 8, slots := #[.int (11)], vm := .none },
  { cls := 8, slots := #[.int (12)], vm := .none },
  { cls := 8, slots := #[.int (13)], vm := .none },
  { cls := 8, slots := #[.int (14)], vm := .none },
  { cls := 8, slots := #[.int (15)], vm := .none },
  { cls := 8, slots := #[.int (16)], vm := .none },
  { cls := 8, slots := #[.int (17)], vm := .none },
  { cls := 8, slots := #[.int (18)], vm := .none },
  { cls := 8, slots := #[.int (19)], vm := .none },
  { cls := 8, slots := #[.int (20)], vm := .none },
  { cls := 8, slots := #[.int (21)], vm := .none },
  { cls := 8, slots := #[.int (22)], vm := .none },
  { cls := 8, slots := #[.int (23)], vm := .none },
  { cls := 8, slots := #[.int (24)], vm := .none },
  { cls := 8, slots := #[.int (25)], vm := .none },
  { cls := 8, slots := #[.int (26)], vm := .none },
  { cls := 8, slots := #[.int (27)], vm := .none },
  { cls := 8, slots := #[.int (28)], vm := .none },
  { cls := 8, slots := #[.int (29)], vm := .none },
  { cls := 8, slots := #[.int (30)], vm := .none },
  { cls := 8, slots := #[.int (31)], vm := .none },
  { cls := 8, slots := #[.int (32)], vm := .none },
  { cls := 8, slots := #[.int (33)], vm := .none },
  { cls := 8, slots := #[.int (34)], vm := .none },
  { cls := 8, slots := #[.int (35)], vm := .none },
  { cls := 8, slots := #[.int (36)], vm := .none },
  { cls := 8, slots := #[.int (37)], vm := .none },
  { cls := 8, slots := #[.int (38)], vm := .none },
  { cls := 8, slots := #[.int (39)], vm := .none },
  { cls := 8, slots := #[.int (40)], vm := .none },
  { cls := 8, slots := #[.int (41)], vm := .none },
  { cls := 8, slots := #[.int (42)], vm := .none },
  { cls := 8, slots := #[.int (43)], vm := .none },
  { cls := 8, slots := #[.int (44)], vm := .none },
  { cls := 8, slots := #[.int (45)], vm := .none },
  { cls := 8, slots := #[.int (46)], vm := .none },
  { cls := 8, slots := #[.int (47)], vm := .none },
  { cls := 8, slots := #[.int (48)], vm := .none },
  { cls := 8, slots := #[.int (49)], vm := .none },
  { cls := 8, slots := #[.int (50)], vm := .none },
  { cls := 8, slots := #[.int (51)], vm := .none },
  { cls := 8, slots := #[.int (52)], vm := .none },
  { cls := 8, slots := #[.int (53)], vm := .none },
  { cls := 8, slots := #[.int (54)], vm := .none },
  { cls := 8, slots := #[.int (55)], vm := .none },
  { cls := 8, slots := #[.int (56)], vm := .none },
  { cls := 8, slots := #[.int (57)], vm := .none },
  { cls := 8, slots := #[.int (58)], vm := .none },
  { cls := 8, slots := #[.int (59)], vm := .none },
  { cls := 8, slots := #[.int (60)], vm := .none },
  { cls := 8, slots := #[.int (61)], vm := .none },
  { cls := 8, slots := #[.int (62)], vm := .none },
  { cls := 8, slots := #[.int (63)], vm := .none },
  { cls := 8, slots := #[.int (64)], vm := .none },
  { cls := 8, slots := #[.int (65)], vm := .none },
  { cls := 8, slots := #[.int (66)], vm := .none },
  { cls := 8, slots := #[.int (67)], vm := .none },
  { cls := 8, slots := #[.int (68)], vm := .none },
  { cls := 8, slots := #[.int (69)], vm := .none },
  { cls := 8, slots := #[.int (70)], vm := .none },
  { cls := 8, slots := #[.int (71)], vm := .none },
  { cls := 8, slots := #[.int (72)], vm := .none },
  { cls := 8, slots := #[.int (73)], vm := .none },
  { cls := 8, slots := #[.int (74)], vm := .none },
  { cls := 8, slots := #[.int (75)], vm := .none },
  { cls := 8, slots := #[.int (76)], vm := .none },
  { cls := 8, slots := #[.int (77)], vm := .none },
  { cls := 8, slots := #[.int (78)], vm := .none },
  { cls := 8, slots := #[.int (79)], vm := .none },
  { cls := 8, slots := #[.int (80)], vm := .none },
  { cls := 8, slots := #[.int (81)], vm := .none },
  { cls := 8, slots := #[.int (82)], vm := .none },
  { cls := 8, slots := #[.int (83)], vm := .none },
  { cls := 8, slots := #[.int (84)], vm := .none },
  { cls := 8, slots := #[.int (85)], vm := .none },
  { cls := 8, slots := #[.int (86)], vm := .none },
  { cls := 8, slots := #[.int (87)], vm := .none },
  { cls := 8, slots := #[.int (88)], vm := .none },
  { cls := 8, slots := #[.int (89)], vm := .none },
  { cls := 8, slots := #[.int (90)], vm := .none },
  { cls := 8, slots := #[.int (91)], vm := .none },
  { cls := 8, slots := #[.int (92)], vm := .none },
  { cls := 8, slots := #[.int (93)], vm := .none },
  { cls := 8, slots := #[.int (94)], vm := .none },
  { cls := 8, slots := #[.int (95)], vm := .none },
  { cls := 8, slots := #[.int (96)], vm := .none },
  { cls := 8, slots := #[.int (97)], vm := .none },
  { cls := 8, slots := #[.int (98)], vm := .none },
  { cls := 8, slots := #[.int (99)], vm := .none },
  { cls := 8, slots := #[.int (100)], vm := .none },
  { cls := 8, slots := #[.int (101)], vm := .none },
  { cls := 8, slots := #[.int (102)], vm := .none },
  { cls := 8, slots := #[.int (103)], vm := .none },
  { cls := 8, slots := #[.int (104)], vm := .none },
  { cls := 8, slots := #[.int (105)], vm := .none },
  { cls := 8, slots := #[.int (106)], vm := .none },
  { cls := 8, slots := #[.int (107)], vm := .none },
  { cls := 8, slots := #[.int (108)], vm := .none },
  { cls := 8, slots := #[.int (109)], vm := .none },
  { cls := 8, slots := #[.int (110)], vm := .none },
  { cls := 8, slots := #[.int (111)], vm := .none },
  { cls := 8, slots := #[.int (112)], vm := .none },
  { cls := 8, slots := #[.int (113)], vm := .none },
  { cls := 8, slots := #[.int (114)], vm := .none },
  { cls := 8, slots := #[.int (115)], vm := .none },
  { cls := 8, slots := #[.int (116)], vm := .none },
  { cls := 8, slots := #[.int (117)], vm := .none },
  { cls := 8, slots := #[.int (118)], vm := .none },
  { cls := 8, slots := #[.int (119)], vm := .none },
  { cls := 8, slots := #[.int (120)], vm := .none },
  { cls := 8, slots := #[.int (121)], vm := .none },
  { cls := 8, slots := #[.int (122)], vm := .none },
  { cls := 8, slots := #[.int (123)], vm := .none },
  { cls := 8, slots := #[.int (124)], vm := .none },
  { cls := 8, slots := #[.int (125)], vm := .none },
  { cls := 8, slots := #[.int (126)], vm := .none },
  { cls := 8, slots := #[.int (127)], vm := .none }]
def classes : Array Class := #[k0, k1, k2, k3, k4, k5, k6, k7, k8, k9, k10, k11, k12, k13, k14, k15]
def interned : List (Array UInt16 × Addr) := []
def slotsUsed : Nat := 517
def theMethod : MethodId := ⟨1, 1⟩
def args0 : Array Value := #[.int 3, .int 5]
def aboutOver (below : List Frame) : State where
  vm := { classes := classes, interned := interned.toArray }
  heap := heap
  slotsUsed := slotsUsed
  threads := #[{ frames := .invoking theMethod args0 :: below }]
def below0 : List Frame := [.native { method := ⟨0, 0⟩, args := #[] }]
def about1 : State := aboutOver below0
def p0 : Program := .bare "" "" ""
def e0 : Env := launch0.env 0 0 0
theorem w_frames : about1.frames = Frame.invoking theMethod args0 :: below0 := rfl
set_option maxRecDepth 65536 in
theorem w_args : argsFit about1.vm theMethod args0 = true := by decide +kernel
set_option maxRecDepth 65536 in
theorem w_heap : heapFits about1 = true := by decide +kernel
set_option maxRecDepth 65536 in
theorem w_runnable : about1.curStatus? = some .runnable := by decide +kernel
set_option maxRecDepth 65536 in
theorem w_alone : about1.alone = true := by decide +kernel
set_option maxRecDepth 65536 in
theorem w_named : about1.methodNamed? x = some theMethod := by decide +kernel
set_option maxRecDepth 65536 in
theorem w_hears : about1.hears theMethod below0 = true := by decide +kernel
set_option maxRecDepth 65536 in
theorem w_ripe : about1.ripe theMethod args0 below0 = true := by decide +kernel
theorem w_running : about1.status = .running := rfl
set_option maxRecDepth 65536 in
theorem w_room : about1.hasRoom e0.platform room_1 = true :=
  launch0.hasRoom_least _ room_1 (by decide +kernel) (by decide +kernel) (by decide +kernel) (by decide +kernel) (by decide +kernel) (by decide +kernel)
theorem allAtoms_all (ts : List Jvm.Cond) (a : Array Jvm.Value) (st : Jvm.State) : (allAtoms ts).before a st = ts.all (fun c => c.before a st) := by
  induction ts with
  | nil => rfl
  | cons c t ih =>
    show (Jvm.Cond.and c (allAtoms t)).before a st = _
    rw [Jvm.Cond.before_and, ih, List.all_cons]
def words1 : List Jvm.Cond := Jvm.Cond.code x code maxLocals ret :: tables_1
/-- a 'code' word, met by the world's own term for the bytes: nothing is compared byte by byte -/
theorem code_word {y : MethodName} {bytes : ByteArray} {mx : Nat} {rt : Option FieldType} {a : Array Value} {s : State} {m : MethodId} {meth : Method} {c : Code} (h1 : s.methodNamed? y = some m) (h2 : s.vm.method? m = some meth) (h3 : meth.code = some c) (h4 : c.code = bytes)
    (h5 : (c.maxLocals == mx && c.exceptionTable.isEmpty && decide (c.maxStack ≤ mostOperands) && decide (meth.sig.returnType = rt) && !meth.locks && decide (parseMethodDescriptor y.desc = some meth.sig)) = true) : (Jvm.Cond.code y bytes mx rt).before a s = true := by
  simp only [Bool.and_eq_true, beq_iff_eq, Bool.not_eq_true', decide_eq_true_eq] at h5
  obtain ⟨⟨⟨⟨⟨g1, g2⟩, g3⟩, g4⟩, g5⟩, g6⟩ := h5
  simp [Cond.before, Cond.holds, Cond.value, h1, h2, h3, h4, g1, g2, g3, g4, g5, g6]
def isCode : Jvm.Cond → Bool
  | .code _ _ _ _ => true
  | _ => false
theorem all_split {L : List Jvm.Cond} {P : Jvm.Cond → Bool} (h1 : L.all (fun c => isCode c || P c) = true) (h2 : ∀ c ∈ L.filter isCode, P c = true) : L.all P = true := by
  refine List.all_eq_true.mpr fun c hc => ?_
  have h := List.all_eq_true.mp h1 c hc
  rcases Bool.eq_false_or_eq_true (isCode c) with hi | hi
  · exact h2 c (List.mem_filter.mpr ⟨hc, hi⟩)
  · simpa [hi] using h
set_option maxRecDepth 65536 in
theorem w_c0 : (Jvm.Cond.code x code maxLocals ret).before args0 about1 = true := code_word (m := ⟨1, 1⟩) (meth := k1m1) (c := k1c1) (by decide +kernel) rfl rfl rfl (by decide +kernel)
set_option maxRecDepth 65536 in
theorem w_c1 : (Jvm.Cond.code ({ cls := "com/example/diligent_workflow/diligentworkflow/feel/ListFunctions", name := "index", desc := "(II)Ljava/lang/Integer;" } : Jvm.MethodName) prog_80_method_31_code (3 : Nat) (Option.some (Jvm.ClassFile.FieldType.object "java/lang/Integer"))).before args0 about1 = true := code_word (m := ⟨2, 1⟩) (meth := k2m1) (c := k2c1) (by decide +kernel) rfl rfl rfl (by decide +kernel)
set_option maxRecDepth 65536 in
theorem w_c2 : (Jvm.Cond.code ({ cls := "java/lang/Integer", name := "valueOf", desc := "(I)Ljava/lang/Integer;" } : Jvm.MethodName) jdk_33_method_22_code (1 : Nat) (Option.some (Jvm.ClassFile.FieldType.object "java/lang/Integer"))).before args0 about1 = true := code_word (m := ⟨8, 0⟩) (meth := k8m0) (c := k8c0) (by decide +kernel) rfl rfl rfl (by decide +kernel)
set_option maxRecDepth 65536 in
theorem w_c3 : (Jvm.Cond.code ({ cls := "java/lang/Integer", name := "intValue", desc := "()I" } : Jvm.MethodName) jdk_33_method_27_code (1 : Nat) (Option.some Jvm.ClassFile.FieldType.int)).before args0 about1 = true := code_word (m := ⟨8, 2⟩) (meth := k8m2) (c := k8c2) (by decide +kernel) rfl rfl rfl (by decide +kernel)
set_option maxRecDepth 65536 in
theorem w_c4 : (Jvm.Cond.code ({ cls := "java/lang/Integer", name := "<init>", desc := "(I)V" } : Jvm.MethodName) jdk_33_method_23_code (2 : Nat) (Option.none : Option Jvm.ClassFile.FieldType)).before args0 about1 = true := code_word (m := ⟨8, 1⟩) (meth := k8m1) (c := k8c1) (by decide +kernel) rfl rfl rfl (by decide +kernel)
set_option maxRecDepth 65536 in
theorem w_c5 : (Jvm.Cond.code ({ cls := "java/lang/Number", name := "<init>", desc := "()V" } : Jvm.MethodName) jdk_18_method_1_code (1 : Nat) (Option.none : Option Jvm.ClassFile.FieldType)).before args0 about1 = true := code_word (m := ⟨4, 0⟩) (meth := k4m0) (c := k4c0) (by decide +kernel) rfl rfl rfl (by decide +kernel)
set_option maxRecDepth 65536 in
theorem w_c6 : (Jvm.Cond.code ({ cls := "java/lang/Object", name := "<init>", desc := "()V" } : Jvm.MethodName) object_method_1_code (1 : Nat) (Option.none : Option Jvm.ClassFile.FieldType)).before args0 about1 = true := code_word (m := ⟨0, 0⟩) (meth := k0m0) (c := k0c0) (by decide +kernel) rfl rfl rfl (by decide +kernel)
def codes1 : List Jvm.Cond := [Jvm.Cond.code x code maxLocals ret, Jvm.Cond.code ({ cls := "com/example/diligent_workflow/diligentworkflow/feel/ListFunctions", name := "index", desc := "(II)Ljava/lang/Integer;" } : Jvm.MethodName) prog_80_method_31_code (3 : Nat) (Option.some (Jvm.ClassFile.FieldType.object "java/lang/Integer")), Jvm.Cond.code ({ cls := "java/lang/Integer", name := "valueOf", desc := "(I)Ljava/lang/Integer;" } : Jvm.MethodName) jdk_33_method_22_code (1 : Nat) (Option.some (Jvm.ClassFile.FieldType.object "java/lang/Integer")), Jvm.Cond.code ({ cls := "java/lang/Integer", name := "intValue", desc := "()I" } : Jvm.MethodName) jdk_33_method_27_code (1 : Nat) (Option.some Jvm.ClassFile.FieldType.int), Jvm.Cond.code ({ cls := "java/lang/Integer", name := "<init>", desc := "(I)V" } : Jvm.MethodName) jdk_33_method_23_code (2 : Nat) (Option.none : Option Jvm.ClassFile.FieldType), Jvm.Cond.code ({ cls := "java/lang/Number", name := "<init>", desc := "()V" } : Jvm.MethodName) jdk_18_method_1_code (1 : Nat) (Option.none : Option Jvm.ClassFile.FieldType), Jvm.Cond.code ({ cls := "java/lang/Object", name := "<init>", desc := "()V" } : Jvm.MethodName) object_method_1_code (1 : Nat) (Option.none : Option Jvm.ClassFile.FieldType)]
set_option maxRecDepth 65536 in
theorem codes_eq : words1.filter isCode = codes1 := rfl
theorem w_codes : ∀ c ∈ words1.filter isCode, c.before args0 about1 = true := by
  rw [codes_eq]
  intro c hc
  simp only [codes1, List.mem_cons, List.not_mem_nil, or_false] at hc
  rcases hc with rfl | rfl | rfl | rfl | rfl | rfl | rfl
  · exact w_c0
  · exact w_c1
  · exact w_c2
  · exact w_c3
  · exact w_c4
  · exact w_c5
  · exact w_c6
set_option maxRecDepth 65536 in
theorem w_t1 : (words1.take 24).all (fun c => isCode c || c.before args0 about1) = true := by decide +kernel
set_option maxRecDepth 65536 in
theorem w_t2 : (words1.drop 24).all (fun c => isCode c || c.before args0 about1) = true := by decide +kernel
theorem w_tables : (allAtoms (Jvm.Cond.code x code maxLocals ret :: tables_1)).before args0 about1 = true := by
  rw [allAtoms_all]
  show words1.all (fun c => c.before args0 about1) = true
  refine all_split ?_ w_codes
  rw [← List.take_append_drop 24 words1, List.all_append, w_t1, w_t2]
  rfl
set_option maxRecDepth 65536 in
theorem w_rest : rest_1_c.before args0 about1 = true := by decide +kernel
set_option maxRecDepth 65536 in
theorem w_case : (Jvm.Cond.and given_1 narrow_1).before args0 about1 = true := by decide +kernel
theorem w_applies : (headSpec (Jvm.Cond.code x code maxLocals ret :: tables_1) room_1).applies x e0.platform about1 = true :=
  (Spec.applies_iff w_frames).mpr ⟨w_running, w_runnable, w_alone, w_named, w_hears, w_ripe, w_room, w_tables⟩
theorem atStart : AtStart classFile x code maxLocals ret World_1 tables_1 room_1 Calls_1 rest_1 Pre_1 launch0 p0 e0 about1 theMethod args0 below0 :=
  ⟨lists_1, trivial, launch0.admits_env _ _ _, launch0.least_env, fairChoices_fair.cas, fairChoices_fair.clock, w_frames, w_args, w_heap, w_applies, trivial, w_rest, w_case⟩
end start1
theorem witness_1 : WitnessClaimed_1 := ⟨start1.p0, start1.e0, start1.about1, start1.theMethod, start1.args0, start1.below0, start1.atStart⟩
end Jvm.Pilot.@@N@@
